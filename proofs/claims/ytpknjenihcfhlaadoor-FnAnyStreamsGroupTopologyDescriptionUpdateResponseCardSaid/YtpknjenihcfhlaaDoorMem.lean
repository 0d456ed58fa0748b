/-
  Words for memory: octets that a slice holds, a reader's variable. Conditions: none.
-/
import Derived.Test.YtpknjenihcfhlaaDoorChecked
import Derived.Test.YtpknjenihcfhlaaDoorLaws
import Derived.WalkKit
import Derived.WalkSpells
import Derived.Below
import Derived.Lib.Hide
import Derived.ScopeJumps
namespace Go.Proofs.YtpknjenihcfhlaaDoor
open Go.RowKit
open Kz

/-- A scope in which the run jumps once, to one label, from one known frame. -/
theorem scope_jump_at {P : Program} {a : Act} {w : World} {Q : Exit → Act → World → Prop} {c rest : Code} (l : Nat) (A : Act) (W : World) (hf : findLabel c l = some rest)
    (first : c.wp P (Exit.jump l (fun a' w' => a' = A ∧ w' = W) Q) a w) (pass : rest.wp P (Exit.jump l (fun _ _ => False) Q) A W) : (Code.scope c).wp P Q a w :=
  wp_scope_jumps l (fun a' w' => a' = A ∧ w' = W) (fun _ _ => 0) hf first (fun a' w' ⟨ha, hw⟩ => by
    subst ha; subst hw
    refine wp_mono pass (fun e a w hq => ?_)
    cases e with
    | goto l' => exact ⟨hq.1, hq.2.elim⟩
    | _ => exact hq)

/-- An octet in a cell. -/
def bv (b : UInt8) : Value := .int .u8 (b.toNat : Int)

/-- Octets that a slice holds, in a block of S. -/
def BytesAt (w : World) (S : Nat → Prop) (v : Value) (bs : List UInt8) : Prop :=
  (v = .slice none 0 0 ∧ bs = []) ∨ ∃ g o c, v = .slice (some ⟨g, o, none⟩) bs.length c ∧ bs.length ≤ c ∧ c ≤ 9223372036854775807 ∧ S g ∧ g < w.heap.size ∧ ∀ (i : Nat) (b : UInt8), bs[i]? = some b → w.cell? ⟨g, o + i, none⟩ = some (bv b)

/-- A reader's variable: what is left, or that it has failed. -/
def RdIs (w : World) (S : Nat → Prop) (rb : Nat) (st : St) : Prop :=
  ¬ S rb ∧ match st with
  | some bs => ∃ v, w.heap[rb]? = some (.cells #[v, .bool false] 82 (0, 0)) ∧ BytesAt w S v bs
  | none => w.heap[rb]? = some (.cells #[.slice none 0 0, .bool true] 82 (0, 0))

theorem bcell {W w1 : World} (hb : Below W.heap.size W w1) : (∀ b o, b < W.heap.size → w1.cell? ⟨b, o, none⟩ = W.cell? ⟨b, o, none⟩) ∧ (∀ b o, b < W.heap.size → w1.frozen? ⟨b, o, none⟩ = W.frozen? ⟨b, o, none⟩) :=
  ⟨fun b o h => hb.cell (p := ⟨b, o, none⟩) h, fun b o h => hb.frozen (p := ⟨b, o, none⟩) h⟩
theorem BytesAt.mono {w : World} {S S' : Nat → Prop} {v : Value} {bs : List UInt8} (h : BytesAt w S v bs) (hs : ∀ g, S g → S' g) : BytesAt w S' v bs := by
  rcases h with h | ⟨g, o, c, h1, h2, h2', h3, h4, h5⟩
  · exact .inl h
  · exact .inr ⟨g, o, c, h1, h2, h2', hs g h3, h4, h5⟩
theorem BytesAt.kept {w w' : World} {S : Nat → Prop} {v : Value} {bs : List UInt8} {row : Option Nat} (h : BytesAt w S v bs) (hg : w.grownBy w' row) (hr : ∀ g, S g → some g ≠ row) : BytesAt w' S v bs := by
  rcases h with h | ⟨g, o, c, h1, h2, h2', h3, h4, h5⟩
  · exact .inl h
  · exact .inr ⟨g, o, c, h1, h2, h2', h3, Nat.lt_of_lt_of_le h4 hg.size, fun i b hi => by
      rw [World.cell?_of_block (w := w) (w' := w') (hg.block g h4 (hr g h3))]
      exact h5 i b hi⟩

/-- A slice's end, from a place on. -/
theorem BytesAt.drop {w : World} {S : Nat → Prop} {g o c n : Nat} {bs : List UInt8} (k : Nat) (hk : k ≤ bs.length) (hn : n = bs.length) (h2 : bs.length ≤ c) (h2' : c ≤ 9223372036854775807) (h3 : S g) (h4 : g < w.heap.size)
    (h5 : ∀ (i : Nat) (b : UInt8), bs[i]? = some b → w.cell? ⟨g, o + i, none⟩ = some (bv b)) (ad : Addr) (had : ad = ⟨g, o + k, none⟩ ∨ (c = k ∧ ad = ⟨g, o, none⟩)) :
    BytesAt w S (.slice (some ad) (n - k) (c - k)) (bs.drop k) := by
  subst hn
  rcases had with rfl | ⟨rfl, rfl⟩
  · refine .inr ⟨g, o + k, c - k, by rw [List.length_drop], by rw [List.length_drop]; omega, by omega, h3, h4, fun i b hi => ?_⟩
    rw [List.getElem?_drop] at hi
    rw [Nat.add_assoc]
    exact h5 (k + i) b hi
  · refine .inr ⟨g, o, 0, by rw [List.length_drop]; congr 1; omega, by rw [List.length_drop]; omega, by omega, h3, h4, fun i b hi => ?_⟩
    rw [List.getElem?_drop, List.getElem?_eq_none (by omega)] at hi
    cases hi

theorem RdIs.lt {w : World} {S : Nat → Prop} {rb : Nat} {st : St} (h : RdIs w S rb st) : rb < w.heap.size := by
  obtain ⟨-, h⟩ := h
  cases st with
  | none => exact (Array.getElem?_eq_some_iff.1 h).1
  | some bs => obtain ⟨v, hv, -⟩ := h; exact (Array.getElem?_eq_some_iff.1 hv).1

theorem RdIs.kept {w w' : World} {S : Nat → Prop} {rb : Nat} {st : St} {row : Option Nat} (h : RdIs w S rb st) (hg : w.grownBy w' row) (hr : ∀ g, S g → some g ≠ row) (hrb : some rb ≠ row) : RdIs w' S rb st := by
  have hlt := h.lt
  obtain ⟨h0, h⟩ := h
  refine ⟨h0, ?_⟩
  cases st with
  | none => show w'.heap[rb]? = _; rw [hg.block rb hlt hrb]; exact h
  | some bs => obtain ⟨v, hv, hb⟩ := h; exact ⟨v, by rw [hg.block rb hlt hrb]; exact hv, hb.kept hg hr⟩

theorem grownBy_refl (w : World) (row : Option Nat) : w.grownBy w row := ⟨rfl, rfl, rfl, Nat.le_refl _, fun _ _ _ => rfl⟩
theorem grownBy_trans {a b c : World} {row : Option Nat} (h : a.grownBy b row) (k : b.grownBy c row) : a.grownBy c row :=
  ⟨k.os.trans h.os, k.tape.trans h.tape, k.output.trans h.output, Nat.le_trans h.size k.size, fun i hi hr => (k.block i (Nat.lt_of_lt_of_le hi h.size) hr).trans (h.block i hi hr)⟩
theorem below_grown {w w' : World} (h : Below w.heap.size w w') (row : Option Nat) : w.grownBy w' row := ⟨h.os, h.tape, h.output, h.size, fun k hk _ => h.block k hk⟩
theorem grown_setCell {w w1 : World} {rb : Nat} (h : w.grownBy w1 (some rb)) (o : Nat) (u : Value) : w.grownBy (w1.setCell ⟨rb, o, none⟩ u) (some rb) :=
  grownBy_trans h ⟨rfl, rfl, rfl, by simp [World.setCell], fun k hk hr => Below.heap_setCell _ _ _ _ (fun e => hr (by rw [e]))⟩
theorem heap_setCell_row {w : World} {rb o : Nat} {u : Value} {cs : Array Value} {t : TypeId} {fr : Nat × Nat} (h : w.heap[rb]? = some (.cells cs t fr)) :
    (w.setCell ⟨rb, o, none⟩ u).heap[rb]? = some (.cells (cs.setIfInBounds o u) t fr) := by
  simp only [World.setCell, Array.getElem?_modify, if_true, h, Option.map_some]
  simp

/-- A reader that fails. -/
theorem rd_fail {w w1 : World} {S : Nat → Prop} {rb : Nat} {v : Value} {q : Bool} (hS : ¬ S rb) (hg : w.grownBy w1 (some rb)) (h : w1.heap[rb]? = some (.cells #[v, .bool q] 82 (0, 0))) :
    RdIs ((w1.setCell ⟨rb, 1, none⟩ (.bool true)).setCell ⟨rb, 0, none⟩ (.slice none 0 0)) S rb none ∧ w.grownBy ((w1.setCell ⟨rb, 1, none⟩ (.bool true)).setCell ⟨rb, 0, none⟩ (.slice none 0 0)) (some rb) :=
  ⟨⟨hS, heap_setCell_row (heap_setCell_row h)⟩, grown_setCell (grown_setCell hg 1 _) 0 _⟩
/-- A reader that goes on. -/
theorem rd_on {w w1 : World} {S : Nat → Prop} {rb : Nat} {v v' : Value} {bs : List UInt8} (hS : ¬ S rb) (hg : w.grownBy w1 (some rb)) (h : w1.heap[rb]? = some (.cells #[v, .bool false] 82 (0, 0))) (hb : BytesAt w1 S v' bs) :
    RdIs (w1.setCell ⟨rb, 0, none⟩ v') S rb (some bs) ∧ w.grownBy (w1.setCell ⟨rb, 0, none⟩ v') (some rb) :=
  ⟨⟨hS, v', heap_setCell_row h, hb.kept (row := some rb) (grown_setCell (grownBy_refl _ _) 0 _) (fun g hg e => hS (by rw [← Option.some.inj e]; exact hg))⟩, grown_setCell hg 0 _⟩

/-- A reader that goes on: what it holds, cell by cell. -/
theorem rd_parts {w : World} {S : Nat → Prop} {rb : Nat} {bs : List UInt8} (h : RdIs w S rb (some bs)) : ∃ v, w.heap[rb]? = some (.cells #[v, .bool false] 82 (0, 0)) ∧ BytesAt w S v bs ∧ ¬ S rb ∧
    w.cell? ⟨rb, 0, none⟩ = some v ∧ w.cell? ⟨rb, 1, none⟩ = some (.bool false) ∧ w.frozen? ⟨rb, 0, none⟩ = false ∧ w.frozen? ⟨rb, 1, none⟩ = false := by
  obtain ⟨h0, v, hv, hb⟩ := h
  exact ⟨v, hv, hb, h0, by rw [cell_of_row w rb 0 _ _ _ hv]; rfl, by rw [cell_of_row w rb 1 _ _ _ hv]; rfl, by simp [World.frozen?, hv], by simp [World.frozen?, hv]⟩
theorem rd_parts_none {w : World} {S : Nat → Prop} {rb : Nat} (h : RdIs w S rb none) : w.heap[rb]? = some (.cells #[.slice none 0 0, .bool true] 82 (0, 0)) ∧ ¬ S rb ∧
    w.cell? ⟨rb, 0, none⟩ = some (.slice none 0 0) ∧ w.cell? ⟨rb, 1, none⟩ = some (.bool true) ∧ w.frozen? ⟨rb, 0, none⟩ = false ∧ w.frozen? ⟨rb, 1, none⟩ = false := by
  obtain ⟨h0, hv⟩ := h
  exact ⟨hv, h0, by rw [cell_of_row w rb 0 _ _ _ hv]; rfl, by rw [cell_of_row w rb 1 _ _ _ hv]; rfl, by simp [World.frozen?, hv], by simp [World.frozen?, hv]⟩
theorem bytes_len {w : World} {S : Nat → Prop} {v : Value} {bs : List UInt8} (h : BytesAt w S v bs) : ∃ ad c, v = .slice ad bs.length c := by
  rcases h with ⟨rfl, rfl⟩ | ⟨g, o, c, rfl, -⟩
  · exact ⟨_, _, rfl⟩
  · exact ⟨_, _, rfl⟩
end Go.Proofs.YtpknjenihcfhlaaDoor
