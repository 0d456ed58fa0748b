/-
  Memory; the reader of kbin; code that reads. Conditions: none.
-/
import Derived.Test.YthdfhnnoamlacaaDoorChecked
import Derived.Test.YthdfhnnoamlacaaDoorY1
import Derived.WalkKit
import Derived.WalkSpells
import Derived.Below
import Derived.Lib.Hide
import Derived.ScopeJumps
import Derived.Test.YthdfhnnoamlacaaDoorShelf
import Derived.Deep.RegionWith
import Derived.Laws.BitsAllLaws
import Derived.Laws.BytesString
import Derived.Lib.AppendZeros
import Derived.Deep.MidRow
/-
  Words for memory: octets that a slice holds, a reader's variable. Conditions: none.
-/
namespace Go.Proofs.YthdfhnnoamlacaaDoor
open Go.RowKit
open Kz

/-- A scope in which the run jumps once, to one label, from one known frame. -/
theorem scope_jump_at {P : Program} {a : Act} {w : World} {Q : Exit → Act → World → Prop} {c rest : Code} (l : Nat) (A : Act) (W : World) (hf : findLabel c l = some rest)
    (first : c.wp P (Exit.jump l (fun a' w' => a' = A ∧ w' = W) Q) a w) (pass : rest.wp P (Exit.jump l (fun _ _ => False) Q) A W) : (Code.scope c).wp P Q a w :=
  wp_scope_jumps l (fun a' w' => a' = A ∧ w' = W) (fun _ _ => 0) hf first (fun a' w' ⟨ha, hw⟩ => by
    subst ha; subst hw
    refine wp_mono pass (fun e a w hq => ?_)
    cases e with
    | goto l' => exact ⟨hq.1, hq.2.elim⟩
    | _ => exact hq)

/-- An octet in a cell. -/
def bv (b : UInt8) : Value := .int .u8 (b.toNat : Int)

/-- Octets that a slice holds, in a block of S. -/
def BytesAt (w : World) (S : Nat → Prop) (v : Value) (bs : List UInt8) : Prop :=
  (v = .slice none 0 0 ∧ bs = []) ∨ ∃ g o c, v = .slice (some ⟨g, o, none⟩) bs.length c ∧ bs.length ≤ c ∧ c ≤ 9223372036854775807 ∧ S g ∧ g < w.heap.size ∧ ∀ (i : Nat) (b : UInt8), bs[i]? = some b → w.cell? ⟨g, o + i, none⟩ = some (bv b)

/-- A reader's variable: what is left, or that it has failed. -/
def RdIs (w : World) (S : Nat → Prop) (rb : Nat) (st : St) : Prop :=
  ¬ S rb ∧ match st with
  | some bs => ∃ v, w.heap[rb]? = some (.cells #[v, .bool false] 99 (0, 0)) ∧ BytesAt w S v bs
  | none => w.heap[rb]? = some (.cells #[.slice none 0 0, .bool true] 99 (0, 0))

theorem bcell {W w1 : World} (hb : Below W.heap.size W w1) : (∀ b o, b < W.heap.size → w1.cell? ⟨b, o, none⟩ = W.cell? ⟨b, o, none⟩) ∧ (∀ b o, b < W.heap.size → w1.frozen? ⟨b, o, none⟩ = W.frozen? ⟨b, o, none⟩) :=
  ⟨fun b o h => hb.cell (p := ⟨b, o, none⟩) h, fun b o h => hb.frozen (p := ⟨b, o, none⟩) h⟩
theorem BytesAt.mono {w : World} {S S' : Nat → Prop} {v : Value} {bs : List UInt8} (h : BytesAt w S v bs) (hs : ∀ g, S g → S' g) : BytesAt w S' v bs := by
  rcases h with h | ⟨g, o, c, h1, h2, h2', h3, h4, h5⟩
  · exact .inl h
  · exact .inr ⟨g, o, c, h1, h2, h2', hs g h3, h4, h5⟩
theorem BytesAt.kept {w w' : World} {S : Nat → Prop} {v : Value} {bs : List UInt8} {row : Option Nat} (h : BytesAt w S v bs) (hg : w.grownBy w' row) (hr : ∀ g, S g → some g ≠ row) : BytesAt w' S v bs := by
  rcases h with h | ⟨g, o, c, h1, h2, h2', h3, h4, h5⟩
  · exact .inl h
  · exact .inr ⟨g, o, c, h1, h2, h2', h3, Nat.lt_of_lt_of_le h4 hg.size, fun i b hi => by
      rw [World.cell?_of_block (w := w) (w' := w') (hg.block g h4 (hr g h3))]
      exact h5 i b hi⟩

/-- A slice's end, from a place on. -/
theorem BytesAt.drop {w : World} {S : Nat → Prop} {g o c n : Nat} {bs : List UInt8} (k : Nat) (hk : k ≤ bs.length) (hn : n = bs.length) (h2 : bs.length ≤ c) (h2' : c ≤ 9223372036854775807) (h3 : S g) (h4 : g < w.heap.size)
    (h5 : ∀ (i : Nat) (b : UInt8), bs[i]? = some b → w.cell? ⟨g, o + i, none⟩ = some (bv b)) (ad : Addr) (had : ad = ⟨g, o + k, none⟩ ∨ (c = k ∧ ad = ⟨g, o, none⟩)) :
    BytesAt w S (.slice (some ad) (n - k) (c - k)) (bs.drop k) := by
  subst hn
  rcases had with rfl | ⟨rfl, rfl⟩
  · refine .inr ⟨g, o + k, c - k, by rw [List.length_drop], by rw [List.length_drop]; omega, by omega, h3, h4, fun i b hi => ?_⟩
    rw [List.getElem?_drop] at hi
    rw [Nat.add_assoc]
    exact h5 (k + i) b hi
  · refine .inr ⟨g, o, 0, by rw [List.length_drop]; congr 1; omega, by rw [List.length_drop]; omega, by omega, h3, h4, fun i b hi => ?_⟩
    rw [List.getElem?_drop, List.getElem?_eq_none (by omega)] at hi
    cases hi

theorem RdIs.lt {w : World} {S : Nat → Prop} {rb : Nat} {st : St} (h : RdIs w S rb st) : rb < w.heap.size := by
  obtain ⟨-, h⟩ := h
  cases st with
  | none => exact (Array.getElem?_eq_some_iff.1 h).1
  | some bs => obtain ⟨v, hv, -⟩ := h; exact (Array.getElem?_eq_some_iff.1 hv).1

theorem RdIs.kept {w w' : World} {S : Nat → Prop} {rb : Nat} {st : St} {row : Option Nat} (h : RdIs w S rb st) (hg : w.grownBy w' row) (hr : ∀ g, S g → some g ≠ row) (hrb : some rb ≠ row) : RdIs w' S rb st := by
  have hlt := h.lt
  obtain ⟨h0, h⟩ := h
  refine ⟨h0, ?_⟩
  cases st with
  | none => show w'.heap[rb]? = _; rw [hg.block rb hlt hrb]; exact h
  | some bs => obtain ⟨v, hv, hb⟩ := h; exact ⟨v, by rw [hg.block rb hlt hrb]; exact hv, hb.kept hg hr⟩

theorem grownBy_refl (w : World) (row : Option Nat) : w.grownBy w row := ⟨rfl, rfl, rfl, Nat.le_refl _, fun _ _ _ => rfl⟩
theorem grownBy_trans {a b c : World} {row : Option Nat} (h : a.grownBy b row) (k : b.grownBy c row) : a.grownBy c row :=
  ⟨k.os.trans h.os, k.tape.trans h.tape, k.output.trans h.output, Nat.le_trans h.size k.size, fun i hi hr => (k.block i (Nat.lt_of_lt_of_le hi h.size) hr).trans (h.block i hi hr)⟩
theorem below_grown {w w' : World} (h : Below w.heap.size w w') (row : Option Nat) : w.grownBy w' row := ⟨h.os, h.tape, h.output, h.size, fun k hk _ => h.block k hk⟩
theorem grown_setCell {w w1 : World} {rb : Nat} (h : w.grownBy w1 (some rb)) (o : Nat) (u : Value) : w.grownBy (w1.setCell ⟨rb, o, none⟩ u) (some rb) :=
  grownBy_trans h ⟨rfl, rfl, rfl, by simp [World.setCell], fun k hk hr => Below.heap_setCell _ _ _ _ (fun e => hr (by rw [e]))⟩
theorem heap_setCell_row {w : World} {rb o : Nat} {u : Value} {cs : Array Value} {t : TypeId} {fr : Nat × Nat} (h : w.heap[rb]? = some (.cells cs t fr)) :
    (w.setCell ⟨rb, o, none⟩ u).heap[rb]? = some (.cells (cs.setIfInBounds o u) t fr) := by
  simp only [World.setCell, Array.getElem?_modify, if_true, h, Option.map_some]
  simp

/-- A reader that fails. -/
theorem rd_fail {w w1 : World} {S : Nat → Prop} {rb : Nat} {v : Value} {q : Bool} (hS : ¬ S rb) (hg : w.grownBy w1 (some rb)) (h : w1.heap[rb]? = some (.cells #[v, .bool q] 99 (0, 0))) :
    RdIs ((w1.setCell ⟨rb, 1, none⟩ (.bool true)).setCell ⟨rb, 0, none⟩ (.slice none 0 0)) S rb none ∧ w.grownBy ((w1.setCell ⟨rb, 1, none⟩ (.bool true)).setCell ⟨rb, 0, none⟩ (.slice none 0 0)) (some rb) :=
  ⟨⟨hS, heap_setCell_row (heap_setCell_row h)⟩, grown_setCell (grown_setCell hg 1 _) 0 _⟩
/-- A reader that goes on. -/
theorem rd_on {w w1 : World} {S : Nat → Prop} {rb : Nat} {v v' : Value} {bs : List UInt8} (hS : ¬ S rb) (hg : w.grownBy w1 (some rb)) (h : w1.heap[rb]? = some (.cells #[v, .bool false] 99 (0, 0))) (hb : BytesAt w1 S v' bs) :
    RdIs (w1.setCell ⟨rb, 0, none⟩ v') S rb (some bs) ∧ w.grownBy (w1.setCell ⟨rb, 0, none⟩ v') (some rb) :=
  ⟨⟨hS, v', heap_setCell_row h, hb.kept (row := some rb) (grown_setCell (grownBy_refl _ _) 0 _) (fun g hg e => hS (by rw [← Option.some.inj e]; exact hg))⟩, grown_setCell hg 0 _⟩

/-- A reader that goes on: what it holds, cell by cell. -/
theorem rd_parts {w : World} {S : Nat → Prop} {rb : Nat} {bs : List UInt8} (h : RdIs w S rb (some bs)) : ∃ v, w.heap[rb]? = some (.cells #[v, .bool false] 99 (0, 0)) ∧ BytesAt w S v bs ∧ ¬ S rb ∧
    w.cell? ⟨rb, 0, none⟩ = some v ∧ w.cell? ⟨rb, 1, none⟩ = some (.bool false) ∧ w.frozen? ⟨rb, 0, none⟩ = false ∧ w.frozen? ⟨rb, 1, none⟩ = false := by
  obtain ⟨h0, v, hv, hb⟩ := h
  exact ⟨v, hv, hb, h0, by rw [cell_of_row w rb 0 _ _ _ hv]; rfl, by rw [cell_of_row w rb 1 _ _ _ hv]; rfl, by simp [World.frozen?, hv], by simp [World.frozen?, hv]⟩
theorem rd_parts_none {w : World} {S : Nat → Prop} {rb : Nat} (h : RdIs w S rb none) : w.heap[rb]? = some (.cells #[.slice none 0 0, .bool true] 99 (0, 0)) ∧ ¬ S rb ∧
    w.cell? ⟨rb, 0, none⟩ = some (.slice none 0 0) ∧ w.cell? ⟨rb, 1, none⟩ = some (.bool true) ∧ w.frozen? ⟨rb, 0, none⟩ = false ∧ w.frozen? ⟨rb, 1, none⟩ = false := by
  obtain ⟨h0, hv⟩ := h
  exact ⟨hv, h0, by rw [cell_of_row w rb 0 _ _ _ hv]; rfl, by rw [cell_of_row w rb 1 _ _ _ hv]; rfl, by simp [World.frozen?, hv], by simp [World.frozen?, hv]⟩
theorem bytes_len {w : World} {S : Nat → Prop} {v : Value} {bs : List UInt8} (h : BytesAt w S v bs) : ∃ ad c, v = .slice ad bs.length c := by
  rcases h with ⟨rfl, rfl⟩ | ⟨g, o, c, rfl, -⟩
  · exact ⟨_, _, rfl⟩
  · exact ⟨_, _, rfl⟩
end Go.Proofs.YthdfhnnoamlacaaDoor
/-
  The package's reader: numbers of so many octets. What each call answers, and what is left. Conditions: none.
-/
namespace Go.Proofs.YthdfhnnoamlacaaDoor
open Go.RowKit (Below)
open Kz


set_option maxHeartbeats 400000 in
theorem Int16_short (w : World) (rb n c : Nat) (ad : Option Addr) (q : Bool) (hn : n < 2)
    (c0 : w.cell? ⟨rb, 0, none⟩ = some (.slice ad n c)) (c1 : w.cell? ⟨rb, 1, none⟩ = some (.bool q)) (f0 : w.frozen? ⟨rb, 0, none⟩ = false) (f1 : w.frozen? ⟨rb, 1, none⟩ = false) :
    Calls Tryd.prog 67 #[.pointer (some ⟨rb, 0, none⟩)] w fun e w' =>
      e = .returned (.int .i16 0) ∧ w' = (w.setCell ⟨rb, 1, none⟩ (.bool true)).setCell ⟨rb, 0, none⟩ (.slice none 0 0) := by
  go_enter Tryd.func67, Tryd.ntmps67
  go_wp2
  go_ret
  exact ⟨rfl, rfl⟩

set_option maxHeartbeats 400000 in
theorem Int16_good (w : World) (rb n c g o : Nat) (b0 b1 : UInt8) (hn : 2 ≤ n) (hc : n ≤ c) (hc2 : c ≤ 9223372036854775807) (hrb : rb < w.heap.size)
    (c0 : w.cell? ⟨rb, 0, none⟩ = some (.slice (some ⟨g, o, none⟩) n c)) (f0 : w.frozen? ⟨rb, 0, none⟩ = false)
    (d0 : w.cell? ⟨g, o, none⟩ = some (.int .u8 b0.toNat)) (d1 : w.cell? ⟨g, o + 1, none⟩ = some (.int .u8 b1.toNat)) :
    Calls Tryd.prog 67 #[.pointer (some ⟨rb, 0, none⟩)] w fun e w' =>
      e = .returned (.int .i16 (IntKind.i16.wrap (Lib.beNat [b0, b1]))) ∧ ∃ w1 ad, Below w.heap.size w w1 ∧ (ad = ⟨g, o + 2, none⟩ ∨ (c = 2 ∧ ad = ⟨g, o, none⟩)) ∧ w' = w1.setCell ⟨rb, 0, none⟩ (.slice (some ad) (n - 2) (c - 2)) := by
  by_cases hne : c = 2
  · subst hne
    obtain rfl : n = 2 := by omega
    go_enter Tryd.func67, Tryd.ntmps67
    go_wp2_with fail
    go_region_with (go_at_call 80; refine (Tryd.binary_BE_Uint16 _ _ _ _ b0 b1 _ (by exact hn) (by exact d0) (by exact d1)).mono ?_; rintro e w1 ⟨rfl, hb⟩)
    all_goals
      have k0 := (hb.cell (p := ⟨rb, 0, none⟩) hrb).trans c0
      have k1 := (hb.frozen (p := ⟨rb, 0, none⟩) hrb).trans f0
      have hb' : Below w.heap.size w w1 := ((Below.refl _ _).drew).trans hb
      clear hb c0 f0 d0 d1 hn hc
      go_wp2
      go_ret
      exact ⟨rfl, w1, _, hb', .inr ⟨by trivial, rfl⟩, rfl⟩
  · go_enter Tryd.func67, Tryd.ntmps67
    go_wp2_with fail
    go_region_with (go_at_call 80; refine (Tryd.binary_BE_Uint16 _ _ _ _ b0 b1 _ (by exact hn) (by exact d0) (by exact d1)).mono ?_; rintro e w1 ⟨rfl, hb⟩)
    all_goals
      have k0 := (hb.cell (p := ⟨rb, 0, none⟩) hrb).trans c0
      have k1 := (hb.frozen (p := ⟨rb, 0, none⟩) hrb).trans f0
      have hb' : Below w.heap.size w w1 := ((Below.refl _ _).drew).trans hb
      clear hb c0 f0 d0 d1
      go_wp2
      go_ret
      exact ⟨rfl, w1, _, hb', .inl rfl, rfl⟩





set_option maxHeartbeats 400000 in
theorem Int32_short (w : World) (rb n c : Nat) (ad : Option Addr) (q : Bool) (hn : n < 4)
    (c0 : w.cell? ⟨rb, 0, none⟩ = some (.slice ad n c)) (c1 : w.cell? ⟨rb, 1, none⟩ = some (.bool q)) (f0 : w.frozen? ⟨rb, 0, none⟩ = false) (f1 : w.frozen? ⟨rb, 1, none⟩ = false) :
    Calls Tryd.prog 57 #[.pointer (some ⟨rb, 0, none⟩)] w fun e w' =>
      e = .returned (.int .i32 0) ∧ w' = (w.setCell ⟨rb, 1, none⟩ (.bool true)).setCell ⟨rb, 0, none⟩ (.slice none 0 0) := by
  go_enter Tryd.func57, Tryd.ntmps57
  go_wp2
  go_ret
  exact ⟨rfl, rfl⟩

set_option maxHeartbeats 400000 in
theorem Int32_good (w : World) (rb n c g o : Nat) (b0 b1 b2 b3 : UInt8) (hn : 4 ≤ n) (hc : n ≤ c) (hc2 : c ≤ 9223372036854775807) (hrb : rb < w.heap.size)
    (c0 : w.cell? ⟨rb, 0, none⟩ = some (.slice (some ⟨g, o, none⟩) n c)) (f0 : w.frozen? ⟨rb, 0, none⟩ = false)
    (d0 : w.cell? ⟨g, o, none⟩ = some (.int .u8 b0.toNat)) (d1 : w.cell? ⟨g, o + 1, none⟩ = some (.int .u8 b1.toNat)) (d2 : w.cell? ⟨g, o + 2, none⟩ = some (.int .u8 b2.toNat)) (d3 : w.cell? ⟨g, o + 3, none⟩ = some (.int .u8 b3.toNat)) :
    Calls Tryd.prog 57 #[.pointer (some ⟨rb, 0, none⟩)] w fun e w' =>
      e = .returned (.int .i32 (RowKit.wrap32 (Lib.beNat [b0, b1, b2, b3]))) ∧ ∃ w1 ad, Below w.heap.size w w1 ∧ (ad = ⟨g, o + 4, none⟩ ∨ (c = 4 ∧ ad = ⟨g, o, none⟩)) ∧ w' = w1.setCell ⟨rb, 0, none⟩ (.slice (some ad) (n - 4) (c - 4)) := by
  by_cases hne : c = 4
  · subst hne
    obtain rfl : n = 4 := by omega
    go_enter Tryd.func57, Tryd.ntmps57
    go_wp2_with fail
    go_region_with (go_at_call 68; refine (Tryd.binary_BE_Uint32 _ _ _ _ b0 b1 b2 b3 _ (by exact hn) (by exact d0) (by exact d1) (by exact d2) (by exact d3)).mono ?_; rintro e w1 ⟨rfl, hb⟩)
    all_goals
      have k0 := (hb.cell (p := ⟨rb, 0, none⟩) hrb).trans c0
      have k1 := (hb.frozen (p := ⟨rb, 0, none⟩) hrb).trans f0
      have hb' : Below w.heap.size w w1 := ((Below.refl _ _).drew).trans hb
      clear hb c0 f0 d0 d1 d2 d3 hn hc
      go_wp2
      go_ret
      exact ⟨rfl, w1, _, hb', .inr ⟨by trivial, rfl⟩, rfl⟩
  · go_enter Tryd.func57, Tryd.ntmps57
    go_wp2_with fail
    go_region_with (go_at_call 68; refine (Tryd.binary_BE_Uint32 _ _ _ _ b0 b1 b2 b3 _ (by exact hn) (by exact d0) (by exact d1) (by exact d2) (by exact d3)).mono ?_; rintro e w1 ⟨rfl, hb⟩)
    all_goals
      have k0 := (hb.cell (p := ⟨rb, 0, none⟩) hrb).trans c0
      have k1 := (hb.frozen (p := ⟨rb, 0, none⟩) hrb).trans f0
      have hb' : Below w.heap.size w w1 := ((Below.refl _ _).drew).trans hb
      clear hb c0 f0 d0 d1 d2 d3
      go_wp2
      go_ret
      exact ⟨rfl, w1, _, hb', .inl rfl, rfl⟩


set_option maxHeartbeats 400000 in
theorem readUint64_short (w : World) (rb n c : Nat) (ad : Option Addr) (q : Bool) (hn : n < 8)
    (c0 : w.cell? ⟨rb, 0, none⟩ = some (.slice ad n c)) (c1 : w.cell? ⟨rb, 1, none⟩ = some (.bool q)) (f0 : w.frozen? ⟨rb, 0, none⟩ = false) (f1 : w.frozen? ⟨rb, 1, none⟩ = false) :
    Calls Tryd.prog 82 #[.pointer (some ⟨rb, 0, none⟩)] w fun e w' =>
      e = .returned (.int .u64 0) ∧ w' = (w.setCell ⟨rb, 1, none⟩ (.bool true)).setCell ⟨rb, 0, none⟩ (.slice none 0 0) := by
  go_enter Tryd.func82, Tryd.ntmps82
  go_wp2
  go_ret
  exact ⟨rfl, rfl⟩

set_option maxHeartbeats 400000 in
theorem readUint64_good (w : World) (rb n c g o : Nat) (b0 b1 b2 b3 b4 b5 b6 b7 : UInt8) (hn : 8 ≤ n) (hc : n ≤ c) (hc2 : c ≤ 9223372036854775807) (hrb : rb < w.heap.size)
    (c0 : w.cell? ⟨rb, 0, none⟩ = some (.slice (some ⟨g, o, none⟩) n c)) (f0 : w.frozen? ⟨rb, 0, none⟩ = false)
    (d0 : w.cell? ⟨g, o, none⟩ = some (.int .u8 b0.toNat)) (d1 : w.cell? ⟨g, o + 1, none⟩ = some (.int .u8 b1.toNat)) (d2 : w.cell? ⟨g, o + 2, none⟩ = some (.int .u8 b2.toNat)) (d3 : w.cell? ⟨g, o + 3, none⟩ = some (.int .u8 b3.toNat)) (d4 : w.cell? ⟨g, o + 4, none⟩ = some (.int .u8 b4.toNat)) (d5 : w.cell? ⟨g, o + 5, none⟩ = some (.int .u8 b5.toNat)) (d6 : w.cell? ⟨g, o + 6, none⟩ = some (.int .u8 b6.toNat)) (d7 : w.cell? ⟨g, o + 7, none⟩ = some (.int .u8 b7.toNat)) :
    Calls Tryd.prog 82 #[.pointer (some ⟨rb, 0, none⟩)] w fun e w' =>
      e = .returned (.int .u64 (Lib.beNat [b0, b1, b2, b3, b4, b5, b6, b7])) ∧ ∃ w1 ad, Below w.heap.size w w1 ∧ (ad = ⟨g, o + 8, none⟩ ∨ (c = 8 ∧ ad = ⟨g, o, none⟩)) ∧ w' = w1.setCell ⟨rb, 0, none⟩ (.slice (some ad) (n - 8) (c - 8)) := by
  by_cases hne : c = 8
  · subst hne
    obtain rfl : n = 8 := by omega
    go_enter Tryd.func82, Tryd.ntmps82
    go_wp2_with fail
    go_region_with (go_at_call 84; refine (Tryd.binary_BE_Uint64 _ _ _ _ b0 b1 b2 b3 b4 b5 b6 b7 _ (by exact hn) (by exact d0) (by exact d1) (by exact d2) (by exact d3) (by exact d4) (by exact d5) (by exact d6) (by exact d7)).mono ?_; rintro e w1 ⟨rfl, hb⟩)
    all_goals
      have k0 := (hb.cell (p := ⟨rb, 0, none⟩) hrb).trans c0
      have k1 := (hb.frozen (p := ⟨rb, 0, none⟩) hrb).trans f0
      have hb' : Below w.heap.size w w1 := ((Below.refl _ _).drew).trans hb
      clear hb c0 f0 d0 d1 d2 d3 d4 d5 d6 d7 hn hc
      go_wp2
      go_ret
      exact ⟨rfl, w1, _, hb', .inr ⟨by trivial, rfl⟩, rfl⟩
  · go_enter Tryd.func82, Tryd.ntmps82
    go_wp2_with fail
    go_region_with (go_at_call 84; refine (Tryd.binary_BE_Uint64 _ _ _ _ b0 b1 b2 b3 b4 b5 b6 b7 _ (by exact hn) (by exact d0) (by exact d1) (by exact d2) (by exact d3) (by exact d4) (by exact d5) (by exact d6) (by exact d7)).mono ?_; rintro e w1 ⟨rfl, hb⟩)
    all_goals
      have k0 := (hb.cell (p := ⟨rb, 0, none⟩) hrb).trans c0
      have k1 := (hb.frozen (p := ⟨rb, 0, none⟩) hrb).trans f0
      have hb' : Below w.heap.size w w1 := ((Below.refl _ _).drew).trans hb
      clear hb c0 f0 d0 d1 d2 d3 d4 d5 d6 d7
      go_wp2
      go_ret
      exact ⟨rfl, w1, _, hb', .inl rfl, rfl⟩
end Go.Proofs.YthdfhnnoamlacaaDoor
/-
  The package's reader, numbers: what each call answers and what is left, for every state of the reader. Conditions: none.
-/
namespace Go.Proofs.YthdfhnnoamlacaaDoor
open Go.RowKit (Below)
open Kz

theorem beNat_lib (l : List UInt8) : Lib.beNat l = Kz.beNat l := by
  have key : ∀ (l : List UInt8) (a : Nat), Lib.beFrom a l = l.foldl (fun a b => a * 256 + b.toNat) a := by
    intro l
    induction l with
    | nil => intro a; rfl
    | cons b l ih => intro a; simp only [Lib.beFrom, List.foldl_cons, ih]
  exact key l 0
theorem beNat_lt (l : List UInt8) : Kz.beNat l < 256 ^ l.length := by
  induction l with
  | nil => simp [Kz.beNat]
  | cons b l ih =>
    rw [beNat_cons, List.length_cons, Nat.pow_succ]
    have := b.toNat_lt
    have : b.toNat * 256 ^ l.length ≤ 255 * 256 ^ l.length := Nat.mul_le_mul_right _ (by omega)
    omega
theorem wrap16_eq (n : Int) : IntKind.i16.wrap n = if 32768 ≤ n % 65536 then n % 65536 - 65536 else n % 65536 := by
  show (if (true && decide (n % 65536 ≥ 32768)) = true then n % 65536 - 65536 else n % 65536) = _
  by_cases h : 32768 ≤ n % 65536
  · rw [if_pos h, if_pos (by simpa using h)]
  · rw [if_neg h, if_neg (by simpa using h)]
theorem wrap16_sgn (n : Nat) (h : n < 65536) : IntKind.i16.wrap (n : Int) = sgn 2 n := by
  rw [wrap16_eq]
  unfold sgn
  by_cases hn : n < 2 ^ (8 * 2 - 1)
  · rw [if_pos hn, if_neg (by omega)]; omega
  · rw [if_neg hn, if_pos (by omega)]; simp only [show (8 * 2 : Nat) = 16 from rfl]; omega
theorem wrap32_sgn (n : Nat) (h : n < 4294967296) : RowKit.wrap32 (n : Int) = sgn 4 n := by
  unfold RowKit.wrap32 sgn
  by_cases hn : n < 2 ^ (8 * 4 - 1)
  · rw [if_pos hn]; omega
  · rw [if_neg hn]; simp only [show (8 * 4 : Nat) = 32 from rfl] at hn ⊢; omega

theorem rdN_some {α : Type} (k : Nat) (g : List UInt8 → α) (z : α) (bs : List UInt8) (h : k ≤ bs.length) : rdN k g z (some bs) = (g (bs.take k), some (bs.drop k)) := if_pos h
theorem rdN_less {α : Type} (k : Nat) (g : List UInt8 → α) (z : α) (bs : List UInt8) (h : ¬ k ≤ bs.length) : rdN k g z (some bs) = (z, none) := if_neg h
/-- Octets that are there, one by one. -/
theorem bytes_some {w : World} {S : Nat → Prop} {v : Value} {b : UInt8} {bs : List UInt8} (h : BytesAt w S v (b :: bs)) : ∃ g o c, v = .slice (some ⟨g, o, none⟩) (bs.length + 1) c ∧ bs.length + 1 ≤ c ∧ c ≤ 9223372036854775807 ∧ S g ∧ g < w.heap.size ∧
    ∀ (i : Nat) (x : UInt8), (b :: bs)[i]? = some x → w.cell? ⟨g, o + i, none⟩ = some (bv x) := by
  rcases h with ⟨-, h⟩ | ⟨g, o, c, h1, h2, h3, h4, h5, h6⟩
  · cases h
  · exact ⟨g, o, c, h1, h2, h3, h4, h5, h6⟩

theorem Int16_any (w : World) (S : Nat → Prop) (rb : Nat) (st : St) (h : RdIs w S rb st) : Calls Tryd.prog 67 #[.pointer (some ⟨rb, 0, none⟩)] w fun e w' =>
    e = .returned (.int .i16 (rdI 2 st).1) ∧ RdIs w' S rb (rdI 2 st).2 ∧ w.grownBy w' (some rb) := by
  have hlt := h.lt
  cases st with
  | none =>
    obtain ⟨hv, h0, c0, c1, f0, f1⟩ := rd_parts_none h
    refine (Int16_short w rb 0 0 none true (by decide) c0 c1 f0 f1).mono ?_
    rintro e w' ⟨rfl, rfl⟩
    exact ⟨rfl, rd_fail h0 (grownBy_refl _ _) hv⟩
  | some bs =>
    obtain ⟨v, hv, hb, h0, c0, c1, f0, f1⟩ := rd_parts h
    by_cases hl : bs.length < 2
    · obtain ⟨ad, c, rfl⟩ := bytes_len hb
      refine (Int16_short w rb bs.length c ad false hl c0 c1 f0 f1).mono ?_
      rintro e w' ⟨rfl, rfl⟩
      have e1 : rdI 2 (some bs) = (0, none) := rdN_less _ _ _ _ (by omega)
      rw [e1]
      exact ⟨rfl, rd_fail h0 (grownBy_refl _ _) hv⟩
    · clear h
      obtain ⟨b0, r0, rfl⟩ : ∃ b l, bs = b :: l := by cases bs with | nil => simp at hl | cons b l => exact ⟨b, l, rfl⟩
      obtain ⟨b1, r1, rfl⟩ : ∃ b l, r0 = b :: l := by cases r0 with | nil => simp at hl | cons b l => exact ⟨b, l, rfl⟩
      obtain ⟨g, o, c, rfl, h2, h3, h4, h5, h6⟩ := bytes_some hb
      simp only [List.length_cons] at h2 hl c0 hv
      have e1 : rdI 2 (some (b0 :: b1 :: r1)) = (sgn 2 (Kz.beNat [b0, b1]), some r1) := by
        unfold rdI
        rw [rdN_some _ _ _ _ (by simp only [List.length_cons]; omega)]
        simp only [List.take_succ_cons, List.take_zero, List.drop_succ_cons, List.drop_zero]
      refine (Int16_good w rb (r1.length + 2) c g o b0 b1 (by omega) (by omega) h3 hlt (by rw [c0]) f0 (h6 0 b0 rfl) (h6 1 b1 rfl)).mono ?_
      rintro e w' ⟨rfl, w1, ad, hw1, had, rfl⟩
      have hg := below_grown hw1 (some rb)
      have hv1 : w1.heap[rb]? = some (.cells #[_, .bool false] 99 (0, 0)) := (hw1.block rb hlt).trans hv
      have hb1 := hb.kept hg (fun g hg e => h0 (by rw [← Option.some.inj e]; exact hg))
      rcases hb1 with ⟨hbad, -⟩ | ⟨g', o', c', k1, k2, k3, k4, k5, k6⟩
      · cases hbad
      simp only [Value.slice.injEq, Option.some.injEq, Addr.mk.injEq, and_true] at k1
      obtain ⟨⟨rfl, rfl⟩, -, rfl⟩ := k1
      have hd := BytesAt.drop (S := S) 2 (by simp only [List.length_cons]; omega) (show r1.length + 2 = (b0 :: b1 :: r1).length by simp only [List.length_cons]) k2 k3 k4 k5 k6 ad had
      rw [e1]
      refine ⟨?_, rd_on h0 hg hv1 hd⟩
      rw [show IntKind.i16.wrap (Lib.beNat [b0, b1]) = sgn 2 (Kz.beNat [b0, b1]) by rw [beNat_lib]; exact wrap16_sgn _ (by have := beNat_lt [b0, b1]; simpa using this)]


theorem Int32_any (w : World) (S : Nat → Prop) (rb : Nat) (st : St) (h : RdIs w S rb st) : Calls Tryd.prog 57 #[.pointer (some ⟨rb, 0, none⟩)] w fun e w' =>
    e = .returned (.int .i32 (rdI 4 st).1) ∧ RdIs w' S rb (rdI 4 st).2 ∧ w.grownBy w' (some rb) := by
  have hlt := h.lt
  cases st with
  | none =>
    obtain ⟨hv, h0, c0, c1, f0, f1⟩ := rd_parts_none h
    refine (Int32_short w rb 0 0 none true (by decide) c0 c1 f0 f1).mono ?_
    rintro e w' ⟨rfl, rfl⟩
    exact ⟨rfl, rd_fail h0 (grownBy_refl _ _) hv⟩
  | some bs =>
    obtain ⟨v, hv, hb, h0, c0, c1, f0, f1⟩ := rd_parts h
    by_cases hl : bs.length < 4
    · obtain ⟨ad, c, rfl⟩ := bytes_len hb
      refine (Int32_short w rb bs.length c ad false hl c0 c1 f0 f1).mono ?_
      rintro e w' ⟨rfl, rfl⟩
      have e1 : rdI 4 (some bs) = (0, none) := rdN_less _ _ _ _ (by omega)
      rw [e1]
      exact ⟨rfl, rd_fail h0 (grownBy_refl _ _) hv⟩
    · clear h
      obtain ⟨b0, r0, rfl⟩ : ∃ b l, bs = b :: l := by cases bs with | nil => simp at hl | cons b l => exact ⟨b, l, rfl⟩
      obtain ⟨b1, r1, rfl⟩ : ∃ b l, r0 = b :: l := by cases r0 with | nil => simp at hl | cons b l => exact ⟨b, l, rfl⟩
      obtain ⟨b2, r2, rfl⟩ : ∃ b l, r1 = b :: l := by cases r1 with | nil => simp at hl | cons b l => exact ⟨b, l, rfl⟩
      obtain ⟨b3, r3, rfl⟩ : ∃ b l, r2 = b :: l := by cases r2 with | nil => simp at hl | cons b l => exact ⟨b, l, rfl⟩
      obtain ⟨g, o, c, rfl, h2, h3, h4, h5, h6⟩ := bytes_some hb
      simp only [List.length_cons] at h2 hl c0 hv
      have e1 : rdI 4 (some (b0 :: b1 :: b2 :: b3 :: r3)) = (sgn 4 (Kz.beNat [b0, b1, b2, b3]), some r3) := by
        unfold rdI
        rw [rdN_some _ _ _ _ (by simp only [List.length_cons]; omega)]
        simp only [List.take_succ_cons, List.take_zero, List.drop_succ_cons, List.drop_zero]
      refine (Int32_good w rb (r3.length + 4) c g o b0 b1 b2 b3 (by omega) (by omega) h3 hlt (by rw [c0]) f0 (h6 0 b0 rfl) (h6 1 b1 rfl) (h6 2 b2 rfl) (h6 3 b3 rfl)).mono ?_
      rintro e w' ⟨rfl, w1, ad, hw1, had, rfl⟩
      have hg := below_grown hw1 (some rb)
      have hv1 : w1.heap[rb]? = some (.cells #[_, .bool false] 99 (0, 0)) := (hw1.block rb hlt).trans hv
      have hb1 := hb.kept hg (fun g hg e => h0 (by rw [← Option.some.inj e]; exact hg))
      rcases hb1 with ⟨hbad, -⟩ | ⟨g', o', c', k1, k2, k3, k4, k5, k6⟩
      · cases hbad
      simp only [Value.slice.injEq, Option.some.injEq, Addr.mk.injEq, and_true] at k1
      obtain ⟨⟨rfl, rfl⟩, -, rfl⟩ := k1
      have hd := BytesAt.drop (S := S) 4 (by simp only [List.length_cons]; omega) (show r3.length + 4 = (b0 :: b1 :: b2 :: b3 :: r3).length by simp only [List.length_cons]) k2 k3 k4 k5 k6 ad had
      rw [e1]
      refine ⟨?_, rd_on h0 hg hv1 hd⟩
      rw [show RowKit.wrap32 (Lib.beNat [b0, b1, b2, b3]) = sgn 4 (Kz.beNat [b0, b1, b2, b3]) by rw [beNat_lib]; exact wrap32_sgn _ (by have := beNat_lt [b0, b1, b2, b3]; simpa using this)]

theorem readUint64_any (w : World) (S : Nat → Prop) (rb : Nat) (st : St) (h : RdIs w S rb st) : Calls Tryd.prog 82 #[.pointer (some ⟨rb, 0, none⟩)] w fun e w' =>
    e = .returned (.int .u64 (rdU 8 st).1) ∧ RdIs w' S rb (rdU 8 st).2 ∧ w.grownBy w' (some rb) := by
  have hlt := h.lt
  cases st with
  | none =>
    obtain ⟨hv, h0, c0, c1, f0, f1⟩ := rd_parts_none h
    refine (readUint64_short w rb 0 0 none true (by decide) c0 c1 f0 f1).mono ?_
    rintro e w' ⟨rfl, rfl⟩
    exact ⟨rfl, rd_fail h0 (grownBy_refl _ _) hv⟩
  | some bs =>
    obtain ⟨v, hv, hb, h0, c0, c1, f0, f1⟩ := rd_parts h
    by_cases hl : bs.length < 8
    · obtain ⟨ad, c, rfl⟩ := bytes_len hb
      refine (readUint64_short w rb bs.length c ad false hl c0 c1 f0 f1).mono ?_
      rintro e w' ⟨rfl, rfl⟩
      have e1 : rdU 8 (some bs) = (0, none) := rdN_less _ _ _ _ (by omega)
      rw [e1]
      exact ⟨rfl, rd_fail h0 (grownBy_refl _ _) hv⟩
    · clear h
      obtain ⟨b0, r0, rfl⟩ : ∃ b l, bs = b :: l := by cases bs with | nil => simp at hl | cons b l => exact ⟨b, l, rfl⟩
      obtain ⟨b1, r1, rfl⟩ : ∃ b l, r0 = b :: l := by cases r0 with | nil => simp at hl | cons b l => exact ⟨b, l, rfl⟩
      obtain ⟨b2, r2, rfl⟩ : ∃ b l, r1 = b :: l := by cases r1 with | nil => simp at hl | cons b l => exact ⟨b, l, rfl⟩
      obtain ⟨b3, r3, rfl⟩ : ∃ b l, r2 = b :: l := by cases r2 with | nil => simp at hl | cons b l => exact ⟨b, l, rfl⟩
      obtain ⟨b4, r4, rfl⟩ : ∃ b l, r3 = b :: l := by cases r3 with | nil => simp at hl | cons b l => exact ⟨b, l, rfl⟩
      obtain ⟨b5, r5, rfl⟩ : ∃ b l, r4 = b :: l := by cases r4 with | nil => simp at hl | cons b l => exact ⟨b, l, rfl⟩
      obtain ⟨b6, r6, rfl⟩ : ∃ b l, r5 = b :: l := by cases r5 with | nil => simp at hl | cons b l => exact ⟨b, l, rfl⟩
      obtain ⟨b7, r7, rfl⟩ : ∃ b l, r6 = b :: l := by cases r6 with | nil => simp at hl | cons b l => exact ⟨b, l, rfl⟩
      obtain ⟨g, o, c, rfl, h2, h3, h4, h5, h6⟩ := bytes_some hb
      simp only [List.length_cons] at h2 hl c0 hv
      have e1 : rdU 8 (some (b0 :: b1 :: b2 :: b3 :: b4 :: b5 :: b6 :: b7 :: r7)) = ((Kz.beNat [b0, b1, b2, b3, b4, b5, b6, b7]), some r7) := by
        unfold rdU
        rw [rdN_some _ _ _ _ (by simp only [List.length_cons]; omega)]
        simp only [List.take_succ_cons, List.take_zero, List.drop_succ_cons, List.drop_zero]
      refine (readUint64_good w rb (r7.length + 8) c g o b0 b1 b2 b3 b4 b5 b6 b7 (by omega) (by omega) h3 hlt (by rw [c0]) f0 (h6 0 b0 rfl) (h6 1 b1 rfl) (h6 2 b2 rfl) (h6 3 b3 rfl) (h6 4 b4 rfl) (h6 5 b5 rfl) (h6 6 b6 rfl) (h6 7 b7 rfl)).mono ?_
      rintro e w' ⟨rfl, w1, ad, hw1, had, rfl⟩
      have hg := below_grown hw1 (some rb)
      have hv1 : w1.heap[rb]? = some (.cells #[_, .bool false] 99 (0, 0)) := (hw1.block rb hlt).trans hv
      have hb1 := hb.kept hg (fun g hg e => h0 (by rw [← Option.some.inj e]; exact hg))
      rcases hb1 with ⟨hbad, -⟩ | ⟨g', o', c', k1, k2, k3, k4, k5, k6⟩
      · cases hbad
      simp only [Value.slice.injEq, Option.some.injEq, Addr.mk.injEq, and_true] at k1
      obtain ⟨⟨rfl, rfl⟩, -, rfl⟩ := k1
      have hd := BytesAt.drop (S := S) 8 (by simp only [List.length_cons]; omega) (show r7.length + 8 = (b0 :: b1 :: b2 :: b3 :: b4 :: b5 :: b6 :: b7 :: r7).length by simp only [List.length_cons]) k2 k3 k4 k5 k6 ad had
      rw [e1]
      refine ⟨?_, rd_on h0 hg hv1 hd⟩
      rw [show (Lib.beNat [b0, b1, b2, b3, b4, b5, b6, b7] : Int) = (Kz.beNat [b0, b1, b2, b3, b4, b5, b6, b7] : Int) by rw [beNat_lib]]

end Go.Proofs.YthdfhnnoamlacaaDoor
/-
  The package's Uvarint: a number in groups of seven bits, read of octets. Conditions: none.
-/
namespace Go.Proofs.YthdfhnnoamlacaaDoor
open Go.RowKit (Below)
open Kz

set_option maxHeartbeats 800000 in
theorem Uvarint_r1 (w : World) (g o n c : Nat) (b0 : UInt8) (hn : 1 ≤ n)
    (d0 : w.cell? ⟨g, o, none⟩ = some (.int .u8 b0.toNat))
    (t0 : (bits BinOp.and IntKind.u8 (↑b0.toNat) 128 == 0) = true) :
    Calls Tryd.prog 81 #[.slice (some ⟨g, o, none⟩) n c] w fun e w' =>
      e = .returned (.tuple #[.int .u32 (bits BinOp.and IntKind.u8 (↑b0.toNat) 127 % 4294967296), .int .i64 1]) ∧ w = w' := by
  go_enter Tryd.func81, Tryd.ntmps81
  go_wp2
  go_step3
  go_wp2
  rw [Exit.noGoto_ret]
  go_ret2
  exact ⟨rfl, rfl⟩

set_option maxHeartbeats 800000 in
theorem Uvarint_r2 (w : World) (g o n c : Nat) (b0 b1 : UInt8) (hn : 2 ≤ n)
    (d0 : w.cell? ⟨g, o, none⟩ = some (.int .u8 b0.toNat)) (d1 : w.cell? ⟨g, o + 1, none⟩ = some (.int .u8 b1.toNat))
    (t0 : (bits BinOp.and IntKind.u8 (↑b0.toNat) 128 == 0) = false) (t1 : (bits BinOp.and IntKind.u8 (↑b1.toNat) 128 == 0) = true) :
    Calls Tryd.prog 81 #[.slice (some ⟨g, o, none⟩) n c] w fun e w' =>
      e = .returned (.tuple #[.int .u32 (bits BinOp.or IntKind.u32 (bits BinOp.and IntKind.u8 (↑b0.toNat) 127 % 4294967296) (bits BinOp.and IntKind.u8 (↑b1.toNat) 127 % 4294967296 * 128 % 4294967296)), .int .i64 2]) ∧ w = w' := by
  go_enter Tryd.func81, Tryd.ntmps81
  go_wp2
  go_step3
  go_wp2
  rw [Exit.noGoto_ret]
  go_ret2
  exact ⟨rfl, rfl⟩

set_option maxHeartbeats 800000 in
theorem Uvarint_r3 (w : World) (g o n c : Nat) (b0 b1 b2 : UInt8) (hn : 3 ≤ n)
    (d0 : w.cell? ⟨g, o, none⟩ = some (.int .u8 b0.toNat)) (d1 : w.cell? ⟨g, o + 1, none⟩ = some (.int .u8 b1.toNat)) (d2 : w.cell? ⟨g, o + 2, none⟩ = some (.int .u8 b2.toNat))
    (t0 : (bits BinOp.and IntKind.u8 (↑b0.toNat) 128 == 0) = false) (t1 : (bits BinOp.and IntKind.u8 (↑b1.toNat) 128 == 0) = false) (t2 : (bits BinOp.and IntKind.u8 (↑b2.toNat) 128 == 0) = true) :
    Calls Tryd.prog 81 #[.slice (some ⟨g, o, none⟩) n c] w fun e w' =>
      e = .returned (.tuple #[.int .u32 (bits BinOp.or IntKind.u32 (bits BinOp.or IntKind.u32 (bits BinOp.and IntKind.u8 (↑b0.toNat) 127 % 4294967296) (bits BinOp.and IntKind.u8 (↑b1.toNat) 127 % 4294967296 * 128 % 4294967296)) (bits BinOp.and IntKind.u8 (↑b2.toNat) 127 % 4294967296 * 16384 % 4294967296)), .int .i64 3]) ∧ w = w' := by
  go_enter Tryd.func81, Tryd.ntmps81
  go_wp2
  go_step3
  go_wp2
  rw [Exit.noGoto_ret]
  go_ret2
  exact ⟨rfl, rfl⟩

set_option maxHeartbeats 800000 in
theorem Uvarint_r4 (w : World) (g o n c : Nat) (b0 b1 b2 b3 : UInt8) (hn : 4 ≤ n)
    (d0 : w.cell? ⟨g, o, none⟩ = some (.int .u8 b0.toNat)) (d1 : w.cell? ⟨g, o + 1, none⟩ = some (.int .u8 b1.toNat)) (d2 : w.cell? ⟨g, o + 2, none⟩ = some (.int .u8 b2.toNat)) (d3 : w.cell? ⟨g, o + 3, none⟩ = some (.int .u8 b3.toNat))
    (t0 : (bits BinOp.and IntKind.u8 (↑b0.toNat) 128 == 0) = false) (t1 : (bits BinOp.and IntKind.u8 (↑b1.toNat) 128 == 0) = false) (t2 : (bits BinOp.and IntKind.u8 (↑b2.toNat) 128 == 0) = false) (t3 : (bits BinOp.and IntKind.u8 (↑b3.toNat) 128 == 0) = true) :
    Calls Tryd.prog 81 #[.slice (some ⟨g, o, none⟩) n c] w fun e w' =>
      e = .returned (.tuple #[.int .u32 (bits BinOp.or IntKind.u32 (bits BinOp.or IntKind.u32 (bits BinOp.or IntKind.u32 (bits BinOp.and IntKind.u8 (↑b0.toNat) 127 % 4294967296) (bits BinOp.and IntKind.u8 (↑b1.toNat) 127 % 4294967296 * 128 % 4294967296)) (bits BinOp.and IntKind.u8 (↑b2.toNat) 127 % 4294967296 * 16384 % 4294967296)) (bits BinOp.and IntKind.u8 (↑b3.toNat) 127 % 4294967296 * 2097152 % 4294967296)), .int .i64 4]) ∧ w = w' := by
  go_enter Tryd.func81, Tryd.ntmps81
  go_wp2
  go_step3
  go_wp2
  rw [Exit.noGoto_ret]
  go_ret2
  exact ⟨rfl, rfl⟩

set_option maxHeartbeats 800000 in
theorem Uvarint_r5 (w : World) (g o n c : Nat) (b0 b1 b2 b3 b4 : UInt8) (hn : 5 ≤ n)
    (d0 : w.cell? ⟨g, o, none⟩ = some (.int .u8 b0.toNat)) (d1 : w.cell? ⟨g, o + 1, none⟩ = some (.int .u8 b1.toNat)) (d2 : w.cell? ⟨g, o + 2, none⟩ = some (.int .u8 b2.toNat)) (d3 : w.cell? ⟨g, o + 3, none⟩ = some (.int .u8 b3.toNat)) (d4 : w.cell? ⟨g, o + 4, none⟩ = some (.int .u8 b4.toNat))
    (t0 : (bits BinOp.and IntKind.u8 (↑b0.toNat) 128 == 0) = false) (t1 : (bits BinOp.and IntKind.u8 (↑b1.toNat) 128 == 0) = false) (t2 : (bits BinOp.and IntKind.u8 (↑b2.toNat) 128 == 0) = false) (t3 : (bits BinOp.and IntKind.u8 (↑b3.toNat) 128 == 0) = false) (t4 : decide ((b4.toNat : Int) ≤ 15) = true) :
    Calls Tryd.prog 81 #[.slice (some ⟨g, o, none⟩) n c] w fun e w' =>
      e = .returned (.tuple #[.int .u32 (bits BinOp.or IntKind.u32 (bits BinOp.or IntKind.u32 (bits BinOp.or IntKind.u32 (bits BinOp.or IntKind.u32 (bits BinOp.and IntKind.u8 (↑b0.toNat) 127 % 4294967296) (bits BinOp.and IntKind.u8 (↑b1.toNat) 127 % 4294967296 * 128 % 4294967296)) (bits BinOp.and IntKind.u8 (↑b2.toNat) 127 % 4294967296 * 16384 % 4294967296)) (bits BinOp.and IntKind.u8 (↑b3.toNat) 127 % 4294967296 * 2097152 % 4294967296)) (↑b4.toNat % 4294967296 * 268435456 % 4294967296)), .int .i64 5]) ∧ w = w' := by
  go_enter Tryd.func81, Tryd.ntmps81
  go_wp2
  go_step3
  go_wp2
  rw [Exit.noGoto_ret]
  go_ret2
  exact ⟨rfl, rfl⟩

set_option maxHeartbeats 800000 in
theorem Uvarint_f0 (w : World) (c : Nat) (ad : Option Addr) 
     :
    Calls Tryd.prog 81 #[.slice ad 0 c] w fun e w' =>
      e = .returned (.tuple #[.int .u32 0, .int .i64 0]) ∧ w = w' := by
  go_enter Tryd.func81, Tryd.ntmps81
  go_wp2
  apply scope_jump_at (l := 0) (W := w) (hf := rfl)
  case first =>
    go_wp2
    refine wp_goto ?_
    exact ⟨rfl, rfl, rfl⟩
  case pass =>
    go_wp2
    simp only [Exit.jump]
    go_ret2
    exact ⟨rfl, rfl⟩

set_option maxHeartbeats 800000 in
theorem Uvarint_f1 (w : World) (g o c : Nat) (b0 : UInt8)
    (d0 : w.cell? ⟨g, o, none⟩ = some (.int .u8 b0.toNat))
    (t0 : (bits BinOp.and IntKind.u8 (↑b0.toNat) 128 == 0) = false) :
    Calls Tryd.prog 81 #[.slice (some ⟨g, o, none⟩) 1 c] w fun e w' =>
      e = .returned (.tuple #[.int .u32 0, .int .i64 0]) ∧ w = w' := by
  go_enter Tryd.func81, Tryd.ntmps81
  go_wp2
  apply scope_jump_at (l := 0) (W := w) (hf := rfl)
  case first =>
    go_wp2
    refine wp_goto ?_
    exact ⟨rfl, rfl, rfl⟩
  case pass =>
    go_wp2
    simp only [Exit.jump]
    go_ret2
    exact ⟨rfl, rfl⟩

set_option maxHeartbeats 800000 in
theorem Uvarint_f2 (w : World) (g o c : Nat) (b0 b1 : UInt8)
    (d0 : w.cell? ⟨g, o, none⟩ = some (.int .u8 b0.toNat)) (d1 : w.cell? ⟨g, o + 1, none⟩ = some (.int .u8 b1.toNat))
    (t0 : (bits BinOp.and IntKind.u8 (↑b0.toNat) 128 == 0) = false) (t1 : (bits BinOp.and IntKind.u8 (↑b1.toNat) 128 == 0) = false) :
    Calls Tryd.prog 81 #[.slice (some ⟨g, o, none⟩) 2 c] w fun e w' =>
      e = .returned (.tuple #[.int .u32 0, .int .i64 0]) ∧ w = w' := by
  go_enter Tryd.func81, Tryd.ntmps81
  go_wp2
  apply scope_jump_at (l := 0) (W := w) (hf := rfl)
  case first =>
    go_wp2
    refine wp_goto ?_
    exact ⟨rfl, rfl, rfl⟩
  case pass =>
    go_wp2
    simp only [Exit.jump]
    go_ret2
    exact ⟨rfl, rfl⟩

set_option maxHeartbeats 800000 in
theorem Uvarint_f3 (w : World) (g o c : Nat) (b0 b1 b2 : UInt8)
    (d0 : w.cell? ⟨g, o, none⟩ = some (.int .u8 b0.toNat)) (d1 : w.cell? ⟨g, o + 1, none⟩ = some (.int .u8 b1.toNat)) (d2 : w.cell? ⟨g, o + 2, none⟩ = some (.int .u8 b2.toNat))
    (t0 : (bits BinOp.and IntKind.u8 (↑b0.toNat) 128 == 0) = false) (t1 : (bits BinOp.and IntKind.u8 (↑b1.toNat) 128 == 0) = false) (t2 : (bits BinOp.and IntKind.u8 (↑b2.toNat) 128 == 0) = false) :
    Calls Tryd.prog 81 #[.slice (some ⟨g, o, none⟩) 3 c] w fun e w' =>
      e = .returned (.tuple #[.int .u32 0, .int .i64 0]) ∧ w = w' := by
  go_enter Tryd.func81, Tryd.ntmps81
  go_wp2
  apply scope_jump_at (l := 0) (W := w) (hf := rfl)
  case first =>
    go_wp2
    refine wp_goto ?_
    exact ⟨rfl, rfl, rfl⟩
  case pass =>
    go_wp2
    simp only [Exit.jump]
    go_ret2
    exact ⟨rfl, rfl⟩

set_option maxHeartbeats 800000 in
theorem Uvarint_f4 (w : World) (g o c : Nat) (b0 b1 b2 b3 : UInt8)
    (d0 : w.cell? ⟨g, o, none⟩ = some (.int .u8 b0.toNat)) (d1 : w.cell? ⟨g, o + 1, none⟩ = some (.int .u8 b1.toNat)) (d2 : w.cell? ⟨g, o + 2, none⟩ = some (.int .u8 b2.toNat)) (d3 : w.cell? ⟨g, o + 3, none⟩ = some (.int .u8 b3.toNat))
    (t0 : (bits BinOp.and IntKind.u8 (↑b0.toNat) 128 == 0) = false) (t1 : (bits BinOp.and IntKind.u8 (↑b1.toNat) 128 == 0) = false) (t2 : (bits BinOp.and IntKind.u8 (↑b2.toNat) 128 == 0) = false) (t3 : (bits BinOp.and IntKind.u8 (↑b3.toNat) 128 == 0) = false) :
    Calls Tryd.prog 81 #[.slice (some ⟨g, o, none⟩) 4 c] w fun e w' =>
      e = .returned (.tuple #[.int .u32 0, .int .i64 0]) ∧ w = w' := by
  go_enter Tryd.func81, Tryd.ntmps81
  go_wp2
  apply scope_jump_at (l := 0) (W := w) (hf := rfl)
  case first =>
    go_wp2
    refine wp_goto ?_
    exact ⟨rfl, rfl, rfl⟩
  case pass =>
    go_wp2
    simp only [Exit.jump]
    go_ret2
    exact ⟨rfl, rfl⟩

set_option maxHeartbeats 800000 in
theorem Uvarint_over (w : World) (g o n c : Nat) (b0 b1 b2 b3 b4 : UInt8) (hn : 5 ≤ n)
    (d0 : w.cell? ⟨g, o, none⟩ = some (.int .u8 b0.toNat)) (d1 : w.cell? ⟨g, o + 1, none⟩ = some (.int .u8 b1.toNat)) (d2 : w.cell? ⟨g, o + 2, none⟩ = some (.int .u8 b2.toNat)) (d3 : w.cell? ⟨g, o + 3, none⟩ = some (.int .u8 b3.toNat)) (d4 : w.cell? ⟨g, o + 4, none⟩ = some (.int .u8 b4.toNat))
    (t0 : (bits BinOp.and IntKind.u8 (↑b0.toNat) 128 == 0) = false) (t1 : (bits BinOp.and IntKind.u8 (↑b1.toNat) 128 == 0) = false) (t2 : (bits BinOp.and IntKind.u8 (↑b2.toNat) 128 == 0) = false) (t3 : (bits BinOp.and IntKind.u8 (↑b3.toNat) 128 == 0) = false) (t4 : decide ((b4.toNat : Int) ≤ 15) = false) :
    Calls Tryd.prog 81 #[.slice (some ⟨g, o, none⟩) n c] w fun e w' =>
      e = .returned (.tuple #[.int .u32 0, .int .i64 (-5)]) ∧ w = w' := by
  go_enter Tryd.func81, Tryd.ntmps81
  go_wp2
  go_step3
  go_wp2
  go_step3
  go_wp2
  rw [Exit.noGoto_ret]
  go_ret2
  exact ⟨rfl, rfl⟩

end Go.Proofs.YthdfhnnoamlacaaDoor
/-
  The package's reader: numbers in groups of seven bits. What the call answers, and what is left, for every state of the reader. Conditions: none.
-/
namespace Go.Proofs.YthdfhnnoamlacaaDoor
open Go.RowKit (Below)
open Kz

theorem and127 (b : UInt8) : bits BinOp.and IntKind.u8 (b.toNat : Int) 127 = ((b.toNat % 128 : Nat) : Int) := by
  have h := u8_and_nat b.toNat 127 b.toNat_lt (by decide)
  have e : b.toNat &&& 127 = b.toNat % 128 := Nat.and_two_pow_sub_one_eq_mod b.toNat 7
  rw [e] at h
  exact h
theorem and128 (b : UInt8) : (bits BinOp.and IntKind.u8 (b.toNat : Int) 128 == 0) = decide (b.toNat < 128) := by
  have h := u8_and_nat b.toNat 128 b.toNat_lt (by decide)
  have e : b.toNat &&& 128 = b.toNat / 128 % 2 * 128 := nat_bit 7 b.toNat
  have hb := b.toNat_lt
  rw [e] at h
  have h' : bits BinOp.and IntKind.u8 (b.toNat : Int) 128 = ((b.toNat / 128 % 2 * 128 : Nat) : Int) := h
  rw [h', Bool.eq_iff_iff]
  simp only [beq_iff_eq, decide_eq_true_eq]
  omega
theorem or_join (i x y : Nat) (hy : y % 2 ^ i = 0) (hx : x < 2 ^ i) (h1 : x < 4294967296) (h2 : y < 4294967296) : bits BinOp.or IntKind.u32 (x : Int) (y : Int) = ((x + y : Nat) : Int) := by
  rw [u32_or_nat x y h1 h2, Nat.or_comm, nat_join i y x hy hx, Nat.add_comm]
theorem uv_raw1 (b0 : UInt8) : bits BinOp.and IntKind.u8 (↑b0.toNat) 127 % 4294967296 = ((b0.toNat % 128 : Nat) : Int) := by
  rw [and127]; omega
theorem uv_part (b : UInt8) (k : Nat) (hk : k ≤ 33554431) : bits BinOp.and IntKind.u8 (↑b.toNat) 127 % 4294967296 * (k : Int) % 4294967296 = ((b.toNat % 128 * k : Nat) : Int) := by
  rw [and127]
  have h1 : ((b.toNat % 128 : Nat) : Int) % 4294967296 = ((b.toNat % 128 : Nat) : Int) := by omega
  rw [h1, ← Int.natCast_mul]
  have h2 : b.toNat % 128 * k ≤ 127 * 33554431 := Nat.mul_le_mul (by omega) hk
  omega
theorem uv_raw2 (b0 b1 : UInt8) : bits BinOp.or IntKind.u32 (bits BinOp.and IntKind.u8 (↑b0.toNat) 127 % 4294967296) (bits BinOp.and IntKind.u8 (↑b1.toNat) 127 % 4294967296 * 128 % 4294967296) = ((b0.toNat % 128 + 128 * (b1.toNat % 128) : Nat) : Int) := by
  have h := uv_part b1 128 (by decide)
  rw [show ((128 : Nat) : Int) = 128 from rfl] at h
  rw [h, and127, show ((b0.toNat % 128 : Nat) : Int) % 4294967296 = ((b0.toNat % 128 : Nat) : Int) by omega, or_join 7 _ _ (by omega) (by omega) (by omega) (by omega)]
  congr 1; omega
theorem uv_raw3 (b0 b1 b2 : UInt8) : bits BinOp.or IntKind.u32 (bits BinOp.or IntKind.u32 (bits BinOp.and IntKind.u8 (↑b0.toNat) 127 % 4294967296) (bits BinOp.and IntKind.u8 (↑b1.toNat) 127 % 4294967296 * 128 % 4294967296))
    (bits BinOp.and IntKind.u8 (↑b2.toNat) 127 % 4294967296 * 16384 % 4294967296) = ((b0.toNat % 128 + 128 * (b1.toNat % 128 + 128 * (b2.toNat % 128)) : Nat) : Int) := by
  have h := uv_part b2 16384 (by decide)
  rw [show ((16384 : Nat) : Int) = 16384 from rfl] at h
  rw [h, uv_raw2, or_join 14 _ _ (by omega) (by omega) (by omega) (by omega)]
  congr 1; omega
theorem uv_raw4 (b0 b1 b2 b3 : UInt8) : bits BinOp.or IntKind.u32 (bits BinOp.or IntKind.u32 (bits BinOp.or IntKind.u32 (bits BinOp.and IntKind.u8 (↑b0.toNat) 127 % 4294967296) (bits BinOp.and IntKind.u8 (↑b1.toNat) 127 % 4294967296 * 128 % 4294967296))
    (bits BinOp.and IntKind.u8 (↑b2.toNat) 127 % 4294967296 * 16384 % 4294967296)) (bits BinOp.and IntKind.u8 (↑b3.toNat) 127 % 4294967296 * 2097152 % 4294967296) =
    ((b0.toNat % 128 + 128 * (b1.toNat % 128 + 128 * (b2.toNat % 128 + 128 * (b3.toNat % 128))) : Nat) : Int) := by
  have h := uv_part b3 2097152 (by decide)
  rw [show ((2097152 : Nat) : Int) = 2097152 from rfl] at h
  rw [h, uv_raw3, or_join 21 _ _ (by omega) (by omega) (by omega) (by omega)]
  congr 1; omega
theorem uv_raw5 (b0 b1 b2 b3 b4 : UInt8) (hb : b4.toNat ≤ 15) : bits BinOp.or IntKind.u32 (bits BinOp.or IntKind.u32 (bits BinOp.or IntKind.u32 (bits BinOp.or IntKind.u32 (bits BinOp.and IntKind.u8 (↑b0.toNat) 127 % 4294967296) (bits BinOp.and IntKind.u8 (↑b1.toNat) 127 % 4294967296 * 128 % 4294967296))
    (bits BinOp.and IntKind.u8 (↑b2.toNat) 127 % 4294967296 * 16384 % 4294967296)) (bits BinOp.and IntKind.u8 (↑b3.toNat) 127 % 4294967296 * 2097152 % 4294967296)) (↑b4.toNat % 4294967296 * 268435456 % 4294967296) =
    ((b0.toNat % 128 + 128 * (b1.toNat % 128 + 128 * (b2.toNat % 128 + 128 * (b3.toNat % 128 + 128 * b4.toNat))) : Nat) : Int) := by
  have h : (↑b4.toNat % 4294967296 * 268435456 % 4294967296 : Int) = ((b4.toNat * 268435456 : Nat) : Int) := by omega
  rw [h, uv_raw4, or_join 28 _ _ (by omega) (by omega) (by omega) (by omega)]
  congr 1; omega

/-- What Uvarint answers: the number and how many octets it took, or none. -/
def UvAns (P : Program) (f : FuncId) (w : World) (v : Value) (bs : List UInt8) : Prop :=
  (∃ n r, uvA 4 bs = some (n, r) ∧ ∃ k : Nat, 1 ≤ k ∧ k ≤ bs.length ∧ r = bs.drop k ∧ Calls P f #[v] w fun e w' => e = .returned (.tuple #[.int .u32 (n : Int), .int .i64 (k : Int)]) ∧ w = w') ∨
  (uvA 4 bs = none ∧ ∃ z : Int, z ≤ 0 ∧ Calls P f #[v] w fun e w' => e = .returned (.tuple #[.int .u32 0, .int .i64 z]) ∧ w = w')

theorem uvA_less (k : Nat) (b : UInt8) (r : List UInt8) (h : b.toNat < 128) : uvA (k + 1) (b :: r) = some (b.toNat, r) := by simp only [uvA, if_pos h]
theorem uvA_more (k : Nat) (b : UInt8) (r : List UInt8) (h : ¬ b.toNat < 128) : uvA (k + 1) (b :: r) = (uvA k r).map fun x => (b.toNat - 128 + 128 * x.1, x.2) := by simp only [uvA, if_neg h]

theorem Uvarint_any (w : World) (S : Nat → Prop) (v : Value) (bs : List UInt8) (h : BytesAt w S v bs) :
    UvAns Tryd.prog 81 w v bs := by
  have f : ∀ (b : UInt8), b.toNat < 128 → (bits BinOp.and IntKind.u8 (b.toNat : Int) 128 == 0) = true := fun b hb => by rw [and128]; simpa using hb
  have t : ∀ (b : UInt8), ¬ b.toNat < 128 → (bits BinOp.and IntKind.u8 (b.toNat : Int) 128 == 0) = false := fun b hb => by rw [and128]; simpa using hb
  cases bs with
  | nil =>
    obtain ⟨ad, c, rfl⟩ := bytes_len h
    exact .inr ⟨rfl, 0, by decide, Uvarint_f0 w c ad⟩
  | cons b0 r0 =>
  obtain ⟨g, o, c, rfl, h2, h3, h4, h5, h6⟩ := bytes_some h
  have d0 := h6 0 b0 rfl
  by_cases c0 : b0.toNat < 128
  · exact .inl ⟨_, _, uvA_less 3 b0 r0 c0, 1, by omega, by simp, by simp, (Uvarint_r1 w g o (r0.length + 1) c b0 (by omega) d0 (f b0 c0)).mono fun e w' ⟨he, hw⟩ => ⟨by rw [he, uv_raw1, Nat.mod_eq_of_lt c0]; rfl, hw⟩⟩
  cases r0 with
  | nil => exact .inr ⟨by rw [uvA_more 3 b0 [] c0]; rfl, 0, by decide, Uvarint_f1 w g o c b0 d0 (t b0 c0)⟩
  | cons b1 r1 =>
  have d1 := h6 1 b1 rfl
  have m0 : b0.toNat % 128 = b0.toNat - 128 := by have := b0.toNat_lt; omega
  by_cases c1 : b1.toNat < 128
  · exact .inl ⟨_, _, by rw [uvA_more 3 b0 _ c0, uvA_less 2 b1 r1 c1]; rfl, 2, by omega, by simp, by simp, (Uvarint_r2 w g o ((b1 :: r1).length + 1) c b0 b1 (by simp only [List.length_cons]; omega) d0 d1 (t b0 c0) (f b1 c1)).mono fun e w' ⟨he, hw⟩ => ⟨by rw [he, uv_raw2, m0, Nat.mod_eq_of_lt c1]; rfl, hw⟩⟩
  cases r1 with
  | nil => exact .inr ⟨by rw [uvA_more 3 b0 _ c0, uvA_more 2 b1 _ c1]; rfl, 0, by decide, Uvarint_f2 w g o c b0 b1 d0 d1 (t b0 c0) (t b1 c1)⟩
  | cons b2 r2 =>
  have d2 := h6 2 b2 rfl
  have m1 : b1.toNat % 128 = b1.toNat - 128 := by have := b1.toNat_lt; omega
  by_cases c2 : b2.toNat < 128
  · exact .inl ⟨_, _, by rw [uvA_more 3 b0 _ c0, uvA_more 2 b1 _ c1, uvA_less 1 b2 r2 c2]; rfl, 3, by omega, by simp, by simp, (Uvarint_r3 w g o ((b1 :: b2 :: r2).length + 1) c b0 b1 b2 (by simp only [List.length_cons]; omega) d0 d1 d2 (t b0 c0) (t b1 c1) (f b2 c2)).mono fun e w' ⟨he, hw⟩ => ⟨by rw [he, uv_raw3, m0, m1, Nat.mod_eq_of_lt c2]; rfl, hw⟩⟩
  cases r2 with
  | nil => exact .inr ⟨by rw [uvA_more 3 b0 _ c0, uvA_more 2 b1 _ c1, uvA_more 1 b2 _ c2]; rfl, 0, by decide, Uvarint_f3 w g o c b0 b1 b2 d0 d1 d2 (t b0 c0) (t b1 c1) (t b2 c2)⟩
  | cons b3 r3 =>
  have d3 := h6 3 b3 rfl
  have m2 : b2.toNat % 128 = b2.toNat - 128 := by have := b2.toNat_lt; omega
  by_cases c3 : b3.toNat < 128
  · exact .inl ⟨_, _, by rw [uvA_more 3 b0 _ c0, uvA_more 2 b1 _ c1, uvA_more 1 b2 _ c2, uvA_less 0 b3 r3 c3]; rfl, 4, by omega, by simp, by simp, (Uvarint_r4 w g o ((b1 :: b2 :: b3 :: r3).length + 1) c b0 b1 b2 b3 (by simp only [List.length_cons]; omega) d0 d1 d2 d3 (t b0 c0) (t b1 c1) (t b2 c2) (f b3 c3)).mono fun e w' ⟨he, hw⟩ => ⟨by rw [he, uv_raw4, m0, m1, m2, Nat.mod_eq_of_lt c3]; rfl, hw⟩⟩
  cases r3 with
  | nil => exact .inr ⟨by rw [uvA_more 3 b0 _ c0, uvA_more 2 b1 _ c1, uvA_more 1 b2 _ c2, uvA_more 0 b3 _ c3]; rfl, 0, by decide, Uvarint_f4 w g o c b0 b1 b2 b3 d0 d1 d2 d3 (t b0 c0) (t b1 c1) (t b2 c2) (t b3 c3)⟩
  | cons b4 r4 =>
  have d4 := h6 4 b4 rfl
  have m3 : b3.toNat % 128 = b3.toNat - 128 := by have := b3.toNat_lt; omega
  by_cases c4 : b4.toNat ≤ 15
  · exact .inl ⟨_, _, by rw [uvA_more 3 b0 _ c0, uvA_more 2 b1 _ c1, uvA_more 1 b2 _ c2, uvA_more 0 b3 _ c3]; simp only [uvA, if_pos c4]; rfl, 5, by omega, by simp, by simp, (Uvarint_r5 w g o ((b1 :: b2 :: b3 :: b4 :: r4).length + 1) c b0 b1 b2 b3 b4 (by simp only [List.length_cons]; omega) d0 d1 d2 d3 d4 (t b0 c0) (t b1 c1) (t b2 c2) (t b3 c3) (by simp; omega)).mono fun e w' ⟨he, hw⟩ => ⟨by rw [he, uv_raw5 _ _ _ _ _ c4, m0, m1, m2, m3]; rfl, hw⟩⟩
  · exact .inr ⟨by rw [uvA_more 3 b0 _ c0, uvA_more 2 b1 _ c1, uvA_more 1 b2 _ c2, uvA_more 0 b3 _ c3]; simp only [uvA, if_neg c4]; rfl, -5, by decide, Uvarint_over w g o ((b1 :: b2 :: b3 :: b4 :: r4).length + 1) c b0 b1 b2 b3 b4 (by simp only [List.length_cons]; omega) d0 d1 d2 d3 d4 (t b0 c0) (t b1 c1) (t b2 c2) (t b3 c3) (by simp; omega)⟩
end Go.Proofs.YthdfhnnoamlacaaDoor
/-
  The package's reader: a number in groups, some octets, single octets, whether it has failed: what each call answers, and what is left, for every state of the reader. Conditions: none.
-/
namespace Go.Proofs.YthdfhnnoamlacaaDoor
open Go.RowKit (Below Hid Hid.out)
open Kz



theorem rdSpan_yes (l : Int) (bs : List UInt8) (h : 0 ≤ l ∧ l ≤ bs.length) : rdSpan l (some bs) = (bs.take l.toNat, some (bs.drop l.toNat)) := if_pos h
theorem rdSpan_not (l : Int) (bs : List UInt8) (h : ¬ (0 ≤ l ∧ l ≤ bs.length)) : rdSpan l (some bs) = ([], none) := if_neg h
set_option maxHeartbeats 400000 in
theorem Span_no (w : World) (rb n c : Nat) (ad : Option Addr) (q : Bool) (l : Int) (hl : (n : Int) < l ∨ l < 0) (hb1 : -9223372036854775808 ≤ l) (hb2 : l ≤ 9223372036854775807)
    (c0 : w.cell? ⟨rb, 0, none⟩ = some (.slice ad n c)) (c1 : w.cell? ⟨rb, 1, none⟩ = some (.bool q)) (f0 : w.frozen? ⟨rb, 0, none⟩ = false) (f1 : w.frozen? ⟨rb, 1, none⟩ = false) :
    Calls Tryd.prog 60 #[.pointer (some ⟨rb, 0, none⟩), .int .i64 l] w fun e w' =>
      e = .returned (.slice none 0 0) ∧ w' = (w.setCell ⟨rb, 1, none⟩ (.bool true)).setCell ⟨rb, 0, none⟩ (.slice none 0 0) := by
  rcases hl with hl | hl
  · have t0 : decide ((n : Int) < l) = true := by simpa using hl
    go_enter Tryd.func60, Tryd.ntmps60
    go_wp2
    go_ret
    exact ⟨rfl, rfl⟩
  · have t0 : decide ((n : Int) < l) = false := by simp; omega
    have t1 : decide (l < 0) = true := by simpa using hl
    go_enter Tryd.func60, Tryd.ntmps60
    go_wp2
    go_ret
    exact ⟨rfl, rfl⟩
set_option maxHeartbeats 400000 in
theorem Span_yes (w : World) (rb n c g o l : Nat) (hl : l ≤ n) (hc : n ≤ c) (hc2 : c ≤ 9223372036854775807)
    (c0 : w.cell? ⟨rb, 0, none⟩ = some (.slice (some ⟨g, o, none⟩) n c)) (f0 : w.frozen? ⟨rb, 0, none⟩ = false) :
    Calls Tryd.prog 60 #[.pointer (some ⟨rb, 0, none⟩), .int .i64 (l : Int)] w fun e w' =>
      e = .returned (.slice (some ⟨g, o, none⟩) l l) ∧ ∃ ad, (ad = ⟨g, o + l, none⟩ ∨ (c = l ∧ ad = ⟨g, o, none⟩)) ∧ w' = w.setCell ⟨rb, 0, none⟩ (.slice (some ad) (n - l) (c - l)) := by
  have t0 : decide ((n : Int) < (l : Int)) = false := by simp; omega
  have t1 : decide ((l : Int) < 0) = false := by simp
  by_cases hne : c = l
  · subst hne
    obtain rfl : n = c := by omega
    go_enter Tryd.func60, Tryd.ntmps60
    go_wp2
    go_ret
    exact ⟨rfl, _, .inr ⟨by trivial, rfl⟩, by simp⟩
  · go_enter Tryd.func60, Tryd.ntmps60
    go_wp2
    go_ret
    exact ⟨rfl, _, .inl rfl, rfl⟩
set_option maxHeartbeats 400000 in
theorem Span_nil (w : World) (rb : Nat) (c0 : w.cell? ⟨rb, 0, none⟩ = some (.slice none 0 0)) (f0 : w.frozen? ⟨rb, 0, none⟩ = false) :
    Calls Tryd.prog 60 #[.pointer (some ⟨rb, 0, none⟩), .int .i64 0] w fun e w' => e = .returned (.slice none 0 0) ∧ w' = w.setCell ⟨rb, 0, none⟩ (.slice none 0 0) := by
  go_enter Tryd.func60, Tryd.ntmps60
  go_wp2
  go_ret
  exact ⟨rfl, rfl⟩
theorem BytesAt.take {w : World} {S : Nat → Prop} {g o c : Nat} {bs : List UInt8} (l : Nat) (hl : l ≤ bs.length) (h2 : bs.length ≤ c) (h2' : c ≤ 9223372036854775807) (h3 : S g) (h4 : g < w.heap.size)
    (h5 : ∀ (i : Nat) (b : UInt8), bs[i]? = some b → w.cell? ⟨g, o + i, none⟩ = some (bv b)) : BytesAt w S (.slice (some ⟨g, o, none⟩) l l) (bs.take l) := by
  refine .inr ⟨g, o, l, by rw [List.length_take, Nat.min_eq_left hl], by rw [List.length_take]; omega, by omega, h3, h4, fun i b hi => h5 i b ?_⟩
  rw [List.getElem?_take] at hi
  split at hi
  · exact hi
  · cases hi
theorem Span_any (w : World) (S : Nat → Prop) (rb : Nat) (st : St) (l : Int) (h : RdIs w S rb st) (hb1 : -9223372036854775808 ≤ l) (hb2 : l ≤ 9223372036854775807) :
    Calls Tryd.prog 60 #[.pointer (some ⟨rb, 0, none⟩), .int .i64 l] w fun e w' =>
    ∃ v, e = .returned v ∧ BytesAt w' S v (rdSpan l st).1 ∧ RdIs w' S rb (rdSpan l st).2 ∧ w.grownBy w' (some rb) := by
  cases st with
  | none =>
    obtain ⟨hv, h0, c0, c1, f0, f1⟩ := rd_parts_none h
    by_cases hl : l = 0
    · subst hl
      refine (Span_nil w rb c0 f0).mono ?_
      rintro e w' ⟨rfl, rfl⟩
      exact ⟨_, rfl, .inl ⟨rfl, rfl⟩, ⟨h0, heap_setCell_row hv⟩, grown_setCell (grownBy_refl _ _) 0 _⟩
    · refine (Span_no w rb 0 0 none true l (by omega) hb1 hb2 c0 c1 f0 f1).mono ?_
      rintro e w' ⟨rfl, rfl⟩
      exact ⟨_, rfl, .inl ⟨rfl, rfl⟩, rd_fail h0 (grownBy_refl _ _) hv⟩
  | some bs =>
    obtain ⟨v, hv, hb, h0, c0, c1, f0, f1⟩ := rd_parts h
    by_cases hl : 0 ≤ l ∧ l ≤ bs.length
    · rw [rdSpan_yes l bs hl]
      obtain ⟨k, rfl⟩ : ∃ k : Nat, l = k := ⟨l.toNat, by omega⟩
      rw [Int.toNat_natCast]
      rcases hb with ⟨rfl, rfl⟩ | ⟨g, o, c, rfl, h2, h3, h4, h5, h6⟩
      · obtain rfl : k = 0 := by simp at hl; omega
        refine (Span_nil w rb c0 f0).mono ?_
        rintro e w' ⟨rfl, rfl⟩
        exact ⟨_, rfl, .inl ⟨rfl, rfl⟩, rd_on h0 (grownBy_refl _ _) hv (.inl ⟨rfl, rfl⟩)⟩
      · refine (Span_yes w rb bs.length c g o k (by omega) h2 h3 c0 f0).mono ?_
        rintro e w' ⟨rfl, ad, had, rfl⟩
        have hd := BytesAt.drop (S := S) k (by omega) rfl h2 h3 h4 h5 h6 ad had
        have ho := rd_on h0 (grownBy_refl _ _) hv hd
        exact ⟨_, rfl, (BytesAt.take (S := S) k (by omega) h2 h3 h4 h5 h6).kept ho.2 (fun g hg e => h0 (by rw [← Option.some.inj e]; exact hg)), ho⟩
    · rw [rdSpan_not l bs hl]
      obtain ⟨ad, c, rfl⟩ := bytes_len hb
      refine (Span_no w rb bs.length c ad false l (by omega) hb1 hb2 c0 c1 f0 f1).mono ?_
      rintro e w' ⟨rfl, rfl⟩
      exact ⟨_, rfl, .inl ⟨rfl, rfl⟩, rd_fail h0 (grownBy_refl _ _) hv⟩

theorem wrap8_sgn (b : UInt8) : IntKind.i8.wrap (b.toNat : Int) = sgn 1 (Kz.beNat [b]) := by
  have hb := b.toNat_lt
  have e : IntKind.i8.wrap (b.toNat : Int) = if 128 ≤ (b.toNat : Int) % 256 then (b.toNat : Int) % 256 - 256 else (b.toNat : Int) % 256 := by
    show (if (true && decide ((b.toNat : Int) % 256 ≥ 128)) = true then (b.toNat : Int) % 256 - 256 else (b.toNat : Int) % 256) = _
    by_cases h : 128 ≤ (b.toNat : Int) % 256
    · rw [if_pos h, if_pos (by simpa using h)]
    · rw [if_neg h, if_neg (by simpa using h)]
  have e2 : Kz.beNat [b] = b.toNat := by simp [Kz.beNat]
  rw [e, e2]
  unfold sgn
  by_cases hn : b.toNat < 2 ^ (8 * 1 - 1)
  · rw [if_pos hn, if_neg (by omega)]; omega
  · rw [if_neg hn, if_pos (by omega)]; simp only [show (8 * 1 : Nat) = 8 from rfl]; omega
set_option maxHeartbeats 400000 in
theorem Int8_short (w : World) (rb n c : Nat) (ad : Option Addr) (q : Bool) (hn : n < 1)
    (c0 : w.cell? ⟨rb, 0, none⟩ = some (.slice ad n c)) (c1 : w.cell? ⟨rb, 1, none⟩ = some (.bool q)) (f0 : w.frozen? ⟨rb, 0, none⟩ = false) (f1 : w.frozen? ⟨rb, 1, none⟩ = false) :
    Calls Tryd.prog 72 #[.pointer (some ⟨rb, 0, none⟩)] w fun e w' =>
      e = .returned (.int .i8 0) ∧ w' = (w.setCell ⟨rb, 1, none⟩ (.bool true)).setCell ⟨rb, 0, none⟩ (.slice none 0 0) := by
  obtain rfl : n = 0 := by omega
  go_enter Tryd.func72, Tryd.ntmps72
  go_wp2
  go_ret
  exact ⟨rfl, rfl⟩
set_option maxHeartbeats 400000 in
theorem Int8_good (w : World) (rb n c g o : Nat) (b0 : UInt8) (hn : 1 ≤ n) (hc : n ≤ c) (hc2 : c ≤ 9223372036854775807)
    (c0 : w.cell? ⟨rb, 0, none⟩ = some (.slice (some ⟨g, o, none⟩) n c)) (f0 : w.frozen? ⟨rb, 0, none⟩ = false)
    (d0 : w.cell? ⟨g, o, none⟩ = some (.int .u8 b0.toNat)) :
    Calls Tryd.prog 72 #[.pointer (some ⟨rb, 0, none⟩)] w fun e w' =>
      e = .returned (.int .i8 (IntKind.i8.wrap (b0.toNat : Int))) ∧ ∃ ad, (ad = ⟨g, o + 1, none⟩ ∨ (c = 1 ∧ ad = ⟨g, o, none⟩)) ∧ w' = w.setCell ⟨rb, 0, none⟩ (.slice (some ad) (n - 1) (c - 1)) := by
  by_cases hne : c = 1
  · subst hne
    obtain rfl : n = 1 := by omega
    go_enter Tryd.func72, Tryd.ntmps72
    go_wp2
    go_ret
    exact ⟨rfl, _, .inr ⟨by trivial, rfl⟩, rfl⟩
  · go_enter Tryd.func72, Tryd.ntmps72
    go_wp2
    go_ret
    exact ⟨rfl, _, .inl rfl, rfl⟩
theorem Int8_any (w : World) (S : Nat → Prop) (rb : Nat) (st : St) (h : RdIs w S rb st) : Calls Tryd.prog 72 #[.pointer (some ⟨rb, 0, none⟩)] w fun e w' =>
    e = .returned (.int .i8 (rdI 1 st).1) ∧ RdIs w' S rb (rdI 1 st).2 ∧ w.grownBy w' (some rb) := by
  cases st with
  | none =>
    obtain ⟨hv, h0, c0, c1, f0, f1⟩ := rd_parts_none h
    refine (Int8_short w rb 0 0 none true (by decide) c0 c1 f0 f1).mono ?_
    rintro e w' ⟨rfl, rfl⟩
    exact ⟨rfl, rd_fail h0 (grownBy_refl _ _) hv⟩
  | some bs =>
    obtain ⟨v, hv, hb, h0, c0, c1, f0, f1⟩ := rd_parts h
    cases bs with
    | nil =>
      obtain ⟨ad, c, rfl⟩ := bytes_len hb
      refine (Int8_short w rb _ c ad false (by simp) c0 c1 f0 f1).mono ?_
      rintro e w' ⟨rfl, rfl⟩
      exact ⟨rfl, rd_fail h0 (grownBy_refl _ _) hv⟩
    | cons b0 r0 =>
      obtain ⟨g, o, c, rfl, h2, h3, h4, h5, h6⟩ := bytes_some hb
      have e1 : rdI 1 (some (b0 :: r0)) = (sgn 1 (Kz.beNat [b0]), some r0) := by
        unfold rdI
        rw [rdN_some _ _ _ _ (by simp only [List.length_cons]; omega)]
        simp only [List.take_succ_cons, List.take_zero, List.drop_succ_cons, List.drop_zero]
      refine (Int8_good w rb (r0.length + 1) c g o b0 (by omega) h2 h3 c0 f0 (h6 0 b0 rfl)).mono ?_
      rintro e w' ⟨rfl, ad, had, rfl⟩
      have hd := BytesAt.drop (S := S) (bs := b0 :: r0) 1 (by simp only [List.length_cons]; omega) (show r0.length + 1 = (b0 :: r0).length by simp only [List.length_cons]) h2 h3 h4 h5 h6 ad had
      rw [e1]
      refine ⟨?_, rd_on h0 (grownBy_refl _ _) hv hd⟩
      rw [wrap8_sgn b0]


theorem wrap64_sgn (n : Nat) (h : n < 18446744073709551616) : RowKit.wrap64 (n : Int) = sgn 8 n := by
  unfold RowKit.wrap64 sgn
  by_cases hn : n < 2 ^ (8 * 8 - 1)
  · rw [if_pos hn]; simp only [show (8 * 8 - 1 : Nat) = 63 from rfl] at hn; omega
  · rw [if_neg hn]; simp only [show (8 * 8 - 1 : Nat) = 63 from rfl, show (8 * 8 : Nat) = 64 from rfl] at hn ⊢; omega
theorem wrap64_zero : RowKit.wrap64 ((0 : Nat) : Int) = 0 := by unfold RowKit.wrap64; omega
theorem rdU8_rdI8 (st : St) : RowKit.wrap64 ((rdU 8 st).1 : Int) = (rdI 8 st).1 ∧ (rdU 8 st).2 = (rdI 8 st).2 := by
  cases st with
  | none => exact ⟨wrap64_zero, rfl⟩
  | some bs =>
    by_cases h : 8 ≤ bs.length
    · unfold rdU rdI
      rw [rdN_some _ _ _ _ h, rdN_some _ _ _ _ h]
      refine ⟨wrap64_sgn _ ?_, rfl⟩
      have := beNat_lt (bs.take 8)
      rw [List.length_take, Nat.min_eq_left h] at this
      exact this
    · unfold rdU rdI
      rw [rdN_less _ _ _ _ h, rdN_less _ _ _ _ h]
      exact ⟨wrap64_zero, rfl⟩
set_option maxHeartbeats 400000 in
theorem Int64_any (w : World) (S : Nat → Prop) (rb : Nat) (st : St) (h : RdIs w S rb st) : Calls Tryd.prog 71 #[.pointer (some ⟨rb, 0, none⟩)] w fun e w' =>
    e = .returned (.int .i64 (rdI 8 st).1) ∧ RdIs w' S rb (rdI 8 st).2 ∧ w.grownBy w' (some rb) := by
  go_enter Tryd.func71, Tryd.ntmps71
  go_wp2_with fail
  refine (readUint64_any w S rb st h).mono ?_
  rintro e w' ⟨rfl, h1, g1⟩
  go_wp2
  go_ret
  have hx := rdU8_rdI8 st
  rw [hx.2] at h1
  refine ⟨?_, h1, g1⟩
  rw [← hx.1]
  rfl

/-- The package's error is there. -/
def ErrOk (w : World) : Prop := ∃ t v, w.cell? ⟨0, 0, none⟩ = some (.iface t v)
/-- No error, or the package's. -/
def ErrV (st : St) (v : Value) : Prop := if st.isSome then v = .nilIface else ∃ t x, v = .iface t x
theorem ErrOk.kept {w w' : World} {row : Option Nat} (h : ErrOk w) (hg : w.grownBy w' row) (hr : row ≠ some 0) : ErrOk w' := by
  obtain ⟨t, v, h⟩ := h
  exact ⟨t, v, hg.cell h (fun e => hr e.symm)⟩
set_option maxHeartbeats 400000 in
theorem Complete_any (w : World) (S : Nat → Prop) (rb : Nat) (st : St) (h : RdIs w S rb st) (he : ErrOk w) : Calls Tryd.prog 45 #[.pointer (some ⟨rb, 0, none⟩)] w fun e w' =>
    ∃ v, e = .returned v ∧ ErrV st v ∧ w = w' := by
  cases st with
  | none =>
    obtain ⟨hv, h0, c0, c1, f0, f1⟩ := rd_parts_none h
    obtain ⟨t, x, hc⟩ := he
    go_enter Tryd.func45, Tryd.ntmps45
    go_wp2
    go_ret
    exact ⟨_, rfl, ⟨t, x, rfl⟩, rfl⟩
  | some bs =>
    obtain ⟨v, hv, hb, h0, c0, c1, f0, f1⟩ := rd_parts h
    go_enter Tryd.func45, Tryd.ntmps45
    go_wp2
    go_ret
    exact ⟨_, rfl, rfl, rfl⟩

set_option maxHeartbeats 400000 in
theorem Ok_any (w : World) (S : Nat → Prop) (rb : Nat) (st : St) (h : RdIs w S rb st) : Calls Tryd.prog 78 #[.pointer (some ⟨rb, 0, none⟩)] w fun e w' =>
    e = .returned (.bool st.isSome) ∧ w = w' := by
  cases st with
  | none =>
    obtain ⟨hv, h0, c0, c1, f0, f1⟩ := rd_parts_none h
    go_enter Tryd.func78, Tryd.ntmps78
    go_wp2
    go_ret
    exact ⟨rfl, rfl⟩
  | some bs =>
    obtain ⟨v, hv, hb, h0, c0, c1, f0, f1⟩ := rd_parts h
    go_enter Tryd.func78, Tryd.ntmps78
    go_wp2
    go_ret
    exact ⟨rfl, rfl⟩

end Go.Proofs.YthdfhnnoamlacaaDoor
/-
  The package's reader: texts, octets, lengths of lists: what each call answers, and what is left, for every state of the reader. Conditions: none.
-/
namespace Go.Proofs.YthdfhnnoamlacaaDoor
open Go.RowKit (Below Hid Hid.out)
open Kz

/-- A text as a value. -/
abbrev strV (s : List UInt8) : Value := .string ⟨s.toArray⟩
theorem push_fold : ∀ (l : List UInt8) (r : ByteArray), (l.map fun b => (b.toNat : Int)).foldl (fun r n => r.push (UInt8.ofNat n.toNat)) r = ⟨r.data ++ l.toArray⟩ := by
  intro l
  induction l with
  | nil => intro r; simp
  | cons b l ih =>
    intro r
    rw [List.map_cons, List.foldl_cons, ih]
    congr 1
    have : UInt8.ofNat (b.toNat : Int).toNat = b := by simp
    rw [this]
    simp [ByteArray.push]
/-- Octets as a text. -/
theorem conv_string {w : World} {S : Nat → Prop} {v : Value} {bs : List UInt8} (h : BytesAt w S v bs) (src dst : TypeId) (hs : src = 22) (hd : dst = 9) : (convert src dst v).run Tryd.prog w = .ok (strV bs) w := by
  subst hs; subst hd
  rcases h with ⟨rfl, rfl⟩ | ⟨g, o, c, rfl, h2, h3, h4, h5, h6⟩
  · kernel_rfl
  · rw [run_convert_bytes_string w _ _ 5 _ _ _ Tryd.underlying22 Tryd.underlying5 Tryd.underlying9]
    have hl := run_loadCells_list (P := Tryd.prog) (w := w) ⟨g, o, none⟩ ((bs.map fun b => (b.toNat : Int)).map (Value.int .u8)) (fun j x hj => by
      rw [List.map_map, List.getElem?_map, Option.map_eq_some_iff] at hj
      obtain ⟨b, hb, rfl⟩ := hj
      rw [Addr.add_lit]
      exact h6 j b hb)
    rw [List.length_map, List.length_map] at hl
    rw [run_bytesToString w _ _ _ _ hl, push_fold]
    simp [strV, ByteArray.empty, ByteArray.emptyWithCapacity]
    rfl

theorem rdI_bounds (k : Nat) (st : St) (hk : 0 < k) : -(2 : Int) ^ (8 * k - 1) ≤ (rdI k st).1 ∧ (rdI k st).1 < 2 ^ (8 * k - 1) := by
  have hp : (0 : Int) < 2 ^ (8 * k - 1) := Int.pow_pos (by decide)
  have hz : -(2 : Int) ^ (8 * k - 1) ≤ 0 ∧ (0 : Int) < 2 ^ (8 * k - 1) := by omega
  cases st with
  | none => exact hz
  | some bs =>
    by_cases h : k ≤ bs.length
    · unfold rdI
      rw [rdN_some _ _ _ _ h]
      have hl := beNat_lt (bs.take k)
      rw [List.length_take, Nat.min_eq_left h] at hl
      have e : 256 ^ k = 2 ^ (8 * k) := by rw [Nat.pow_mul]
      have e2 : 2 ^ (8 * k) = 2 * 2 ^ (8 * k - 1) := by rw [← Nat.pow_succ']; congr 1; omega
      have c1 : ((2 ^ (8 * k - 1) : Nat) : Int) = (2 : Int) ^ (8 * k - 1) := by rw [Int.natCast_pow]; rfl
      have c2 : ((2 ^ (8 * k) : Nat) : Int) = (2 : Int) ^ (8 * k) := by rw [Int.natCast_pow]; rfl
      show -(2 : Int) ^ (8 * k - 1) ≤ sgn k _ ∧ sgn k _ < _
      unfold sgn
      split <;> omega
    · unfold rdI
      rw [rdN_less _ _ _ _ h]
      exact hz
theorem rdV_bounds (st : St) : (rdV st).1 < 4294967296 := by
  cases st with
  | none => decide
  | some bs =>
    cases h : uvA 4 bs with
    | none => simp only [rdV, h]; decide
    | some x =>
      obtain ⟨n, r⟩ := x
      simp only [rdV, h]
      exact (uvA_spec 4 bs n r h).2
theorem rdI2_b (st : St) : -32768 ≤ (rdI 2 st).1 ∧ (rdI 2 st).1 ≤ 32767 := by
  have h := rdI_bounds 2 st (by decide)
  have e : (2 : Int) ^ (8 * 2 - 1) = 32768 := rfl
  rw [e] at h
  omega
theorem rdI4_b (st : St) : -2147483648 ≤ (rdI 4 st).1 ∧ (rdI 4 st).1 ≤ 2147483647 := by
  have h := rdI_bounds 4 st (by decide)
  have e : (2 : Int) ^ (8 * 4 - 1) = 2147483648 := rfl
  rw [e] at h
  omega

theorem rdText_str (st : St) : rdText false false 2 st = (Ts (rdSpan (rdI 2 st).1 (rdI 2 st).2).1, (rdSpan (rdI 2 st).1 (rdI 2 st).2).2) := by
  simp only [rdText, rdCount, Bool.false_eq_true, if_false, false_and]
set_option maxHeartbeats 400000 in
theorem String_any (w : World) (S : Nat → Prop) (rb : Nat) (st : St) (h : RdIs w S rb st) : Calls Tryd.prog 56 #[.pointer (some ⟨rb, 0, none⟩)] w fun e w' =>
    e = .returned (strV (rdText false false 2 st).1.s) ∧ RdIs w' S rb (rdText false false 2 st).2 ∧ w.grownBy w' (some rb) := by
  have hb := rdI2_b st
  rw [rdText_str]
  go_enter Tryd.func56, Tryd.ntmps56
  go_wp2_with fail
  refine (Int16_any w S rb st h).mono ?_
  rintro e w1 ⟨rfl, h1, g1⟩
  have b1 := hb.1
  have b2 := hb.2
  go_wp2_with fail
  refine (Span_any w1 S rb _ (rdI 2 st).1 h1 (by omega) (by omega)).mono ?_
  rintro e w2 ⟨v, rfl, hv, h2, g2⟩
  have hc := conv_string hv 22 9 rfl rfl
  have H1 := Lib.hid h1
  have H2 := Lib.hid h2
  have HV := Lib.hid hv
  clear h1 h2 hv
  go_wp2
  go_ret
  exact ⟨rfl, H2.out, grownBy_trans g1 g2⟩






theorem rdLen_ArrayLen (st : St) : rdLen false st = chkLen ((rdI 4 st).1) (rdI 4 st).2 := by
  simp only [rdLen, rdLen0, Bool.false_eq_true, if_false]
theorem ArrayLen_zero (st : St) (h : (rdI 4 st).2 = none) : (rdI 4 st).1 = 0 := by
  cases st with
  | none => rfl
  | some bs =>
    by_cases hk : 4 ≤ bs.length
    · unfold rdI at h; rw [rdN_some _ _ _ _ hk] at h; cases h
    · unfold rdI; rw [rdN_less _ _ _ _ hk]
set_option maxHeartbeats 400000 in
theorem ArrayLen_any (w : World) (S : Nat → Prop) (rb : Nat) (st : St) (h : RdIs w S rb st) : Calls Tryd.prog 54 #[.pointer (some ⟨rb, 0, none⟩)] w fun e w' =>
    e = .returned (.int .i32 (rdLen false st).1) ∧ RdIs w' S rb (rdLen false st).2 ∧ w.grownBy w' (some rb) := by
  rw [rdLen_ArrayLen]
  have hz := ArrayLen_zero st
  obtain ⟨u, hu⟩ : ∃ u, u = (rdI 4 st).1 := ⟨_, rfl⟩
  obtain ⟨s1, hs1⟩ : ∃ s, s = (rdI 4 st).2 := ⟨_, rfl⟩
  have u1 : -2147483648 ≤ u := by rw [hu]; exact (rdI4_b st).1
  have u2 : u ≤ 2147483647 := by rw [hu]; exact (rdI4_b st).2
  have hcall : Calls Tryd.prog 57 #[.pointer (some ⟨rb, 0, none⟩)] w fun e w' => e = .returned (.int .i32 u) ∧ RdIs w' S rb s1 ∧ w.grownBy w' (some rb) := by
    rw [hu, hs1]; exact Int32_any w S rb st h
  rw [← hu, ← hs1]
  rw [← hu, ← hs1] at hz
  clear hu hs1 h
  have H := Lib.hid hcall
  clear hcall
  cases s1 with
  | none =>
    obtain rfl := hz rfl
    have t0 : decide ((0 : Int) < 0) = false := by decide
    clear hz
    go_enter Tryd.func54, Tryd.ntmps54
    go_wp2_with fail
    refine H.out.mono ?_
    rintro e w1 ⟨rfl, h1, g1⟩
    obtain ⟨hv, h0, c0, c1, f0, f1⟩ := rd_parts_none h1
    have H1 := Lib.hid h1
    clear h1 hv H
    go_wp2
    go_ret
    exact ⟨rfl, H1.out, g1⟩
  | some bs =>
    clear hz
    by_cases hl : ((bs.length : Nat) : Int) < u
    · have e1 : chkLen (u) (some bs) = (0, none) := if_pos hl
      rw [e1]
      have t0 : decide (((bs.length : Nat) : Int) < u) = true := by simpa using hl
      clear e1 hl
      go_enter Tryd.func54, Tryd.ntmps54
      go_wp2_with fail
      refine H.out.mono ?_
      rintro e w1 ⟨rfl, h1, g1⟩
      obtain ⟨v, hv, hb, h0, c0, c1, f0, f1⟩ := rd_parts h1
      obtain ⟨ad, c, rfl⟩ := bytes_len hb
      have HV := Lib.hid hv
      clear h1 H hv hb
      go_wp2
      go_ret
      exact ⟨rfl, rd_fail h0 g1 HV.out⟩
    · have e1 : chkLen (u) (some bs) = (u, some bs) := if_neg hl
      rw [e1]
      have t0 : decide (((bs.length : Nat) : Int) < u) = false := by simpa using hl
      clear e1 hl
      go_enter Tryd.func54, Tryd.ntmps54
      go_wp2_with fail
      refine H.out.mono ?_
      rintro e w1 ⟨rfl, h1, g1⟩
      obtain ⟨v, hv, hb, h0, c0, c1, f0, f1⟩ := rd_parts h1
      obtain ⟨ad, c, rfl⟩ := bytes_len hb
      have H1 := Lib.hid h1
      clear h1 H hv hb
      go_wp2
      go_ret
      exact ⟨rfl, H1.out, g1⟩


end Go.Proofs.YthdfhnnoamlacaaDoor
/-
  Steps of straight code, each by one law, over any program and any frame. Conditions: none.
-/
namespace Go.Proofs.YthdfhnnoamlacaaDoor
open Go.RowKit (Below)

section
variable {P : Program}

/-- What a slot holds. -/
abbrev sl (a : Act) (t : Nat) : Value := a.tmps.getD t undef
section
variable {ops : Array Oper} {Q : Exit → Act → World → Prop} {rest : List Oper} {a : Act} {w : World} {d : Nat} {ty : TypeId} {pos : String} {aft : Array Edge}

end

/-- Some slots were written, all others are as they were. -/
structure Upd (a a' : Act) (W : List Nat) : Prop where
  size : a'.tmps.size = a.tmps.size
  defers : a'.defers = a.defers
  same : ∀ t, t ∉ W → sl a' t = sl a t
section
variable {Q : Exit → Act → World → Prop} {a : Act} {w : World} {id : Nat}

end
end
end Go.Proofs.YthdfhnnoamlacaaDoor
/-
  More regions: tests of a version, of a length, a call that is asked; steps of a loop. Conditions: none.
-/
namespace Go.Proofs.YthdfhnnoamlacaaDoor
open Go.RowKit (Below)

section
variable {P : Program}

section
variable {ops : Array Oper} {Q : Exit → Act → World → Prop} {rest : List Oper} {a : Act} {w : World} {d : Nat} {ty : TypeId} {pos : String} {aft : Array Edge} {j t : Nat} {want : Bool}
end

section
variable {Q : Exit → Act → World → Prop} {a : Act} {w : World} {id : Nat}

end
end
end Go.Proofs.YthdfhnnoamlacaaDoor
/-
  Operations of small functions, each by one law. Conditions: none.
-/
namespace Go.Proofs.YthdfhnnoamlacaaDoor
open Go.RowKit (Below)

section
variable {P : Program} {ρ : Operand → Value} {d : Option Nat} {ty : TypeId} {pos : String} {aft : Array Edge} {g : Option (Nat × Bool)} {w : World}
end

section
variable {P : Program} {Q : Exit → Act → World → Prop} {a : Act} {w : World} {id : Nat}
end
end Go.Proofs.YthdfhnnoamlacaaDoor
/-
  Code that reads: what a piece of it does to the reader, to the struct that it fills and to all else; pieces one behind the other. Conditions: none.
-/
namespace Go.Proofs.YthdfhnnoamlacaaDoor
open Go.RowKit (Below)
open Kz

/-- The slots that a code writes. -/
def writes : Code → List Nat
  | .region _ ops _ => ops.toList.filterMap (·.dst)
  | .seq a b => writes a ++ writes b
  | .cond _ a b => writes a ++ writes b
  | .block _ a => writes a
  | .loop a => writes a
  | .scope a => writes a
  | _ => []
/-- None of these slots is written. -/
def clear (l : List Nat) (c : Code) : Bool := l.all fun t => !(writes c).contains t
/-- The slots of a function that reads: how many, the reader, the version, unsafe, whether it is flexible, the result. -/
structure RE where
  N : Nat
  rs : Nat
  vs : Nat
  us : Nat
  fs : Option Nat
  res : Nat
structure Fr (E : RE) (rb : Nat) (v : Int) (flex : Bool) (a : Act) : Prop where
  size : a.tmps.size = E.N
  defers : a.defers = []
  rs : sl a E.rs = .pointer (some ⟨rb, 0, none⟩)
  vs : sl a E.vs = .int .i16 v
  us : sl a E.us = .bool false
  fs : ∀ t, E.fs = some t → sl a t = .bool flex
/-- A world in which the reader's block, some cells of a struct's block, and new blocks may have turned. -/
structure Md (w w' : World) (rb cb lo n : Nat) : Prop where
  os : w'.os = w.os
  tape : w'.tape = w.tape
  output : w'.output = w.output
  size : w.heap.size ≤ w'.heap.size
  block : ∀ k, k < w.heap.size → k ≠ rb → k ≠ cb → w'.heap[k]? = w.heap[k]?
  row : ∀ cells T, w.heap[cb]? = some (.cells cells T (0, 0)) → ∃ cells', w'.heap[cb]? = some (.cells cells' T (0, 0)) ∧ cells'.size = cells.size ∧ ∀ i, (i < lo ∨ lo + n ≤ i) → cells'[i]? = cells[i]?
/-- What holds before a piece of code that reads. -/
structure Pre (E : RE) (v : Int) (flex : Bool) (sp off n : Nat) (ini : (Nat → Option Value) → Prop) (rb : Nat) (S : Nat → Prop) (st : St) (cb co : Nat) (cells : Array Value) (T : TypeId) (a : Act) (w : World) : Prop where
  fr : Fr E rb v flex a
  ptr : sl a sp = .pointer (some ⟨cb, co, none⟩)
  rd : RdIs w S rb st
  err : ErrOk w
  rbe : rb ≠ 0
  cbe : cb ≠ 0
  ne : cb ≠ rb
  src : ¬ S cb
  old : ∀ g, S g → g < w.heap.size
  row : w.heap[cb]? = some (.cells cells T (0, 0))
  fit : co + off + n ≤ cells.size
  ini : ini (fun j => cells[co + off + j]?)

end Go.Proofs.YthdfhnnoamlacaaDoor
/-
  How a struct lies in memory: what its cells hold, of a tree. Conditions: none.
-/
namespace Go.Proofs.YthdfhnnoamlacaaDoor
open Go.RowKit (Below)
open Kz

abbrev Cells := Nat → Option Value
abbrev Rel (α : Type) := World → (Nat → Prop) → Cells → α → Prop

/-! ## What was said stays -/

theorem cell_kept {w w' : World} {g i : Nat} (h : w'.heap[g]? = w.heap[g]?) : w'.cell? ⟨g, i, none⟩ = w.cell? ⟨g, i, none⟩ := World.cell?_of_block h
theorem stable_bytes {w w' : World} {K K' : Nat → Prop} {v : Value} {bs : List UInt8} (hk : ∀ g, K g → g < w.heap.size → w'.heap[g]? = w.heap[g]?) (hs : w.heap.size ≤ w'.heap.size) (hK : ∀ g, K g → K' g)
    (h : BytesAt w K v bs) : BytesAt w' K' v bs := by
  rcases h with h | ⟨g, o, c, h1, h2, h2', h3, h4, h5⟩
  · exact .inl h
  · exact .inr ⟨g, o, c, h1, h2, h2', hK g h3, Nat.lt_of_lt_of_le h4 hs, fun i b hi => by rw [cell_kept (hk g h3 h4)]; exact h5 i b hi⟩

section
variable {tags : Rel (List (Nat × List UInt8))} {v : Int} {flex ht : Bool}
end

/-! ## What is ahead lies in the cells alone -/
end Go.Proofs.YthdfhnnoamlacaaDoor
