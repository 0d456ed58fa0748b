/-
  Memory; the reader of kbin; code that reads. Conditions: none.
-/
import Derived.Test.YtpknjenihcfhlaaDoorChecked
import Derived.Test.YtpknjenihcfhlaaDoorY1
import Derived.WalkKit
import Derived.WalkSpells
import Derived.Below
import Derived.Lib.Hide
import Derived.ScopeJumps
import Derived.Test.YtpknjenihcfhlaaDoorShelf
import Derived.Deep.RegionWith
import Derived.Laws.BitsAllLaws
import Derived.Laws.BytesString
import Derived.Lib.AppendZeros
import Derived.Deep.MidRow
/-
  Words for memory: octets that a slice holds, a reader's variable. Conditions: none.
-/
namespace Go.Proofs.YtpknjenihcfhlaaDoor
open Go.RowKit
open Kz

/-- A scope in which the run jumps once, to one label, from one known frame. -/
theorem scope_jump_at {P : Program} {a : Act} {w : World} {Q : Exit → Act → World → Prop} {c rest : Code} (l : Nat) (A : Act) (W : World) (hf : findLabel c l = some rest)
    (first : c.wp P (Exit.jump l (fun a' w' => a' = A ∧ w' = W) Q) a w) (pass : rest.wp P (Exit.jump l (fun _ _ => False) Q) A W) : (Code.scope c).wp P Q a w :=
  wp_scope_jumps l (fun a' w' => a' = A ∧ w' = W) (fun _ _ => 0) hf first (fun a' w' ⟨ha, hw⟩ => by
    subst ha; subst hw
    refine wp_mono pass (fun e a w hq => ?_)
    cases e with
    | goto l' => exact ⟨hq.1, hq.2.elim⟩
    | _ => exact hq)

/-- An octet in a cell. -/
def bv (b : UInt8) : Value := .int .u8 (b.toNat : Int)

/-- Octets that a slice holds, in a block of S. -/
def BytesAt (w : World) (S : Nat → Prop) (v : Value) (bs : List UInt8) : Prop :=
  (v = .slice none 0 0 ∧ bs = []) ∨ ∃ g o c, v = .slice (some ⟨g, o, none⟩) bs.length c ∧ bs.length ≤ c ∧ c ≤ 9223372036854775807 ∧ S g ∧ g < w.heap.size ∧ ∀ (i : Nat) (b : UInt8), bs[i]? = some b → w.cell? ⟨g, o + i, none⟩ = some (bv b)

/-- A reader's variable: what is left, or that it has failed. -/
def RdIs (w : World) (S : Nat → Prop) (rb : Nat) (st : St) : Prop :=
  ¬ S rb ∧ match st with
  | some bs => ∃ v, w.heap[rb]? = some (.cells #[v, .bool false] 85 (0, 0)) ∧ BytesAt w S v bs
  | none => w.heap[rb]? = some (.cells #[.slice none 0 0, .bool true] 85 (0, 0))

theorem bcell {W w1 : World} (hb : Below W.heap.size W w1) : (∀ b o, b < W.heap.size → w1.cell? ⟨b, o, none⟩ = W.cell? ⟨b, o, none⟩) ∧ (∀ b o, b < W.heap.size → w1.frozen? ⟨b, o, none⟩ = W.frozen? ⟨b, o, none⟩) :=
  ⟨fun b o h => hb.cell (p := ⟨b, o, none⟩) h, fun b o h => hb.frozen (p := ⟨b, o, none⟩) h⟩
theorem BytesAt.mono {w : World} {S S' : Nat → Prop} {v : Value} {bs : List UInt8} (h : BytesAt w S v bs) (hs : ∀ g, S g → S' g) : BytesAt w S' v bs := by
  rcases h with h | ⟨g, o, c, h1, h2, h2', h3, h4, h5⟩
  · exact .inl h
  · exact .inr ⟨g, o, c, h1, h2, h2', hs g h3, h4, h5⟩
theorem BytesAt.kept {w w' : World} {S : Nat → Prop} {v : Value} {bs : List UInt8} {row : Option Nat} (h : BytesAt w S v bs) (hg : w.grownBy w' row) (hr : ∀ g, S g → some g ≠ row) : BytesAt w' S v bs := by
  rcases h with h | ⟨g, o, c, h1, h2, h2', h3, h4, h5⟩
  · exact .inl h
  · exact .inr ⟨g, o, c, h1, h2, h2', h3, Nat.lt_of_lt_of_le h4 hg.size, fun i b hi => by
      rw [World.cell?_of_block (w := w) (w' := w') (hg.block g h4 (hr g h3))]
      exact h5 i b hi⟩

/-- A slice's end, from a place on. -/
theorem BytesAt.drop {w : World} {S : Nat → Prop} {g o c n : Nat} {bs : List UInt8} (k : Nat) (hk : k ≤ bs.length) (hn : n = bs.length) (h2 : bs.length ≤ c) (h2' : c ≤ 9223372036854775807) (h3 : S g) (h4 : g < w.heap.size)
    (h5 : ∀ (i : Nat) (b : UInt8), bs[i]? = some b → w.cell? ⟨g, o + i, none⟩ = some (bv b)) (ad : Addr) (had : ad = ⟨g, o + k, none⟩ ∨ (c = k ∧ ad = ⟨g, o, none⟩)) :
    BytesAt w S (.slice (some ad) (n - k) (c - k)) (bs.drop k) := by
  subst hn
  rcases had with rfl | ⟨rfl, rfl⟩
  · refine .inr ⟨g, o + k, c - k, by rw [List.length_drop], by rw [List.length_drop]; omega, by omega, h3, h4, fun i b hi => ?_⟩
    rw [List.getElem?_drop] at hi
    rw [Nat.add_assoc]
    exact h5 (k + i) b hi
  · refine .inr ⟨g, o, 0, by rw [List.length_drop]; congr 1; omega, by rw [List.length_drop]; omega, by omega, h3, h4, fun i b hi => ?_⟩
    rw [List.getElem?_drop, List.getElem?_eq_none (by omega)] at hi
    cases hi

theorem RdIs.lt {w : World} {S : Nat → Prop} {rb : Nat} {st : St} (h : RdIs w S rb st) : rb < w.heap.size := by
  obtain ⟨-, h⟩ := h
  cases st with
  | none => exact (Array.getElem?_eq_some_iff.1 h).1
  | some bs => obtain ⟨v, hv, -⟩ := h; exact (Array.getElem?_eq_some_iff.1 hv).1

theorem RdIs.kept {w w' : World} {S : Nat → Prop} {rb : Nat} {st : St} {row : Option Nat} (h : RdIs w S rb st) (hg : w.grownBy w' row) (hr : ∀ g, S g → some g ≠ row) (hrb : some rb ≠ row) : RdIs w' S rb st := by
  have hlt := h.lt
  obtain ⟨h0, h⟩ := h
  refine ⟨h0, ?_⟩
  cases st with
  | none => show w'.heap[rb]? = _; rw [hg.block rb hlt hrb]; exact h
  | some bs => obtain ⟨v, hv, hb⟩ := h; exact ⟨v, by rw [hg.block rb hlt hrb]; exact hv, hb.kept hg hr⟩

theorem grownBy_refl (w : World) (row : Option Nat) : w.grownBy w row := ⟨rfl, rfl, rfl, Nat.le_refl _, fun _ _ _ => rfl⟩
theorem grownBy_trans {a b c : World} {row : Option Nat} (h : a.grownBy b row) (k : b.grownBy c row) : a.grownBy c row :=
  ⟨k.os.trans h.os, k.tape.trans h.tape, k.output.trans h.output, Nat.le_trans h.size k.size, fun i hi hr => (k.block i (Nat.lt_of_lt_of_le hi h.size) hr).trans (h.block i hi hr)⟩
theorem below_grown {w w' : World} (h : Below w.heap.size w w') (row : Option Nat) : w.grownBy w' row := ⟨h.os, h.tape, h.output, h.size, fun k hk _ => h.block k hk⟩
theorem grown_setCell {w w1 : World} {rb : Nat} (h : w.grownBy w1 (some rb)) (o : Nat) (u : Value) : w.grownBy (w1.setCell ⟨rb, o, none⟩ u) (some rb) :=
  grownBy_trans h ⟨rfl, rfl, rfl, by simp [World.setCell], fun k hk hr => Below.heap_setCell _ _ _ _ (fun e => hr (by rw [e]))⟩
theorem heap_setCell_row {w : World} {rb o : Nat} {u : Value} {cs : Array Value} {t : TypeId} {fr : Nat × Nat} (h : w.heap[rb]? = some (.cells cs t fr)) :
    (w.setCell ⟨rb, o, none⟩ u).heap[rb]? = some (.cells (cs.setIfInBounds o u) t fr) := by
  simp only [World.setCell, Array.getElem?_modify, if_true, h, Option.map_some]
  simp

/-- A reader that fails. -/
theorem rd_fail {w w1 : World} {S : Nat → Prop} {rb : Nat} {v : Value} {q : Bool} (hS : ¬ S rb) (hg : w.grownBy w1 (some rb)) (h : w1.heap[rb]? = some (.cells #[v, .bool q] 85 (0, 0))) :
    RdIs ((w1.setCell ⟨rb, 1, none⟩ (.bool true)).setCell ⟨rb, 0, none⟩ (.slice none 0 0)) S rb none ∧ w.grownBy ((w1.setCell ⟨rb, 1, none⟩ (.bool true)).setCell ⟨rb, 0, none⟩ (.slice none 0 0)) (some rb) :=
  ⟨⟨hS, heap_setCell_row (heap_setCell_row h)⟩, grown_setCell (grown_setCell hg 1 _) 0 _⟩
/-- A reader that goes on. -/
theorem rd_on {w w1 : World} {S : Nat → Prop} {rb : Nat} {v v' : Value} {bs : List UInt8} (hS : ¬ S rb) (hg : w.grownBy w1 (some rb)) (h : w1.heap[rb]? = some (.cells #[v, .bool false] 85 (0, 0))) (hb : BytesAt w1 S v' bs) :
    RdIs (w1.setCell ⟨rb, 0, none⟩ v') S rb (some bs) ∧ w.grownBy (w1.setCell ⟨rb, 0, none⟩ v') (some rb) :=
  ⟨⟨hS, v', heap_setCell_row h, hb.kept (row := some rb) (grown_setCell (grownBy_refl _ _) 0 _) (fun g hg e => hS (by rw [← Option.some.inj e]; exact hg))⟩, grown_setCell hg 0 _⟩

/-- A reader that goes on: what it holds, cell by cell. -/
theorem rd_parts {w : World} {S : Nat → Prop} {rb : Nat} {bs : List UInt8} (h : RdIs w S rb (some bs)) : ∃ v, w.heap[rb]? = some (.cells #[v, .bool false] 85 (0, 0)) ∧ BytesAt w S v bs ∧ ¬ S rb ∧
    w.cell? ⟨rb, 0, none⟩ = some v ∧ w.cell? ⟨rb, 1, none⟩ = some (.bool false) ∧ w.frozen? ⟨rb, 0, none⟩ = false ∧ w.frozen? ⟨rb, 1, none⟩ = false := by
  obtain ⟨h0, v, hv, hb⟩ := h
  exact ⟨v, hv, hb, h0, by rw [cell_of_row w rb 0 _ _ _ hv]; rfl, by rw [cell_of_row w rb 1 _ _ _ hv]; rfl, by simp [World.frozen?, hv], by simp [World.frozen?, hv]⟩
theorem rd_parts_none {w : World} {S : Nat → Prop} {rb : Nat} (h : RdIs w S rb none) : w.heap[rb]? = some (.cells #[.slice none 0 0, .bool true] 85 (0, 0)) ∧ ¬ S rb ∧
    w.cell? ⟨rb, 0, none⟩ = some (.slice none 0 0) ∧ w.cell? ⟨rb, 1, none⟩ = some (.bool true) ∧ w.frozen? ⟨rb, 0, none⟩ = false ∧ w.frozen? ⟨rb, 1, none⟩ = false := by
  obtain ⟨h0, hv⟩ := h
  exact ⟨hv, h0, by rw [cell_of_row w rb 0 _ _ _ hv]; rfl, by rw [cell_of_row w rb 1 _ _ _ hv]; rfl, by simp [World.frozen?, hv], by simp [World.frozen?, hv]⟩
theorem bytes_len {w : World} {S : Nat → Prop} {v : Value} {bs : List UInt8} (h : BytesAt w S v bs) : ∃ ad c, v = .slice ad bs.length c := by
  rcases h with ⟨rfl, rfl⟩ | ⟨g, o, c, rfl, -⟩
  · exact ⟨_, _, rfl⟩
  · exact ⟨_, _, rfl⟩
end Go.Proofs.YtpknjenihcfhlaaDoor
/-
  The package's reader: numbers of so many octets. What each call answers, and what is left. Conditions: none.
-/
namespace Go.Proofs.YtpknjenihcfhlaaDoor
open Go.RowKit (Below)
open Kz


set_option maxHeartbeats 400000 in
theorem Int16_short (w : World) (rb n c : Nat) (ad : Option Addr) (q : Bool) (hn : n < 2)
    (c0 : w.cell? ⟨rb, 0, none⟩ = some (.slice ad n c)) (c1 : w.cell? ⟨rb, 1, none⟩ = some (.bool q)) (f0 : w.frozen? ⟨rb, 0, none⟩ = false) (f1 : w.frozen? ⟨rb, 1, none⟩ = false) :
    Calls Tryd.prog 78 #[.pointer (some ⟨rb, 0, none⟩)] w fun e w' =>
      e = .returned (.int .i16 0) ∧ w' = (w.setCell ⟨rb, 1, none⟩ (.bool true)).setCell ⟨rb, 0, none⟩ (.slice none 0 0) := by
  go_enter Tryd.func78, Tryd.ntmps78
  go_wp2
  go_ret
  exact ⟨rfl, rfl⟩

set_option maxHeartbeats 400000 in
theorem Int16_good (w : World) (rb n c g o : Nat) (b0 b1 : UInt8) (hn : 2 ≤ n) (hc : n ≤ c) (hc2 : c ≤ 9223372036854775807) (hrb : rb < w.heap.size)
    (c0 : w.cell? ⟨rb, 0, none⟩ = some (.slice (some ⟨g, o, none⟩) n c)) (f0 : w.frozen? ⟨rb, 0, none⟩ = false)
    (d0 : w.cell? ⟨g, o, none⟩ = some (.int .u8 b0.toNat)) (d1 : w.cell? ⟨g, o + 1, none⟩ = some (.int .u8 b1.toNat)) :
    Calls Tryd.prog 78 #[.pointer (some ⟨rb, 0, none⟩)] w fun e w' =>
      e = .returned (.int .i16 (IntKind.i16.wrap (Lib.beNat [b0, b1]))) ∧ ∃ w1 ad, Below w.heap.size w w1 ∧ (ad = ⟨g, o + 2, none⟩ ∨ (c = 2 ∧ ad = ⟨g, o, none⟩)) ∧ w' = w1.setCell ⟨rb, 0, none⟩ (.slice (some ad) (n - 2) (c - 2)) := by
  by_cases hne : c = 2
  · subst hne
    obtain rfl : n = 2 := by omega
    go_enter Tryd.func78, Tryd.ntmps78
    go_wp2_with fail
    go_region_with (go_at_call 103; refine (Tryd.binary_BE_Uint16 _ _ _ _ b0 b1 _ (by exact hn) (by exact d0) (by exact d1)).mono ?_; rintro e w1 ⟨rfl, hb⟩)
    all_goals
      have k0 := (hb.cell (p := ⟨rb, 0, none⟩) hrb).trans c0
      have k1 := (hb.frozen (p := ⟨rb, 0, none⟩) hrb).trans f0
      have hb' : Below w.heap.size w w1 := ((Below.refl _ _).drew).trans hb
      clear hb c0 f0 d0 d1 hn hc
      go_wp2
      go_ret
      exact ⟨rfl, w1, _, hb', .inr ⟨by trivial, rfl⟩, rfl⟩
  · go_enter Tryd.func78, Tryd.ntmps78
    go_wp2_with fail
    go_region_with (go_at_call 103; refine (Tryd.binary_BE_Uint16 _ _ _ _ b0 b1 _ (by exact hn) (by exact d0) (by exact d1)).mono ?_; rintro e w1 ⟨rfl, hb⟩)
    all_goals
      have k0 := (hb.cell (p := ⟨rb, 0, none⟩) hrb).trans c0
      have k1 := (hb.frozen (p := ⟨rb, 0, none⟩) hrb).trans f0
      have hb' : Below w.heap.size w w1 := ((Below.refl _ _).drew).trans hb
      clear hb c0 f0 d0 d1
      go_wp2
      go_ret
      exact ⟨rfl, w1, _, hb', .inl rfl, rfl⟩





set_option maxHeartbeats 400000 in
theorem Int32_short (w : World) (rb n c : Nat) (ad : Option Addr) (q : Bool) (hn : n < 4)
    (c0 : w.cell? ⟨rb, 0, none⟩ = some (.slice ad n c)) (c1 : w.cell? ⟨rb, 1, none⟩ = some (.bool q)) (f0 : w.frozen? ⟨rb, 0, none⟩ = false) (f1 : w.frozen? ⟨rb, 1, none⟩ = false) :
    Calls Tryd.prog 77 #[.pointer (some ⟨rb, 0, none⟩)] w fun e w' =>
      e = .returned (.int .i32 0) ∧ w' = (w.setCell ⟨rb, 1, none⟩ (.bool true)).setCell ⟨rb, 0, none⟩ (.slice none 0 0) := by
  go_enter Tryd.func77, Tryd.ntmps77
  go_wp2
  go_ret
  exact ⟨rfl, rfl⟩

set_option maxHeartbeats 400000 in
theorem Int32_good (w : World) (rb n c g o : Nat) (b0 b1 b2 b3 : UInt8) (hn : 4 ≤ n) (hc : n ≤ c) (hc2 : c ≤ 9223372036854775807) (hrb : rb < w.heap.size)
    (c0 : w.cell? ⟨rb, 0, none⟩ = some (.slice (some ⟨g, o, none⟩) n c)) (f0 : w.frozen? ⟨rb, 0, none⟩ = false)
    (d0 : w.cell? ⟨g, o, none⟩ = some (.int .u8 b0.toNat)) (d1 : w.cell? ⟨g, o + 1, none⟩ = some (.int .u8 b1.toNat)) (d2 : w.cell? ⟨g, o + 2, none⟩ = some (.int .u8 b2.toNat)) (d3 : w.cell? ⟨g, o + 3, none⟩ = some (.int .u8 b3.toNat)) :
    Calls Tryd.prog 77 #[.pointer (some ⟨rb, 0, none⟩)] w fun e w' =>
      e = .returned (.int .i32 (RowKit.wrap32 (Lib.beNat [b0, b1, b2, b3]))) ∧ ∃ w1 ad, Below w.heap.size w w1 ∧ (ad = ⟨g, o + 4, none⟩ ∨ (c = 4 ∧ ad = ⟨g, o, none⟩)) ∧ w' = w1.setCell ⟨rb, 0, none⟩ (.slice (some ad) (n - 4) (c - 4)) := by
  by_cases hne : c = 4
  · subst hne
    obtain rfl : n = 4 := by omega
    go_enter Tryd.func77, Tryd.ntmps77
    go_wp2_with fail
    go_region_with (go_at_call 102; refine (Tryd.binary_BE_Uint32 _ _ _ _ b0 b1 b2 b3 _ (by exact hn) (by exact d0) (by exact d1) (by exact d2) (by exact d3)).mono ?_; rintro e w1 ⟨rfl, hb⟩)
    all_goals
      have k0 := (hb.cell (p := ⟨rb, 0, none⟩) hrb).trans c0
      have k1 := (hb.frozen (p := ⟨rb, 0, none⟩) hrb).trans f0
      have hb' : Below w.heap.size w w1 := ((Below.refl _ _).drew).trans hb
      clear hb c0 f0 d0 d1 d2 d3 hn hc
      go_wp2
      go_ret
      exact ⟨rfl, w1, _, hb', .inr ⟨by trivial, rfl⟩, rfl⟩
  · go_enter Tryd.func77, Tryd.ntmps77
    go_wp2_with fail
    go_region_with (go_at_call 102; refine (Tryd.binary_BE_Uint32 _ _ _ _ b0 b1 b2 b3 _ (by exact hn) (by exact d0) (by exact d1) (by exact d2) (by exact d3)).mono ?_; rintro e w1 ⟨rfl, hb⟩)
    all_goals
      have k0 := (hb.cell (p := ⟨rb, 0, none⟩) hrb).trans c0
      have k1 := (hb.frozen (p := ⟨rb, 0, none⟩) hrb).trans f0
      have hb' : Below w.heap.size w w1 := ((Below.refl _ _).drew).trans hb
      clear hb c0 f0 d0 d1 d2 d3
      go_wp2
      go_ret
      exact ⟨rfl, w1, _, hb', .inl rfl, rfl⟩


set_option maxHeartbeats 400000 in
theorem readUint64_short (w : World) (rb n c : Nat) (ad : Option Addr) (q : Bool) (hn : n < 8)
    (c0 : w.cell? ⟨rb, 0, none⟩ = some (.slice ad n c)) (c1 : w.cell? ⟨rb, 1, none⟩ = some (.bool q)) (f0 : w.frozen? ⟨rb, 0, none⟩ = false) (f1 : w.frozen? ⟨rb, 1, none⟩ = false) :
    Calls Tryd.prog 111 #[.pointer (some ⟨rb, 0, none⟩)] w fun e w' =>
      e = .returned (.int .u64 0) ∧ w' = (w.setCell ⟨rb, 1, none⟩ (.bool true)).setCell ⟨rb, 0, none⟩ (.slice none 0 0) := by
  go_enter Tryd.func111, Tryd.ntmps111
  go_wp2
  go_ret
  exact ⟨rfl, rfl⟩

set_option maxHeartbeats 400000 in
theorem readUint64_good (w : World) (rb n c g o : Nat) (b0 b1 b2 b3 b4 b5 b6 b7 : UInt8) (hn : 8 ≤ n) (hc : n ≤ c) (hc2 : c ≤ 9223372036854775807) (hrb : rb < w.heap.size)
    (c0 : w.cell? ⟨rb, 0, none⟩ = some (.slice (some ⟨g, o, none⟩) n c)) (f0 : w.frozen? ⟨rb, 0, none⟩ = false)
    (d0 : w.cell? ⟨g, o, none⟩ = some (.int .u8 b0.toNat)) (d1 : w.cell? ⟨g, o + 1, none⟩ = some (.int .u8 b1.toNat)) (d2 : w.cell? ⟨g, o + 2, none⟩ = some (.int .u8 b2.toNat)) (d3 : w.cell? ⟨g, o + 3, none⟩ = some (.int .u8 b3.toNat)) (d4 : w.cell? ⟨g, o + 4, none⟩ = some (.int .u8 b4.toNat)) (d5 : w.cell? ⟨g, o + 5, none⟩ = some (.int .u8 b5.toNat)) (d6 : w.cell? ⟨g, o + 6, none⟩ = some (.int .u8 b6.toNat)) (d7 : w.cell? ⟨g, o + 7, none⟩ = some (.int .u8 b7.toNat)) :
    Calls Tryd.prog 111 #[.pointer (some ⟨rb, 0, none⟩)] w fun e w' =>
      e = .returned (.int .u64 (Lib.beNat [b0, b1, b2, b3, b4, b5, b6, b7])) ∧ ∃ w1 ad, Below w.heap.size w w1 ∧ (ad = ⟨g, o + 8, none⟩ ∨ (c = 8 ∧ ad = ⟨g, o, none⟩)) ∧ w' = w1.setCell ⟨rb, 0, none⟩ (.slice (some ad) (n - 8) (c - 8)) := by
  by_cases hne : c = 8
  · subst hne
    obtain rfl : n = 8 := by omega
    go_enter Tryd.func111, Tryd.ntmps111
    go_wp2_with fail
    go_region_with (go_at_call 118; refine (Tryd.binary_BE_Uint64 _ _ _ _ b0 b1 b2 b3 b4 b5 b6 b7 _ (by exact hn) (by exact d0) (by exact d1) (by exact d2) (by exact d3) (by exact d4) (by exact d5) (by exact d6) (by exact d7)).mono ?_; rintro e w1 ⟨rfl, hb⟩)
    all_goals
      have k0 := (hb.cell (p := ⟨rb, 0, none⟩) hrb).trans c0
      have k1 := (hb.frozen (p := ⟨rb, 0, none⟩) hrb).trans f0
      have hb' : Below w.heap.size w w1 := ((Below.refl _ _).drew).trans hb
      clear hb c0 f0 d0 d1 d2 d3 d4 d5 d6 d7 hn hc
      go_wp2
      go_ret
      exact ⟨rfl, w1, _, hb', .inr ⟨by trivial, rfl⟩, rfl⟩
  · go_enter Tryd.func111, Tryd.ntmps111
    go_wp2_with fail
    go_region_with (go_at_call 118; refine (Tryd.binary_BE_Uint64 _ _ _ _ b0 b1 b2 b3 b4 b5 b6 b7 _ (by exact hn) (by exact d0) (by exact d1) (by exact d2) (by exact d3) (by exact d4) (by exact d5) (by exact d6) (by exact d7)).mono ?_; rintro e w1 ⟨rfl, hb⟩)
    all_goals
      have k0 := (hb.cell (p := ⟨rb, 0, none⟩) hrb).trans c0
      have k1 := (hb.frozen (p := ⟨rb, 0, none⟩) hrb).trans f0
      have hb' : Below w.heap.size w w1 := ((Below.refl _ _).drew).trans hb
      clear hb c0 f0 d0 d1 d2 d3 d4 d5 d6 d7
      go_wp2
      go_ret
      exact ⟨rfl, w1, _, hb', .inl rfl, rfl⟩
end Go.Proofs.YtpknjenihcfhlaaDoor
/-
  The package's reader, numbers: what each call answers and what is left, for every state of the reader. Conditions: none.
-/
namespace Go.Proofs.YtpknjenihcfhlaaDoor
open Go.RowKit (Below)
open Kz

theorem beNat_lib (l : List UInt8) : Lib.beNat l = Kz.beNat l := by
  have key : ∀ (l : List UInt8) (a : Nat), Lib.beFrom a l = l.foldl (fun a b => a * 256 + b.toNat) a := by
    intro l
    induction l with
    | nil => intro a; rfl
    | cons b l ih => intro a; simp only [Lib.beFrom, List.foldl_cons, ih]
  exact key l 0
theorem beNat_lt (l : List UInt8) : Kz.beNat l < 256 ^ l.length := by
  induction l with
  | nil => simp [Kz.beNat]
  | cons b l ih =>
    rw [beNat_cons, List.length_cons, Nat.pow_succ]
    have := b.toNat_lt
    have : b.toNat * 256 ^ l.length ≤ 255 * 256 ^ l.length := Nat.mul_le_mul_right _ (by omega)
    omega
theorem wrap16_eq (n : Int) : IntKind.i16.wrap n = if 32768 ≤ n % 65536 then n % 65536 - 65536 else n % 65536 := by
  show (if (true && decide (n % 65536 ≥ 32768)) = true then n % 65536 - 65536 else n % 65536) = _
  by_cases h : 32768 ≤ n % 65536
  · rw [if_pos h, if_pos (by simpa using h)]
  · rw [if_neg h, if_neg (by simpa using h)]
theorem wrap16_sgn (n : Nat) (h : n < 65536) : IntKind.i16.wrap (n : Int) = sgn 2 n := by
  rw [wrap16_eq]
  unfold sgn
  by_cases hn : n < 2 ^ (8 * 2 - 1)
  · rw [if_pos hn, if_neg (by omega)]; omega
  · rw [if_neg hn, if_pos (by omega)]; simp only [show (8 * 2 : Nat) = 16 from rfl]; omega
theorem wrap32_sgn (n : Nat) (h : n < 4294967296) : RowKit.wrap32 (n : Int) = sgn 4 n := by
  unfold RowKit.wrap32 sgn
  by_cases hn : n < 2 ^ (8 * 4 - 1)
  · rw [if_pos hn]; omega
  · rw [if_neg hn]; simp only [show (8 * 4 : Nat) = 32 from rfl] at hn ⊢; omega

theorem rdN_some {α : Type} (k : Nat) (g : List UInt8 → α) (z : α) (bs : List UInt8) (h : k ≤ bs.length) : rdN k g z (some bs) = (g (bs.take k), some (bs.drop k)) := if_pos h
theorem rdN_less {α : Type} (k : Nat) (g : List UInt8 → α) (z : α) (bs : List UInt8) (h : ¬ k ≤ bs.length) : rdN k g z (some bs) = (z, none) := if_neg h
/-- Octets that are there, one by one. -/
theorem bytes_some {w : World} {S : Nat → Prop} {v : Value} {b : UInt8} {bs : List UInt8} (h : BytesAt w S v (b :: bs)) : ∃ g o c, v = .slice (some ⟨g, o, none⟩) (bs.length + 1) c ∧ bs.length + 1 ≤ c ∧ c ≤ 9223372036854775807 ∧ S g ∧ g < w.heap.size ∧
    ∀ (i : Nat) (x : UInt8), (b :: bs)[i]? = some x → w.cell? ⟨g, o + i, none⟩ = some (bv x) := by
  rcases h with ⟨-, h⟩ | ⟨g, o, c, h1, h2, h3, h4, h5, h6⟩
  · cases h
  · exact ⟨g, o, c, h1, h2, h3, h4, h5, h6⟩

theorem Int16_any (w : World) (S : Nat → Prop) (rb : Nat) (st : St) (h : RdIs w S rb st) : Calls Tryd.prog 78 #[.pointer (some ⟨rb, 0, none⟩)] w fun e w' =>
    e = .returned (.int .i16 (rdI 2 st).1) ∧ RdIs w' S rb (rdI 2 st).2 ∧ w.grownBy w' (some rb) := by
  have hlt := h.lt
  cases st with
  | none =>
    obtain ⟨hv, h0, c0, c1, f0, f1⟩ := rd_parts_none h
    refine (Int16_short w rb 0 0 none true (by decide) c0 c1 f0 f1).mono ?_
    rintro e w' ⟨rfl, rfl⟩
    exact ⟨rfl, rd_fail h0 (grownBy_refl _ _) hv⟩
  | some bs =>
    obtain ⟨v, hv, hb, h0, c0, c1, f0, f1⟩ := rd_parts h
    by_cases hl : bs.length < 2
    · obtain ⟨ad, c, rfl⟩ := bytes_len hb
      refine (Int16_short w rb bs.length c ad false hl c0 c1 f0 f1).mono ?_
      rintro e w' ⟨rfl, rfl⟩
      have e1 : rdI 2 (some bs) = (0, none) := rdN_less _ _ _ _ (by omega)
      rw [e1]
      exact ⟨rfl, rd_fail h0 (grownBy_refl _ _) hv⟩
    · clear h
      obtain ⟨b0, r0, rfl⟩ : ∃ b l, bs = b :: l := by cases bs with | nil => simp at hl | cons b l => exact ⟨b, l, rfl⟩
      obtain ⟨b1, r1, rfl⟩ : ∃ b l, r0 = b :: l := by cases r0 with | nil => simp at hl | cons b l => exact ⟨b, l, rfl⟩
      obtain ⟨g, o, c, rfl, h2, h3, h4, h5, h6⟩ := bytes_some hb
      simp only [List.length_cons] at h2 hl c0 hv
      have e1 : rdI 2 (some (b0 :: b1 :: r1)) = (sgn 2 (Kz.beNat [b0, b1]), some r1) := by
        unfold rdI
        rw [rdN_some _ _ _ _ (by simp only [List.length_cons]; omega)]
        simp only [List.take_succ_cons, List.take_zero, List.drop_succ_cons, List.drop_zero]
      refine (Int16_good w rb (r1.length + 2) c g o b0 b1 (by omega) (by omega) h3 hlt (by rw [c0]) f0 (h6 0 b0 rfl) (h6 1 b1 rfl)).mono ?_
      rintro e w' ⟨rfl, w1, ad, hw1, had, rfl⟩
      have hg := below_grown hw1 (some rb)
      have hv1 : w1.heap[rb]? = some (.cells #[_, .bool false] 85 (0, 0)) := (hw1.block rb hlt).trans hv
      have hb1 := hb.kept hg (fun g hg e => h0 (by rw [← Option.some.inj e]; exact hg))
      rcases hb1 with ⟨hbad, -⟩ | ⟨g', o', c', k1, k2, k3, k4, k5, k6⟩
      · cases hbad
      simp only [Value.slice.injEq, Option.some.injEq, Addr.mk.injEq, and_true] at k1
      obtain ⟨⟨rfl, rfl⟩, -, rfl⟩ := k1
      have hd := BytesAt.drop (S := S) 2 (by simp only [List.length_cons]; omega) (show r1.length + 2 = (b0 :: b1 :: r1).length by simp only [List.length_cons]) k2 k3 k4 k5 k6 ad had
      rw [e1]
      refine ⟨?_, rd_on h0 hg hv1 hd⟩
      rw [show IntKind.i16.wrap (Lib.beNat [b0, b1]) = sgn 2 (Kz.beNat [b0, b1]) by rw [beNat_lib]; exact wrap16_sgn _ (by have := beNat_lt [b0, b1]; simpa using this)]


theorem Int32_any (w : World) (S : Nat → Prop) (rb : Nat) (st : St) (h : RdIs w S rb st) : Calls Tryd.prog 77 #[.pointer (some ⟨rb, 0, none⟩)] w fun e w' =>
    e = .returned (.int .i32 (rdI 4 st).1) ∧ RdIs w' S rb (rdI 4 st).2 ∧ w.grownBy w' (some rb) := by
  have hlt := h.lt
  cases st with
  | none =>
    obtain ⟨hv, h0, c0, c1, f0, f1⟩ := rd_parts_none h
    refine (Int32_short w rb 0 0 none true (by decide) c0 c1 f0 f1).mono ?_
    rintro e w' ⟨rfl, rfl⟩
    exact ⟨rfl, rd_fail h0 (grownBy_refl _ _) hv⟩
  | some bs =>
    obtain ⟨v, hv, hb, h0, c0, c1, f0, f1⟩ := rd_parts h
    by_cases hl : bs.length < 4
    · obtain ⟨ad, c, rfl⟩ := bytes_len hb
      refine (Int32_short w rb bs.length c ad false hl c0 c1 f0 f1).mono ?_
      rintro e w' ⟨rfl, rfl⟩
      have e1 : rdI 4 (some bs) = (0, none) := rdN_less _ _ _ _ (by omega)
      rw [e1]
      exact ⟨rfl, rd_fail h0 (grownBy_refl _ _) hv⟩
    · clear h
      obtain ⟨b0, r0, rfl⟩ : ∃ b l, bs = b :: l := by cases bs with | nil => simp at hl | cons b l => exact ⟨b, l, rfl⟩
      obtain ⟨b1, r1, rfl⟩ : ∃ b l, r0 = b :: l := by cases r0 with | nil => simp at hl | cons b l => exact ⟨b, l, rfl⟩
      obtain ⟨b2, r2, rfl⟩ : ∃ b l, r1 = b :: l := by cases r1 with | nil => simp at hl | cons b l => exact ⟨b, l, rfl⟩
      obtain ⟨b3, r3, rfl⟩ : ∃ b l, r2 = b :: l := by cases r2 with | nil => simp at hl | cons b l => exact ⟨b, l, rfl⟩
      obtain ⟨g, o, c, rfl, h2, h3, h4, h5, h6⟩ := bytes_some hb
      simp only [List.length_cons] at h2 hl c0 hv
      have e1 : rdI 4 (some (b0 :: b1 :: b2 :: b3 :: r3)) = (sgn 4 (Kz.beNat [b0, b1, b2, b3]), some r3) := by
        unfold rdI
        rw [rdN_some _ _ _ _ (by simp only [List.length_cons]; omega)]
        simp only [List.take_succ_cons, List.take_zero, List.drop_succ_cons, List.drop_zero]
      refine (Int32_good w rb (r3.length + 4) c g o b0 b1 b2 b3 (by omega) (by omega) h3 hlt (by rw [c0]) f0 (h6 0 b0 rfl) (h6 1 b1 rfl) (h6 2 b2 rfl) (h6 3 b3 rfl)).mono ?_
      rintro e w' ⟨rfl, w1, ad, hw1, had, rfl⟩
      have hg := below_grown hw1 (some rb)
      have hv1 : w1.heap[rb]? = some (.cells #[_, .bool false] 85 (0, 0)) := (hw1.block rb hlt).trans hv
      have hb1 := hb.kept hg (fun g hg e => h0 (by rw [← Option.some.inj e]; exact hg))
      rcases hb1 with ⟨hbad, -⟩ | ⟨g', o', c', k1, k2, k3, k4, k5, k6⟩
      · cases hbad
      simp only [Value.slice.injEq, Option.some.injEq, Addr.mk.injEq, and_true] at k1
      obtain ⟨⟨rfl, rfl⟩, -, rfl⟩ := k1
      have hd := BytesAt.drop (S := S) 4 (by simp only [List.length_cons]; omega) (show r3.length + 4 = (b0 :: b1 :: b2 :: b3 :: r3).length by simp only [List.length_cons]) k2 k3 k4 k5 k6 ad had
      rw [e1]
      refine ⟨?_, rd_on h0 hg hv1 hd⟩
      rw [show RowKit.wrap32 (Lib.beNat [b0, b1, b2, b3]) = sgn 4 (Kz.beNat [b0, b1, b2, b3]) by rw [beNat_lib]; exact wrap32_sgn _ (by have := beNat_lt [b0, b1, b2, b3]; simpa using this)]

theorem readUint64_any (w : World) (S : Nat → Prop) (rb : Nat) (st : St) (h : RdIs w S rb st) : Calls Tryd.prog 111 #[.pointer (some ⟨rb, 0, none⟩)] w fun e w' =>
    e = .returned (.int .u64 (rdU 8 st).1) ∧ RdIs w' S rb (rdU 8 st).2 ∧ w.grownBy w' (some rb) := by
  have hlt := h.lt
  cases st with
  | none =>
    obtain ⟨hv, h0, c0, c1, f0, f1⟩ := rd_parts_none h
    refine (readUint64_short w rb 0 0 none true (by decide) c0 c1 f0 f1).mono ?_
    rintro e w' ⟨rfl, rfl⟩
    exact ⟨rfl, rd_fail h0 (grownBy_refl _ _) hv⟩
  | some bs =>
    obtain ⟨v, hv, hb, h0, c0, c1, f0, f1⟩ := rd_parts h
    by_cases hl : bs.length < 8
    · obtain ⟨ad, c, rfl⟩ := bytes_len hb
      refine (readUint64_short w rb bs.length c ad false hl c0 c1 f0 f1).mono ?_
      rintro e w' ⟨rfl, rfl⟩
      have e1 : rdU 8 (some bs) = (0, none) := rdN_less _ _ _ _ (by omega)
      rw [e1]
      exact ⟨rfl, rd_fail h0 (grownBy_refl _ _) hv⟩
    · clear h
      obtain ⟨b0, r0, rfl⟩ : ∃ b l, bs = b :: l := by cases bs with | nil => simp at hl | cons b l => exact ⟨b, l, rfl⟩
      obtain ⟨b1, r1, rfl⟩ : ∃ b l, r0 = b :: l := by cases r0 with | nil => simp at hl | cons b l => exact ⟨b, l, rfl⟩
      obtain ⟨b2, r2, rfl⟩ : ∃ b l, r1 = b :: l := by cases r1 with | nil => simp at hl | cons b l => exact ⟨b, l, rfl⟩
      obtain ⟨b3, r3, rfl⟩ : ∃ b l, r2 = b :: l := by cases r2 with | nil => simp at hl | cons b l => exact ⟨b, l, rfl⟩
      obtain ⟨b4, r4, rfl⟩ : ∃ b l, r3 = b :: l := by cases r3 with | nil => simp at hl | cons b l => exact ⟨b, l, rfl⟩
      obtain ⟨b5, r5, rfl⟩ : ∃ b l, r4 = b :: l := by cases r4 with | nil => simp at hl | cons b l => exact ⟨b, l, rfl⟩
      obtain ⟨b6, r6, rfl⟩ : ∃ b l, r5 = b :: l := by cases r5 with | nil => simp at hl | cons b l => exact ⟨b, l, rfl⟩
      obtain ⟨b7, r7, rfl⟩ : ∃ b l, r6 = b :: l := by cases r6 with | nil => simp at hl | cons b l => exact ⟨b, l, rfl⟩
      obtain ⟨g, o, c, rfl, h2, h3, h4, h5, h6⟩ := bytes_some hb
      simp only [List.length_cons] at h2 hl c0 hv
      have e1 : rdU 8 (some (b0 :: b1 :: b2 :: b3 :: b4 :: b5 :: b6 :: b7 :: r7)) = ((Kz.beNat [b0, b1, b2, b3, b4, b5, b6, b7]), some r7) := by
        unfold rdU
        rw [rdN_some _ _ _ _ (by simp only [List.length_cons]; omega)]
        simp only [List.take_succ_cons, List.take_zero, List.drop_succ_cons, List.drop_zero]
      refine (readUint64_good w rb (r7.length + 8) c g o b0 b1 b2 b3 b4 b5 b6 b7 (by omega) (by omega) h3 hlt (by rw [c0]) f0 (h6 0 b0 rfl) (h6 1 b1 rfl) (h6 2 b2 rfl) (h6 3 b3 rfl) (h6 4 b4 rfl) (h6 5 b5 rfl) (h6 6 b6 rfl) (h6 7 b7 rfl)).mono ?_
      rintro e w' ⟨rfl, w1, ad, hw1, had, rfl⟩
      have hg := below_grown hw1 (some rb)
      have hv1 : w1.heap[rb]? = some (.cells #[_, .bool false] 85 (0, 0)) := (hw1.block rb hlt).trans hv
      have hb1 := hb.kept hg (fun g hg e => h0 (by rw [← Option.some.inj e]; exact hg))
      rcases hb1 with ⟨hbad, -⟩ | ⟨g', o', c', k1, k2, k3, k4, k5, k6⟩
      · cases hbad
      simp only [Value.slice.injEq, Option.some.injEq, Addr.mk.injEq, and_true] at k1
      obtain ⟨⟨rfl, rfl⟩, -, rfl⟩ := k1
      have hd := BytesAt.drop (S := S) 8 (by simp only [List.length_cons]; omega) (show r7.length + 8 = (b0 :: b1 :: b2 :: b3 :: b4 :: b5 :: b6 :: b7 :: r7).length by simp only [List.length_cons]) k2 k3 k4 k5 k6 ad had
      rw [e1]
      refine ⟨?_, rd_on h0 hg hv1 hd⟩
      rw [show (Lib.beNat [b0, b1, b2, b3, b4, b5, b6, b7] : Int) = (Kz.beNat [b0, b1, b2, b3, b4, b5, b6, b7] : Int) by rw [beNat_lib]]

end Go.Proofs.YtpknjenihcfhlaaDoor
/-
  The package's Uvarint: a number in groups of seven bits, read of octets. Conditions: none.
-/
namespace Go.Proofs.YtpknjenihcfhlaaDoor
open Go.RowKit (Below)
open Kz

set_option maxHeartbeats 800000 in
theorem Uvarint_r1 (w : World) (g o n c : Nat) (b0 : UInt8) (hn : 1 ≤ n)
    (d0 : w.cell? ⟨g, o, none⟩ = some (.int .u8 b0.toNat))
    (t0 : (bits BinOp.and IntKind.u8 (↑b0.toNat) 128 == 0) = true) :
    Calls Tryd.prog 112 #[.slice (some ⟨g, o, none⟩) n c] w fun e w' =>
      e = .returned (.tuple #[.int .u32 (bits BinOp.and IntKind.u8 (↑b0.toNat) 127 % 4294967296), .int .i64 1]) ∧ w = w' := by
  go_enter Tryd.func112, Tryd.ntmps112
  go_wp2
  go_step3
  go_wp2
  rw [Exit.noGoto_ret]
  go_ret2
  exact ⟨rfl, rfl⟩

set_option maxHeartbeats 800000 in
theorem Uvarint_r2 (w : World) (g o n c : Nat) (b0 b1 : UInt8) (hn : 2 ≤ n)
    (d0 : w.cell? ⟨g, o, none⟩ = some (.int .u8 b0.toNat)) (d1 : w.cell? ⟨g, o + 1, none⟩ = some (.int .u8 b1.toNat))
    (t0 : (bits BinOp.and IntKind.u8 (↑b0.toNat) 128 == 0) = false) (t1 : (bits BinOp.and IntKind.u8 (↑b1.toNat) 128 == 0) = true) :
    Calls Tryd.prog 112 #[.slice (some ⟨g, o, none⟩) n c] w fun e w' =>
      e = .returned (.tuple #[.int .u32 (bits BinOp.or IntKind.u32 (bits BinOp.and IntKind.u8 (↑b0.toNat) 127 % 4294967296) (bits BinOp.and IntKind.u8 (↑b1.toNat) 127 % 4294967296 * 128 % 4294967296)), .int .i64 2]) ∧ w = w' := by
  go_enter Tryd.func112, Tryd.ntmps112
  go_wp2
  go_step3
  go_wp2
  rw [Exit.noGoto_ret]
  go_ret2
  exact ⟨rfl, rfl⟩

set_option maxHeartbeats 800000 in
theorem Uvarint_r3 (w : World) (g o n c : Nat) (b0 b1 b2 : UInt8) (hn : 3 ≤ n)
    (d0 : w.cell? ⟨g, o, none⟩ = some (.int .u8 b0.toNat)) (d1 : w.cell? ⟨g, o + 1, none⟩ = some (.int .u8 b1.toNat)) (d2 : w.cell? ⟨g, o + 2, none⟩ = some (.int .u8 b2.toNat))
    (t0 : (bits BinOp.and IntKind.u8 (↑b0.toNat) 128 == 0) = false) (t1 : (bits BinOp.and IntKind.u8 (↑b1.toNat) 128 == 0) = false) (t2 : (bits BinOp.and IntKind.u8 (↑b2.toNat) 128 == 0) = true) :
    Calls Tryd.prog 112 #[.slice (some ⟨g, o, none⟩) n c] w fun e w' =>
      e = .returned (.tuple #[.int .u32 (bits BinOp.or IntKind.u32 (bits BinOp.or IntKind.u32 (bits BinOp.and IntKind.u8 (↑b0.toNat) 127 % 4294967296) (bits BinOp.and IntKind.u8 (↑b1.toNat) 127 % 4294967296 * 128 % 4294967296)) (bits BinOp.and IntKind.u8 (↑b2.toNat) 127 % 4294967296 * 16384 % 4294967296)), .int .i64 3]) ∧ w = w' := by
  go_enter Tryd.func112, Tryd.ntmps112
  go_wp2
  go_step3
  go_wp2
  rw [Exit.noGoto_ret]
  go_ret2
  exact ⟨rfl, rfl⟩

set_option maxHeartbeats 800000 in
theorem Uvarint_r4 (w : World) (g o n c : Nat) (b0 b1 b2 b3 : UInt8) (hn : 4 ≤ n)
    (d0 : w.cell? ⟨g, o, none⟩ = some (.int .u8 b0.toNat)) (d1 : w.cell? ⟨g, o + 1, none⟩ = some (.int .u8 b1.toNat)) (d2 : w.cell? ⟨g, o + 2, none⟩ = some (.int .u8 b2.toNat)) (d3 : w.cell? ⟨g, o + 3, none⟩ = some (.int .u8 b3.toNat))
    (t0 : (bits BinOp.and IntKind.u8 (↑b0.toNat) 128 == 0) = false) (t1 : (bits BinOp.and IntKind.u8 (↑b1.toNat) 128 == 0) = false) (t2 : (bits BinOp.and IntKind.u8 (↑b2.toNat) 128 == 0) = false) (t3 : (bits BinOp.and IntKind.u8 (↑b3.toNat) 128 == 0) = true) :
    Calls Tryd.prog 112 #[.slice (some ⟨g, o, none⟩) n c] w fun e w' =>
      e = .returned (.tuple #[.int .u32 (bits BinOp.or IntKind.u32 (bits BinOp.or IntKind.u32 (bits BinOp.or IntKind.u32 (bits BinOp.and IntKind.u8 (↑b0.toNat) 127 % 4294967296) (bits BinOp.and IntKind.u8 (↑b1.toNat) 127 % 4294967296 * 128 % 4294967296)) (bits BinOp.and IntKind.u8 (↑b2.toNat) 127 % 4294967296 * 16384 % 4294967296)) (bits BinOp.and IntKind.u8 (↑b3.toNat) 127 % 4294967296 * 2097152 % 4294967296)), .int .i64 4]) ∧ w = w' := by
  go_enter Tryd.func112, Tryd.ntmps112
  go_wp2
  go_step3
  go_wp2
  rw [Exit.noGoto_ret]
  go_ret2
  exact ⟨rfl, rfl⟩

set_option maxHeartbeats 800000 in
theorem Uvarint_r5 (w : World) (g o n c : Nat) (b0 b1 b2 b3 b4 : UInt8) (hn : 5 ≤ n)
    (d0 : w.cell? ⟨g, o, none⟩ = some (.int .u8 b0.toNat)) (d1 : w.cell? ⟨g, o + 1, none⟩ = some (.int .u8 b1.toNat)) (d2 : w.cell? ⟨g, o + 2, none⟩ = some (.int .u8 b2.toNat)) (d3 : w.cell? ⟨g, o + 3, none⟩ = some (.int .u8 b3.toNat)) (d4 : w.cell? ⟨g, o + 4, none⟩ = some (.int .u8 b4.toNat))
    (t0 : (bits BinOp.and IntKind.u8 (↑b0.toNat) 128 == 0) = false) (t1 : (bits BinOp.and IntKind.u8 (↑b1.toNat) 128 == 0) = false) (t2 : (bits BinOp.and IntKind.u8 (↑b2.toNat) 128 == 0) = false) (t3 : (bits BinOp.and IntKind.u8 (↑b3.toNat) 128 == 0) = false) (t4 : decide ((b4.toNat : Int) ≤ 15) = true) :
    Calls Tryd.prog 112 #[.slice (some ⟨g, o, none⟩) n c] w fun e w' =>
      e = .returned (.tuple #[.int .u32 (bits BinOp.or IntKind.u32 (bits BinOp.or IntKind.u32 (bits BinOp.or IntKind.u32 (bits BinOp.or IntKind.u32 (bits BinOp.and IntKind.u8 (↑b0.toNat) 127 % 4294967296) (bits BinOp.and IntKind.u8 (↑b1.toNat) 127 % 4294967296 * 128 % 4294967296)) (bits BinOp.and IntKind.u8 (↑b2.toNat) 127 % 4294967296 * 16384 % 4294967296)) (bits BinOp.and IntKind.u8 (↑b3.toNat) 127 % 4294967296 * 2097152 % 4294967296)) (↑b4.toNat % 4294967296 * 268435456 % 4294967296)), .int .i64 5]) ∧ w = w' := by
  go_enter Tryd.func112, Tryd.ntmps112
  go_wp2
  go_step3
  go_wp2
  rw [Exit.noGoto_ret]
  go_ret2
  exact ⟨rfl, rfl⟩

set_option maxHeartbeats 800000 in
theorem Uvarint_f0 (w : World) (c : Nat) (ad : Option Addr) 
     :
    Calls Tryd.prog 112 #[.slice ad 0 c] w fun e w' =>
      e = .returned (.tuple #[.int .u32 0, .int .i64 0]) ∧ w = w' := by
  go_enter Tryd.func112, Tryd.ntmps112
  go_wp2
  apply scope_jump_at (l := 0) (W := w) (hf := rfl)
  case first =>
    go_wp2
    refine wp_goto ?_
    exact ⟨rfl, rfl, rfl⟩
  case pass =>
    go_wp2
    simp only [Exit.jump]
    go_ret2
    exact ⟨rfl, rfl⟩

set_option maxHeartbeats 800000 in
theorem Uvarint_f1 (w : World) (g o c : Nat) (b0 : UInt8)
    (d0 : w.cell? ⟨g, o, none⟩ = some (.int .u8 b0.toNat))
    (t0 : (bits BinOp.and IntKind.u8 (↑b0.toNat) 128 == 0) = false) :
    Calls Tryd.prog 112 #[.slice (some ⟨g, o, none⟩) 1 c] w fun e w' =>
      e = .returned (.tuple #[.int .u32 0, .int .i64 0]) ∧ w = w' := by
  go_enter Tryd.func112, Tryd.ntmps112
  go_wp2
  apply scope_jump_at (l := 0) (W := w) (hf := rfl)
  case first =>
    go_wp2
    refine wp_goto ?_
    exact ⟨rfl, rfl, rfl⟩
  case pass =>
    go_wp2
    simp only [Exit.jump]
    go_ret2
    exact ⟨rfl, rfl⟩

set_option maxHeartbeats 800000 in
theorem Uvarint_f2 (w : World) (g o c : Nat) (b0 b1 : UInt8)
    (d0 : w.cell? ⟨g, o, none⟩ = some (.int .u8 b0.toNat)) (d1 : w.cell? ⟨g, o + 1, none⟩ = some (.int .u8 b1.toNat))
    (t0 : (bits BinOp.and IntKind.u8 (↑b0.toNat) 128 == 0) = false) (t1 : (bits BinOp.and IntKind.u8 (↑b1.toNat) 128 == 0) = false) :
    Calls Tryd.prog 112 #[.slice (some ⟨g, o, none⟩) 2 c] w fun e w' =>
      e = .returned (.tuple #[.int .u32 0, .int .i64 0]) ∧ w = w' := by
  go_enter Tryd.func112, Tryd.ntmps112
  go_wp2
  apply scope_jump_at (l := 0) (W := w) (hf := rfl)
  case first =>
    go_wp2
    refine wp_goto ?_
    exact ⟨rfl, rfl, rfl⟩
  case pass =>
    go_wp2
    simp only [Exit.jump]
    go_ret2
    exact ⟨rfl, rfl⟩

set_option maxHeartbeats 800000 in
theorem Uvarint_f3 (w : World) (g o c : Nat) (b0 b1 b2 : UInt8)
    (d0 : w.cell? ⟨g, o, none⟩ = some (.int .u8 b0.toNat)) (d1 : w.cell? ⟨g, o + 1, none⟩ = some (.int .u8 b1.toNat)) (d2 : w.cell? ⟨g, o + 2, none⟩ = some (.int .u8 b2.toNat))
    (t0 : (bits BinOp.and IntKind.u8 (↑b0.toNat) 128 == 0) = false) (t1 : (bits BinOp.and IntKind.u8 (↑b1.toNat) 128 == 0) = false) (t2 : (bits BinOp.and IntKind.u8 (↑b2.toNat) 128 == 0) = false) :
    Calls Tryd.prog 112 #[.slice (some ⟨g, o, none⟩) 3 c] w fun e w' =>
      e = .returned (.tuple #[.int .u32 0, .int .i64 0]) ∧ w = w' := by
  go_enter Tryd.func112, Tryd.ntmps112
  go_wp2
  apply scope_jump_at (l := 0) (W := w) (hf := rfl)
  case first =>
    go_wp2
    refine wp_goto ?_
    exact ⟨rfl, rfl, rfl⟩
  case pass =>
    go_wp2
    simp only [Exit.jump]
    go_ret2
    exact ⟨rfl, rfl⟩

set_option maxHeartbeats 800000 in
theorem Uvarint_f4 (w : World) (g o c : Nat) (b0 b1 b2 b3 : UInt8)
    (d0 : w.cell? ⟨g, o, none⟩ = some (.int .u8 b0.toNat)) (d1 : w.cell? ⟨g, o + 1, none⟩ = some (.int .u8 b1.toNat)) (d2 : w.cell? ⟨g, o + 2, none⟩ = some (.int .u8 b2.toNat)) (d3 : w.cell? ⟨g, o + 3, none⟩ = some (.int .u8 b3.toNat))
    (t0 : (bits BinOp.and IntKind.u8 (↑b0.toNat) 128 == 0) = false) (t1 : (bits BinOp.and IntKind.u8 (↑b1.toNat) 128 == 0) = false) (t2 : (bits BinOp.and IntKind.u8 (↑b2.toNat) 128 == 0) = false) (t3 : (bits BinOp.and IntKind.u8 (↑b3.toNat) 128 == 0) = false) :
    Calls Tryd.prog 112 #[.slice (some ⟨g, o, none⟩) 4 c] w fun e w' =>
      e = .returned (.tuple #[.int .u32 0, .int .i64 0]) ∧ w = w' := by
  go_enter Tryd.func112, Tryd.ntmps112
  go_wp2
  apply scope_jump_at (l := 0) (W := w) (hf := rfl)
  case first =>
    go_wp2
    refine wp_goto ?_
    exact ⟨rfl, rfl, rfl⟩
  case pass =>
    go_wp2
    simp only [Exit.jump]
    go_ret2
    exact ⟨rfl, rfl⟩

set_option maxHeartbeats 800000 in
theorem Uvarint_over (w : World) (g o n c : Nat) (b0 b1 b2 b3 b4 : UInt8) (hn : 5 ≤ n)
    (d0 : w.cell? ⟨g, o, none⟩ = some (.int .u8 b0.toNat)) (d1 : w.cell? ⟨g, o + 1, none⟩ = some (.int .u8 b1.toNat)) (d2 : w.cell? ⟨g, o + 2, none⟩ = some (.int .u8 b2.toNat)) (d3 : w.cell? ⟨g, o + 3, none⟩ = some (.int .u8 b3.toNat)) (d4 : w.cell? ⟨g, o + 4, none⟩ = some (.int .u8 b4.toNat))
    (t0 : (bits BinOp.and IntKind.u8 (↑b0.toNat) 128 == 0) = false) (t1 : (bits BinOp.and IntKind.u8 (↑b1.toNat) 128 == 0) = false) (t2 : (bits BinOp.and IntKind.u8 (↑b2.toNat) 128 == 0) = false) (t3 : (bits BinOp.and IntKind.u8 (↑b3.toNat) 128 == 0) = false) (t4 : decide ((b4.toNat : Int) ≤ 15) = false) :
    Calls Tryd.prog 112 #[.slice (some ⟨g, o, none⟩) n c] w fun e w' =>
      e = .returned (.tuple #[.int .u32 0, .int .i64 (-5)]) ∧ w = w' := by
  go_enter Tryd.func112, Tryd.ntmps112
  go_wp2
  go_step3
  go_wp2
  go_step3
  go_wp2
  rw [Exit.noGoto_ret]
  go_ret2
  exact ⟨rfl, rfl⟩

end Go.Proofs.YtpknjenihcfhlaaDoor
/-
  The package's reader: numbers in groups of seven bits. What the call answers, and what is left, for every state of the reader. Conditions: none.
-/
namespace Go.Proofs.YtpknjenihcfhlaaDoor
open Go.RowKit (Below)
open Kz

theorem and127 (b : UInt8) : bits BinOp.and IntKind.u8 (b.toNat : Int) 127 = ((b.toNat % 128 : Nat) : Int) := by
  have h := u8_and_nat b.toNat 127 b.toNat_lt (by decide)
  have e : b.toNat &&& 127 = b.toNat % 128 := Nat.and_two_pow_sub_one_eq_mod b.toNat 7
  rw [e] at h
  exact h
theorem and128 (b : UInt8) : (bits BinOp.and IntKind.u8 (b.toNat : Int) 128 == 0) = decide (b.toNat < 128) := by
  have h := u8_and_nat b.toNat 128 b.toNat_lt (by decide)
  have e : b.toNat &&& 128 = b.toNat / 128 % 2 * 128 := nat_bit 7 b.toNat
  have hb := b.toNat_lt
  rw [e] at h
  have h' : bits BinOp.and IntKind.u8 (b.toNat : Int) 128 = ((b.toNat / 128 % 2 * 128 : Nat) : Int) := h
  rw [h', Bool.eq_iff_iff]
  simp only [beq_iff_eq, decide_eq_true_eq]
  omega
theorem or_join (i x y : Nat) (hy : y % 2 ^ i = 0) (hx : x < 2 ^ i) (h1 : x < 4294967296) (h2 : y < 4294967296) : bits BinOp.or IntKind.u32 (x : Int) (y : Int) = ((x + y : Nat) : Int) := by
  rw [u32_or_nat x y h1 h2, Nat.or_comm, nat_join i y x hy hx, Nat.add_comm]
theorem cast_mod (x m : Nat) : (x : Int) % (m : Int) = ((x % m : Nat) : Int) := by omega

theorem uv_raw1 (b0 : UInt8) : bits BinOp.and IntKind.u8 (↑b0.toNat) 127 % 4294967296 = ((b0.toNat % 128 : Nat) : Int) := by
  rw [and127]; omega
theorem uv_part (b : UInt8) (k : Nat) (hk : k ≤ 33554431) : bits BinOp.and IntKind.u8 (↑b.toNat) 127 % 4294967296 * (k : Int) % 4294967296 = ((b.toNat % 128 * k : Nat) : Int) := by
  rw [and127]
  have h1 : ((b.toNat % 128 : Nat) : Int) % 4294967296 = ((b.toNat % 128 : Nat) : Int) := by omega
  rw [h1, ← Int.natCast_mul]
  have h2 : b.toNat % 128 * k ≤ 127 * 33554431 := Nat.mul_le_mul (by omega) hk
  omega
theorem uv_raw2 (b0 b1 : UInt8) : bits BinOp.or IntKind.u32 (bits BinOp.and IntKind.u8 (↑b0.toNat) 127 % 4294967296) (bits BinOp.and IntKind.u8 (↑b1.toNat) 127 % 4294967296 * 128 % 4294967296) = ((b0.toNat % 128 + 128 * (b1.toNat % 128) : Nat) : Int) := by
  have h := uv_part b1 128 (by decide)
  rw [show ((128 : Nat) : Int) = 128 from rfl] at h
  rw [h, and127, show ((b0.toNat % 128 : Nat) : Int) % 4294967296 = ((b0.toNat % 128 : Nat) : Int) by omega, or_join 7 _ _ (by omega) (by omega) (by omega) (by omega)]
  congr 1; omega
theorem uv_raw3 (b0 b1 b2 : UInt8) : bits BinOp.or IntKind.u32 (bits BinOp.or IntKind.u32 (bits BinOp.and IntKind.u8 (↑b0.toNat) 127 % 4294967296) (bits BinOp.and IntKind.u8 (↑b1.toNat) 127 % 4294967296 * 128 % 4294967296))
    (bits BinOp.and IntKind.u8 (↑b2.toNat) 127 % 4294967296 * 16384 % 4294967296) = ((b0.toNat % 128 + 128 * (b1.toNat % 128 + 128 * (b2.toNat % 128)) : Nat) : Int) := by
  have h := uv_part b2 16384 (by decide)
  rw [show ((16384 : Nat) : Int) = 16384 from rfl] at h
  rw [h, uv_raw2, or_join 14 _ _ (by omega) (by omega) (by omega) (by omega)]
  congr 1; omega
theorem uv_raw4 (b0 b1 b2 b3 : UInt8) : bits BinOp.or IntKind.u32 (bits BinOp.or IntKind.u32 (bits BinOp.or IntKind.u32 (bits BinOp.and IntKind.u8 (↑b0.toNat) 127 % 4294967296) (bits BinOp.and IntKind.u8 (↑b1.toNat) 127 % 4294967296 * 128 % 4294967296))
    (bits BinOp.and IntKind.u8 (↑b2.toNat) 127 % 4294967296 * 16384 % 4294967296)) (bits BinOp.and IntKind.u8 (↑b3.toNat) 127 % 4294967296 * 2097152 % 4294967296) =
    ((b0.toNat % 128 + 128 * (b1.toNat % 128 + 128 * (b2.toNat % 128 + 128 * (b3.toNat % 128))) : Nat) : Int) := by
  have h := uv_part b3 2097152 (by decide)
  rw [show ((2097152 : Nat) : Int) = 2097152 from rfl] at h
  rw [h, uv_raw3, or_join 21 _ _ (by omega) (by omega) (by omega) (by omega)]
  congr 1; omega
theorem uv_raw5 (b0 b1 b2 b3 b4 : UInt8) (hb : b4.toNat ≤ 15) : bits BinOp.or IntKind.u32 (bits BinOp.or IntKind.u32 (bits BinOp.or IntKind.u32 (bits BinOp.or IntKind.u32 (bits BinOp.and IntKind.u8 (↑b0.toNat) 127 % 4294967296) (bits BinOp.and IntKind.u8 (↑b1.toNat) 127 % 4294967296 * 128 % 4294967296))
    (bits BinOp.and IntKind.u8 (↑b2.toNat) 127 % 4294967296 * 16384 % 4294967296)) (bits BinOp.and IntKind.u8 (↑b3.toNat) 127 % 4294967296 * 2097152 % 4294967296)) (↑b4.toNat % 4294967296 * 268435456 % 4294967296) =
    ((b0.toNat % 128 + 128 * (b1.toNat % 128 + 128 * (b2.toNat % 128 + 128 * (b3.toNat % 128 + 128 * b4.toNat))) : Nat) : Int) := by
  have h : (↑b4.toNat % 4294967296 * 268435456 % 4294967296 : Int) = ((b4.toNat * 268435456 : Nat) : Int) := by omega
  rw [h, uv_raw4, or_join 28 _ _ (by omega) (by omega) (by omega) (by omega)]
  congr 1; omega

/-- What Uvarint answers: the number and how many octets it took, or none. -/
def UvAns (P : Program) (f : FuncId) (w : World) (v : Value) (bs : List UInt8) : Prop :=
  (∃ n r, uvA 4 bs = some (n, r) ∧ ∃ k : Nat, 1 ≤ k ∧ k ≤ bs.length ∧ r = bs.drop k ∧ Calls P f #[v] w fun e w' => e = .returned (.tuple #[.int .u32 (n : Int), .int .i64 (k : Int)]) ∧ w = w') ∨
  (uvA 4 bs = none ∧ ∃ z : Int, z ≤ 0 ∧ Calls P f #[v] w fun e w' => e = .returned (.tuple #[.int .u32 0, .int .i64 z]) ∧ w = w')

theorem uvA_less (k : Nat) (b : UInt8) (r : List UInt8) (h : b.toNat < 128) : uvA (k + 1) (b :: r) = some (b.toNat, r) := by simp only [uvA, if_pos h]
theorem uvA_more (k : Nat) (b : UInt8) (r : List UInt8) (h : ¬ b.toNat < 128) : uvA (k + 1) (b :: r) = (uvA k r).map fun x => (b.toNat - 128 + 128 * x.1, x.2) := by simp only [uvA, if_neg h]

theorem Uvarint_any (w : World) (S : Nat → Prop) (v : Value) (bs : List UInt8) (h : BytesAt w S v bs) :
    UvAns Tryd.prog 112 w v bs := by
  have f : ∀ (b : UInt8), b.toNat < 128 → (bits BinOp.and IntKind.u8 (b.toNat : Int) 128 == 0) = true := fun b hb => by rw [and128]; simpa using hb
  have t : ∀ (b : UInt8), ¬ b.toNat < 128 → (bits BinOp.and IntKind.u8 (b.toNat : Int) 128 == 0) = false := fun b hb => by rw [and128]; simpa using hb
  cases bs with
  | nil =>
    obtain ⟨ad, c, rfl⟩ := bytes_len h
    exact .inr ⟨rfl, 0, by decide, Uvarint_f0 w c ad⟩
  | cons b0 r0 =>
  obtain ⟨g, o, c, rfl, h2, h3, h4, h5, h6⟩ := bytes_some h
  have d0 := h6 0 b0 rfl
  by_cases c0 : b0.toNat < 128
  · exact .inl ⟨_, _, uvA_less 3 b0 r0 c0, 1, by omega, by simp, by simp, (Uvarint_r1 w g o (r0.length + 1) c b0 (by omega) d0 (f b0 c0)).mono fun e w' ⟨he, hw⟩ => ⟨by rw [he, uv_raw1, Nat.mod_eq_of_lt c0]; rfl, hw⟩⟩
  cases r0 with
  | nil => exact .inr ⟨by rw [uvA_more 3 b0 [] c0]; rfl, 0, by decide, Uvarint_f1 w g o c b0 d0 (t b0 c0)⟩
  | cons b1 r1 =>
  have d1 := h6 1 b1 rfl
  have m0 : b0.toNat % 128 = b0.toNat - 128 := by have := b0.toNat_lt; omega
  by_cases c1 : b1.toNat < 128
  · exact .inl ⟨_, _, by rw [uvA_more 3 b0 _ c0, uvA_less 2 b1 r1 c1]; rfl, 2, by omega, by simp, by simp, (Uvarint_r2 w g o ((b1 :: r1).length + 1) c b0 b1 (by simp only [List.length_cons]; omega) d0 d1 (t b0 c0) (f b1 c1)).mono fun e w' ⟨he, hw⟩ => ⟨by rw [he, uv_raw2, m0, Nat.mod_eq_of_lt c1]; rfl, hw⟩⟩
  cases r1 with
  | nil => exact .inr ⟨by rw [uvA_more 3 b0 _ c0, uvA_more 2 b1 _ c1]; rfl, 0, by decide, Uvarint_f2 w g o c b0 b1 d0 d1 (t b0 c0) (t b1 c1)⟩
  | cons b2 r2 =>
  have d2 := h6 2 b2 rfl
  have m1 : b1.toNat % 128 = b1.toNat - 128 := by have := b1.toNat_lt; omega
  by_cases c2 : b2.toNat < 128
  · exact .inl ⟨_, _, by rw [uvA_more 3 b0 _ c0, uvA_more 2 b1 _ c1, uvA_less 1 b2 r2 c2]; rfl, 3, by omega, by simp, by simp, (Uvarint_r3 w g o ((b1 :: b2 :: r2).length + 1) c b0 b1 b2 (by simp only [List.length_cons]; omega) d0 d1 d2 (t b0 c0) (t b1 c1) (f b2 c2)).mono fun e w' ⟨he, hw⟩ => ⟨by rw [he, uv_raw3, m0, m1, Nat.mod_eq_of_lt c2]; rfl, hw⟩⟩
  cases r2 with
  | nil => exact .inr ⟨by rw [uvA_more 3 b0 _ c0, uvA_more 2 b1 _ c1, uvA_more 1 b2 _ c2]; rfl, 0, by decide, Uvarint_f3 w g o c b0 b1 b2 d0 d1 d2 (t b0 c0) (t b1 c1) (t b2 c2)⟩
  | cons b3 r3 =>
  have d3 := h6 3 b3 rfl
  have m2 : b2.toNat % 128 = b2.toNat - 128 := by have := b2.toNat_lt; omega
  by_cases c3 : b3.toNat < 128
  · exact .inl ⟨_, _, by rw [uvA_more 3 b0 _ c0, uvA_more 2 b1 _ c1, uvA_more 1 b2 _ c2, uvA_less 0 b3 r3 c3]; rfl, 4, by omega, by simp, by simp, (Uvarint_r4 w g o ((b1 :: b2 :: b3 :: r3).length + 1) c b0 b1 b2 b3 (by simp only [List.length_cons]; omega) d0 d1 d2 d3 (t b0 c0) (t b1 c1) (t b2 c2) (f b3 c3)).mono fun e w' ⟨he, hw⟩ => ⟨by rw [he, uv_raw4, m0, m1, m2, Nat.mod_eq_of_lt c3]; rfl, hw⟩⟩
  cases r3 with
  | nil => exact .inr ⟨by rw [uvA_more 3 b0 _ c0, uvA_more 2 b1 _ c1, uvA_more 1 b2 _ c2, uvA_more 0 b3 _ c3]; rfl, 0, by decide, Uvarint_f4 w g o c b0 b1 b2 b3 d0 d1 d2 d3 (t b0 c0) (t b1 c1) (t b2 c2) (t b3 c3)⟩
  | cons b4 r4 =>
  have d4 := h6 4 b4 rfl
  have m3 : b3.toNat % 128 = b3.toNat - 128 := by have := b3.toNat_lt; omega
  by_cases c4 : b4.toNat ≤ 15
  · exact .inl ⟨_, _, by rw [uvA_more 3 b0 _ c0, uvA_more 2 b1 _ c1, uvA_more 1 b2 _ c2, uvA_more 0 b3 _ c3]; simp only [uvA, if_pos c4]; rfl, 5, by omega, by simp, by simp, (Uvarint_r5 w g o ((b1 :: b2 :: b3 :: b4 :: r4).length + 1) c b0 b1 b2 b3 b4 (by simp only [List.length_cons]; omega) d0 d1 d2 d3 d4 (t b0 c0) (t b1 c1) (t b2 c2) (t b3 c3) (by simp; omega)).mono fun e w' ⟨he, hw⟩ => ⟨by rw [he, uv_raw5 _ _ _ _ _ c4, m0, m1, m2, m3]; rfl, hw⟩⟩
  · exact .inr ⟨by rw [uvA_more 3 b0 _ c0, uvA_more 2 b1 _ c1, uvA_more 1 b2 _ c2, uvA_more 0 b3 _ c3]; simp only [uvA, if_neg c4]; rfl, -5, by decide, Uvarint_over w g o ((b1 :: b2 :: b3 :: b4 :: r4).length + 1) c b0 b1 b2 b3 b4 (by simp only [List.length_cons]; omega) d0 d1 d2 d3 d4 (t b0 c0) (t b1 c1) (t b2 c2) (t b3 c3) (by simp; omega)⟩
end Go.Proofs.YtpknjenihcfhlaaDoor
/-
  The package's reader: a number in groups, some octets, single octets, whether it has failed: what each call answers, and what is left, for every state of the reader. Conditions: none.
-/
namespace Go.Proofs.YtpknjenihcfhlaaDoor
open Go.RowKit (Below Hid Hid.out)
open Kz

theorem rdV_some (bs : List UInt8) (n : Nat) (r : List UInt8) (h : uvA 4 bs = some (n, r)) : rdV (some bs) = (n, some r) := by simp only [rdV, h]
theorem rdV_less (bs : List UInt8) (h : uvA 4 bs = none) : rdV (some bs) = (0, none) := by simp only [rdV, h]
set_option maxHeartbeats 400000 in
theorem RUvarint_yes (w : World) (rb n c g o k m : Nat) (hc : n ≤ c) (hc2 : c ≤ 9223372036854775807) (hk : k ≤ n) (hk1 : 1 ≤ k)
    (c0 : w.cell? ⟨rb, 0, none⟩ = some (.slice (some ⟨g, o, none⟩) n c)) (f0 : w.frozen? ⟨rb, 0, none⟩ = false)
    (hcall : Calls Tryd.prog 112 #[.slice (some ⟨g, o, none⟩) n c] w fun e w' => e = .returned (.tuple #[.int .u32 m, .int .i64 k]) ∧ w = w') :
    Calls Tryd.prog 104 #[.pointer (some ⟨rb, 0, none⟩)] w fun e w' =>
      e = .returned (.int .u32 m) ∧ ∃ ad, (ad = ⟨g, o + k, none⟩ ∨ (c = k ∧ ad = ⟨g, o, none⟩)) ∧ w' = w.setCell ⟨rb, 0, none⟩ (.slice (some ad) (n - k) (c - k)) := by
  have H := Lib.hid hcall
  clear hcall
  by_cases hne : c = k
  · subst hne
    obtain rfl : n = c := by omega
    have t0 : decide ((n : Int) ≤ 0) = false := by simp; omega
    go_enter Tryd.func104, Tryd.ntmps104
    go_wp2_with fail
    refine H.out.mono ?_
    rintro e w' ⟨rfl, rfl⟩
    go_wp2
    go_ret
    refine ⟨rfl, _, .inr ⟨by trivial, rfl⟩, ?_⟩
    simp
  · have t0 : decide ((k : Int) ≤ 0) = false := by simp; omega
    go_enter Tryd.func104, Tryd.ntmps104
    go_wp2_with fail
    refine H.out.mono ?_
    rintro e w' ⟨rfl, rfl⟩
    go_wp2
    go_ret
    exact ⟨rfl, _, .inl rfl, rfl⟩
set_option maxHeartbeats 400000 in
theorem RUvarint_no (w : World) (rb : Nat) (v : Value) (q : Bool) (z : Int) (hz : z ≤ 0)
    (c0 : w.cell? ⟨rb, 0, none⟩ = some v) (c1 : w.cell? ⟨rb, 1, none⟩ = some (.bool q)) (f0 : w.frozen? ⟨rb, 0, none⟩ = false) (f1 : w.frozen? ⟨rb, 1, none⟩ = false)
    (hcall : Calls Tryd.prog 112 #[v] w fun e w' => e = .returned (.tuple #[.int .u32 0, .int .i64 z]) ∧ w = w') :
    Calls Tryd.prog 104 #[.pointer (some ⟨rb, 0, none⟩)] w fun e w' =>
      e = .returned (.int .u32 0) ∧ w' = (w.setCell ⟨rb, 1, none⟩ (.bool true)).setCell ⟨rb, 0, none⟩ (.slice none 0 0) := by
  have H := Lib.hid hcall
  clear hcall
  have t0 : decide (z ≤ 0) = true := by simpa using hz
  go_enter Tryd.func104, Tryd.ntmps104
  go_wp2_with fail
  refine H.out.mono ?_
  rintro e w' ⟨rfl, rfl⟩
  go_wp2
  go_ret
  exact ⟨rfl, rfl⟩

theorem RUvarint_any (w : World) (S : Nat → Prop) (rb : Nat) (st : St) (h : RdIs w S rb st) : Calls Tryd.prog 104 #[.pointer (some ⟨rb, 0, none⟩)] w fun e w' =>
    e = .returned (.int .u32 (rdV st).1) ∧ RdIs w' S rb (rdV st).2 ∧ w.grownBy w' (some rb) := by
  cases st with
  | none =>
    obtain ⟨hv, h0, c0, c1, f0, f1⟩ := rd_parts_none h
    refine (RUvarint_no w rb _ true 0 (by decide) c0 c1 f0 f1 (Uvarint_f0 w 0 none)).mono ?_
    rintro e w' ⟨rfl, rfl⟩
    exact ⟨rfl, rd_fail h0 (grownBy_refl _ _) hv⟩
  | some bs =>
    obtain ⟨v, hv, hb, h0, c0, c1, f0, f1⟩ := rd_parts h
    rcases Uvarint_any w S v bs hb with ⟨m, r, hu, k, hk1, hk, hr, hc⟩ | ⟨hu, z, hz, hc⟩
    · rw [rdV_some bs m r hu]
      rcases hb with ⟨rfl, rfl⟩ | ⟨g, o, c, rfl, h2, h3, h4, h5, h6⟩
      · simp [uvA] at hu
      refine (RUvarint_yes w rb bs.length c g o k m h2 h3 hk hk1 c0 f0 hc).mono ?_
      rintro e w' ⟨rfl, ad, had, rfl⟩
      have hd := BytesAt.drop (S := S) k hk rfl h2 h3 h4 h5 h6 ad had
      rw [hr]
      exact ⟨rfl, rd_on h0 (grownBy_refl _ _) hv hd⟩
    · rw [rdV_less bs hu]
      refine (RUvarint_no w rb v false z hz c0 c1 f0 f1 hc).mono ?_
      rintro e w' ⟨rfl, rfl⟩
      exact ⟨rfl, rd_fail h0 (grownBy_refl _ _) hv⟩

theorem rdSpan_yes (l : Int) (bs : List UInt8) (h : 0 ≤ l ∧ l ≤ bs.length) : rdSpan l (some bs) = (bs.take l.toNat, some (bs.drop l.toNat)) := if_pos h
theorem rdSpan_not (l : Int) (bs : List UInt8) (h : ¬ (0 ≤ l ∧ l ≤ bs.length)) : rdSpan l (some bs) = ([], none) := if_neg h
set_option maxHeartbeats 400000 in
theorem Span_no (w : World) (rb n c : Nat) (ad : Option Addr) (q : Bool) (l : Int) (hl : (n : Int) < l ∨ l < 0) (hb1 : -9223372036854775808 ≤ l) (hb2 : l ≤ 9223372036854775807)
    (c0 : w.cell? ⟨rb, 0, none⟩ = some (.slice ad n c)) (c1 : w.cell? ⟨rb, 1, none⟩ = some (.bool q)) (f0 : w.frozen? ⟨rb, 0, none⟩ = false) (f1 : w.frozen? ⟨rb, 1, none⟩ = false) :
    Calls Tryd.prog 106 #[.pointer (some ⟨rb, 0, none⟩), .int .i64 l] w fun e w' =>
      e = .returned (.slice none 0 0) ∧ w' = (w.setCell ⟨rb, 1, none⟩ (.bool true)).setCell ⟨rb, 0, none⟩ (.slice none 0 0) := by
  rcases hl with hl | hl
  · have t0 : decide ((n : Int) < l) = true := by simpa using hl
    go_enter Tryd.func106, Tryd.ntmps106
    go_wp2
    go_ret
    exact ⟨rfl, rfl⟩
  · have t0 : decide ((n : Int) < l) = false := by simp; omega
    have t1 : decide (l < 0) = true := by simpa using hl
    go_enter Tryd.func106, Tryd.ntmps106
    go_wp2
    go_ret
    exact ⟨rfl, rfl⟩
set_option maxHeartbeats 400000 in
theorem Span_yes (w : World) (rb n c g o l : Nat) (hl : l ≤ n) (hc : n ≤ c) (hc2 : c ≤ 9223372036854775807)
    (c0 : w.cell? ⟨rb, 0, none⟩ = some (.slice (some ⟨g, o, none⟩) n c)) (f0 : w.frozen? ⟨rb, 0, none⟩ = false) :
    Calls Tryd.prog 106 #[.pointer (some ⟨rb, 0, none⟩), .int .i64 (l : Int)] w fun e w' =>
      e = .returned (.slice (some ⟨g, o, none⟩) l l) ∧ ∃ ad, (ad = ⟨g, o + l, none⟩ ∨ (c = l ∧ ad = ⟨g, o, none⟩)) ∧ w' = w.setCell ⟨rb, 0, none⟩ (.slice (some ad) (n - l) (c - l)) := by
  have t0 : decide ((n : Int) < (l : Int)) = false := by simp; omega
  have t1 : decide ((l : Int) < 0) = false := by simp
  by_cases hne : c = l
  · subst hne
    obtain rfl : n = c := by omega
    go_enter Tryd.func106, Tryd.ntmps106
    go_wp2
    go_ret
    exact ⟨rfl, _, .inr ⟨by trivial, rfl⟩, by simp⟩
  · go_enter Tryd.func106, Tryd.ntmps106
    go_wp2
    go_ret
    exact ⟨rfl, _, .inl rfl, rfl⟩
set_option maxHeartbeats 400000 in
theorem Span_nil (w : World) (rb : Nat) (c0 : w.cell? ⟨rb, 0, none⟩ = some (.slice none 0 0)) (f0 : w.frozen? ⟨rb, 0, none⟩ = false) :
    Calls Tryd.prog 106 #[.pointer (some ⟨rb, 0, none⟩), .int .i64 0] w fun e w' => e = .returned (.slice none 0 0) ∧ w' = w.setCell ⟨rb, 0, none⟩ (.slice none 0 0) := by
  go_enter Tryd.func106, Tryd.ntmps106
  go_wp2
  go_ret
  exact ⟨rfl, rfl⟩
theorem BytesAt.take {w : World} {S : Nat → Prop} {g o c : Nat} {bs : List UInt8} (l : Nat) (hl : l ≤ bs.length) (h2 : bs.length ≤ c) (h2' : c ≤ 9223372036854775807) (h3 : S g) (h4 : g < w.heap.size)
    (h5 : ∀ (i : Nat) (b : UInt8), bs[i]? = some b → w.cell? ⟨g, o + i, none⟩ = some (bv b)) : BytesAt w S (.slice (some ⟨g, o, none⟩) l l) (bs.take l) := by
  refine .inr ⟨g, o, l, by rw [List.length_take, Nat.min_eq_left hl], by rw [List.length_take]; omega, by omega, h3, h4, fun i b hi => h5 i b ?_⟩
  rw [List.getElem?_take] at hi
  split at hi
  · exact hi
  · cases hi
theorem Span_any (w : World) (S : Nat → Prop) (rb : Nat) (st : St) (l : Int) (h : RdIs w S rb st) (hb1 : -9223372036854775808 ≤ l) (hb2 : l ≤ 9223372036854775807) :
    Calls Tryd.prog 106 #[.pointer (some ⟨rb, 0, none⟩), .int .i64 l] w fun e w' =>
    ∃ v, e = .returned v ∧ BytesAt w' S v (rdSpan l st).1 ∧ RdIs w' S rb (rdSpan l st).2 ∧ w.grownBy w' (some rb) := by
  cases st with
  | none =>
    obtain ⟨hv, h0, c0, c1, f0, f1⟩ := rd_parts_none h
    by_cases hl : l = 0
    · subst hl
      refine (Span_nil w rb c0 f0).mono ?_
      rintro e w' ⟨rfl, rfl⟩
      exact ⟨_, rfl, .inl ⟨rfl, rfl⟩, ⟨h0, heap_setCell_row hv⟩, grown_setCell (grownBy_refl _ _) 0 _⟩
    · refine (Span_no w rb 0 0 none true l (by omega) hb1 hb2 c0 c1 f0 f1).mono ?_
      rintro e w' ⟨rfl, rfl⟩
      exact ⟨_, rfl, .inl ⟨rfl, rfl⟩, rd_fail h0 (grownBy_refl _ _) hv⟩
  | some bs =>
    obtain ⟨v, hv, hb, h0, c0, c1, f0, f1⟩ := rd_parts h
    by_cases hl : 0 ≤ l ∧ l ≤ bs.length
    · rw [rdSpan_yes l bs hl]
      obtain ⟨k, rfl⟩ : ∃ k : Nat, l = k := ⟨l.toNat, by omega⟩
      rw [Int.toNat_natCast]
      rcases hb with ⟨rfl, rfl⟩ | ⟨g, o, c, rfl, h2, h3, h4, h5, h6⟩
      · obtain rfl : k = 0 := by simp at hl; omega
        refine (Span_nil w rb c0 f0).mono ?_
        rintro e w' ⟨rfl, rfl⟩
        exact ⟨_, rfl, .inl ⟨rfl, rfl⟩, rd_on h0 (grownBy_refl _ _) hv (.inl ⟨rfl, rfl⟩)⟩
      · refine (Span_yes w rb bs.length c g o k (by omega) h2 h3 c0 f0).mono ?_
        rintro e w' ⟨rfl, ad, had, rfl⟩
        have hd := BytesAt.drop (S := S) k (by omega) rfl h2 h3 h4 h5 h6 ad had
        have ho := rd_on h0 (grownBy_refl _ _) hv hd
        exact ⟨_, rfl, (BytesAt.take (S := S) k (by omega) h2 h3 h4 h5 h6).kept ho.2 (fun g hg e => h0 (by rw [← Option.some.inj e]; exact hg)), ho⟩
    · rw [rdSpan_not l bs hl]
      obtain ⟨ad, c, rfl⟩ := bytes_len hb
      refine (Span_no w rb bs.length c ad false l (by omega) hb1 hb2 c0 c1 f0 f1).mono ?_
      rintro e w' ⟨rfl, rfl⟩
      exact ⟨_, rfl, .inl ⟨rfl, rfl⟩, rd_fail h0 (grownBy_refl _ _) hv⟩



theorem wrap64_sgn (n : Nat) (h : n < 18446744073709551616) : RowKit.wrap64 (n : Int) = sgn 8 n := by
  unfold RowKit.wrap64 sgn
  by_cases hn : n < 2 ^ (8 * 8 - 1)
  · rw [if_pos hn]; simp only [show (8 * 8 - 1 : Nat) = 63 from rfl] at hn; omega
  · rw [if_neg hn]; simp only [show (8 * 8 - 1 : Nat) = 63 from rfl, show (8 * 8 : Nat) = 64 from rfl] at hn ⊢; omega
theorem wrap64_zero : RowKit.wrap64 ((0 : Nat) : Int) = 0 := by unfold RowKit.wrap64; omega
theorem rdU8_rdI8 (st : St) : RowKit.wrap64 ((rdU 8 st).1 : Int) = (rdI 8 st).1 ∧ (rdU 8 st).2 = (rdI 8 st).2 := by
  cases st with
  | none => exact ⟨wrap64_zero, rfl⟩
  | some bs =>
    by_cases h : 8 ≤ bs.length
    · unfold rdU rdI
      rw [rdN_some _ _ _ _ h, rdN_some _ _ _ _ h]
      refine ⟨wrap64_sgn _ ?_, rfl⟩
      have := beNat_lt (bs.take 8)
      rw [List.length_take, Nat.min_eq_left h] at this
      exact this
    · unfold rdU rdI
      rw [rdN_less _ _ _ _ h, rdN_less _ _ _ _ h]
      exact ⟨wrap64_zero, rfl⟩
set_option maxHeartbeats 400000 in
theorem Int64_any (w : World) (S : Nat → Prop) (rb : Nat) (st : St) (h : RdIs w S rb st) : Calls Tryd.prog 94 #[.pointer (some ⟨rb, 0, none⟩)] w fun e w' =>
    e = .returned (.int .i64 (rdI 8 st).1) ∧ RdIs w' S rb (rdI 8 st).2 ∧ w.grownBy w' (some rb) := by
  go_enter Tryd.func94, Tryd.ntmps94
  go_wp2_with fail
  refine (readUint64_any w S rb st h).mono ?_
  rintro e w' ⟨rfl, h1, g1⟩
  go_wp2
  go_ret
  have hx := rdU8_rdI8 st
  rw [hx.2] at h1
  refine ⟨?_, h1, g1⟩
  rw [← hx.1]
  rfl

/-- The package's error is there. -/
def ErrOk (w : World) : Prop := ∃ t v, w.cell? ⟨1, 0, none⟩ = some (.iface t v)
/-- No error, or the package's. -/
def ErrV (st : St) (v : Value) : Prop := if st.isSome then v = .nilIface else ∃ t x, v = .iface t x
theorem ErrOk.kept {w w' : World} {row : Option Nat} (h : ErrOk w) (hg : w.grownBy w' row) (hr : row ≠ some 1) : ErrOk w' := by
  obtain ⟨t, v, h⟩ := h
  exact ⟨t, v, hg.cell h (fun e => hr e.symm)⟩
set_option maxHeartbeats 400000 in
theorem Complete_any (w : World) (S : Nat → Prop) (rb : Nat) (st : St) (h : RdIs w S rb st) (he : ErrOk w) : Calls Tryd.prog 84 #[.pointer (some ⟨rb, 0, none⟩)] w fun e w' =>
    ∃ v, e = .returned v ∧ ErrV st v ∧ w = w' := by
  cases st with
  | none =>
    obtain ⟨hv, h0, c0, c1, f0, f1⟩ := rd_parts_none h
    obtain ⟨t, x, hc⟩ := he
    go_enter Tryd.func84, Tryd.ntmps84
    go_wp2
    go_ret
    exact ⟨_, rfl, ⟨t, x, rfl⟩, rfl⟩
  | some bs =>
    obtain ⟨v, hv, hb, h0, c0, c1, f0, f1⟩ := rd_parts h
    go_enter Tryd.func84, Tryd.ntmps84
    go_wp2
    go_ret
    exact ⟨_, rfl, rfl, rfl⟩

set_option maxHeartbeats 400000 in
theorem Ok_any (w : World) (S : Nat → Prop) (rb : Nat) (st : St) (h : RdIs w S rb st) : Calls Tryd.prog 98 #[.pointer (some ⟨rb, 0, none⟩)] w fun e w' =>
    e = .returned (.bool st.isSome) ∧ w = w' := by
  cases st with
  | none =>
    obtain ⟨hv, h0, c0, c1, f0, f1⟩ := rd_parts_none h
    go_enter Tryd.func98, Tryd.ntmps98
    go_wp2
    go_ret
    exact ⟨rfl, rfl⟩
  | some bs =>
    obtain ⟨v, hv, hb, h0, c0, c1, f0, f1⟩ := rd_parts h
    go_enter Tryd.func98, Tryd.ntmps98
    go_wp2
    go_ret
    exact ⟨rfl, rfl⟩

end Go.Proofs.YtpknjenihcfhlaaDoor
/-
  The package's reader: texts, octets, lengths of lists: what each call answers, and what is left, for every state of the reader. Conditions: none.
-/
namespace Go.Proofs.YtpknjenihcfhlaaDoor
open Go.RowKit (Below Hid Hid.out)
open Kz

/-- A text as a value. -/
abbrev strV (s : List UInt8) : Value := .string ⟨s.toArray⟩
theorem push_fold : ∀ (l : List UInt8) (r : ByteArray), (l.map fun b => (b.toNat : Int)).foldl (fun r n => r.push (UInt8.ofNat n.toNat)) r = ⟨r.data ++ l.toArray⟩ := by
  intro l
  induction l with
  | nil => intro r; simp
  | cons b l ih =>
    intro r
    rw [List.map_cons, List.foldl_cons, ih]
    congr 1
    have : UInt8.ofNat (b.toNat : Int).toNat = b := by simp
    rw [this]
    simp [ByteArray.push]
/-- Octets as a text. -/
theorem conv_string {w : World} {S : Nat → Prop} {v : Value} {bs : List UInt8} (h : BytesAt w S v bs) (src dst : TypeId) (hs : src = 22) (hd : dst = 9) : (convert src dst v).run Tryd.prog w = .ok (strV bs) w := by
  subst hs; subst hd
  rcases h with ⟨rfl, rfl⟩ | ⟨g, o, c, rfl, h2, h3, h4, h5, h6⟩
  · kernel_rfl
  · rw [run_convert_bytes_string w _ _ 5 _ _ _ Tryd.underlying22 Tryd.underlying5 Tryd.underlying9]
    have hl := run_loadCells_list (P := Tryd.prog) (w := w) ⟨g, o, none⟩ ((bs.map fun b => (b.toNat : Int)).map (Value.int .u8)) (fun j x hj => by
      rw [List.map_map, List.getElem?_map, Option.map_eq_some_iff] at hj
      obtain ⟨b, hb, rfl⟩ := hj
      rw [Addr.add_lit]
      exact h6 j b hb)
    rw [List.length_map, List.length_map] at hl
    rw [run_bytesToString w _ _ _ _ hl, push_fold]
    simp [strV, ByteArray.empty, ByteArray.emptyWithCapacity]
    rfl

theorem rdI_bounds (k : Nat) (st : St) (hk : 0 < k) : -(2 : Int) ^ (8 * k - 1) ≤ (rdI k st).1 ∧ (rdI k st).1 < 2 ^ (8 * k - 1) := by
  have hp : (0 : Int) < 2 ^ (8 * k - 1) := Int.pow_pos (by decide)
  have hz : -(2 : Int) ^ (8 * k - 1) ≤ 0 ∧ (0 : Int) < 2 ^ (8 * k - 1) := by omega
  cases st with
  | none => exact hz
  | some bs =>
    by_cases h : k ≤ bs.length
    · unfold rdI
      rw [rdN_some _ _ _ _ h]
      have hl := beNat_lt (bs.take k)
      rw [List.length_take, Nat.min_eq_left h] at hl
      have e : 256 ^ k = 2 ^ (8 * k) := by rw [Nat.pow_mul]
      have e2 : 2 ^ (8 * k) = 2 * 2 ^ (8 * k - 1) := by rw [← Nat.pow_succ']; congr 1; omega
      have c1 : ((2 ^ (8 * k - 1) : Nat) : Int) = (2 : Int) ^ (8 * k - 1) := by rw [Int.natCast_pow]; rfl
      have c2 : ((2 ^ (8 * k) : Nat) : Int) = (2 : Int) ^ (8 * k) := by rw [Int.natCast_pow]; rfl
      show -(2 : Int) ^ (8 * k - 1) ≤ sgn k _ ∧ sgn k _ < _
      unfold sgn
      split <;> omega
    · unfold rdI
      rw [rdN_less _ _ _ _ h]
      exact hz
theorem rdV_bounds (st : St) : (rdV st).1 < 4294967296 := by
  cases st with
  | none => decide
  | some bs =>
    cases h : uvA 4 bs with
    | none => simp only [rdV, h]; decide
    | some x =>
      obtain ⟨n, r⟩ := x
      simp only [rdV, h]
      exact (uvA_spec 4 bs n r h).2
theorem rdI2_b (st : St) : -32768 ≤ (rdI 2 st).1 ∧ (rdI 2 st).1 ≤ 32767 := by
  have h := rdI_bounds 2 st (by decide)
  have e : (2 : Int) ^ (8 * 2 - 1) = 32768 := rfl
  rw [e] at h
  omega
theorem rdI4_b (st : St) : -2147483648 ≤ (rdI 4 st).1 ∧ (rdI 4 st).1 ≤ 2147483647 := by
  have h := rdI_bounds 4 st (by decide)
  have e : (2 : Int) ^ (8 * 4 - 1) = 2147483648 := rfl
  rw [e] at h
  omega

/-- A text that may be null, as a value: behind a pointer, in a block of K. -/
def NstrV (w : World) (K : Nat → Prop) (v : Value) (t : T) : Prop :=
  (t.null = true ∧ v = .pointer none) ∨ (t.null = false ∧ ∃ g, v = .pointer (some ⟨g, 0, none⟩) ∧ K g ∧ g < w.heap.size ∧ w.cell? ⟨g, 0, none⟩ = some (strV t.s))

theorem rdText_str (st : St) : rdText false false 2 st = (Ts (rdSpan (rdI 2 st).1 (rdI 2 st).2).1, (rdSpan (rdI 2 st).1 (rdI 2 st).2).2) := by
  simp only [rdText, rdCount, Bool.false_eq_true, if_false, false_and]
set_option maxHeartbeats 400000 in
theorem String_any (w : World) (S : Nat → Prop) (rb : Nat) (st : St) (h : RdIs w S rb st) : Calls Tryd.prog 93 #[.pointer (some ⟨rb, 0, none⟩)] w fun e w' =>
    e = .returned (strV (rdText false false 2 st).1.s) ∧ RdIs w' S rb (rdText false false 2 st).2 ∧ w.grownBy w' (some rb) := by
  have hb := rdI2_b st
  rw [rdText_str]
  go_enter Tryd.func93, Tryd.ntmps93
  go_wp2_with fail
  refine (Int16_any w S rb st h).mono ?_
  rintro e w1 ⟨rfl, h1, g1⟩
  have b1 := hb.1
  have b2 := hb.2
  go_wp2_with fail
  refine (Span_any w1 S rb _ (rdI 2 st).1 h1 (by omega) (by omega)).mono ?_
  rintro e w2 ⟨v, rfl, hv, h2, g2⟩
  have hc := conv_string hv 22 9 rfl rfl
  have H1 := Lib.hid h1
  have H2 := Lib.hid h2
  have HV := Lib.hid hv
  clear h1 h2 hv
  go_wp2
  go_ret
  exact ⟨rfl, H2.out, grownBy_trans g1 g2⟩

theorem rdText_cstr (st : St) : rdText true false 2 st = (Ts (rdSpan ((rdV st).1 - 1 : Int) (rdV st).2).1, (rdSpan ((rdV st).1 - 1 : Int) (rdV st).2).2) := by
  simp only [rdText, rdCount, if_true, Bool.false_eq_true, false_and, if_false]
set_option maxHeartbeats 400000 in
theorem CompactString_any (w : World) (S : Nat → Prop) (rb : Nat) (st : St) (h : RdIs w S rb st) : Calls Tryd.prog 92 #[.pointer (some ⟨rb, 0, none⟩)] w fun e w' =>
    e = .returned (strV (rdText true false 2 st).1.s) ∧ RdIs w' S rb (rdText true false 2 st).2 ∧ w.grownBy w' (some rb) := by
  have hb := rdV_bounds st
  rw [rdText_cstr]
  go_enter Tryd.func92, Tryd.ntmps92
  go_wp2_with fail
  refine (RUvarint_any w S rb st h).mono ?_
  rintro e w1 ⟨rfl, h1, g1⟩
  have b1 : ((rdV st).1 : Int) < 4294967296 := by omega
  have H1 := Lib.hid h1
  clear h1
  go_wp2_with fail
  refine (Span_any w1 S rb _ ((rdV st).1 - 1 : Int) H1.out (by omega) (by omega)).mono ?_
  rintro e w2 ⟨v, rfl, hv, h2, g2⟩
  have hc := conv_string hv 22 9 rfl rfl
  have H2 := Lib.hid h2
  have HV := Lib.hid hv
  clear h2 hv
  go_wp2
  go_ret
  exact ⟨rfl, H2.out, grownBy_trans g1 g2⟩

theorem rdText_NullableString (st : St) : rdText false true 2 st = if (rdI 2 st).1 < 0 then (Tnull, (rdI 2 st).2) else (Ts (rdSpan (rdI 2 st).1 (rdI 2 st).2).1, (rdSpan (rdI 2 st).1 (rdI 2 st).2).2) := by
  simp only [rdText, rdCount, Bool.false_eq_true, if_false, true_and]
set_option maxHeartbeats 400000 in
theorem NullableString_any (w : World) (S : Nat → Prop) (rb : Nat) (st : St) (h : RdIs w S rb st) : Calls Tryd.prog 82 #[.pointer (some ⟨rb, 0, none⟩)] w fun e w' =>
    ∃ v, e = .returned v ∧ NstrV w' (fun g => w.heap.size ≤ g) v (rdText false true 2 st).1 ∧ RdIs w' S rb (rdText false true 2 st).2 ∧ w.grownBy w' (some rb) := by
  rw [rdText_NullableString]
  obtain ⟨u, hu⟩ : ∃ u, u = (rdI 2 st).1 := ⟨_, rfl⟩
  obtain ⟨s1, hs1⟩ : ∃ s, s = (rdI 2 st).2 := ⟨_, rfl⟩
  have u1 : -32768 ≤ u := by rw [hu]; exact (rdI2_b st).1
  have u2 : u ≤ 32767 := by rw [hu]; exact (rdI2_b st).2
  have hcall : Calls Tryd.prog 78 #[.pointer (some ⟨rb, 0, none⟩)] w fun e w' => e = .returned (.int .i16 u) ∧ RdIs w' S rb s1 ∧ w.grownBy w' (some rb) := by
    rw [hu, hs1]; exact Int16_any w S rb st h
  rw [← hu, ← hs1]
  clear hu hs1 h
  have H := Lib.hid hcall
  clear hcall
  by_cases hn : u < 0
  · rw [if_pos hn]
    have t0 : decide (u < 0) = true := by simpa using hn
    clear hn
    go_enter Tryd.func82, Tryd.ntmps82
    go_wp2_with fail
    refine H.out.mono ?_
    rintro e w1 ⟨rfl, h1, g1⟩
    have H1 := Lib.hid h1
    clear h1 H
    go_wp2
    go_ret
    exact ⟨_, rfl, .inl ⟨rfl, rfl⟩, H1.out, g1⟩
  · rw [if_neg hn]
    have t0 : decide (u < 0) = false := by simpa using hn
    clear hn
    go_enter Tryd.func82, Tryd.ntmps82
    go_wp2_with fail
    refine H.out.mono ?_
    rintro e w1 ⟨rfl, h1, g1⟩
    have H1 := Lib.hid h1
    clear h1 H
    go_wp2_with fail
    refine (Span_any w1 S rb _ u H1.out (by omega) (by omega)).mono ?_
    rintro e w2 ⟨v, rfl, hv, h2, g2⟩
    have hc := conv_string hv 22 9 rfl rfl
    have H2 := Lib.hid h2
    have HV := Lib.hid hv
    clear h2 hv
    go_wp2
    go_ret
    have g3 := grownBy_trans g1 g2
    have ga : w2.grownBy (w2.alloc (.cells #[strV (rdSpan u s1).1] 9)) (some rb) := World.grownBy_alloc _ _ _
    refine ⟨_, rfl, .inr ⟨rfl, w2.heap.size, rfl, g3.size, by simp, by rw [cell_of_row _ _ 0 _ _ _ (heap_alloc_new w2 _)]; rfl⟩, ?_, grownBy_trans g3 ga⟩
    refine H2.out.kept (row := none) (World.grownBy_alloc _ _ _) (fun g _ e => by cases e) (fun e => by cases e)

theorem rdText_CompactNullableString (st : St) : rdText true true 2 st = if ((rdV st).1 - 1 : Int) < 0 then (Tnull, (rdV st).2) else (Ts (rdSpan ((rdV st).1 - 1 : Int) (rdV st).2).1, (rdSpan ((rdV st).1 - 1 : Int) (rdV st).2).2) := by
  simp only [rdText, rdCount, if_true, true_and]
set_option maxHeartbeats 400000 in
theorem CompactNullableString_any (w : World) (S : Nat → Prop) (rb : Nat) (st : St) (h : RdIs w S rb st) : Calls Tryd.prog 80 #[.pointer (some ⟨rb, 0, none⟩)] w fun e w' =>
    ∃ v, e = .returned v ∧ NstrV w' (fun g => w.heap.size ≤ g) v (rdText true true 2 st).1 ∧ RdIs w' S rb (rdText true true 2 st).2 ∧ w.grownBy w' (some rb) := by
  rw [rdText_CompactNullableString]
  obtain ⟨u, hu⟩ : ∃ u, u = (rdV st).1 := ⟨_, rfl⟩
  obtain ⟨s1, hs1⟩ : ∃ s, s = (rdV st).2 := ⟨_, rfl⟩
  have u2 : u < 4294967296 := by rw [hu]; exact rdV_bounds st
  have hcall : Calls Tryd.prog 104 #[.pointer (some ⟨rb, 0, none⟩)] w fun e w' => e = .returned (.int .u32 (u : Int)) ∧ RdIs w' S rb s1 ∧ w.grownBy w' (some rb) := by
    rw [hu, hs1]; exact RUvarint_any w S rb st h
  rw [← hu, ← hs1]
  clear hu hs1 h
  have H := Lib.hid hcall
  clear hcall
  by_cases hn : ((u : Int) - 1) < 0
  · rw [if_pos hn]
    have t0 : decide (((u : Int) - 1) < 0) = true := by simpa using hn
    clear hn
    go_enter Tryd.func80, Tryd.ntmps80
    go_wp2_with fail
    refine H.out.mono ?_
    rintro e w1 ⟨rfl, h1, g1⟩
    have H1 := Lib.hid h1
    clear h1 H
    go_wp2
    go_ret
    exact ⟨_, rfl, .inl ⟨rfl, rfl⟩, H1.out, g1⟩
  · rw [if_neg hn]
    have t0 : decide (((u : Int) - 1) < 0) = false := by simpa using hn
    clear hn
    go_enter Tryd.func80, Tryd.ntmps80
    go_wp2_with fail
    refine H.out.mono ?_
    rintro e w1 ⟨rfl, h1, g1⟩
    have H1 := Lib.hid h1
    clear h1 H
    go_wp2_with fail
    refine (Span_any w1 S rb _ ((u : Int) - 1) H1.out (by omega) (by omega)).mono ?_
    rintro e w2 ⟨v, rfl, hv, h2, g2⟩
    have hc := conv_string hv 22 9 rfl rfl
    have H2 := Lib.hid h2
    have HV := Lib.hid hv
    clear h2 hv
    go_wp2
    go_ret
    have g3 := grownBy_trans g1 g2
    have ga : w2.grownBy (w2.alloc (.cells #[strV (rdSpan ((u : Int) - 1) s1).1] 9)) (some rb) := World.grownBy_alloc _ _ _
    refine ⟨_, rfl, .inr ⟨rfl, w2.heap.size, rfl, g3.size, by simp, by rw [cell_of_row _ _ 0 _ _ _ (heap_alloc_new w2 _)]; rfl⟩, ?_, grownBy_trans g3 ga⟩
    refine H2.out.kept (row := none) (World.grownBy_alloc _ _ _) (fun g _ e => by cases e) (fun e => by cases e)



theorem rdLen_ArrayLen (st : St) : rdLen false st = chkLen ((rdI 4 st).1) (rdI 4 st).2 := by
  simp only [rdLen, rdLen0, Bool.false_eq_true, if_false]
theorem ArrayLen_zero (st : St) (h : (rdI 4 st).2 = none) : (rdI 4 st).1 = 0 := by
  cases st with
  | none => rfl
  | some bs =>
    by_cases hk : 4 ≤ bs.length
    · unfold rdI at h; rw [rdN_some _ _ _ _ hk] at h; cases h
    · unfold rdI; rw [rdN_less _ _ _ _ hk]
set_option maxHeartbeats 400000 in
theorem ArrayLen_any (w : World) (S : Nat → Prop) (rb : Nat) (st : St) (h : RdIs w S rb st) : Calls Tryd.prog 97 #[.pointer (some ⟨rb, 0, none⟩)] w fun e w' =>
    e = .returned (.int .i32 (rdLen false st).1) ∧ RdIs w' S rb (rdLen false st).2 ∧ w.grownBy w' (some rb) := by
  rw [rdLen_ArrayLen]
  have hz := ArrayLen_zero st
  obtain ⟨u, hu⟩ : ∃ u, u = (rdI 4 st).1 := ⟨_, rfl⟩
  obtain ⟨s1, hs1⟩ : ∃ s, s = (rdI 4 st).2 := ⟨_, rfl⟩
  have u1 : -2147483648 ≤ u := by rw [hu]; exact (rdI4_b st).1
  have u2 : u ≤ 2147483647 := by rw [hu]; exact (rdI4_b st).2
  have hcall : Calls Tryd.prog 77 #[.pointer (some ⟨rb, 0, none⟩)] w fun e w' => e = .returned (.int .i32 u) ∧ RdIs w' S rb s1 ∧ w.grownBy w' (some rb) := by
    rw [hu, hs1]; exact Int32_any w S rb st h
  rw [← hu, ← hs1]
  rw [← hu, ← hs1] at hz
  clear hu hs1 h
  have H := Lib.hid hcall
  clear hcall
  cases s1 with
  | none =>
    obtain rfl := hz rfl
    have t0 : decide ((0 : Int) < 0) = false := by decide
    clear hz
    go_enter Tryd.func97, Tryd.ntmps97
    go_wp2_with fail
    refine H.out.mono ?_
    rintro e w1 ⟨rfl, h1, g1⟩
    obtain ⟨hv, h0, c0, c1, f0, f1⟩ := rd_parts_none h1
    have H1 := Lib.hid h1
    clear h1 hv H
    go_wp2
    go_ret
    exact ⟨rfl, H1.out, g1⟩
  | some bs =>
    clear hz
    by_cases hl : ((bs.length : Nat) : Int) < u
    · have e1 : chkLen (u) (some bs) = (0, none) := if_pos hl
      rw [e1]
      have t0 : decide (((bs.length : Nat) : Int) < u) = true := by simpa using hl
      clear e1 hl
      go_enter Tryd.func97, Tryd.ntmps97
      go_wp2_with fail
      refine H.out.mono ?_
      rintro e w1 ⟨rfl, h1, g1⟩
      obtain ⟨v, hv, hb, h0, c0, c1, f0, f1⟩ := rd_parts h1
      obtain ⟨ad, c, rfl⟩ := bytes_len hb
      have HV := Lib.hid hv
      clear h1 H hv hb
      go_wp2
      go_ret
      exact ⟨rfl, rd_fail h0 g1 HV.out⟩
    · have e1 : chkLen (u) (some bs) = (u, some bs) := if_neg hl
      rw [e1]
      have t0 : decide (((bs.length : Nat) : Int) < u) = false := by simpa using hl
      clear e1 hl
      go_enter Tryd.func97, Tryd.ntmps97
      go_wp2_with fail
      refine H.out.mono ?_
      rintro e w1 ⟨rfl, h1, g1⟩
      obtain ⟨v, hv, hb, h0, c0, c1, f0, f1⟩ := rd_parts h1
      obtain ⟨ad, c, rfl⟩ := bytes_len hb
      have H1 := Lib.hid h1
      clear h1 H hv hb
      go_wp2
      go_ret
      exact ⟨rfl, H1.out, g1⟩

theorem wrap32_same (n : Int) : Kz.wrap32 n = RowKit.wrap32 n := by unfold Kz.wrap32 RowKit.wrap32; omega
theorem rdLen_CompactArrayLen (st : St) : rdLen true st = chkLen (Kz.wrap32 (Kz.wrap32 (rdV st).1 - 1)) (rdV st).2 := by
  simp only [rdLen, rdLen0, if_true]
theorem CompactArrayLen_zero (st : St) (h : (rdV st).2 = none) : (rdV st).1 = 0 := by
  cases st with
  | none => rfl
  | some bs =>
    cases hu : uvA 4 bs with
    | none => rw [rdV_less bs hu]
    | some x => rw [rdV_some bs x.1 x.2 hu] at h; cases h
set_option maxHeartbeats 400000 in
theorem CompactArrayLen_any (w : World) (S : Nat → Prop) (rb : Nat) (st : St) (h : RdIs w S rb st) : Calls Tryd.prog 96 #[.pointer (some ⟨rb, 0, none⟩)] w fun e w' =>
    e = .returned (.int .i32 (rdLen true st).1) ∧ RdIs w' S rb (rdLen true st).2 ∧ w.grownBy w' (some rb) := by
  rw [rdLen_CompactArrayLen]
  have hz := CompactArrayLen_zero st
  obtain ⟨u, hu⟩ : ∃ u, u = (rdV st).1 := ⟨_, rfl⟩
  obtain ⟨s1, hs1⟩ : ∃ s, s = (rdV st).2 := ⟨_, rfl⟩
  have u2 : u < 4294967296 := by rw [hu]; exact rdV_bounds st
  have hcall : Calls Tryd.prog 104 #[.pointer (some ⟨rb, 0, none⟩)] w fun e w' => e = .returned (.int .u32 (u : Int)) ∧ RdIs w' S rb s1 ∧ w.grownBy w' (some rb) := by
    rw [hu, hs1]; exact RUvarint_any w S rb st h
  rw [← hu, ← hs1]
  rw [← hu, ← hs1] at hz
  clear hu hs1 h
  have H := Lib.hid hcall
  clear hcall
  rw [wrap32_same, wrap32_same]
  obtain ⟨L, hL⟩ : ∃ L, RowKit.wrap32 (RowKit.wrap32 u - 1) = L := ⟨_, rfl⟩
  have hL1 : -2147483648 ≤ L := by rw [← hL]; unfold RowKit.wrap32; omega
  have hL2 : L ≤ 2147483647 := by rw [← hL]; unfold RowKit.wrap32; omega
  have hz : (none : St) = s1.map (fun _ => []) → L = -1 := by
    intro h
    rw [← hL, hz (by cases s1 with | none => rfl | some x => cases h)]
    unfold RowKit.wrap32
    omega
  rw [hL]
  clear u2
  cases s1 with
  | none =>
    obtain rfl : L = -1 := hz rfl
    have t0 : decide ((0 : Int) < -1) = false := by decide
    clear hz
    go_enter Tryd.func96, Tryd.ntmps96
    go_wp2_with fail
    refine H.out.mono ?_
    rintro e w1 ⟨rfl, h1, g1⟩
    obtain ⟨hv, h0, c0, c1, f0, f1⟩ := rd_parts_none h1
    have H1 := Lib.hid h1
    clear h1 hv H
    go_wp2
    go_ret
    exact ⟨rfl, H1.out, g1⟩
  | some bs =>
    clear hz
    by_cases hl : ((bs.length : Nat) : Int) < L
    · have e1 : chkLen (L) (some bs) = (0, none) := if_pos hl
      rw [e1]
      have t0 : decide (((bs.length : Nat) : Int) < L) = true := by simpa using hl
      clear e1 hl
      go_enter Tryd.func96, Tryd.ntmps96
      go_wp2_with fail
      refine H.out.mono ?_
      rintro e w1 ⟨rfl, h1, g1⟩
      obtain ⟨v, hv, hb, h0, c0, c1, f0, f1⟩ := rd_parts h1
      obtain ⟨ad, c, rfl⟩ := bytes_len hb
      have HV := Lib.hid hv
      clear h1 H hv hb
      go_wp2
      go_ret
      exact ⟨rfl, rd_fail h0 g1 HV.out⟩
    · have e1 : chkLen (L) (some bs) = (L, some bs) := if_neg hl
      rw [e1]
      have t0 : decide (((bs.length : Nat) : Int) < L) = false := by simpa using hl
      clear e1 hl
      go_enter Tryd.func96, Tryd.ntmps96
      go_wp2_with fail
      refine H.out.mono ?_
      rintro e w1 ⟨rfl, h1, g1⟩
      obtain ⟨v, hv, hb, h0, c0, c1, f0, f1⟩ := rd_parts h1
      obtain ⟨ad, c, rfl⟩ := bytes_len hb
      have H1 := Lib.hid h1
      clear h1 H hv hb
      go_wp2
      go_ret
      exact ⟨by rw [← hL]; rfl, H1.out, g1⟩

end Go.Proofs.YtpknjenihcfhlaaDoor
/-
  Steps of straight code, each by one law, over any program and any frame. Conditions: none.
-/
namespace Go.Proofs.YtpknjenihcfhlaaDoor
open Go.RowKit (Below)

section
variable {P : Program}

/-- A field's place. -/
def FieldOff (P : Program) (T k off : Nat) : Prop := ∀ (b o : Nat) (w : World), (Instr.fieldAt T (.pointer (some ⟨b, o, none⟩)) k).run P w = .ok (.pointer (some ⟨b, o + off, none⟩)) w
/-- A value of one cell is loaded. -/
def Load1 (P : Program) (ty : Nat) : Prop := ∀ (w : World) (b o : Nat) (v : Value), w.cell? ⟨b, o, none⟩ = some v → (Instr.loadAt ty (.pointer (some ⟨b, o, none⟩))).run P w = .ok v w
/-- A value of one cell is stored. -/
def Store1 (P : Program) (ty : Nat) (v : Value) : Prop := ∀ (w : World) (b o : Nat) (u : Value), w.cell? ⟨b, o, none⟩ = some u → w.frozen? ⟨b, o, none⟩ = false →
  (Instr.storeAt ty (.pointer (some ⟨b, o, none⟩)) v).run P w = .ok () (w.setCell ⟨b, o, none⟩ v)

/-- What a slot holds. -/
abbrev sl (a : Act) (t : Nat) : Value := a.tmps.getD t undef
theorem eval_tmp (a : Act) (t : Nat) : a.eval (.tmp t) = sl a t := rfl
theorem eval_const (a : Act) (v : Value) : a.eval (.const v) = v := rfl
theorem put_size (a : Act) (d : Nat) (v : Value) : (a.put (some d) v).tmps.size = a.tmps.size := by simp [Act.put]
theorem put_defers (a : Act) (d : Option Nat) (v : Value) : (a.put d v).defers = a.defers := by cases d <;> rfl
theorem put_none (a : Act) (v : Value) : a.put none v = a := rfl
theorem sl_put_self (a : Act) (d : Nat) (v : Value) (h : d < a.tmps.size) : sl (a.put (some d) v) d = v := by
  simp [sl, Act.put, Array.getD_eq_getD_getElem?, h]
theorem sl_put_other (a : Act) (d t : Nat) (v : Value) (h : d ≠ t) : sl (a.put (some d) v) t = sl a t := by
  simp [sl, Act.put, Array.getD_eq_getD_getElem?, h]

section
variable {ops : Array Oper} {Q : Exit → Act → World → Prop} {rest : List Oper} {a : Act} {w : World} {d : Nat} {ty : TypeId} {pos : String} {aft : Array Edge}

theorem st_move {x : Operand} (h : wpList P ops Q rest (a.put (some d) (a.eval x)) w) : wpList P ops Q (⟨some d, .move x, ty, pos, aft, none⟩ :: rest) a w :=
  wpList_plain rfl fun K hK => by
    unfold Oper.wp execOp
    simp only [Sem.run_pure]
    exact hK _ _ h
theorem st_assign {x : Operand} (h : wpList P ops Q rest (a.put (some d) (a.eval x)) w) : wpList P ops Q (⟨some d, .assign x, ty, pos, aft, none⟩ :: rest) a w :=
  wpList_plain rfl fun K hK => by
    unfold Oper.wp execOp
    simp only [Sem.run_pure]
    exact hK _ _ h
theorem st_nil {x : Operand} {p : Addr} (hx : a.eval x = .pointer (some p)) (h : wpList P ops Q rest (a.put (some d) (.pointer (some p))) w) : wpList P ops Q (⟨some d, .nilCheck x, ty, pos, aft, none⟩ :: rest) a w :=
  wpList_plain rfl fun K hK => by
    unfold Oper.wp execOp
    simp only [hx, Sem.run_pure]
    exact hK _ _ h
theorem st_field {x : Operand} {T k off b o : Nat} (hf : FieldOff P T k off) (hx : a.eval x = .pointer (some ⟨b, o, none⟩)) (h : wpList P ops Q rest (a.put (some d) (.pointer (some ⟨b, o + off, none⟩))) w) :
    wpList P ops Q (⟨some d, .fieldAddr T x k, ty, pos, aft, none⟩ :: rest) a w :=
  wpList_plain rfl fun K hK => by
    unfold Oper.wp execOp
    simp only [hx, Sem.run_bind, hf b o w, Result.andThen_ok, Sem.run_pure]
    exact hK _ _ h
theorem st_load {x : Operand} {T b o : Nat} {v : Value} (hl : Load1 P T) (hx : a.eval x = .pointer (some ⟨b, o, none⟩)) (hc : w.cell? ⟨b, o, none⟩ = some v) (h : wpList P ops Q rest (a.put (some d) v) w) :
    wpList P ops Q (⟨some d, .load T x, ty, pos, aft, none⟩ :: rest) a w :=
  wpList_plain rfl fun K hK => by
    unfold Oper.wp execOp
    simp only [hx, Sem.run_bind, hl w b o v hc, Result.andThen_ok, Sem.run_pure]
    exact hK _ _ h
theorem st_store {x y : Operand} {T b o : Nat} {u v : Value} (hx : a.eval x = .pointer (some ⟨b, o, none⟩)) (hy : a.eval y = v) (hl : Store1 P T v) (hc : w.cell? ⟨b, o, none⟩ = some u) (hf : w.frozen? ⟨b, o, none⟩ = false)
    (h : wpList P ops Q rest a (w.setCell ⟨b, o, none⟩ v)) :
    wpList P ops Q (⟨none, .store T x y, ty, pos, aft, none⟩ :: rest) a w :=
  wpList_plain rfl fun K hK => by
    unfold Oper.wp execOp
    simp only [hx, hy, Sem.run_bind, hl w b o u hc hf, Result.andThen_ok, Sem.run_pure]
    exact hK _ _ h
theorem st_call {f : FuncId} {args : Array Operand} {tys : Array TypeId} {fn : Func} (hfn : P.funcs[f]? = some fn) (hb : fn.body.isSome = true) (hn : (fn.name == "runtime.NumGoroutine") = false)
    (h : Calls P f (args.map a.eval) w fun e w' => ∃ v, e = .returned v ∧ wpList P ops Q rest (a.put (some d) v) w') :
    wpList P ops Q (⟨some d, .call { callee := .value (.func f), args := args, argTypes := tys }, ty, pos, aft, none⟩ :: rest) a w :=
  wpList_plain rfl fun K hK => by
    have hb' : fn.body.isNone = false := by cases hx : fn.body <;> simp_all
    unfold Oper.wp execOp
    simp only [resolve, Act.eval, Deferred.ofValue, invoke, callFunc, Sem.run_bind, Sem.run_pure, Result.andThen_ok, Array.append_empty, program, Sem.run, hfn, hn, hb', Bool.false_eq_true, if_false, Oper.upon_enter]
    rw [Array.empty_append]
    refine Calls.mono h ?_
    rintro e w' ⟨v, rfl, hw⟩
    exact hK _ _ hw

theorem st_call1 {f : FuncId} {x : Operand} {tys : Array TypeId} {fn : Func} (hfn : P.funcs[f]? = some fn) (hb : fn.body.isSome = true) (hn : (fn.name == "runtime.NumGoroutine") = false)
    (h : Calls P f #[a.eval x] w fun e w' => ∃ v, e = .returned v ∧ wpList P ops Q rest (a.put (some d) v) w') :
    wpList P ops Q (⟨some d, .call { callee := .value (.func f), args := #[x], argTypes := tys }, ty, pos, aft, none⟩ :: rest) a w := by
  refine st_call hfn hb hn ?_
  have e : (#[x] : Array Operand).map a.eval = #[a.eval x] := by simp
  rw [e]
  exact h
theorem st_call2 {f : FuncId} {x y : Operand} {tys : Array TypeId} {fn : Func} (hfn : P.funcs[f]? = some fn) (hb : fn.body.isSome = true) (hn : (fn.name == "runtime.NumGoroutine") = false)
    (h : Calls P f #[a.eval x, a.eval y] w fun e w' => ∃ v, e = .returned v ∧ wpList P ops Q rest (a.put (some d) v) w') :
    wpList P ops Q (⟨some d, .call { callee := .value (.func f), args := #[x, y], argTypes := tys }, ty, pos, aft, none⟩ :: rest) a w := by
  refine st_call hfn hb hn ?_
  have e : (#[x, y] : Array Operand).map a.eval = #[a.eval x, a.eval y] := by simp
  rw [e]
  exact h
/-- An operation that is no call: run to its value. -/
theorem st_val {op : Op} {v : Value} {w' : World} (hr : (execOp a.eval ⟨some d, op, ty, pos, aft, none⟩).run P w = .ok (.value v) w') (h : wpList P ops Q rest (a.put (some d) v) w') :
    wpList P ops Q (⟨some d, op, ty, pos, aft, none⟩ :: rest) a w :=
  wpList_plain rfl fun K hK => by
    unfold Oper.wp
    rw [hr, Oper.upon_value]
    exact hK _ _ h
end

/-- Some slots were written, all others are as they were. -/
structure Upd (a a' : Act) (W : List Nat) : Prop where
  size : a'.tmps.size = a.tmps.size
  defers : a'.defers = a.defers
  same : ∀ t, t ∉ W → sl a' t = sl a t
theorem Upd.refl (a : Act) (W : List Nat) : Upd a a W := ⟨rfl, rfl, fun _ _ => rfl⟩
theorem Upd.put {a a' : Act} {W : List Nat} (h : Upd a a' W) (d : Nat) (v : Value) (hd : d ∈ W) : Upd a (a'.put (some d) v) W :=
  ⟨(put_size _ _ _).trans h.size, (put_defers _ _ _).trans h.defers, fun t ht => (sl_put_other _ d t _ (fun e => ht (by rw [← e]; exact hd))).trans (h.same t ht)⟩
theorem Upd.trans {a b c : Act} {W : List Nat} (h : Upd a b W) (k : Upd b c W) : Upd a c W := ⟨k.size.trans h.size, k.defers.trans h.defers, fun t ht => (k.same t ht).trans (h.same t ht)⟩
theorem Upd.mono {a b : Act} {W W' : List Nat} (h : Upd a b W) (hs : ∀ t ∈ W, t ∈ W') : Upd a b W' := ⟨h.size, h.defers, fun t ht => h.same t (fun hx => ht (hs t hx))⟩

section
variable {Q : Exit → Act → World → Prop} {a : Act} {w : World} {id : Nat}

/-- 'v := b.F()': a call on the reader, its answer assigned. -/
theorem reg_call1 {f r d1 d2 : Nat} {tys : Array TypeId} {t1 t2 : TypeId} {p1 p2 : String} {e1 e2 : Array Edge} {fn : Func} (hfn : P.funcs[f]? = some fn) (hb : fn.body.isSome = true) (hn : (fn.name == "runtime.NumGoroutine") = false)
    (h1 : d1 < a.tmps.size) (h2 : d2 < a.tmps.size)
    (hc : Calls P f #[sl a r] w fun e w' => ∃ v, e = .returned v ∧ ∀ a', Upd a a' [d1, d2] → sl a' d2 = v → Q .normal a' w') :
    (Code.region id #[⟨some d1, .call { callee := .value (.func f), args := #[.tmp r], argTypes := tys }, t1, p1, e1, none⟩, ⟨some d2, .assign (.tmp d1), t2, p2, e2, none⟩] false).wp P Q a w := by
  refine wp_region_lit (st_call1 hfn hb hn (Calls.mono hc ?_))
  rintro e w' ⟨v, rfl, hq⟩
  refine ⟨v, rfl, st_assign (wpList_nil (hq _ (((Upd.refl a _).put d1 v (by simp)).put d2 _ (by simp)) ?_))⟩
  rw [sl_put_self _ _ _ (by rw [put_size]; exact h2), eval_tmp, sl_put_self _ _ _ h1]

/-- 's.F = v': a value stored into a field. -/
theorem reg_storeField {sp x t1 t2 t3 t4 T k off ty b o : Nat} {ty1 ty2 ty3 ty4 ty5 : TypeId} {p1 p2 p3 p4 p5 : String} {e1 e2 e3 e4 e5 : Array Edge} {u v : Value} (hf : FieldOff P T k off) (hst : Store1 P ty v)
    (h1 : t1 < a.tmps.size) (h2 : t2 < a.tmps.size) (h3 : t3 < a.tmps.size) (h4 : t4 < a.tmps.size) (h12 : t1 ≠ t2) (h1x : t1 ≠ x) (h23 : t2 ≠ t3) (h24 : t2 ≠ t4)
    (hsp : sl a sp = .pointer (some ⟨b, o, none⟩)) (hx : sl a x = v) (hc : w.cell? ⟨b, o + off, none⟩ = some u) (hfz : w.frozen? ⟨b, o + off, none⟩ = false)
    (hq : ∀ a', Upd a a' [t1, t2, t3, t4] → Q .normal a' (w.setCell ⟨b, o + off, none⟩ v)) :
    (Code.region id #[⟨some t1, .move (.tmp sp), ty1, p1, e1, none⟩, ⟨some t2, .move (.tmp x), ty2, p2, e2, none⟩, ⟨some t3, .nilCheck (.tmp t1), ty3, p3, e3, none⟩, ⟨some t4, .fieldAddr T (.tmp t3) k, ty4, p4, e4, none⟩,
      ⟨none, .store ty (.tmp t4) (.tmp t2), ty5, p5, e5, none⟩] false).wp P Q a w := by
  have q2 : sl ((a.put (some t1) (sl a sp)).put (some t2) (sl (a.put (some t1) (sl a sp)) x)) t1 = .pointer (some ⟨b, o, none⟩) := by
    rw [sl_put_other _ _ _ _ (fun e => h12 e.symm), sl_put_self _ _ _ h1, hsp]
  have q3 : sl ((a.put (some t1) (sl a sp)).put (some t2) (sl (a.put (some t1) (sl a sp)) x)) t2 = v := by
    rw [sl_put_self _ _ _ (by rw [put_size]; exact h2), sl_put_other _ _ _ _ h1x, hx]
  refine wp_region_lit (st_move (st_move (st_nil (p := ⟨b, o, none⟩) q2 (st_field (b := b) (o := o) hf ?_ (st_store (b := b) (o := o + off) (u := u) (v := v) ?_ ?_ hst hc hfz (wpList_nil (hq _ ?_)))))))
  · rw [eval_tmp, sl_put_self _ _ _ (by simp only [put_size]; exact h3)]
  · rw [eval_tmp, sl_put_self _ _ _ (by simp only [put_size]; exact h4)]
  · rw [eval_tmp, sl_put_other _ _ _ _ (fun e => h24 e.symm), sl_put_other _ _ _ _ (fun e => h23 e.symm)]
    exact q3
  · exact ((((Upd.refl a _).put t1 _ (by simp)).put t2 _ (by simp)).put t3 _ (by simp)).put t4 _ (by simp)

/-- 'v := s.F': a field loaded. -/
theorem reg_loadField {sp d t1 t2 t3 t4 T k off ty b o : Nat} {ty1 ty2 ty3 ty4 ty5 : TypeId} {p1 p2 p3 p4 p5 : String} {e1 e2 e3 e4 e5 : Array Edge} {v : Value} (hf : FieldOff P T k off) (hl : Load1 P ty)
    (h1 : t1 < a.tmps.size) (h2 : t2 < a.tmps.size) (h3 : t3 < a.tmps.size) (h4 : t4 < a.tmps.size) (h5 : d < a.tmps.size)
    (hsp : sl a sp = .pointer (some ⟨b, o, none⟩)) (hc : w.cell? ⟨b, o + off, none⟩ = some v) (hq : ∀ a', Upd a a' [t1, t2, t3, t4, d] → sl a' d = v → Q .normal a' w) :
    (Code.region id #[⟨some t1, .move (.tmp sp), ty1, p1, e1, none⟩, ⟨some t2, .nilCheck (.tmp t1), ty2, p2, e2, none⟩, ⟨some t3, .fieldAddr T (.tmp t2) k, ty3, p3, e3, none⟩, ⟨some t4, .load ty (.tmp t3), ty4, p4, e4, none⟩,
      ⟨some d, .assign (.tmp t4), ty5, p5, e5, none⟩] false).wp P Q a w := by
  refine wp_region_lit (st_move (st_nil (p := ⟨b, o, none⟩) ?_ (st_field (b := b) (o := o) hf ?_ (st_load (b := b) (o := o + off) (v := v) hl ?_ hc (st_assign (wpList_nil (hq _ ?_ ?_)))))))
  · rw [eval_tmp, sl_put_self _ _ _ h1, eval_tmp, hsp]
  · rw [eval_tmp, sl_put_self _ _ _ (by simp only [put_size]; exact h2)]
  · rw [eval_tmp, sl_put_self _ _ _ (by simp only [put_size]; exact h3)]
  · exact (((((Upd.refl a _).put t1 _ (by simp)).put t2 _ (by simp)).put t3 _ (by simp)).put t4 _ (by simp)).put d _ (by simp)
  · rw [sl_put_self _ _ _ (by simp only [put_size]; exact h5), eval_tmp, sl_put_self _ _ _ (by simp only [put_size]; exact h4)]

/-- 'x := y'. -/
theorem reg_copy {x t d : Nat} {ty1 ty2 : TypeId} {p1 p2 : String} {e1 e2 : Array Edge} (h1 : t < a.tmps.size) (h2 : d < a.tmps.size) (hq : ∀ a', Upd a a' [t, d] → sl a' d = sl a x → Q .normal a' w) :
    (Code.region id #[⟨some t, .move (.tmp x), ty1, p1, e1, none⟩, ⟨some d, .assign (.tmp t), ty2, p2, e2, none⟩] false).wp P Q a w := by
  refine wp_region_lit (st_move (st_assign (wpList_nil (hq _ (((Upd.refl a _).put t _ (by simp)).put d _ (by simp)) ?_))))
  rw [sl_put_self _ _ _ (by simp only [put_size]; exact h2), eval_tmp, sl_put_self _ _ _ h1, eval_tmp]
/-- 'x := constant'. -/
theorem reg_const {d : Nat} {v : Value} {ty1 : TypeId} {p1 : String} {e1 : Array Edge} (h2 : d < a.tmps.size) (hq : ∀ a', Upd a a' [d] → sl a' d = v → Q .normal a' w) :
    (Code.region id #[⟨some d, .assign (.const v), ty1, p1, e1, none⟩] false).wp P Q a w :=
  wp_region_lit (st_assign (wpList_nil (hq _ ((Upd.refl a _).put d _ (by simp)) (by rw [sl_put_self _ _ _ h2, eval_const]))))
/-- '_ = x', and a test of a variable. -/
theorem reg_move {x t : Nat} {ty1 : TypeId} {p1 : String} {e1 : Array Edge} (h2 : t < a.tmps.size) (hq : ∀ a', Upd a a' [t] → sl a' t = sl a x → Q .normal a' w) :
    (Code.region id #[⟨some t, .move (.tmp x), ty1, p1, e1, none⟩] false).wp P Q a w :=
  wp_region_lit (st_move (wpList_nil (hq _ ((Upd.refl a _).put t _ (by simp)) (by rw [sl_put_self _ _ _ h2, eval_tmp]))))
end
end
end Go.Proofs.YtpknjenihcfhlaaDoor
/-
  More regions: tests of a version, of a length, a call that is asked; steps of a loop. Conditions: none.
-/
namespace Go.Proofs.YtpknjenihcfhlaaDoor
open Go.RowKit (Below)

section
variable {P : Program}

theorem fieldOff_of {T k off : Nat} {fields : Array Field} {f : Field} {i : TypeInfo} (h : P.underlying T = some (.struct fields)) (hf : fields[k]? = some f) (ho : f.offset = off) (hi : P.info? f.type = some i) (hs : i.size ≠ 0) : FieldOff P T k off := by
  intro b o w
  subst ho
  simp [Instr.fieldAt, run_underlying h, hf, Instr.sureAddr, fieldPlace, sizeOf, typeInfo, hi, hs, Addr.add_mid]

theorem load1_of {ty : Nat} {d : TypeDesc} (h : P.underlying ty = some d) (hd : d.isRow = false) : Load1 P ty := by
  intro w b o v hc
  have hagg : (isAgg ty).run P w = .ok false w := by
    unfold isAgg
    rw [Sem.run_bind, run_underlying h w]
    cases d <;> simp_all
  simp only [Instr.loadAt, Instr.sureAddr, loadVar, Sem.run_bind, Sem.run_pure, Result.andThen_ok, hagg, Bool.false_eq_true, if_false, run_load, hc]

theorem store1_of {ty : Nat} {i : TypeInfo} {v : Value} (hi : P.info? ty = some i) (hs : i.size = 1) (hv : v.oneCell' = true) : Store1 P ty v := by
  intro w b o u hc hf
  have e : v.cells = #[v] := by cases v <;> first | rfl | simp [Value.oneCell'] at hv
  have e0 : (⟨b, o, none⟩ : Addr).add 0 = ⟨b, o, none⟩ := rfl
  simp [Instr.storeAt, Instr.sureAddr, storeVar, sizeOf, typeInfo, hi, e, hs, storeCells, run_store P w _ v _ hv, e0, hc, hf]

theorem sl_put (a : Act) (d t : Nat) (v : Value) (h : d < a.tmps.size) : sl (a.put (some d) v) t = if d = t then v else sl a t := by
  by_cases e : d = t
  · subst e; rw [if_pos rfl, sl_put_self _ _ _ h]
  · rw [if_neg e, sl_put_other _ _ _ _ e]

/-- An element's place. -/
def IndexOff (P : Program) (T sz : Nat) : Prop := ∀ (w : World) (g o n c i : Nat), i < n → (Instr.indexAt T (.slice (some ⟨g, o, none⟩) n c) (.int .i32 i)).run P w = .ok (.pointer (some ⟨g, o + i * sz, none⟩)) w
theorem indexOff_of {T e sz : Nat} {i : TypeInfo} (h : P.underlying T = some (.slice e)) (hi : P.info? e = some i) (hs : i.size = sz) : IndexOff P T sz := by
  intro w g o n c j hj
  subst hs
  have hj' : (0 : Int) ≤ j ∧ (j : Int) < n := by omega
  simp only [Instr.indexAt, run_underlying h, asIntOf, sizeOf, typeInfo, hi, Addr.add_mid, Sem.run_bind, Sem.run_pure, Result.andThen_ok, run_program, if_pos hj', Int.toNat_natCast]
/-- 'a[:0]'. -/
def Slice0 (P : Program) (T : Nat) : Prop := ∀ (w : World) (p : Option Addr) (n c : Nat), (Instr.sliceAt T (.slice p n c) none (some (.int .i64 0)) none).run P w = .ok (.slice p 0 c) w
theorem slice0_of {T e : Nat} {i : TypeInfo} (h : P.underlying T = some (.slice e)) (hi : P.info? e = some i) : Slice0 P T := by
  intro w p n c
  simp [Instr.sliceAt, run_underlying h, Instr.slice, Instr.sliceBounds, go_sem, sizeOf, typeInfo, hi]

theorem exec_bin {ρ : Operand → Value} {d : Option Nat} {op : BinOp} {T T' ty : TypeId} {x y : Operand} {u z r : Value} {pos : String} {aft : Array Edge} {g : Option (Nat × Bool)} {w : World} (hx : ρ x = u) (hy : ρ y = z)
    (hg : eqGuard op T x y u z = pure ()) (hb : binOp op T u z = pure r) : (execOp ρ ⟨d, .binOp op T x y T', ty, pos, aft, g⟩).run P w = .ok (.value r) w := by
  simp [execOp, hx, hy, hg, hb]

section
variable {ops : Array Oper} {Q : Exit → Act → World → Prop} {rest : List Oper} {a : Act} {w : World} {d : Nat} {ty : TypeId} {pos : String} {aft : Array Edge} {j t : Nat} {want : Bool}
/-- An operation under a condition that is met. -/
theorem st_want {op : Op} {v : Value} {w' : World} {oj : Oper} (ho : ops[j]? = some oj) (hd : oj.dst = some t) (ht : t < a.tmps.size) (hv : sl a t = .bool want)
    (hr : (execOp a.eval ⟨some d, op, ty, pos, aft, some (j, want)⟩).run P w = .ok (.value v) w') (h : wpList P ops Q rest (a.put (some d) v) w') :
    wpList P ops Q (⟨some d, op, ty, pos, aft, some (j, want)⟩ :: rest) a w :=
  wpList_step fun K hK => by
    have f : a.tmps[t]? = some (.bool want) := by
      rw [sl, Array.getD_eq_getD_getElem?, Array.getElem?_eq_getElem ht] at hv
      rw [Array.getElem?_eq_getElem ht]
      exact congrArg some hv
    rw [if_pos (by simp [Region.wanted, yielded, ho, hd, f])]
    unfold Oper.wp
    rw [hr, Oper.upon_value]
    exact hK _ _ h
/-- An operation under a condition that is not met. -/
theorem st_unwant {op : Op} {oj : Oper} (ho : ops[j]? = some oj) (hd : oj.dst = some t) (ht : t < a.tmps.size) (hv : sl a t = .bool (!want))
    (h : wpList P ops Q rest (a.put (some d) undef) w) : wpList P ops Q (⟨some d, op, ty, pos, aft, some (j, want)⟩ :: rest) a w :=
  wpList_skip (by
    have f : a.tmps[t]? = some (.bool (!want)) := by
      rw [sl, Array.getD_eq_getD_getElem?, Array.getElem?_eq_getElem ht] at hv
      rw [Array.getElem?_eq_getElem ht]
      exact congrArg some hv
    simp [Region.wanted, yielded, ho, hd, f]) h
end

section
variable {Q : Exit → Act → World → Prop} {a : Act} {w : World} {id : Nat}

/-- 'v.F(version)' in a test: a comparison of a variable with a number. -/
theorem reg_cmp {op : BinOp} {x t1 t2 : Nat} {c : Value} {T T' ty1 ty2 : TypeId} {p1 p2 : String} {e1 e2 : Array Edge} {r : Bool} (h1 : t1 < a.tmps.size) (h2 : t2 < a.tmps.size)
    (hg : ∀ y z, eqGuard op T y z (sl a x) c = pure ()) (hb : binOp op T (sl a x) c = pure (.bool r)) (hq : ∀ a', Upd a a' [t1, t2] → sl a' t2 = .bool r → Q .normal a' w) :
    (Code.region id #[⟨some t1, .move (.tmp x), ty1, p1, e1, none⟩, ⟨some t2, .binOp op T (.tmp t1) (.const c) T', ty2, p2, e2, none⟩] false).wp P Q a w := by
  refine wp_region_lit (st_move (st_val (exec_bin (by rw [eval_tmp, sl_put_self _ _ _ h1, eval_tmp]) (eval_const _ _) (hg _ _) hb) (wpList_nil (hq _ (((Upd.refl a _).put t1 _ (by simp)).put t2 _ (by simp)) ?_))))
  rw [sl_put_self _ _ _ (by simp only [put_size]; exact h2)]
/-- .. put into a variable. -/
theorem reg_cmp_to {op : BinOp} {x t1 t2 t3 : Nat} {c : Value} {T T' ty1 ty2 ty3 : TypeId} {p1 p2 p3 : String} {e1 e2 e3 : Array Edge} {r : Bool} (h1 : t1 < a.tmps.size) (h2 : t2 < a.tmps.size) (h3 : t3 < a.tmps.size)
    (hg : ∀ y z, eqGuard op T y z (sl a x) c = pure ()) (hb : binOp op T (sl a x) c = pure (.bool r)) (hq : ∀ a', Upd a a' [t1, t2, t3] → sl a' t3 = .bool r → Q .normal a' w) :
    (Code.region id #[⟨some t1, .move (.tmp x), ty1, p1, e1, none⟩, ⟨some t2, .binOp op T (.tmp t1) (.const c) T', ty2, p2, e2, none⟩, ⟨some t3, .assign (.tmp t2), ty3, p3, e3, none⟩] false).wp P Q a w := by
  refine wp_region_lit (st_move (st_val (exec_bin (by rw [eval_tmp, sl_put_self _ _ _ h1, eval_tmp]) (eval_const _ _) (hg _ _) hb) (st_assign (wpList_nil (hq _ ((((Upd.refl a _).put t1 _ (by simp)).put t2 _ (by simp)).put t3 _ (by simp)) ?_)))))
  rw [sl_put_self _ _ _ (by simp only [put_size]; exact h3), eval_tmp, sl_put_self _ _ _ (by simp only [put_size]; exact h2)]
/-- A comparison of two variables. -/
theorem reg_cmp2 {op : BinOp} {x y t1 t2 t3 : Nat} {T T' ty1 ty2 ty3 : TypeId} {p1 p2 p3 : String} {e1 e2 e3 : Array Edge} {r : Bool} (h1 : t1 < a.tmps.size) (h2 : t2 < a.tmps.size) (h3 : t3 < a.tmps.size) (h12 : t1 ≠ t2) (h1y : t1 ≠ y)
    (hg : ∀ u z, eqGuard op T u z (sl a x) (sl a y) = pure ()) (hb : binOp op T (sl a x) (sl a y) = pure (.bool r)) (hq : ∀ a', Upd a a' [t1, t2, t3] → sl a' t3 = .bool r → Q .normal a' w) :
    (Code.region id #[⟨some t1, .move (.tmp x), ty1, p1, e1, none⟩, ⟨some t2, .move (.tmp y), ty2, p2, e2, none⟩, ⟨some t3, .binOp op T (.tmp t1) (.tmp t2) T', ty3, p3, e3, none⟩] false).wp P Q a w := by
  refine wp_region_lit (st_move (st_move (st_val (exec_bin ?_ ?_ (hg _ _) hb) (wpList_nil (hq _ ((((Upd.refl a _).put t1 _ (by simp)).put t2 _ (by simp)).put t3 _ (by simp)) ?_)))))
  · rw [eval_tmp, sl_put_other _ _ _ _ (fun e => h12 e.symm), sl_put_self _ _ _ h1, eval_tmp]
  · rw [eval_tmp, sl_put_self _ _ _ (by simp only [put_size]; exact h2), eval_tmp, sl_put_other _ _ _ _ h1y]
  · rw [sl_put_self _ _ _ (by simp only [put_size]; exact h3)]
/-- 'lo <= v && v <= hi'. -/
theorem reg_range {x t1 t2 t3 t4 t5 t6 : Nat} {lo hi v : Int} {k : IntKind} {T1 T1' T2 T2' ty1 ty2 ty3 ty4 ty5 ty6 : TypeId} {p1 p2 p3 p4 p5 p6 : String} {e1 e2 e3 e4 e5 e6 : Array Edge}
    (h1 : t1 < a.tmps.size) (h2 : t2 < a.tmps.size) (h3 : t3 < a.tmps.size) (h4 : t4 < a.tmps.size) (h5 : t5 < a.tmps.size) (h6 : t6 < a.tmps.size) (hd : [x, t1, t2, t3, t4, t5, t6].Nodup)
    (hx : sl a x = .int k v) (hq : ∀ a', Upd a a' [t1, t2, t3, t4, t5, t6] → sl a' t6 = .bool (decide (lo ≤ v) && decide (v ≤ hi)) → Q .normal a' w) :
    (Code.region id #[⟨some t1, .move (.tmp x), ty1, p1, e1, none⟩, ⟨some t2, .binOp .geq T1 (.tmp t1) (.const (.int k lo)) T1', ty2, p2, e2, none⟩, ⟨some t3, .move (.tmp t2), ty3, p3, e3, none⟩,
      ⟨some t4, .move (.tmp x), ty4, p4, e4, some (2, true)⟩, ⟨some t5, .binOp .leq T2 (.tmp t4) (.const (.int k hi)) T2', ty5, p5, e5, some (2, true)⟩, ⟨some t6, .pick (.tmp t3) (.tmp t5) (.const (.bool false)), ty6, p6, e6, none⟩] false).wp P Q a w := by
  simp only [List.nodup_cons, List.mem_cons, List.not_mem_nil, or_false, not_or, List.nodup_nil, and_true, not_false_eq_true] at hd
  obtain ⟨⟨x1, x2, x3, x4, x5, x6⟩, ⟨y2, y3, y4, y5, y6⟩, ⟨z3, z4, z5, z6⟩, ⟨u4, u5, u6⟩, ⟨v5, v6⟩, w6⟩ := hd
  refine wp_region_lit (st_move (st_val (v := .bool (decide (lo ≤ v))) (w' := w) (exec_bin (u := .int k v) (by rw [eval_tmp, sl_put_self _ _ _ h1, eval_tmp, hx]) (eval_const _ _) (eqGuard_geq ..) (binOp_geq ..)) (st_move ?_)))
  rw [eval_tmp, eval_tmp, sl_put_self _ _ _ (by simp only [put_size]; exact h2)]
  generalize hA : ((a.put (some t1) (sl a x)).put (some t2) (.bool (decide (lo ≤ v)))).put (some t3) (.bool (decide (lo ≤ v))) = A
  have hu : Upd a A [t1, t2, t3, t4, t5, t6] := by subst hA; exact (((Upd.refl a _).put t1 _ (by simp)).put t2 _ (by simp)).put t3 _ (by simp)
  have s3 : sl A t3 = .bool (decide (lo ≤ v)) := by subst hA; exact sl_put_self _ _ _ (by simp only [put_size]; exact h3)
  have sx : sl A x = .int k v := by subst hA; rw [sl_put_other _ _ _ _ (fun e => x3 e.symm), sl_put_other _ _ _ _ (fun e => x2 e.symm), sl_put_other _ _ _ _ (fun e => x1 e.symm), hx]
  have hsz := hu.size
  by_cases hlo : lo ≤ v
  · refine st_want (t := t3) rfl rfl (by omega) (by rw [s3]; simp [hlo]) (v := .int k v) (w' := w) (by simp only [execOp, Sem.run_pure, eval_tmp, sx]) ?_
    refine st_want (t := t3) rfl rfl (by rw [put_size]; omega) (by rw [sl_put_other _ _ _ _ (fun e => u4 e.symm), s3]; simp [hlo]) (v := .bool (decide (v ≤ hi))) (w' := w)
      (exec_bin (u := .int k v) (by rw [eval_tmp, sl_put_self _ _ _ (by omega)]) (eval_const _ _) (eqGuard_leq ..) (binOp_leq ..)) ?_
    refine st_val (v := .bool (decide (v ≤ hi))) (w' := w) ?_ (wpList_nil (hq _ (((hu.put t4 _ (by simp)).put t5 _ (by simp)).put t6 _ (by simp)) ?_))
    · have q3 : ((A.put (some t4) (.int k v)).put (some t5) (.bool (decide (v ≤ hi)))).eval (.tmp t3) = .bool true := by
        rw [eval_tmp, sl_put_other _ _ _ _ (fun e => u5 e.symm), sl_put_other _ _ _ _ (fun e => u4 e.symm), s3]; simp [hlo]
      have q5 : ((A.put (some t4) (.int k v)).put (some t5) (.bool (decide (v ≤ hi)))).eval (.tmp t5) = .bool (decide (v ≤ hi)) := by rw [eval_tmp, sl_put_self _ _ _ (by rw [put_size]; omega)]
      simp [execOp, q3, q5, asBool]
    · rw [sl_put_self _ _ _ (by simp only [put_size]; omega)]; simp [hlo]
  · refine st_unwant (t := t3) rfl rfl (by omega) (by rw [s3]; simp [hlo]) ?_
    refine st_unwant (t := t3) rfl rfl (by rw [put_size]; omega) (by rw [sl_put_other _ _ _ _ (fun e => u4 e.symm), s3]; simp [hlo]) ?_
    refine st_val (v := .bool false) (w' := w) ?_ (wpList_nil (hq _ (((hu.put t4 _ (by simp)).put t5 _ (by simp)).put t6 _ (by simp)) ?_))
    · have q3 : ((A.put (some t4) undef).put (some t5) undef).eval (.tmp t3) = .bool false := by
        rw [eval_tmp, sl_put_other _ _ _ _ (fun e => u5 e.symm), sl_put_other _ _ _ _ (fun e => u4 e.symm), s3]; simp [hlo]
      simp [execOp, q3, asBool, eval_const]
    · rw [sl_put_self _ _ _ (by simp only [put_size]; omega)]; simp [hlo]
/-- '!b.Ok()'. -/
theorem reg_not {f r d1 d2 : Nat} {tys : Array TypeId} {T t1 t2 : TypeId} {p1 p2 : String} {e1 e2 : Array Edge} {fn : Func} (hfn : P.funcs[f]? = some fn) (hb : fn.body.isSome = true) (hn : (fn.name == "runtime.NumGoroutine") = false)
    (h1 : d1 < a.tmps.size) (h2 : d2 < a.tmps.size)
    (hc : Calls P f #[sl a r] w fun e w' => ∃ b, e = .returned (.bool b) ∧ ∀ a', Upd a a' [d1, d2] → sl a' d2 = .bool (!b) → Q .normal a' w') :
    (Code.region id #[⟨some d1, .call { callee := .value (.func f), args := #[.tmp r], argTypes := tys }, t1, p1, e1, none⟩, ⟨some d2, .unOp .not T (.tmp d1), t2, p2, e2, none⟩] false).wp P Q a w := by
  refine wp_region_lit (st_call1 hfn hb hn (Calls.mono hc ?_))
  rintro e w' ⟨b, rfl, hq⟩
  refine ⟨_, rfl, st_val (v := .bool (!b)) (w' := w') ?_ (wpList_nil (hq _ (((Upd.refl a _).put d1 _ (by simp)).put d2 _ (by simp)) ?_))⟩
  · have : (a.put (some d1) (.bool b)).eval (.tmp d1) = .bool b := by rw [eval_tmp, sl_put_self _ _ _ h1]
    simp [execOp, this, Op.unary]
  · rw [sl_put_self _ _ _ (by rw [put_size]; exact h2)]
/-- 'p.Default()'. -/
theorem reg_callp {f x d1 d2 : Nat} {tys : Array TypeId} {t1 t2 : TypeId} {p1 p2 : String} {e1 e2 : Array Edge} {fn : Func} (hfn : P.funcs[f]? = some fn) (hb : fn.body.isSome = true) (hn : (fn.name == "runtime.NumGoroutine") = false)
    (h1 : d1 < a.tmps.size) (hc : Calls P f #[sl a x] w fun e w' => (∃ v, e = .returned v) ∧ ∀ a', Upd a a' [d1, d2] → Q .normal a' w') :
    (Code.region id #[⟨some d1, .move (.tmp x), t1, p1, e1, none⟩, ⟨some d2, .call { callee := .value (.func f), args := #[.tmp d1], argTypes := tys }, t2, p2, e2, none⟩] false).wp P Q a w := by
  refine wp_region_lit (st_move (st_call1 hfn hb hn ?_))
  rw [eval_tmp, sl_put_self _ _ _ h1, eval_tmp]
  refine Calls.mono hc ?_
  rintro e w' ⟨⟨v, rfl⟩, hq⟩
  exact ⟨v, rfl, wpList_nil (hq _ (((Upd.refl a _).put d1 _ (by simp)).put d2 _ (by simp)))⟩
/-- 'x = x[:0]'. -/
theorem reg_slice0 {x t1 t2 T : Nat} {ty1 ty2 ty3 : TypeId} {p1 p2 p3 : String} {e1 e2 e3 : Array Edge} {p : Option Addr} {n c : Nat} (hs : Slice0 P T) (h1 : t1 < a.tmps.size) (h2 : t2 < a.tmps.size) (h3 : x < a.tmps.size)
    (hx : sl a x = .slice p n c) (hq : ∀ a', Upd a a' [t1, t2, x] → sl a' x = .slice p 0 c → Q .normal a' w) :
    (Code.region id #[⟨some t1, .move (.tmp x), ty1, p1, e1, none⟩, ⟨some t2, .slice T (.tmp t1) none (some (.const (.int .i64 0))) none, ty2, p2, e2, none⟩, ⟨some x, .assign (.tmp t2), ty3, p3, e3, none⟩] false).wp P Q a w := by
  refine wp_region_lit (st_move (st_val (v := .slice p 0 c) (w' := w) ?_ (st_assign (wpList_nil (hq _ ((((Upd.refl a _).put t1 _ (by simp)).put t2 _ (by simp)).put x _ (by simp)) ?_)))))
  · have : (a.put (some t1) (a.eval (.tmp x))).eval (.tmp t1) = .slice p n c := by rw [eval_tmp, sl_put_self _ _ _ h1, eval_tmp, hx]
    simp only [execOp, this, Option.map_some, Option.map_none, eval_const, Sem.run_bind, hs w p n c, Result.andThen_ok, Sem.run_pure]
  · rw [sl_put_self _ _ _ (by simp only [put_size]; exact h3), eval_tmp, sl_put_self _ _ _ (by simp only [put_size]; exact h2)]
/-- 'x = append(x, make([]T, l)...)'. -/
theorem reg_append0 {x l t1 t2 t3 T Tn : Nat} {ty1 ty2 ty3 ty4 : TypeId} {p1 p2 p3 p4 : String} {e1 e2 e3 e4 : Array Edge} {v : Value} {w' : World} (h1 : t1 < a.tmps.size) (h2 : t2 < a.tmps.size) (h3 : t3 < a.tmps.size) (h4 : x < a.tmps.size)
    (h12 : t1 ≠ t2) (h1l : t1 ≠ l) (hr : (Builtin.append_ #[T, Tn] ty3 #[sl a x, sl a l]).run P w = .ok v w') (hq : ∀ a', Upd a a' [t1, t2, t3, x] → sl a' x = v → Q .normal a' w') :
    (Code.region id #[⟨some t1, .move (.tmp x), ty1, p1, e1, none⟩, ⟨some t2, .move (.tmp l), ty2, p2, e2, none⟩, ⟨some t3, .call { callee := .builtin .append, args := #[.tmp t1, .tmp t2], argTypes := #[T, Tn] }, ty3, p3, e3, none⟩,
      ⟨some x, .assign (.tmp t3), ty4, p4, e4, none⟩] false).wp P Q a w := by
  refine wp_region_lit (st_move (st_move (Lib.wpList_append_run _ rfl _ _ _ _ rfl _ _ ?_ ?_ _ _ hr (st_assign (wpList_nil (hq _ (((((Upd.refl a _).put t1 _ (by simp)).put t2 _ (by simp)).put t3 _ (by simp)).put x _ (by simp)) ?_))))))
  · rw [eval_tmp, sl_put_other _ _ _ _ (fun e => h12 e.symm), sl_put_self _ _ _ h1, eval_tmp]
  · rw [eval_tmp, sl_put_self _ _ _ (by simp only [put_size]; exact h2), eval_tmp, sl_put_other _ _ _ _ h1l]
  · rw [sl_put_self _ _ _ (by simp only [put_size]; exact h4), eval_tmp, sl_put_self _ _ _ (by simp only [put_size]; exact h3)]
/-- 'v := &a[i]'. -/
theorem reg_index {x i t1 t2 t3 d T sz g o n c j : Nat} {ty1 ty2 ty3 ty4 : TypeId} {p1 p2 p3 p4 : String} {e1 e2 e3 e4 : Array Edge} (hs : IndexOff P T sz) (h1 : t1 < a.tmps.size) (h2 : t2 < a.tmps.size) (h3 : t3 < a.tmps.size) (h4 : d < a.tmps.size)
    (h12 : t1 ≠ t2) (h1i : t1 ≠ i) (hx : sl a x = .slice (some ⟨g, o, none⟩) n c) (hi : sl a i = .int .i32 (j : Int)) (hj : j < n)
    (hq : ∀ a', Upd a a' [t1, t2, t3, d] → sl a' d = .pointer (some ⟨g, o + j * sz, none⟩) → Q .normal a' w) :
    (Code.region id #[⟨some t1, .move (.tmp x), ty1, p1, e1, none⟩, ⟨some t2, .move (.tmp i), ty2, p2, e2, none⟩, ⟨some t3, .indexAddr T (.tmp t1) (.tmp t2), ty3, p3, e3, none⟩, ⟨some d, .assign (.tmp t3), ty4, p4, e4, none⟩] false).wp P Q a w := by
  refine wp_region_lit (st_move (st_move (st_val (v := .pointer (some ⟨g, o + j * sz, none⟩)) (w' := w) ?_ (st_assign (wpList_nil (hq _ (((((Upd.refl a _).put t1 _ (by simp)).put t2 _ (by simp)).put t3 _ (by simp)).put d _ (by simp)) ?_))))))
  · have q1 : ((a.put (some t1) (a.eval (.tmp x))).put (some t2) ((a.put (some t1) (a.eval (.tmp x))).eval (.tmp i))).eval (.tmp t1) = .slice (some ⟨g, o, none⟩) n c := by
      rw [eval_tmp, sl_put_other _ _ _ _ (fun e => h12 e.symm), sl_put_self _ _ _ h1, eval_tmp, hx]
    have q2 : ((a.put (some t1) (a.eval (.tmp x))).put (some t2) ((a.put (some t1) (a.eval (.tmp x))).eval (.tmp i))).eval (.tmp t2) = .int .i32 (j : Int) := by
      rw [eval_tmp, sl_put_self _ _ _ (by simp only [put_size]; exact h2), eval_tmp, sl_put_other _ _ _ _ h1i, hi]
    simp only [execOp, q1, q2, Sem.run_bind, hs w g o n c j hj, Result.andThen_ok, Sem.run_pure]
  · rw [sl_put_self _ _ _ (by simp only [put_size]; exact h4), eval_tmp, sl_put_self _ _ _ (by simp only [put_size]; exact h3)]
/-- 'a[i] = v'. -/
theorem reg_storeIdx {x i y t1 t2 t3 t4 T sz ty g o n c j : Nat} {ty1 ty2 ty3 ty4 ty5 : TypeId} {p1 p2 p3 p4 p5 : String} {e1 e2 e3 e4 e5 : Array Edge} {u v : Value} (hs : IndexOff P T sz) (hst : Store1 P ty v) (h1 : t1 < a.tmps.size) (h2 : t2 < a.tmps.size) (h3 : t3 < a.tmps.size) (h4 : t4 < a.tmps.size)
    (hd : [y, i, t1, t2, t3, t4].Nodup) (hx : sl a x = .slice (some ⟨g, o, none⟩) n c) (hi : sl a i = .int .i32 (j : Int)) (hj : j < n) (hy : sl a y = v) (hc : w.cell? ⟨g, o + j * sz, none⟩ = some u) (hf : w.frozen? ⟨g, o + j * sz, none⟩ = false)
    (hq : ∀ a', Upd a a' [t1, t2, t3, t4] → Q .normal a' (w.setCell ⟨g, o + j * sz, none⟩ v)) :
    (Code.region id #[⟨some t1, .move (.tmp x), ty1, p1, e1, none⟩, ⟨some t2, .move (.tmp i), ty2, p2, e2, none⟩, ⟨some t3, .move (.tmp y), ty3, p3, e3, none⟩, ⟨some t4, .indexAddr T (.tmp t1) (.tmp t2), ty4, p4, e4, none⟩,
      ⟨none, .store ty (.tmp t4) (.tmp t3), ty5, p5, e5, none⟩] false).wp P Q a w := by
  simp only [List.nodup_cons, List.mem_cons, List.not_mem_nil, or_false, not_or, List.nodup_nil, and_true, not_false_eq_true] at hd
  obtain ⟨⟨y1, y2, y3, y4, y5⟩, ⟨i1, i2, i3, i4⟩, ⟨n2, n3, n4⟩, ⟨m3, m4⟩, k4⟩ := hd
  refine wp_region_lit (st_move (st_move (st_move ?_)))
  generalize hA : ((a.put (some t1) (a.eval (.tmp x))).put (some t2) ((a.put (some t1) (a.eval (.tmp x))).eval (.tmp i))).put (some t3) (((a.put (some t1) (a.eval (.tmp x))).put (some t2) ((a.put (some t1) (a.eval (.tmp x))).eval (.tmp i))).eval (.tmp y)) = A
  have hu : Upd a A [t1, t2, t3, t4] := by subst hA; exact (((Upd.refl a _).put t1 _ (by simp)).put t2 _ (by simp)).put t3 _ (by simp)
  have q1 : sl A t1 = .slice (some ⟨g, o, none⟩) n c := by subst hA; rw [sl_put_other _ _ _ _ (fun e => n3 e.symm), sl_put_other _ _ _ _ (fun e => n2 e.symm), sl_put_self _ _ _ h1, eval_tmp, hx]
  have q2 : sl A t2 = .int .i32 (j : Int) := by subst hA; rw [sl_put_other _ _ _ _ (fun e => m3 e.symm), sl_put_self _ _ _ (by simp only [put_size]; exact h2), eval_tmp, sl_put_other _ _ _ _ (fun e => i1 e.symm), hi]
  have q3 : sl A t3 = v := by subst hA; rw [sl_put_self _ _ _ (by simp only [put_size]; exact h3), eval_tmp, sl_put_other _ _ _ _ (fun e => y3 e.symm), sl_put_other _ _ _ _ (fun e => y2 e.symm), hy]
  have hsz := hu.size
  refine st_val (v := .pointer (some ⟨g, o + j * sz, none⟩)) (w' := w) ?_ (st_store (b := g) (o := o + j * sz) (u := u) (v := v) ?_ ?_ hst hc hf (wpList_nil (hq _ (hu.put t4 _ (by simp)))))
  · simp only [execOp, eval_tmp, q1, q2, Sem.run_bind, hs w g o n c j hj, Result.andThen_ok, Sem.run_pure]
  · rw [eval_tmp, sl_put_self _ _ _ (by omega)]
  · rw [eval_tmp, sl_put_other _ _ _ _ (fun e => k4 e.symm), q3]
/-- 'i++'. -/
theorem reg_incr {i t1 t2 : Nat} {T T' ty1 ty2 ty3 : TypeId} {p1 p2 p3 : String} {e1 e2 e3 : Array Edge} {j : Nat} (h1 : t1 < a.tmps.size) (h2 : t2 < a.tmps.size) (h3 : i < a.tmps.size) (hj : j < 2147483647) (hi : sl a i = .int .i32 (j : Int))
    (hq : ∀ a', Upd a a' [t1, t2, i] → sl a' i = .int .i32 ((j + 1 : Nat) : Int) → Q .normal a' w) :
    (Code.region id #[⟨some t1, .move (.tmp i), ty1, p1, e1, none⟩, ⟨some t2, .binOp .add T (.tmp t1) (.const (.int .i32 1)) T', ty2, p2, e2, none⟩, ⟨some i, .assign (.tmp t2), ty3, p3, e3, none⟩] false).wp P Q a w := by
  refine wp_region_lit (st_move (st_val (v := .int .i32 ((j + 1 : Nat) : Int)) (w' := w) (exec_bin (u := .int .i32 (j : Int)) (by rw [eval_tmp, sl_put_self _ _ _ h1, eval_tmp, hi]) (eval_const _ _) (eqGuard_at_int ..) ?_)
    (st_assign (wpList_nil (hq _ ((((Upd.refl a _).put t1 _ (by simp)).put t2 _ (by simp)).put i _ (by simp)) ?_)))))
  · rw [binOp_add]
    have : IntKind.i32.wrap ((j : Int) + 1) = ((j + 1 : Nat) : Int) := by rw [IntKind.wrap_i32]; omega
    simp [Op.intArith, this]
  · rw [sl_put_self _ _ _ (by simp only [put_size]; exact h3), eval_tmp, sl_put_self _ _ _ (by simp only [put_size]; exact h2)]
/-- 'v := &s.F'. -/
theorem reg_fieldAddr {sp d t1 t2 t3 T k off b o : Nat} {ty1 ty2 ty3 ty4 : TypeId} {p1 p2 p3 p4 : String} {e1 e2 e3 e4 : Array Edge} (hf : FieldOff P T k off) (h1 : t1 < a.tmps.size) (h2 : t2 < a.tmps.size) (h3 : t3 < a.tmps.size) (h5 : d < a.tmps.size)
    (hsp : sl a sp = .pointer (some ⟨b, o, none⟩)) (hq : ∀ a', Upd a a' [t1, t2, t3, d] → sl a' d = .pointer (some ⟨b, o + off, none⟩) → Q .normal a' w) :
    (Code.region id #[⟨some t1, .move (.tmp sp), ty1, p1, e1, none⟩, ⟨some t2, .nilCheck (.tmp t1), ty2, p2, e2, none⟩, ⟨some t3, .fieldAddr T (.tmp t2) k, ty3, p3, e3, none⟩, ⟨some d, .assign (.tmp t3), ty4, p4, e4, none⟩] false).wp P Q a w := by
  refine wp_region_lit (st_move (st_nil (p := ⟨b, o, none⟩) ?_ (st_field (b := b) (o := o) hf ?_ (st_assign (wpList_nil (hq _ ?_ ?_))))))
  · rw [eval_tmp, sl_put_self _ _ _ h1, eval_tmp, hsp]
  · rw [eval_tmp, sl_put_self _ _ _ (by simp only [put_size]; exact h2)]
  · exact ((((Upd.refl a _).put t1 _ (by simp)).put t2 _ (by simp)).put t3 _ (by simp)).put d _ (by simp)
  · rw [sl_put_self _ _ _ (by simp only [put_size]; exact h5), eval_tmp, sl_put_self _ _ _ (by simp only [put_size]; exact h3)]
end
end
end Go.Proofs.YtpknjenihcfhlaaDoor
/-
  Operations of small functions, each by one law. Conditions: none.
-/
namespace Go.Proofs.YtpknjenihcfhlaaDoor
open Go.RowKit (Below)

section
variable {P : Program} {ρ : Operand → Value} {d : Option Nat} {ty : TypeId} {pos : String} {aft : Array Edge} {g : Option (Nat × Bool)} {w : World}
theorem exec_len_str {T : TypeId} {x : Operand} {s : ByteArray} {n : Nat} (ht : P.underlying T = some .string) (hx : ρ x = .string s) (hn : s.size = n) : (execOp ρ ⟨d, .call { callee := .builtin .len, args := #[x], argTypes := #[T] }, ty, pos, aft, g⟩).run P w = .ok (.value (.int .i64 (n : Int))) w := by
  subst hn
  simp [execOp, resolve, invoke, builtin, hx, Builtin.len_, run_underlying ht, goInt]
theorem exec_len_slice {T e : TypeId} {x : Operand} {p : Option Addr} {n c : Nat} (ht : P.underlying T = some (.slice e)) (hx : ρ x = .slice p n c) : (execOp ρ ⟨d, .call { callee := .builtin .len, args := #[x], argTypes := #[T] }, ty, pos, aft, g⟩).run P w = .ok (.value (.int .i64 (n : Int))) w := by
  simp [execOp, resolve, invoke, builtin, hx, Builtin.len_, run_underlying ht, goInt]
theorem exec_conv {src dst : TypeId} {x : Operand} {k k' : IntKind} {n m : Int} {ds : TypeDesc} (hs : P.underlying src = some ds) (hd : P.underlying dst = some (.int k')) (hx : ρ x = .int k n) (hm : k'.wrap n = m) :
    (execOp ρ ⟨d, .convert src dst x, ty, pos, aft, g⟩).run P w = .ok (.value (.int k' m)) w := by
  subst hm
  simp [execOp, hx, convert, run_underlying hs, run_underlying hd, Conv.intToInt]
theorem exec_add {T T' : TypeId} {x y : Operand} {k : IntKind} {a b m : Int} (hx : ρ x = .int k a) (hy : ρ y = .int k b) (hm : k.wrap (a + b) = m) : (execOp ρ ⟨d, .binOp .add T x y T', ty, pos, aft, g⟩).run P w = .ok (.value (.int k m)) w := by
  subst hm
  exact exec_bin hx hy (eqGuard_at_int ..) (by rw [binOp_add]; simp [Op.intArith])
end

/-- The frame at a call of two values. -/
theorem enter2 {P : Program} {f : Nat} {fn : Func} {c : Code} {x y : Value} {w : World} {R : Ending → World → Prop} {res : Nat} (hf : P.funcs[f]? = some fn) (hb : fn.body = some c) (hn : 2 ≤ fn.ntmps) (hr : fn.results = #[.tmp res])
    (h : ∀ (a : Act), a.tmps.size = fn.ntmps → a.defers = [] → sl a 0 = x → sl a 1 = y → c.wp P (fun e a' w' => e = .ret ∧ a'.defers = [] ∧ R (.returned (sl a' res)) w') a w) : Calls P f #[x, y] w R := by
  refine calls_of_wp hf hb ?_
  refine wp_mono (h _ (by simp; omega) rfl (by simp [sl, Array.getD_eq_getD_getElem?, Array.getElem?_append]) (by simp [sl, Array.getD_eq_getD_getElem?, Array.getElem?_append])) ?_
  rintro e a' w' ⟨rfl, hd, hq⟩
  exact ⟨hd, _, results_tmp hr _ _ _, hq⟩

section
variable {P : Program} {Q : Exit → Act → World → Prop} {a : Act} {w : World} {id : Nat}
/-- 'd = f(x, K(len(y)))'. -/
theorem reg_len_call {f x y t1 t2 t3 t4 t5 d : Nat} {T src dst ty1 ty2 ty3 ty4 ty5 ty6 : TypeId} {tys : Array TypeId} {p1 p2 p3 p4 p5 p6 : String} {e1 e2 e3 e4 e5 e6 : Array Edge} {fn : Func} {k' : IntKind} {u m : Int} {ds : TypeDesc}
    (hfn : P.funcs[f]? = some fn) (hb : fn.body.isSome = true) (hnn : (fn.name == "runtime.NumGoroutine") = false) (hs : P.underlying src = some ds) (hdst : P.underlying dst = some (.int k')) (hm : k'.wrap u = m)
    (hn : [t1, t2, t3, t4, t5, d].all (· < a.tmps.size) = true) (hd : decide ([y, t1, t2, t3, t4].Nodup) = true)
    (hlen : ∀ ρ : Operand → Value, ρ (.tmp t2) = sl a y → (execOp ρ ⟨some t3, .call { callee := .builtin .len, args := #[.tmp t2], argTypes := #[T] }, ty3, p3, e3, none⟩).run P w = .ok (.value (.int .i64 u)) w)
    (hc : Calls P f #[sl a x, .int k' m] w fun e w' => ∃ v, e = .returned v ∧ ∀ a', Upd a a' [t1, t2, t3, t4, t5, d] → sl a' d = v → Q .normal a' w') :
    (Code.region id #[⟨some t1, .move (.tmp x), ty1, p1, e1, none⟩, ⟨some t2, .move (.tmp y), ty2, p2, e2, none⟩, ⟨some t3, .call { callee := .builtin .len, args := #[.tmp t2], argTypes := #[T] }, ty3, p3, e3, none⟩, ⟨some t4, .convert src dst (.tmp t3), ty4, p4, e4, none⟩,
      ⟨some t5, .call { callee := .value (.func f), args := #[.tmp t1, .tmp t4], argTypes := tys }, ty5, p5, e5, none⟩, ⟨some d, .assign (.tmp t5), ty6, p6, e6, none⟩] false).wp P Q a w := by
  simp only [List.all_cons, List.all_nil, Bool.and_true, Bool.and_eq_true, decide_eq_true_eq] at hn hd
  obtain ⟨n1, n2, n3, n4, n5, n6⟩ := hn
  simp only [List.nodup_cons, List.mem_cons, List.not_mem_nil, or_false, not_or, List.nodup_nil, and_true, not_false_eq_true] at hd
  obtain ⟨⟨y1, y2, y3, y4⟩, ⟨z2, z3, z4⟩, ⟨u3, u4⟩, v4⟩ := hd
  refine wp_region_lit (st_move (st_move (st_val (v := .int .i64 u) (w' := w) (hlen _ ?_) (st_val (v := .int k' m) (w' := w) (exec_conv (k := .i64) hs hdst ?_ hm) (st_call2 hfn hb hnn ?_)))))
  · rw [eval_tmp, sl_put_self _ _ _ (by rw [put_size]; exact n2), eval_tmp, sl_put_other _ _ _ _ (fun e => y1 e.symm)]
  · rw [eval_tmp, sl_put_self _ _ _ (by simp only [put_size]; exact n3)]
  · rw [eval_tmp, sl_put_other _ _ _ _ (fun e => z4 e.symm), sl_put_other _ _ _ _ (fun e => z3 e.symm), sl_put_other _ _ _ _ (fun e => z2 e.symm), sl_put_self _ _ _ n1, eval_tmp, eval_tmp, sl_put_self _ _ _ (by simp only [put_size]; exact n4)]
    refine Calls.mono hc ?_
    rintro e w' ⟨v, rfl, hq⟩
    refine ⟨v, rfl, st_assign (wpList_nil (hq _ ((((((Upd.refl a _).put t1 _ (by simp)).put t2 _ (by simp)).put t3 _ (by simp)).put t4 _ (by simp)).put t5 _ (by simp) |>.put d _ (by simp)) ?_))⟩
    rw [sl_put_self _ _ _ (by simp only [put_size]; exact n6), eval_tmp, sl_put_self _ _ _ (by simp only [put_size]; exact n5)]
/-- 'd = f(x, 1 + K(len(y)))'. -/
theorem reg_len1_call {f x y t1 t2 t3 t4 t5 t6 d : Nat} {T src dst A A' ty1 ty2 ty3 ty4 ty5 ty6 ty7 : TypeId} {tys : Array TypeId} {p1 p2 p3 p4 p5 p6 p7 : String} {e1 e2 e3 e4 e5 e6 e7 : Array Edge} {fn : Func} {k' : IntKind} {u m m2 c : Int} {ds : TypeDesc}
    (hfn : P.funcs[f]? = some fn) (hb : fn.body.isSome = true) (hnn : (fn.name == "runtime.NumGoroutine") = false) (hs : P.underlying src = some ds) (hdst : P.underlying dst = some (.int k')) (hm : k'.wrap u = m) (hm2 : k'.wrap (c + m) = m2)
    (hn : [t1, t2, t3, t4, t5, t6, d].all (· < a.tmps.size) = true) (hd : decide ([y, t1, t2, t3, t4, t5].Nodup) = true)
    (hlen : ∀ ρ : Operand → Value, ρ (.tmp t2) = sl a y → (execOp ρ ⟨some t3, .call { callee := .builtin .len, args := #[.tmp t2], argTypes := #[T] }, ty3, p3, e3, none⟩).run P w = .ok (.value (.int .i64 u)) w)
    (hc : Calls P f #[sl a x, .int k' m2] w fun e w' => ∃ v, e = .returned v ∧ ∀ a', Upd a a' [t1, t2, t3, t4, t5, t6, d] → sl a' d = v → Q .normal a' w') :
    (Code.region id #[⟨some t1, .move (.tmp x), ty1, p1, e1, none⟩, ⟨some t2, .move (.tmp y), ty2, p2, e2, none⟩, ⟨some t3, .call { callee := .builtin .len, args := #[.tmp t2], argTypes := #[T] }, ty3, p3, e3, none⟩, ⟨some t4, .convert src dst (.tmp t3), ty4, p4, e4, none⟩,
      ⟨some t5, .binOp .add A (.const (.int k' c)) (.tmp t4) A', ty5, p5, e5, none⟩, ⟨some t6, .call { callee := .value (.func f), args := #[.tmp t1, .tmp t5], argTypes := tys }, ty6, p6, e6, none⟩, ⟨some d, .assign (.tmp t6), ty7, p7, e7, none⟩] false).wp P Q a w := by
  simp only [List.all_cons, List.all_nil, Bool.and_true, Bool.and_eq_true, decide_eq_true_eq] at hn hd
  obtain ⟨n1, n2, n3, n4, n5, n6, n7⟩ := hn
  simp only [List.nodup_cons, List.mem_cons, List.not_mem_nil, or_false, not_or, List.nodup_nil, and_true, not_false_eq_true] at hd
  obtain ⟨⟨y1, y2, y3, y4, y5⟩, ⟨z2, z3, z4, z5⟩, ⟨u3, u4, u5⟩, ⟨v4, v5⟩, w5⟩ := hd
  refine wp_region_lit (st_move (st_move (st_val (v := .int .i64 u) (w' := w) (hlen _ ?_) (st_val (v := .int k' m) (w' := w) (exec_conv (k := .i64) hs hdst ?_ hm) (st_val (v := .int k' m2) (w' := w) (exec_add (eval_const _ _) ?_ hm2) (st_call2 hfn hb hnn ?_))))))
  · rw [eval_tmp, sl_put_self _ _ _ (by rw [put_size]; exact n2), eval_tmp, sl_put_other _ _ _ _ (fun e => y1 e.symm)]
  · rw [eval_tmp, sl_put_self _ _ _ (by simp only [put_size]; exact n3)]
  · rw [eval_tmp, sl_put_self _ _ _ (by simp only [put_size]; exact n4)]
  · rw [eval_tmp, sl_put_other _ _ _ _ (fun e => z5 e.symm), sl_put_other _ _ _ _ (fun e => z4 e.symm), sl_put_other _ _ _ _ (fun e => z3 e.symm), sl_put_other _ _ _ _ (fun e => z2 e.symm), sl_put_self _ _ _ n1, eval_tmp, eval_tmp, sl_put_self _ _ _ (by simp only [put_size]; exact n5)]
    refine Calls.mono hc ?_
    rintro e w' ⟨v, rfl, hq⟩
    refine ⟨v, rfl, st_assign (wpList_nil (hq _ (((((((Upd.refl a _).put t1 _ (by simp)).put t2 _ (by simp)).put t3 _ (by simp)).put t4 _ (by simp)).put t5 _ (by simp)).put t6 _ (by simp) |>.put d _ (by simp)) ?_))⟩
    rw [sl_put_self _ _ _ (by simp only [put_size]; exact n7), eval_tmp, sl_put_self _ _ _ (by simp only [put_size]; exact n6)]
/-- 'd = append(x, y...)': by a law at the operation. -/
theorem reg_append2 {x y t1 t2 t3 d : Nat} {T1 T2 ty1 ty2 ty3 ty4 : TypeId} {p1 p2 p3 p4 : String} {e1 e2 e3 e4 : Array Edge} (hn : [t1, t2, t3, d].all (· < a.tmps.size) = true) (hd : decide (t1 ≠ t2 ∧ t1 ≠ y) = true)
    (hc : ∀ (ops : Array Oper) (rest : List Oper) (a1 : Act), sl a1 t1 = sl a x → sl a1 t2 = sl a y → (∀ v w', (∀ a', Upd a a' [t1, t2, t3, d] → sl a' d = v → Q .normal a' w') → wpList P ops Q rest (a1.put (some t3) v) w') → wpList P ops Q (⟨some t3, .call { callee := .builtin .append, args := #[.tmp t1, .tmp t2], argTypes := #[T1, T2] }, ty3, p3, e3, none⟩ :: rest) a1 w) :
    (Code.region id #[⟨some t1, .move (.tmp x), ty1, p1, e1, none⟩, ⟨some t2, .move (.tmp y), ty2, p2, e2, none⟩, ⟨some t3, .call { callee := .builtin .append, args := #[.tmp t1, .tmp t2], argTypes := #[T1, T2] }, ty3, p3, e3, none⟩, ⟨some d, .assign (.tmp t3), ty4, p4, e4, none⟩] false).wp P Q a w := by
  simp only [List.all_cons, List.all_nil, Bool.and_true, Bool.and_eq_true, decide_eq_true_eq] at hn hd
  obtain ⟨n1, n2, n3, n4⟩ := hn
  refine wp_region_lit (st_move (st_move (hc _ _ _ ?_ ?_ fun v w' hq => st_assign (wpList_nil (hq _ ((((Upd.refl a _).put t1 _ (by simp)).put t2 _ (by simp)).put t3 _ (by simp) |>.put d _ (by simp)) ?_)))))
  · rw [sl_put_other _ _ _ _ (fun e => hd.1 e.symm), sl_put_self _ _ _ n1, eval_tmp]
  · rw [sl_put_self _ _ _ (by rw [put_size]; exact n2), eval_tmp, sl_put_other _ _ _ _ hd.2]
  · rw [sl_put_self _ _ _ (by simp only [put_size]; exact n4), eval_tmp, sl_put_self _ _ _ (by simp only [put_size]; exact n3)]
end
end Go.Proofs.YtpknjenihcfhlaaDoor
/-
  Code that reads: what a piece of it does to the reader, to the struct that it fills and to all else; pieces one behind the other. Conditions: none.
-/
namespace Go.Proofs.YtpknjenihcfhlaaDoor
open Go.RowKit (Below)
open Kz

/-- The slots that a code writes. -/
def writes : Code → List Nat
  | .region _ ops _ => ops.toList.filterMap (·.dst)
  | .seq a b => writes a ++ writes b
  | .cond _ a b => writes a ++ writes b
  | .block _ a => writes a
  | .loop a => writes a
  | .scope a => writes a
  | _ => []
/-- None of these slots is written. -/
def clear (l : List Nat) (c : Code) : Bool := l.all fun t => !(writes c).contains t
theorem clear_iff {l : List Nat} {c : Code} (h : clear l c = true) : ∀ t ∈ l, t ∉ writes c := by
  intro t ht hx
  have := List.all_eq_true.1 h t ht
  simp only [Bool.not_eq_true', List.contains_eq_mem, decide_eq_false_iff_not] at this
  exact this hx

/-- The slots of a function that reads: how many, the reader, the version, unsafe, whether it is flexible, the result. -/
structure RE where
  N : Nat
  rs : Nat
  vs : Nat
  us : Nat
  fs : Option Nat
  res : Nat
def RE.slots (E : RE) : List Nat := [E.rs, E.vs, E.us] ++ E.fs.toList

structure Fr (E : RE) (rb : Nat) (v : Int) (flex : Bool) (a : Act) : Prop where
  size : a.tmps.size = E.N
  defers : a.defers = []
  rs : sl a E.rs = .pointer (some ⟨rb, 0, none⟩)
  vs : sl a E.vs = .int .i16 v
  us : sl a E.us = .bool false
  fs : ∀ t, E.fs = some t → sl a t = .bool flex
theorem Fr.upd {E : RE} {rb : Nat} {v : Int} {flex : Bool} {a a' : Act} {W : List Nat} (h : Fr E rb v flex a) (hu : Upd a a' W) (hc : ∀ t ∈ E.slots, t ∉ W) : Fr E rb v flex a' where
  size := hu.size.trans h.size
  defers := hu.defers.trans h.defers
  rs := (hu.same _ (hc _ (by simp [RE.slots]))).trans h.rs
  vs := (hu.same _ (hc _ (by simp [RE.slots]))).trans h.vs
  us := (hu.same _ (hc _ (by simp [RE.slots]))).trans h.us
  fs := fun t ht => (hu.same _ (hc _ (by simp [RE.slots, ht]))).trans (h.fs t ht)

/-- A world in which the reader's block, some cells of a struct's block, and new blocks may have turned. -/
structure Md (w w' : World) (rb cb lo n : Nat) : Prop where
  os : w'.os = w.os
  tape : w'.tape = w.tape
  output : w'.output = w.output
  size : w.heap.size ≤ w'.heap.size
  block : ∀ k, k < w.heap.size → k ≠ rb → k ≠ cb → w'.heap[k]? = w.heap[k]?
  row : ∀ cells T, w.heap[cb]? = some (.cells cells T (0, 0)) → ∃ cells', w'.heap[cb]? = some (.cells cells' T (0, 0)) ∧ cells'.size = cells.size ∧ ∀ i, (i < lo ∨ lo + n ≤ i) → cells'[i]? = cells[i]?
theorem Md.refl (w : World) (rb cb lo n : Nat) : Md w w rb cb lo n := ⟨rfl, rfl, rfl, Nat.le_refl _, fun _ _ _ _ => rfl, fun cells _ h => ⟨cells, h, rfl, fun _ _ => rfl⟩⟩
theorem Md.trans {w w1 w2 : World} {rb cb lo n lo1 n1 lo2 n2 : Nat} (h : Md w w1 rb cb lo1 n1) (k : Md w1 w2 rb cb lo2 n2) (h1 : lo ≤ lo1 ∧ lo1 + n1 ≤ lo + n) (h2 : lo ≤ lo2 ∧ lo2 + n2 ≤ lo + n) : Md w w2 rb cb lo n where
  os := k.os.trans h.os
  tape := k.tape.trans h.tape
  output := k.output.trans h.output
  size := Nat.le_trans h.size k.size
  block := fun i hi hr hc => (k.block i (Nat.lt_of_lt_of_le hi h.size) hr hc).trans (h.block i hi hr hc)
  row := fun cells T hw => by
    obtain ⟨c1, e1, s1, q1⟩ := h.row cells T hw
    obtain ⟨c2, e2, s2, q2⟩ := k.row c1 T e1
    exact ⟨c2, e2, s2.trans s1, fun i hi => (q2 i (by omega)).trans (q1 i (by omega))⟩
theorem Md.mono {w w' : World} {rb cb lo n lo1 n1 : Nat} (h : Md w w' rb cb lo1 n1) (h1 : lo ≤ lo1 ∧ lo1 + n1 ≤ lo + n) : Md w w' rb cb lo n :=
  ⟨h.os, h.tape, h.output, h.size, h.block, fun cells T hw => let ⟨c, e, s, q⟩ := h.row cells T hw; ⟨c, e, s, fun i hi => q i (by omega)⟩⟩
/-- The reader alone. -/
theorem Md.of_grown {w w' : World} {rb cb : Nat} (h : w.grownBy w' (some rb)) (hne : cb ≠ rb) (lo n : Nat) : Md w w' rb cb lo n :=
  ⟨h.os, h.tape, h.output, h.size, fun k hk hr _ => h.block k hk (fun e => hr (Option.some.inj e)), fun cells T hw => ⟨cells, by
    rw [h.block cb (Array.getElem?_eq_some_iff.1 hw).1 (fun e => hne (Option.some.inj e))]; exact hw, rfl, fun _ _ => rfl⟩⟩
/-- One cell of the struct. -/
theorem Md.of_set {w : World} {rb cb i lo n : Nat} (u : Value) (hi : lo ≤ i ∧ i < lo + n) : Md w (w.setCell ⟨cb, i, none⟩ u) rb cb lo n :=
  ⟨rfl, rfl, rfl, by simp [World.setCell], fun k _ _ hc => Below.heap_setCell _ _ _ _ hc, fun cells T hw => ⟨cells.setIfInBounds i u, heap_setCell_row hw, by simp, fun j hj => by
    rw [Array.getElem?_setIfInBounds_ne (by omega)]⟩⟩

/-- What was said of memory stays, where the blocks that it speaks of, and the cells, are as they were. -/
def Stable {α : Type} (n : Nat) (R : World → (Nat → Prop) → (Nat → Option Value) → α → Prop) : Prop :=
  ∀ (w w' : World) (K K' : Nat → Prop) (c c' : Nat → Option Value) (x : α), (∀ g, K g → g < w.heap.size → w'.heap[g]? = w.heap[g]?) → w.heap.size ≤ w'.heap.size → (∀ g, K g → K' g) → (∀ j, j < n → c' j = c j) → R w K c x → R w' K' c' x

/-- What holds before a piece of code that reads. -/
structure Pre (E : RE) (v : Int) (flex : Bool) (sp off n : Nat) (ini : (Nat → Option Value) → Prop) (rb : Nat) (S : Nat → Prop) (st : St) (cb co : Nat) (cells : Array Value) (T : TypeId) (a : Act) (w : World) : Prop where
  fr : Fr E rb v flex a
  ptr : sl a sp = .pointer (some ⟨cb, co, none⟩)
  rd : RdIs w S rb st
  err : ErrOk w
  rbe : rb ≠ 1
  cbe : cb ≠ 1
  ne : cb ≠ rb
  src : ¬ S cb
  old : ∀ g, S g → g < w.heap.size
  row : w.heap[cb]? = some (.cells cells T (0, 0))
  fit : co + off + n ≤ cells.size
  ini : ini (fun j => cells[co + off + j]?)

/-- What holds behind it. -/
def Post {α : Type} (E : RE) (off n : Nat) (W : List Nat) (g : St → α × St) (R : World → (Nat → Prop) → (Nat → Option Value) → α → Prop) (rb : Nat) (S : Nat → Prop) (st : St) (cb co : Nat) (T : TypeId) (a : Act) (w : World) : Exit → Act → World → Prop
  | .normal, a', w' => Upd a a' W ∧ RdIs w' S rb (g st).2 ∧ Md w w' rb cb (co + off) n ∧ ∃ cells', w'.heap[cb]? = some (.cells cells' T (0, 0)) ∧ R w' (fun g => S g ∨ w.heap.size ≤ g) (fun j => cells'[co + off + j]?) (g st).1
  | .ret, a', w' => (g st).2 = none ∧ a'.tmps.size = E.N ∧ a'.defers = [] ∧ (∃ t x, sl a' E.res = .iface t x) ∧ Md w w' rb cb (co + off) n
  | _, _, _ => False

/-- A piece of code that reads. -/
def Rd {α : Type} (E : RE) (v : Int) (flex : Bool) (sp off n : Nat) (ini : (Nat → Option Value) → Prop) (g : St → α × St) (R : World → (Nat → Prop) → (Nat → Option Value) → α → Prop) (c : Code) : Prop :=
  ∀ rb S st cb co cells T a w, Pre E v flex sp off n ini rb S st cb co cells T a w → c.wp Tryd.prog (Post E off n (writes c) g R rb S st cb co T a w) a w

theorem RdIs.md {w w' : World} {rb cb lo n : Nat} {S : Nat → Prop} {v : Value} {bs : List UInt8} (h : BytesAt w S v bs) (hm : Md w w' rb cb lo n) (hr : ¬ S rb) (hc : ¬ S cb) : BytesAt w' S v bs := by
  rcases h with h | ⟨g, o, c, h1, h2, h2', h3, h4, h5⟩
  · exact .inl h
  · exact .inr ⟨g, o, c, h1, h2, h2', h3, Nat.lt_of_lt_of_le h4 hm.size, fun i b hi => by
      rw [World.cell?_of_block (w := w) (w' := w') (hm.block g h4 (fun e => hr (e ▸ h3)) (fun e => hc (e ▸ h3)))]
      exact h5 i b hi⟩
theorem ErrOk.md {w w' : World} {rb cb lo n : Nat} (h : ErrOk w) (hm : Md w w' rb cb lo n) (h1 : rb ≠ 1) (h2 : cb ≠ 1) : ErrOk w' := by
  obtain ⟨t, v, h⟩ := h
  refine ⟨t, v, ?_⟩
  have hlt := World.block_lt_of_cell? w _ h
  rw [World.cell?_of_block (w := w) (w' := w') (hm.block _ hlt (fun e => h1 e.symm) (fun e => h2 e.symm))]
  exact h

/-- Two pieces, one behind the other, that fill neighbouring cells. -/
theorem Rd.seq {α β γ : Type} {E : RE} {v : Int} {flex : Bool} {sp off n1 n2 : Nat} {ini1 ini2 : (Nat → Option Value) → Prop} {g1 : St → α × St} {g2 : St → β × St} {R1 : World → (Nat → Prop) → (Nat → Option Value) → α → Prop}
    {R2 : World → (Nat → Prop) → (Nat → Option Value) → β → Prop} {c1 c2 : Code} (h1 : Rd E v flex sp off n1 ini1 g1 R1 c1) (h2 : Rd E v flex sp (off + n1) n2 ini2 g2 R2 c2) (hcl : clear (sp :: E.slots) c1 = true) (hst : Stable n1 R1) (hst2 : Stable n2 R2)
    (hs : Strict g2) (hloc : ∀ c c' : Nat → Option Value, (∀ j, j < n2 → c' j = c j) → ini2 c → ini2 c') (f : α → β → γ) :
    Rd E v flex sp off (n1 + n2) (fun c => ini1 c ∧ ini2 (fun j => c (n1 + j))) (fun st => (f (g1 st).1 (g2 (g1 st).2).1, (g2 (g1 st).2).2))
      (fun w K c x => ∃ y z, x = f y z ∧ R1 w K c y ∧ R2 w K (fun j => c (n1 + j)) z) (c1.seq c2) := by
  intro rb S st cb co cells T a w hp
  refine wp_seq (wp_mono (h1 rb S st cb co cells T a w { hp with fit := by have := hp.fit; omega, ini := hp.ini.1 }) ?_)
  have hcl' := clear_iff hcl
  intro e a1 w1 hq
  cases e with
  | normal =>
    obtain ⟨hu, hr, hm, cells1, hrow, hR⟩ := hq
    obtain ⟨cells1', hrow', hsz, hsame⟩ := hm.row cells T hp.row
    obtain ⟨rfl, -⟩ : cells1' = cells1 ∧ T = T := by
      rw [hrow] at hrow'
      simp only [Option.some.injEq, Obj.cells.injEq] at hrow'
      exact ⟨hrow'.1.symm, rfl⟩
    have hfit := hp.fit
    have hp2 : Pre E v flex sp (off + n1) n2 ini2 rb S (g1 st).2 cb co cells1' T a1 w1 := {
      fr := hp.fr.upd hu (fun t ht => hcl' t (List.mem_cons_of_mem _ ht))
      ptr := (hu.same _ (hcl' _ (by simp))).trans hp.ptr
      rd := hr
      err := hp.err.md hm hp.rbe hp.cbe
      rbe := hp.rbe
      cbe := hp.cbe
      ne := hp.ne
      src := hp.src
      old := fun g hg => Nat.lt_of_lt_of_le (hp.old g hg) hm.size
      row := hrow
      fit := by omega
      ini := by
        refine hloc (fun j => cells[co + off + (n1 + j)]?) _ (fun j hj => ?_) hp.ini.2
        show cells1'[co + (off + n1) + j]? = cells[co + off + (n1 + j)]?
        rw [hsame _ (.inr (by omega))]
        congr 1; omega }
    refine wp_mono (h2 rb S (g1 st).2 cb co cells1' T a1 w1 hp2) ?_
    intro e a2 w2 hq2
    cases e with
    | normal =>
      obtain ⟨hu2, hr2, hm2, cells2, hrow2, hR2⟩ := hq2
      obtain ⟨cells2', hrow2', hsz2, hsame2⟩ := hm2.row cells1' T hrow
      obtain ⟨rfl, -⟩ : cells2' = cells2 ∧ T = T := by
        rw [hrow2] at hrow2'
        simp only [Option.some.injEq, Obj.cells.injEq] at hrow2'
        exact ⟨hrow2'.1.symm, rfl⟩
      refine ⟨(hu.mono (fun t ht => List.mem_append_left _ ht)).trans (hu2.mono (fun t ht => List.mem_append_right _ ht)), hr2, hm.trans hm2 (by omega) (by omega), cells2', hrow2, _, _, rfl, ?_, ?_⟩
      · refine hst w1 w2 _ _ _ _ _ (fun g hg hlt => ?_) hm2.size (fun g hg => hg) (fun j hj => ?_) hR
        · refine hm2.block g hlt ?_ ?_
          · rintro rfl
            rcases hg with hg | hg
            · exact hp.rd.1 hg
            · exact absurd hp.rd.lt (by omega)
          · rintro rfl
            rcases hg with hg | hg
            · exact hp.src hg
            · have := (Array.getElem?_eq_some_iff.1 hp.row).1; omega
        · exact hsame2 _ (.inl (by omega))
      · refine hst2 w2 w2 _ _ _ _ _ (fun _ _ _ => rfl) (Nat.le_refl _) (fun g hg => hg.imp id (fun h => Nat.le_trans hm.size h)) (fun j _ => ?_) hR2
        show cells2'[co + off + (n1 + j)]? = cells2'[co + (off + n1) + j]?
        congr 1; omega
    | ret =>
      obtain ⟨hn, hs2, hd2, hv2, hm2⟩ := hq2
      exact ⟨hn, hs2, hd2, hv2, hm.trans hm2 (by omega) (by omega)⟩
    | exit id => exact hq2
    | goto l => exact hq2
    | panic ch => exact hq2
    | outgrown => exact hq2
  | ret =>
    obtain ⟨hn, hs2, hd2, hv2, hm2⟩ := hq
    refine ⟨?_, hs2, hd2, hv2, hm2.mono (by omega)⟩
    show (g2 (g1 st).2).2 = none
    rw [hn]; exact hs
  | exit id => exact hq
  | goto l => exact hq
  | panic ch => exact hq
  | outgrown => exact hq
end Go.Proofs.YtpknjenihcfhlaaDoor
/-
  How a struct lies in memory: what its cells hold, of a tree. Conditions: none.
-/
namespace Go.Proofs.YtpknjenihcfhlaaDoor
open Go.RowKit (Below)
open Kz

abbrev Cells := Nat → Option Value
abbrev Rel (α : Type) := World → (Nat → Prop) → Cells → α → Prop

/-- How many cells a field has. -/
def valCells (kind part : Nat) : Nat := if kind = 7 then 16 else if kind = 10 then part else 1
def fieldCells (kind : Nat) (null : Int) (part : Nat) : Nat := if kind = 10 ∧ 0 ≤ null then 1 else valCells kind part
mutual
def cellsF (ht : Bool) : F → Nat
  | .mk kind _ _ null _ _ _ sub => fieldCells kind null (cellsFs ht sub + ht.toNat)
def cellsFs (ht : Bool) : List F → Nat
  | [] => 0
  | f :: fs => cellsF ht f + cellsFs ht fs
end
/-- How many cells a part has: its unknown tags lie behind its fields. -/
def cellsP (ht : Bool) (fs : List F) : Nat := cellsFs ht fs + ht.toNat

mutual
/-- What is to lie there ahead of a reading: lists are nil. -/
def iniF (ht : Bool) : F → Cells → Prop
  | .mk kind _ _ null _ _ _ sub, c => (kind = 11 → c 0 = some (.slice none 0 0)) ∧ (kind = 10 ∧ null < 0 → iniFs ht sub c)
def iniFs (ht : Bool) : List F → Cells → Prop
  | [], _ => True
  | f :: fs, c => iniF ht f c ∧ iniFs ht fs (fun j => c (cellsF ht f + j))
end

/-- An integer's kind. -/
def ikOf (kind : Nat) : IntKind := if kind = 1 then .i8 else if kind = 2 then .i16 else if kind = 3 then .i32 else if kind = 5 then .u16 else .i64

/-- A value. -/
def valRep (ptr : Bool) (kind : Nat) (part : Rel T) : Rel T := fun w K c t =>
  if kind = 0 then c 0 = some (.bool (decide (t.n = 1))) ∧ (t.n = 0 ∨ t.n = 1)
  else if kind = 7 then t.s.length = 16 ∧ ∀ i b, t.s[i]? = some b → c i = some (bv b)
  else if kind = 8 then
    if ptr then (if t.null then c 0 = some (.pointer none) ∧ t.s = [] else ∃ g o, c 0 = some (.pointer (some ⟨g, o, none⟩)) ∧ K g ∧ g < w.heap.size ∧ w.cell? ⟨g, o, none⟩ = some (strV t.s)) else c 0 = some (strV t.s) ∧ t.null = false
  else if kind = 9 then ∃ v, c 0 = some v ∧ BytesAt w K v t.s ∧ if ptr then (if t.null then v = .slice none 0 0 else ∃ p n m, v = .slice (some p) n m) else t.null = false
  else if kind = 10 then
    if ptr then (if t.null then c 0 = some (.pointer none) else ∃ g o, c 0 = some (.pointer (some ⟨g, o, none⟩)) ∧ K g ∧ g < w.heap.size ∧ part w K (fun j => w.cell? ⟨g, o + j, none⟩) t) else part w K c t
  else c 0 = some (.int (ikOf kind) t.n) ∧ (kind = 5 → 0 ≤ t.n ∧ t.n < 65536)
/-- A list. -/
def listRep (ptr : Bool) (sz : Nat) (el : Rel T) : Rel T := fun w K c t =>
  if ptr ∧ t.null then c 0 = some (.slice none 0 0) ∧ t.l = []
  else (ptr = false → t.null = false) ∧ ((ptr = false ∧ c 0 = some (.slice none 0 0) ∧ t.l = []) ∨
    ∃ g o m, c 0 = some (.slice (some ⟨g, o, none⟩) t.l.length m) ∧ K g ∧ g < w.heap.size ∧ ∀ i x, t.l[i]? = some x → el w K (fun j => w.cell? ⟨g, o + i * sz + j, none⟩) x)
/-- A field. -/
def fieldRep (kind of : Nat) (null : Int) (psz : Nat) (part : Rel T) : Rel T :=
  if kind = 11 then listRep (decide (0 ≤ null)) (valCells of psz) (valRep false of part) else valRep (decide (0 ≤ null)) kind part

/-- Is a field read, and written, at a version? -/
def Kz.F.on (f : F) (v : Int) (flex : Bool) : Bool := if f.tag < 0 then f.has v else flex
/-- The fields, one behind the other. -/
def plainRep (v : Int) (flex ht : Bool) : List F → List (Rel T) → Rel (List T)
  | f :: fs, r :: rs, w, K, c, ts => ∃ x xs, ts = x :: xs ∧ (f.on v flex = true → r w K c x) ∧ plainRep v flex ht fs rs w K (fun j => c (cellsF ht f + j)) xs
  | _, _, _, _, _, ts => ts = []
/-- A part: its fields, its unknown tags. -/
def asmRep (tags : Rel (List (Nat × List UInt8))) (v : Int) (flex ht : Bool) (fs : List F) (rs : List (Rel T)) : Rel T := fun w K c t =>
  plainRep v flex ht fs rs w K c t.l ∧ (flex = true → tags w K (fun j => c (cellsFs ht fs + j)) t.u)
mutual
def repF (tags : Rel (List (Nat × List UInt8))) (v : Int) (flex ht : Bool) : F → Rel T
  | .mk kind _ _ null _ _ of sub => fieldRep kind of null (cellsP ht sub) (asmRep tags v flex ht sub (repFs tags v flex ht sub))
def repFs (tags : Rel (List (Nat × List UInt8))) (v : Int) (flex ht : Bool) : List F → List (Rel T)
  | [] => []
  | f :: fs => repF tags v flex ht f :: repFs tags v flex ht fs
end
/-- A part in memory. -/
def repP (tags : Rel (List (Nat × List UInt8))) (v : Int) (flex ht : Bool) (fs : List F) : Rel T := asmRep tags v flex ht fs (repFs tags v flex ht fs)

/-! ## What was said stays -/

theorem cell_kept {w w' : World} {g i : Nat} (h : w'.heap[g]? = w.heap[g]?) : w'.cell? ⟨g, i, none⟩ = w.cell? ⟨g, i, none⟩ := World.cell?_of_block h
theorem stable_bytes {w w' : World} {K K' : Nat → Prop} {v : Value} {bs : List UInt8} (hk : ∀ g, K g → g < w.heap.size → w'.heap[g]? = w.heap[g]?) (hs : w.heap.size ≤ w'.heap.size) (hK : ∀ g, K g → K' g)
    (h : BytesAt w K v bs) : BytesAt w' K' v bs := by
  rcases h with h | ⟨g, o, c, h1, h2, h2', h3, h4, h5⟩
  · exact .inl h
  · exact .inr ⟨g, o, c, h1, h2, h2', hK g h3, Nat.lt_of_lt_of_le h4 hs, fun i b hi => by rw [cell_kept (hk g h3 h4)]; exact h5 i b hi⟩

theorem stable_val {ptr : Bool} {kind psz : Nat} {part : Rel T} (hp : Stable psz part) : Stable (fieldCells kind (if ptr then 0 else -1) psz) (valRep ptr kind part) := by
  intro w w' K K' c c' x hk hs hK hc h
  unfold valRep at h ⊢
  have c0 : kind ≠ 10 ∨ ptr = true → c' 0 = c 0 := fun hn => hc 0 (by
    cases ptr with
    | true => by_cases h7 : kind = 7 <;> by_cases h10 : kind = 10 <;> simp [fieldCells, valCells, h7, h10]
    | false =>
      have h10 : kind ≠ 10 := by simpa using hn
      by_cases h7 : kind = 7 <;> simp [fieldCells, valCells, h7, h10])
  split
  · rename_i hq; rw [if_pos hq] at h; rw [c0 (.inl (by omega))]; exact h
  rename_i hq0; rw [if_neg hq0] at h
  split
  · rename_i hq; rw [if_pos hq] at h
    refine ⟨h.1, fun i b hi => ?_⟩
    rw [hc i (by
      have : i < 16 := by rw [← h.1]; exact (List.getElem?_eq_some_iff.1 hi).1
      simp [fieldCells, valCells, hq]; exact this)]
    exact h.2 i b hi
  rename_i hq1; rw [if_neg hq1] at h
  split
  · rename_i hq; rw [if_pos hq] at h
    rw [c0 (.inl (by omega))]
    split
    · rename_i hp; rw [if_pos hp] at h
      split
      · rename_i hn; rw [if_pos hn] at h; exact h
      · rename_i hn; rw [if_neg hn] at h
        obtain ⟨g, o, h1, h2, h3, h4⟩ := h
        exact ⟨g, o, h1, hK g h2, Nat.lt_of_lt_of_le h3 hs, by rw [cell_kept (hk g h2 h3)]; exact h4⟩
    · rename_i hp; rw [if_neg hp] at h; exact h
  rename_i hq2; rw [if_neg hq2] at h
  split
  · rename_i hq; rw [if_pos hq] at h
    rw [c0 (.inl (by omega))]
    obtain ⟨v, h1, h2, h3⟩ := h
    exact ⟨v, h1, stable_bytes hk hs hK h2, h3⟩
  rename_i hq3; rw [if_neg hq3] at h
  split
  · rename_i hq; rw [if_pos hq] at h
    split
    · rename_i hp'; rw [if_pos hp'] at h
      rw [c0 (.inr hp')]
      split
      · rename_i hn; rw [if_pos hn] at h; exact h
      · rename_i hn; rw [if_neg hn] at h
        obtain ⟨g, o, h1, h2, h3, h4⟩ := h
        refine ⟨g, o, h1, hK g h2, Nat.lt_of_lt_of_le h3 hs, hp w w' K K' _ _ x hk hs hK (fun j _ => ?_) h4⟩
        exact cell_kept (hk g h2 h3)
    · rename_i hp'; rw [if_neg hp'] at h
      refine hp w w' K K' _ _ x hk hs hK (fun j hj => hc j ?_) h
      simp [fieldCells, valCells, hq, hp']
      exact hj
  · rename_i hq; rw [if_neg hq] at h; rw [c0 (.inl hq)]; exact h

theorem stable_list {ptr : Bool} {sz : Nat} {el : Rel T} {n : Nat} (hn : n ≠ 0) (hp : Stable sz el) : Stable n (listRep ptr sz el) := by
  intro w w' K K' c c' x hk hs hK hc h
  unfold listRep at h ⊢
  rw [hc 0 (by omega)]
  split
  · rename_i hq; rw [if_pos hq] at h; exact h
  · rename_i hq; rw [if_neg hq] at h
    refine ⟨h.1, h.2.imp id ?_⟩
    rintro ⟨g, o, m, h1, h2, h3, h4⟩
    exact ⟨g, o, m, h1, hK g h2, Nat.lt_of_lt_of_le h3 hs, fun i y hi => hp w w' K K' _ _ y hk hs hK (fun j _ => cell_kept (hk g h2 h3)) (h4 i y hi)⟩

theorem stable_field {kind of : Nat} {null : Int} {psz : Nat} {part : Rel T} (hp : Stable psz part) : Stable (fieldCells kind null psz) (fieldRep kind of null psz part) := by
  unfold fieldRep
  split
  · rename_i hk
    subst hk
    have := @stable_val false of psz part hp
    refine stable_list (by simp [fieldCells, valCells]) ?_
    have e : fieldCells of (if false = true then 0 else -1) psz = valCells of psz := by simp [fieldCells]
    rw [e] at this
    exact this
  · have := @stable_val (decide (0 ≤ null)) kind psz part hp
    have e : fieldCells kind (if decide (0 ≤ null) = true then 0 else -1) psz = fieldCells kind null psz := by
      simp only [fieldCells, decide_eq_true_eq]
      by_cases h0 : 0 ≤ null <;> simp [h0]
    rw [e] at this
    exact this

theorem stable_plain {v : Int} {flex ht : Bool} : ∀ (fs : List F) (rs : List (Rel T)), (∀ (i : Nat) (f : F) (r : Rel T), fs[i]? = some f → rs[i]? = some r → Stable (cellsF ht f) r) → Stable (cellsFs ht fs) (plainRep v flex ht fs rs)
  | [], [], _ => fun w w' K K' c c' x hk hs hK hc h => h
  | [], _ :: _, _ => fun w w' K K' c c' x hk hs hK hc h => h
  | _ :: _, [], _ => fun w w' K K' c c' x hk hs hK hc h => h
  | f :: fs, r :: rs, hst => fun w w' K K' c c' x hk hs hK hc h => by
    obtain ⟨y, ys, h0, h1, h2⟩ := h
    refine ⟨y, ys, h0, fun ho => hst 0 f r rfl rfl w w' K K' c c' y hk hs hK (fun j hj => hc j (by simp only [cellsFs]; omega)) (h1 ho), ?_⟩
    exact stable_plain fs rs (fun i f r hf hr => hst (i + 1) f r hf hr) w w' K K' _ _ ys hk hs hK (fun j hj => hc _ (by simp only [cellsFs]; omega)) h2
theorem stable_asm {tags : Rel (List (Nat × List UInt8))} {v : Int} {flex ht : Bool} (htg : flex = true → ht = true) (hT : Stable 1 tags) {fs : List F} {rs : List (Rel T)} (h : ∀ (i : Nat) (f : F) (r : Rel T), fs[i]? = some f → rs[i]? = some r → Stable (cellsF ht f) r) :
    Stable (cellsP ht fs) (asmRep tags v flex ht fs rs) := by
  intro w w' K K' c c' x hk hs hK hc h'
  refine ⟨stable_plain fs rs h w w' K K' _ _ _ hk hs hK (fun j hj => hc j (by simp only [cellsP]; omega)) h'.1, fun hf => hT w w' K K' _ _ _ hk hs hK (fun j hj => hc _ ?_) (h'.2 hf)⟩
  simp only [cellsP, htg hf, Bool.toNat_true]
  omega
section
variable {tags : Rel (List (Nat × List UInt8))} {v : Int} {flex ht : Bool}
mutual
theorem stable_repF (htg : flex = true → ht = true) (hT : Stable 1 tags) : ∀ f : F, Stable (cellsF ht f) (repF tags v flex ht f)
  | .mk kind _ _ null _ _ of sub => by
    simp only [cellsF, repF]
    exact stable_field (psz := cellsP ht sub) (stable_asm htg hT (stable_repFs htg hT sub))
theorem stable_repFs (htg : flex = true → ht = true) (hT : Stable 1 tags) : ∀ (fs : List F) (i : Nat) (f : F) (r : Rel T), fs[i]? = some f → (repFs tags v flex ht fs)[i]? = some r → Stable (cellsF ht f) r
  | [], _, _, _, h, _ => by cases h
  | f :: fs, 0, g, r, h, h' => by
    cases h; cases h'
    exact stable_repF htg hT f
  | f :: fs, i + 1, g, r, h, h' => stable_repFs htg hT fs i g r h h'
end
theorem stable_repP (htg : flex = true → ht = true) (hT : Stable 1 tags) (fs : List F) : Stable (cellsP ht fs) (repP tags v flex ht fs) := stable_asm htg hT (stable_repFs htg hT fs)
theorem stable_plainF (htg : flex = true → ht = true) (hT : Stable 1 tags) (fs : List F) : Stable (cellsFs ht fs) (plainRep v flex ht fs (repFs tags v flex ht fs)) := stable_plain fs _ (stable_repFs htg hT fs)
end

/-! ## What is ahead lies in the cells alone -/
mutual
theorem ini_locF (ht : Bool) : ∀ (f : F) (c c' : Cells), (∀ j, j < cellsF ht f → c' j = c j) → iniF ht f c → iniF ht f c'
  | .mk kind _ _ null _ _ _ sub, c, c', hc, h => by
    simp only [iniF] at h ⊢
    refine ⟨fun hk => ?_, fun hk => ini_locFs ht sub c c' (fun j hj => hc j ?_) (h.2 hk)⟩
    · rw [hc 0 (by subst hk; simp [cellsF, fieldCells, valCells])]; exact h.1 hk
    · obtain ⟨rfl, hn⟩ := hk
      have : ¬ (0 ≤ null) := by omega
      simp only [cellsF, fieldCells, valCells, this, and_false, if_false]
      simp
      omega
theorem ini_locFs (ht : Bool) : ∀ (fs : List F) (c c' : Cells), (∀ j, j < cellsFs ht fs → c' j = c j) → iniFs ht fs c → iniFs ht fs c'
  | [], _, _, _, _ => trivial
  | f :: fs, c, c', hc, h => by
    simp only [iniFs, cellsFs] at h hc ⊢
    exact ⟨ini_locF ht f c c' (fun j hj => hc j (by omega)) h.1, ini_locFs ht fs _ _ (fun j hj => hc _ (by omega)) h.2⟩
end
end Go.Proofs.YtpknjenihcfhlaaDoor
