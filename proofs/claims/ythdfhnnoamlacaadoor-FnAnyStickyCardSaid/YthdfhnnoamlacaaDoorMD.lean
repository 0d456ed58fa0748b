/-
  Records: the thin package tells a record of nothing. Conditions: none.
  Records: what a member says, of nothing: written, read, told; a thing of nothing is read. Conditions: none.
  Records: a thing of nothing is read. Conditions: none.
-/
import Derived.Test.YthdfhnnoamlacaaDoorMC
import Derived.Deep.DeepCutAuto
namespace Go.Proofs.YthdfhnnoamlacaaDoor.Rec
open Go.Proofs.YthdfhnnoamlacaaDoor
open Go.RowKit (Below wrap64 wrap32)
open Kz

/-- Between what has been read and what is told. -/
def RecMid (w : World) (a5 : Option Addr) (c5 : Nat) (a6 : Option Addr) (c6 : Nat) (s5 : Value) (wx : World) : Prop :=
  ∃ (nb : Nat) (b5 : Bool) (e5 : Option Addr) (k5 : Nat) (b6 : Bool) (e6 : Option Addr) (k6 : Nat), s5 = .pointer (some ⟨nb, 0, none⟩) ∧ w.heap.size + 2 ≤ nb ∧ w.grownBy wx none ∧
    wx.heap[nb]? = some (.cells #[.int .i32 6, .int .i8 0, .int .i64 0, .int .i32 0, .bool b5, .slice e5 0 k5, .bool b6, .slice e6 0 k6, .slice none 0 0] 80 (0, 0)) ∧ wx.heap[w.heap.size]? = some (.cells #[.int .i32 0, .int .i8 0, .int .i64 0, .int .i32 0, .bool false, .slice none 0 0, .bool false, .slice none 0 0, .slice none 0 0] 80 (0, 0)) ∧ wx.heap[w.heap.size + 1]? = some (.cells #[.int .i32 6, .int .i8 0, .int .i32 0, .int .i64 0, .int .i32 0, .slice a5 0 c5, .slice a6 0 c6, .slice none 0 0] 110 (0, 0))
theorem nine_row {w : World} {nb : Nat} {x0 x1 x2 x3 x4 x5 x6 x7 x8 : Value} (h : w.heap[nb]? = some (.cells #[.int .i32 0, .int .i8 0, .int .i64 0, .int .i32 0, .bool false, .slice none 0 0, .bool false, .slice none 0 0, .slice none 0 0] 80 (0, 0))) :
    (((((((((w.setCell ⟨nb, 0, none⟩ x0).setCell ⟨nb, 1, none⟩ x1).setCell ⟨nb, 2, none⟩ x2).setCell ⟨nb, 3, none⟩ x3).setCell ⟨nb, 4, none⟩ x4).setCell ⟨nb, 5, none⟩ x5).setCell ⟨nb, 6, none⟩ x6).setCell ⟨nb, 7, none⟩ x7).setCell ⟨nb, 8, none⟩ x8).heap[nb]? = some (.cells #[x0, x1, x2, x3, x4, x5, x6, x7, x8] 80 (0, 0)) := by
  have h0 : (w.setCell ⟨nb, 0, none⟩ x0).heap[nb]? = some (.cells #[x0, .int .i8 0, .int .i64 0, .int .i32 0, .bool false, .slice none 0 0, .bool false, .slice none 0 0, .slice none 0 0] 80 (0, 0)) := heap_setCell_row h
  have h1 : ((w.setCell ⟨nb, 0, none⟩ x0).setCell ⟨nb, 1, none⟩ x1).heap[nb]? = some (.cells #[x0, x1, .int .i64 0, .int .i32 0, .bool false, .slice none 0 0, .bool false, .slice none 0 0, .slice none 0 0] 80 (0, 0)) := heap_setCell_row h0
  have h2 : (((w.setCell ⟨nb, 0, none⟩ x0).setCell ⟨nb, 1, none⟩ x1).setCell ⟨nb, 2, none⟩ x2).heap[nb]? = some (.cells #[x0, x1, x2, .int .i32 0, .bool false, .slice none 0 0, .bool false, .slice none 0 0, .slice none 0 0] 80 (0, 0)) := heap_setCell_row h1
  have h3 : ((((w.setCell ⟨nb, 0, none⟩ x0).setCell ⟨nb, 1, none⟩ x1).setCell ⟨nb, 2, none⟩ x2).setCell ⟨nb, 3, none⟩ x3).heap[nb]? = some (.cells #[x0, x1, x2, x3, .bool false, .slice none 0 0, .bool false, .slice none 0 0, .slice none 0 0] 80 (0, 0)) := heap_setCell_row h2
  have h4 : (((((w.setCell ⟨nb, 0, none⟩ x0).setCell ⟨nb, 1, none⟩ x1).setCell ⟨nb, 2, none⟩ x2).setCell ⟨nb, 3, none⟩ x3).setCell ⟨nb, 4, none⟩ x4).heap[nb]? = some (.cells #[x0, x1, x2, x3, x4, .slice none 0 0, .bool false, .slice none 0 0, .slice none 0 0] 80 (0, 0)) := heap_setCell_row h3
  have h5 : ((((((w.setCell ⟨nb, 0, none⟩ x0).setCell ⟨nb, 1, none⟩ x1).setCell ⟨nb, 2, none⟩ x2).setCell ⟨nb, 3, none⟩ x3).setCell ⟨nb, 4, none⟩ x4).setCell ⟨nb, 5, none⟩ x5).heap[nb]? = some (.cells #[x0, x1, x2, x3, x4, x5, .bool false, .slice none 0 0, .slice none 0 0] 80 (0, 0)) := heap_setCell_row h4
  have h6 : (((((((w.setCell ⟨nb, 0, none⟩ x0).setCell ⟨nb, 1, none⟩ x1).setCell ⟨nb, 2, none⟩ x2).setCell ⟨nb, 3, none⟩ x3).setCell ⟨nb, 4, none⟩ x4).setCell ⟨nb, 5, none⟩ x5).setCell ⟨nb, 6, none⟩ x6).heap[nb]? = some (.cells #[x0, x1, x2, x3, x4, x5, x6, .slice none 0 0, .slice none 0 0] 80 (0, 0)) := heap_setCell_row h5
  have h7 : ((((((((w.setCell ⟨nb, 0, none⟩ x0).setCell ⟨nb, 1, none⟩ x1).setCell ⟨nb, 2, none⟩ x2).setCell ⟨nb, 3, none⟩ x3).setCell ⟨nb, 4, none⟩ x4).setCell ⟨nb, 5, none⟩ x5).setCell ⟨nb, 6, none⟩ x6).setCell ⟨nb, 7, none⟩ x7).heap[nb]? = some (.cells #[x0, x1, x2, x3, x4, x5, x6, x7, .slice none 0 0] 80 (0, 0)) := heap_setCell_row h6
  have h8 : (((((((((w.setCell ⟨nb, 0, none⟩ x0).setCell ⟨nb, 1, none⟩ x1).setCell ⟨nb, 2, none⟩ x2).setCell ⟨nb, 3, none⟩ x3).setCell ⟨nb, 4, none⟩ x4).setCell ⟨nb, 5, none⟩ x5).setCell ⟨nb, 6, none⟩ x6).setCell ⟨nb, 7, none⟩ x7).setCell ⟨nb, 8, none⟩ x8).heap[nb]? = some (.cells #[x0, x1, x2, x3, x4, x5, x6, x7, x8] 80 (0, 0)) := heap_setCell_row h7
  exact h8
theorem nine_grown {w : World} {nb : Nat} {x0 x1 x2 x3 x4 x5 x6 x7 x8 : Value} : w.grownBy (((((((((w.setCell ⟨nb, 0, none⟩ x0).setCell ⟨nb, 1, none⟩ x1).setCell ⟨nb, 2, none⟩ x2).setCell ⟨nb, 3, none⟩ x3).setCell ⟨nb, 4, none⟩ x4).setCell ⟨nb, 5, none⟩ x5).setCell ⟨nb, 6, none⟩ x6).setCell ⟨nb, 7, none⟩ x7).setCell ⟨nb, 8, none⟩ x8) (some nb) := by
  repeat refine grown_setCell ?_ _ _
  exact grownBy_refl _ _
/-- The ways meet: what is known of w4 is known behind the last store. -/
theorem mid_old {w w4 : World} {nb : Nat} {a5 : Option Addr} {c5 : Nat} {a6 : Option Addr} {c6 : Nat} {b5 : Bool} {e5 : Option Addr} {k5 : Nat} {b6 : Bool} {e6 : Option Addr} {k6 : Nat} (hn : w.heap.size + 2 ≤ nb) (hg : w.grownBy w4 none) (h : w4.heap[nb]? = some (.cells #[.int .i32 0, .int .i8 0, .int .i64 0, .int .i32 0, .bool false, .slice none 0 0, .bool false, .slice none 0 0, .slice none 0 0] 80 (0, 0)))
    (h0 : w4.heap[w.heap.size]? = some (.cells #[.int .i32 0, .int .i8 0, .int .i64 0, .int .i32 0, .bool false, .slice none 0 0, .bool false, .slice none 0 0, .slice none 0 0] 80 (0, 0))) (h1 : w4.heap[w.heap.size + 1]? = some (.cells #[.int .i32 6, .int .i8 0, .int .i32 0, .int .i64 0, .int .i32 0, .slice a5 0 c5, .slice a6 0 c6, .slice none 0 0] 110 (0, 0))) :
    RecMid w a5 c5 a6 c6 (.pointer (some ⟨nb, 0, none⟩)) (((((((((w4.setCell ⟨nb, 0, none⟩ (.int .i32 6)).setCell ⟨nb, 1, none⟩ (.int .i8 0)).setCell ⟨nb, 2, none⟩ (.int .i64 0)).setCell ⟨nb, 3, none⟩ (.int .i32 0)).setCell ⟨nb, 4, none⟩ (.bool b5)).setCell ⟨nb, 5, none⟩ (.slice e5 0 k5)).setCell ⟨nb, 6, none⟩ (.bool b6)).setCell ⟨nb, 7, none⟩ (.slice e6 0 k6)).setCell ⟨nb, 8, none⟩ (.slice none 0 0)) :=
  ⟨nb, b5, e5, k5, b6, e6, k6, rfl, hn, grown_sub hg nine_grown (by omega), nine_row h, by rw [nine_grown.block _ (Array.getElem?_eq_some_iff.1 h0).1 (fun e => by have := Option.some.inj e; omega)]; exact h0,
    by rw [nine_grown.block _ (Array.getElem?_eq_some_iff.1 h1).1 (fun e => by have := Option.some.inj e; omega)]; exact h1⟩
theorem mid_new {w w4 : World} {a5 : Option Addr} {c5 : Nat} {a6 : Option Addr} {c6 : Nat} {b5 : Bool} {e5 : Option Addr} {k5 : Nat} {b6 : Bool} {e6 : Option Addr} {k6 : Nat} (hn : w.heap.size + 2 ≤ w4.heap.size) (hg : w.grownBy w4 none)
    (h0 : w4.heap[w.heap.size]? = some (.cells #[.int .i32 0, .int .i8 0, .int .i64 0, .int .i32 0, .bool false, .slice none 0 0, .bool false, .slice none 0 0, .slice none 0 0] 80 (0, 0))) (h1 : w4.heap[w.heap.size + 1]? = some (.cells #[.int .i32 6, .int .i8 0, .int .i32 0, .int .i64 0, .int .i32 0, .slice a5 0 c5, .slice a6 0 c6, .slice none 0 0] 110 (0, 0))) :
    RecMid w a5 c5 a6 c6 (.pointer (some ⟨w4.heap.size, 0, none⟩)) (w4.alloc (.cells #[.int .i32 6, .int .i8 0, .int .i64 0, .int .i32 0, .bool b5, .slice e5 0 k5, .bool b6, .slice e6 0 k6, .slice none 0 0] 80)) :=
  ⟨w4.heap.size, b5, e5, k5, b6, e6, k6, rfl, hn, grownBy_trans hg (grown_alloc _ _ none), Array.getElem?_push_size, by rw [(grown_alloc w4 _ none).block _ (Array.getElem?_eq_some_iff.1 h0).1 (by simp)]; exact h0,
    by rw [(grown_alloc w4 _ none).block _ (Array.getElem?_eq_some_iff.1 h1).1 (by simp)]; exact h1⟩
set_option maxRecDepth 8000 in
set_option maxHeartbeats 2000000 in
theorem tellrec (w : World) (S : Nat → Prop) (p : Option Addr) (c : Nat) (h : BytesAt w S (.slice p 7 c) ([12, 0, 0, 0, 0, 0, 0])) (he : ErrOk w) :
    Calls Tryd.prog 31 #[.slice p 7 c] w fun e w' => ∃ (b5 : Bool) (e5 : Option Addr) (k5 : Nat) (b6 : Bool) (e6 : Option Addr) (k6 : Nat), e = .returned (.tuple #[.agg #[.int .i32 6, .int .i8 0, .int .i64 0, .int .i32 0, .bool b5, .slice e5 0 k5, .bool b6, .slice e6 0 k6, .slice none 0 0], .bool true]) ∧ Below w.heap.size w w' := by
  have HB := Lib.hid h
  have HE := Lib.hid he
  clear h he
  go_enter Tryd.func31, Tryd.ntmps31
  go_wp2_with fail
  refine (own_any _ S _ ([12, 0, 0, 0, 0, 0, 0]) (HB.out.kept (grownBy_trans (grown_alloc _ _ none) (grown_alloc _ _ none)) (by simp)) (by decide)).mono ?_
  rintro e w1 ⟨v1, rfl, ho, hb1⟩
  rw [size_alloc, size_alloc] at ho
  obtain ⟨g1, r0, r1⟩ : w.grownBy w1 none ∧ w1.heap[w.heap.size]? = some (.cells #[.int .i32 0, .int .i8 0, .int .i64 0, .int .i32 0, .bool false, .slice none 0 0, .bool false, .slice none 0 0, .slice none 0 0] 80 (0, 0)) ∧ w1.heap[w.heap.size + 1]? = some (.cells #[.int .i32 0, .int .i8 0, .int .i32 0, .int .i64 0, .int .i32 0, .slice none 0 0, .slice none 0 0, .slice none 0 0] 110 (0, 0)) := by
    refine ⟨grownBy_trans (grownBy_trans (grown_alloc _ _ none) (grown_alloc _ _ none)) (below_grown hb1 none), ?_, ?_⟩
    · rw [hb1.block w.heap.size (by rw [size_alloc, size_alloc]; omega), (grown_alloc _ _ none).block w.heap.size (by rw [size_alloc]; omega) (by simp)]
      show (w.heap.push _)[w.heap.size]? = _
      exact Array.getElem?_push_size
    · rw [hb1.block (w.heap.size + 1) (by rw [size_alloc, size_alloc]; omega)]
      have := Array.getElem?_push_size (xs := (w.alloc (.cells #[.int .i32 0, .int .i8 0, .int .i64 0, .int .i32 0, .bool false, .slice none 0 0, .bool false, .slice none 0 0, .slice none 0 0] 80)).heap) (x := Obj.cells #[.int .i32 0, .int .i8 0, .int .i32 0, .int .i64 0, .int .i32 0, .slice none 0 0, .slice none 0 0, .slice none 0 0] 110 (0, 0))
      rw [size_alloc] at this
      exact this
  obtain ⟨ad1, c1, rfl⟩ := bytes_len (own_bytes ho)
  have hS2 : ∀ g, (Value.slice ad1 ([12, 0, 0, 0, 0, 0, 0] : List UInt8).length c1).ownBlock = some g → w.heap.size + 2 ≤ g ∧ g < w1.heap.size := fun g hg => World.ownsRow.lt ho g hg
  have HR := Lib.hid (recReadFrom w1 _ (w.heap.size + 1) ad1 c1 r1 (own_bytes ho) (fun h => by have := hS2 _ h; omega) (fun g hg => (hS2 g hg).2) (HE.out.kept g1 (by simp)) (by omega))
  have HG1 := Lib.hid g1
  have HR0 := Lib.hid r0
  clear ho hb1 g1 r0 r1 HB hS2
  go_wp2_with fail
  refine HR.out.mono ?_
  rintro e w2 ⟨v5, v6, rfl, g2, hB2, hv5, hv6⟩
  obtain ⟨a5, c5, rfl⟩ := bytes_len hv5
  obtain ⟨a6, c6, rfl⟩ := bytes_len hv6
  have HV6 := Lib.hid hv6
  have s1 : w.heap.size ≤ w1.heap.size := HG1.out.size
  have r0 : w2.heap[w.heap.size]? = some (.cells #[.int .i32 0, .int .i8 0, .int .i64 0, .int .i32 0, .bool false, .slice none 0 0, .bool false, .slice none 0 0, .slice none 0 0] 80 (0, 0)) := by
    rw [g2.block w.heap.size ((Array.getElem?_eq_some_iff.1 HR0.out).1) (by simp)]
    exact HR0.out
  have HG2 := Lib.hid (grown_sub HG1.out g2 (by omega))
  have y1 : ∀ j, w2.cell? ⟨w.heap.size + 1, j, none⟩ = (#[.int .i32 6, .int .i8 0, .int .i32 0, .int .i64 0, .int .i32 0, .slice a5 0 c5, .slice a6 0 c6, .slice none 0 0] : Array Value)[j]? := fun j => by rw [cell_of_row w2 _ _ _ _ _ hB2]; rfl
  have y0 : ∀ j, w2.drew.cell? ⟨w.heap.size + 1, j, none⟩ = (#[.int .i32 6, .int .i8 0, .int .i32 0, .int .i64 0, .int .i32 0, .slice a5 0 c5, .slice a6 0 c6, .slice none 0 0] : Array Value)[j]? := y1
  have s2 := HG2.out.size
  have h12 : w.heap.size + 1 < w2.heap.size := (Array.getElem?_eq_some_iff.1 hB2).1
  have yA : ∀ j, ((w2.alloc (.cells #[.int .i32 0, .int .i8 0, .int .i64 0, .int .i32 0, .bool false, .slice none 0 0, .bool false, .slice none 0 0, .slice none 0 0] 80)).drew).cell? ⟨w.heap.size + 1, j, none⟩ = (#[.int .i32 6, .int .i8 0, .int .i32 0, .int .i64 0, .int .i32 0, .slice a5 0 c5, .slice a6 0 c6, .slice none 0 0] : Array Value)[j]? := alloc_keep h12 y1
  have hq : BytesAt w2.drew _ (.slice a5 0 c5) [] := hv5
  have HQ5 := Lib.hid hq
  have hqA : BytesAt ((w2.alloc (.cells #[.int .i32 0, .int .i8 0, .int .i64 0, .int .i32 0, .bool false, .slice none 0 0, .bool false, .slice none 0 0, .slice none 0 0] 80)).drew) _ (.slice a5 0 c5) [] := nil_grow hv5 (grown_alloc _ _ none).size
  have HQA := Lib.hid hqA
  have HR0 := Lib.hid r0
  have HR1 := Lib.hid hB2
  have HRA := Lib.hid (show (w2.alloc (.cells #[.int .i32 0, .int .i8 0, .int .i64 0, .int .i32 0, .bool false, .slice none 0 0, .bool false, .slice none 0 0, .slice none 0 0] 80)).heap[w2.heap.size]? = some (.cells #[.int .i32 0, .int .i8 0, .int .i64 0, .int .i32 0, .bool false, .slice none 0 0, .bool false, .slice none 0 0, .slice none 0 0] 80 (0, 0)) from Array.getElem?_push_size)
  clear r0 g2 hB2 hv5 hv6 HR hq hqA
  go_wp2
  go_cut [5] from 10 to 28 (fun s5 wx => RecMid w a5 c5 a6 c6 s5 wx)
  case first =>
    have hne : w.heap.size + 1 ≠ w2.heap.size := by omega
    go_region_held3 (fun w' => ∀ j, w'.cell? ⟨w.heap.size + 1, j, none⟩ = (#[.int .i32 6, .int .i8 0, .int .i32 0, .int .i64 0, .int .i32 0, .slice a5 0 c5, .slice a6 0 c6, .slice none 0 0] : Array Value)[j]?) (first | with_reducible assumption | with_reducible exact alloc_keep l3 y3 | with_reducible exact alloc_keep l4 y4 | ((repeat (with_reducible refine set_keep hnb ?_)); with_reducible assumption)) (first
      | (go_at_call 15; (with_reducible refine (octs_nil w2.drew _ (.slice a5 0 c5) HQ5.out).mono ?_); rintro e w3 ⟨b5, e5, k5, rfl, hb3'⟩;
         have hb3 : Below w2.heap.size w2 w3 := below_undrew hb3';
         have t3 : w2.heap.size ≤ w3.heap.size := hb3.size;
         have l3 : w.heap.size + 1 < w3.heap.size := by omega;
         have y3 := fun j => ((bcell hb3).1 (w.heap.size + 1) j h12).trans (y1 j);
         have way1 : True := trivial;
         have HB3 := Lib.hid hb3; clear hb3' hb3)
      | (go_at_call 15; (with_reducible refine (octs_nil ((w2.alloc (.cells #[.int .i32 0, .int .i8 0, .int .i64 0, .int .i32 0, .bool false, .slice none 0 0, .bool false, .slice none 0 0, .slice none 0 0] 80)).drew) _ (.slice a5 0 c5) HQA.out).mono ?_); rintro e w3 ⟨b5, e5, k5, rfl, hb3'⟩;
         have hb3a : Below (w2.alloc (.cells #[.int .i32 0, .int .i8 0, .int .i64 0, .int .i32 0, .bool false, .slice none 0 0, .bool false, .slice none 0 0, .slice none 0 0] 80)).heap.size (w2.alloc (.cells #[.int .i32 0, .int .i8 0, .int .i64 0, .int .i32 0, .bool false, .slice none 0 0, .bool false, .slice none 0 0, .slice none 0 0] 80)) w3 := below_undrew hb3';
         have hb3 : Below w2.heap.size w2 w3 := grown_below (grownBy_trans (grown_alloc w2 (.cells #[.int .i32 0, .int .i8 0, .int .i64 0, .int .i32 0, .bool false, .slice none 0 0, .bool false, .slice none 0 0, .slice none 0 0] 80) none) (below_grown hb3a none));
         have t3 : w2.heap.size ≤ w3.heap.size := hb3.size;
         have l3 : w.heap.size + 1 < w3.heap.size := by omega;
         have y3 := fun j => ((bcell hb3).1 (w.heap.size + 1) j h12).trans (y1 j);
         have HN3 := Lib.hid ((hb3a.block w2.heap.size (by rw [size_alloc]; omega)).trans HRA.out);
         have HB3 := Lib.hid hb3; clear hb3' hb3 hb3a)
      | (have _t := HN3; go_at_call 15; (with_reducible refine (octs_nil w3 _ (.slice a6 0 c6) (nil_grow HV6.out t3)).mono ?_); rintro e w4 ⟨b6, e6, k6, rfl, hb4'⟩;
         have hb4 : Below w2.heap.size w2 w4 := HB3.out.trans (hb4'.lower (m := w2.heap.size) t3);
         have l4 : w.heap.size + 1 < w4.heap.size := by have := hb4.size; omega;
         have y4 := fun j => ((bcell hb4).1 (w.heap.size + 1) j h12).trans (y1 j);
         have n4 := (hb4'.block w2.heap.size (Array.getElem?_eq_some_iff.1 HN3.out).1).trans HN3.out;
         have hnb := hne;
         have p0 : w4.cell? ⟨w2.heap.size, 0, none⟩ = some (.int .i32 0) := (by rw [cell_of_row w4 _ _ _ _ _ n4]; rfl); have q0 : w4.frozen? ⟨w2.heap.size, 0, none⟩ = false := (by simp [World.frozen?, n4]);
         have p1 : w4.cell? ⟨w2.heap.size, 1, none⟩ = some (.int .i8 0) := (by rw [cell_of_row w4 _ _ _ _ _ n4]; rfl); have q1 : w4.frozen? ⟨w2.heap.size, 1, none⟩ = false := (by simp [World.frozen?, n4]);
         have p2 : w4.cell? ⟨w2.heap.size, 2, none⟩ = some (.int .i64 0) := (by rw [cell_of_row w4 _ _ _ _ _ n4]; rfl); have q2 : w4.frozen? ⟨w2.heap.size, 2, none⟩ = false := (by simp [World.frozen?, n4]);
         have p3 : w4.cell? ⟨w2.heap.size, 3, none⟩ = some (.int .i32 0) := (by rw [cell_of_row w4 _ _ _ _ _ n4]; rfl); have q3 : w4.frozen? ⟨w2.heap.size, 3, none⟩ = false := (by simp [World.frozen?, n4]);
         have p4 : w4.cell? ⟨w2.heap.size, 4, none⟩ = some (.bool false) := (by rw [cell_of_row w4 _ _ _ _ _ n4]; rfl); have q4 : w4.frozen? ⟨w2.heap.size, 4, none⟩ = false := (by simp [World.frozen?, n4]);
         have p5 : w4.cell? ⟨w2.heap.size, 5, none⟩ = some (.slice none 0 0) := (by rw [cell_of_row w4 _ _ _ _ _ n4]; rfl); have q5 : w4.frozen? ⟨w2.heap.size, 5, none⟩ = false := (by simp [World.frozen?, n4]);
         have p6 : w4.cell? ⟨w2.heap.size, 6, none⟩ = some (.bool false) := (by rw [cell_of_row w4 _ _ _ _ _ n4]; rfl); have q6 : w4.frozen? ⟨w2.heap.size, 6, none⟩ = false := (by simp [World.frozen?, n4]);
         have p7 : w4.cell? ⟨w2.heap.size, 7, none⟩ = some (.slice none 0 0) := (by rw [cell_of_row w4 _ _ _ _ _ n4]; rfl); have q7 : w4.frozen? ⟨w2.heap.size, 7, none⟩ = false := (by simp [World.frozen?, n4]);
         have p8 : w4.cell? ⟨w2.heap.size, 8, none⟩ = some (.slice none 0 0) := (by rw [cell_of_row w4 _ _ _ _ _ n4]; rfl); have q8 : w4.frozen? ⟨w2.heap.size, 8, none⟩ = false := (by simp [World.frozen?, n4]);
         have HN4 := Lib.hid n4; have HB4 := Lib.hid hb4; clear hb4' hb4 n4 HN3)
      | (have _t := way1; go_at_call 15; (with_reducible refine (octs_nil w3 _ (.slice a6 0 c6) (nil_grow HV6.out t3)).mono ?_); rintro e w4 ⟨b6, e6, k6, rfl, hb4'⟩;
         have hb4 : Below w2.heap.size w2 w4 := HB3.out.trans (hb4'.lower (m := w2.heap.size) t3);
         have l4 : w.heap.size + 1 < w4.heap.size := by have := hb4.size; omega;
         have y4 := fun j => ((bcell hb4).1 (w.heap.size + 1) j h12).trans (y1 j);
         have HB4 := Lib.hid hb4; clear hb4' hb4)
      | (go_at_call 15; (with_reducible refine (octs_nil (w3.alloc (.cells #[.int .i32 0, .int .i8 0, .int .i64 0, .int .i32 0, .bool false, .slice none 0 0, .bool false, .slice none 0 0, .slice none 0 0] 80)) _ (.slice a6 0 c6) (nil_grow HV6.out (Nat.le_trans t3 (grown_alloc w3 (.cells #[.int .i32 0, .int .i8 0, .int .i64 0, .int .i32 0, .bool false, .slice none 0 0, .bool false, .slice none 0 0, .slice none 0 0] 80) none).size))).mono ?_); rintro e w4 ⟨b6, e6, k6, rfl, hb4'⟩;
         have hb34 : Below w3.heap.size w3 w4 := grown_below (grownBy_trans (grown_alloc w3 (.cells #[.int .i32 0, .int .i8 0, .int .i64 0, .int .i32 0, .bool false, .slice none 0 0, .bool false, .slice none 0 0, .slice none 0 0] 80) none) (below_grown hb4' none));
         have hb4 : Below w2.heap.size w2 w4 := HB3.out.trans (hb34.lower (m := w2.heap.size) t3);
         have l4 : w.heap.size + 1 < w4.heap.size := by have := hb4.size; omega;
         have y4 := fun j => ((bcell hb4).1 (w.heap.size + 1) j h12).trans (y1 j);
         have n4 : w4.heap[w3.heap.size]? = some (.cells #[.int .i32 0, .int .i8 0, .int .i64 0, .int .i32 0, .bool false, .slice none 0 0, .bool false, .slice none 0 0, .slice none 0 0] 80 (0, 0)) := (hb4'.block w3.heap.size (by rw [size_alloc]; omega)).trans Array.getElem?_push_size;
         have hnb : w.heap.size + 1 ≠ w3.heap.size := by omega;
         have p0 : w4.cell? ⟨w3.heap.size, 0, none⟩ = some (.int .i32 0) := (by rw [cell_of_row w4 _ _ _ _ _ n4]; rfl); have q0 : w4.frozen? ⟨w3.heap.size, 0, none⟩ = false := (by simp [World.frozen?, n4]);
         have p1 : w4.cell? ⟨w3.heap.size, 1, none⟩ = some (.int .i8 0) := (by rw [cell_of_row w4 _ _ _ _ _ n4]; rfl); have q1 : w4.frozen? ⟨w3.heap.size, 1, none⟩ = false := (by simp [World.frozen?, n4]);
         have p2 : w4.cell? ⟨w3.heap.size, 2, none⟩ = some (.int .i64 0) := (by rw [cell_of_row w4 _ _ _ _ _ n4]; rfl); have q2 : w4.frozen? ⟨w3.heap.size, 2, none⟩ = false := (by simp [World.frozen?, n4]);
         have p3 : w4.cell? ⟨w3.heap.size, 3, none⟩ = some (.int .i32 0) := (by rw [cell_of_row w4 _ _ _ _ _ n4]; rfl); have q3 : w4.frozen? ⟨w3.heap.size, 3, none⟩ = false := (by simp [World.frozen?, n4]);
         have p4 : w4.cell? ⟨w3.heap.size, 4, none⟩ = some (.bool false) := (by rw [cell_of_row w4 _ _ _ _ _ n4]; rfl); have q4 : w4.frozen? ⟨w3.heap.size, 4, none⟩ = false := (by simp [World.frozen?, n4]);
         have p5 : w4.cell? ⟨w3.heap.size, 5, none⟩ = some (.slice none 0 0) := (by rw [cell_of_row w4 _ _ _ _ _ n4]; rfl); have q5 : w4.frozen? ⟨w3.heap.size, 5, none⟩ = false := (by simp [World.frozen?, n4]);
         have p6 : w4.cell? ⟨w3.heap.size, 6, none⟩ = some (.bool false) := (by rw [cell_of_row w4 _ _ _ _ _ n4]; rfl); have q6 : w4.frozen? ⟨w3.heap.size, 6, none⟩ = false := (by simp [World.frozen?, n4]);
         have p7 : w4.cell? ⟨w3.heap.size, 7, none⟩ = some (.slice none 0 0) := (by rw [cell_of_row w4 _ _ _ _ _ n4]; rfl); have q7 : w4.frozen? ⟨w3.heap.size, 7, none⟩ = false := (by simp [World.frozen?, n4]);
         have p8 : w4.cell? ⟨w3.heap.size, 8, none⟩ = some (.slice none 0 0) := (by rw [cell_of_row w4 _ _ _ _ _ n4]; rfl); have q8 : w4.frozen? ⟨w3.heap.size, 8, none⟩ = false := (by simp [World.frozen?, n4]);
         have HN4 := Lib.hid n4; have HB4 := Lib.hid hb4; clear hb4' hb4 hb34 n4))
    all_goals (have G4 : w.grownBy w4 none := grownBy_trans HG2.out (below_grown HB4.out none))
    all_goals (have R0 : w4.heap[w.heap.size]? = some (.cells #[.int .i32 0, .int .i8 0, .int .i64 0, .int .i32 0, .bool false, .slice none 0 0, .bool false, .slice none 0 0, .slice none 0 0] 80 (0, 0)) := (HB4.out.block w.heap.size (by omega)).trans HR0.out)
    all_goals (have R1 : w4.heap[w.heap.size + 1]? = some (.cells #[.int .i32 6, .int .i8 0, .int .i32 0, .int .i64 0, .int .i32 0, .slice a5 0 c5, .slice a6 0 c6, .slice none 0 0] 110 (0, 0)) := (HB4.out.block (w.heap.size + 1) h12).trans HR1.out)
    all_goals go_wp2_with fail
    all_goals go_meet
    · have hz : w.heap.size + 2 ≤ w4.heap.size := by omega
      with_reducible exact mid_new hz G4 R0 R1
    · have hz : w.heap.size + 2 ≤ w3.heap.size := by omega
      have z := @mid_old w w4 w3.heap.size a5 c5 a6 c6 b5 e5 k5 b6 e6 k6 hz G4 HN4.out R0 R1
      with_reducible exact z
    · have hz : w.heap.size + 2 ≤ w2.heap.size := by omega
      have z := @mid_old w w4 w2.heap.size a5 c5 a6 c6 b5 e5 k5 b6 e6 k6 hz G4 HN4.out R0 R1
      with_reducible exact z
  case rest =>
    obtain ⟨nb, b5, e5, k5, b6, e6, k6, rfl, hnb, hg, hn, h0, h1⟩ := hcut
    have hm7 : wc.cell? ⟨w.heap.size + 1, 7, none⟩ = some (.slice none 0 0) := by rw [cell_of_row wc _ _ _ _ _ h1]; rfl
    have n0 : wc.cell? ⟨nb, 0, none⟩ = some (.int .i32 6) := by rw [cell_of_row wc _ _ _ _ _ hn]; rfl
    have o0 : wc.cell? ⟨w.heap.size, 0, none⟩ = some (.int .i32 0) := by rw [cell_of_row wc _ _ _ _ _ h0]; rfl
    have f0 : wc.frozen? ⟨w.heap.size, 0, none⟩ = false := by simp [World.frozen?, h0]
    have n1 : wc.cell? ⟨nb, 1, none⟩ = some (.int .i8 0) := by rw [cell_of_row wc _ _ _ _ _ hn]; rfl
    have o1 : wc.cell? ⟨w.heap.size, 1, none⟩ = some (.int .i8 0) := by rw [cell_of_row wc _ _ _ _ _ h0]; rfl
    have f1 : wc.frozen? ⟨w.heap.size, 1, none⟩ = false := by simp [World.frozen?, h0]
    have n2 : wc.cell? ⟨nb, 2, none⟩ = some (.int .i64 0) := by rw [cell_of_row wc _ _ _ _ _ hn]; rfl
    have o2 : wc.cell? ⟨w.heap.size, 2, none⟩ = some (.int .i64 0) := by rw [cell_of_row wc _ _ _ _ _ h0]; rfl
    have f2 : wc.frozen? ⟨w.heap.size, 2, none⟩ = false := by simp [World.frozen?, h0]
    have n3 : wc.cell? ⟨nb, 3, none⟩ = some (.int .i32 0) := by rw [cell_of_row wc _ _ _ _ _ hn]; rfl
    have o3 : wc.cell? ⟨w.heap.size, 3, none⟩ = some (.int .i32 0) := by rw [cell_of_row wc _ _ _ _ _ h0]; rfl
    have f3 : wc.frozen? ⟨w.heap.size, 3, none⟩ = false := by simp [World.frozen?, h0]
    have n4 : wc.cell? ⟨nb, 4, none⟩ = some (.bool b5) := by rw [cell_of_row wc _ _ _ _ _ hn]; rfl
    have o4 : wc.cell? ⟨w.heap.size, 4, none⟩ = some (.bool false) := by rw [cell_of_row wc _ _ _ _ _ h0]; rfl
    have f4 : wc.frozen? ⟨w.heap.size, 4, none⟩ = false := by simp [World.frozen?, h0]
    have n5 : wc.cell? ⟨nb, 5, none⟩ = some (.slice e5 0 k5) := by rw [cell_of_row wc _ _ _ _ _ hn]; rfl
    have o5 : wc.cell? ⟨w.heap.size, 5, none⟩ = some (.slice none 0 0) := by rw [cell_of_row wc _ _ _ _ _ h0]; rfl
    have f5 : wc.frozen? ⟨w.heap.size, 5, none⟩ = false := by simp [World.frozen?, h0]
    have n6 : wc.cell? ⟨nb, 6, none⟩ = some (.bool b6) := by rw [cell_of_row wc _ _ _ _ _ hn]; rfl
    have o6 : wc.cell? ⟨w.heap.size, 6, none⟩ = some (.bool false) := by rw [cell_of_row wc _ _ _ _ _ h0]; rfl
    have f6 : wc.frozen? ⟨w.heap.size, 6, none⟩ = false := by simp [World.frozen?, h0]
    have n7 : wc.cell? ⟨nb, 7, none⟩ = some (.slice e6 0 k6) := by rw [cell_of_row wc _ _ _ _ _ hn]; rfl
    have o7 : wc.cell? ⟨w.heap.size, 7, none⟩ = some (.slice none 0 0) := by rw [cell_of_row wc _ _ _ _ _ h0]; rfl
    have f7 : wc.frozen? ⟨w.heap.size, 7, none⟩ = false := by simp [World.frozen?, h0]
    have n8 : wc.cell? ⟨nb, 8, none⟩ = some (.slice none 0 0) := by rw [cell_of_row wc _ _ _ _ _ hn]; rfl
    have o8 : wc.cell? ⟨w.heap.size, 8, none⟩ = some (.slice none 0 0) := by rw [cell_of_row wc _ _ _ _ _ h0]; rfl
    have f8 : wc.frozen? ⟨w.heap.size, 8, none⟩ = false := by simp [World.frozen?, h0]
    have HGC := Lib.hid hg
    clear hg hn h0 h1 y0 y1 yA HR0 HR1 HRA HQ5 HQA HV6 HG2
    go_wp2_with fail
    refine wp_loop_rounds 1 ?_
    rw [rounds_succ]
    go_wp2
    refine bodyPost_ret (v := .tuple #[.agg #[.int .i32 6, .int .i8 0, .int .i64 0, .int .i32 0, .bool b5, .slice e5 0 k5, .bool b6, .slice e6 0 k6, .slice none 0 0], .bool true]) (by simp [results, Tryd.results31, go_sem, o0, o1, o2, o3, o4, o5, o6, o7, o8]) rfl ?_
    refine ⟨_, _, _, _, _, _, rfl, grown_below ?_⟩
    repeat refine grown_new ?_ _ _ _ (Nat.le_refl _)
    exact HGC.out
end Go.Proofs.YthdfhnnoamlacaaDoor.Rec

namespace Go.Proofs.YthdfhnnoamlacaaDoor.Rec
open Go.Proofs.YthdfhnnoamlacaaDoor
open Go.RowKit (Below wrap64 wrap32)
open Go.Proofs.YthdfhnnoamlacaaDoorW Go.Proofs.YthdfhnnoamlacaaDoorW.PrintWords Go.Proofs.YthdfhnnoamlacaaDoorW.PrintMore Go.Proofs.YthdfhnnoamlacaaDoor.PFnAnyHeader
open Kz

theorem fixed04 (w : World) : Calls Tryd.prog 39 #[.int .i64 0, .int .i64 4] w fun e w' => ∃ v, e = .returned v ∧ OwnB w' w.heap.size v [0, 0, 0, 0] ∧ Below w.heap.size w w' := specFixed_any w 0 4 (by decide)
set_option maxRecDepth 8000 in
set_option maxHeartbeats 1000000 in
theorem StickyBytes0 (w : World) : Calls Tryd.prog 23 #[.agg #[.slice none 0 0, .int .i32 0]] w fun e w' => ∃ v, e = .returned v ∧ OwnB w' w.heap.size v (zz 8) ∧ Below w.heap.size w w' := by
  have e0 : IntKind.i64.wrap 0 = 0 := by kernel_rfl
  go_enter Tryd.func23, Tryd.ntmps23
  go_wp2_with fail
  refine (fixed04 _).mono ?_
  rintro e w1 ⟨v1, rfl, o1, b1⟩
  rw [size_alloc] at o1
  have hz : w1.heap[w.heap.size]? = some (.cells #[.slice none 0 0, .int .i32 0] 37 (0, 0)) := by
    rw [b1.block w.heap.size (by rw [size_alloc]; omega)]
    exact Array.getElem?_push_size
  have hb1 : Below w.heap.size w w1 := grown_below (grownBy_trans (grown_alloc _ _ none) (below_grown b1 none))
  have c0 : w1.cell? ⟨w.heap.size, 0, none⟩ = some (.slice none 0 0) := by rw [cell_of_row w1 _ _ _ _ _ hz]; rfl
  have c1 : w1.cell? ⟨w.heap.size, 1, none⟩ = some (.int .i32 0) := by rw [cell_of_row w1 _ _ _ _ _ hz]; rfl
  have hlt : w.heap.size < w1.heap.size := (Array.getElem?_eq_some_iff.1 hz).1
  have O1 := Lib.hid o1
  have B1 := Lib.hid hb1
  clear hz o1 b1 hb1
  go_wp2_with fail
  refine wp_loop_rounds 1 ?_
  rw [rounds_succ]
  go_wp2_with fail
  refine (fixed04 w1).mono ?_
  rintro e w2 ⟨v2, rfl, o2, b2⟩
  have O2 := Lib.hid (own_at_bytes o2)
  have O1b := Lib.hid (O1.out.stay b2)
  have B2 := Lib.hid (B1.out.trans (b2.lower (m := w.heap.size) B1.out.size))
  have t2 : w.heap.size + 1 ≤ w2.heap.size := by have := b2.size; omega
  clear o2 b2
  go_wp2_with (at_builtin; refine wpList_append_octets rfl _ _ rfl (w.heap.size + 1) _ _ [0, 0, 0, 0] [0, 0, 0, 0] Tr rfl rfl O1b.out O2.out (by decide) t2 ?_)
  intro v3 w3 o3 g3
  have O3 := Lib.hid (show OwnB w3 w.heap.size v3 (zz 8) from o3.low (base' := w.heap.size) (by omega))
  have B3 := Lib.hid (B2.out.trans ((below_growB O1b.out t2 g3).lower (m := w.heap.size) (by omega)))
  clear o3 g3
  go_wp2
  go_ret
  exact ⟨_, rfl, O3.out, B3.out⟩
theorem rAL {w : World} {S : Nat → Prop} {rb : Nat} {st st' : St} {n : Int} (h : RdIs w S rb st) (e : rdLen false st = (n, st')) : Calls Tryd.prog 54 #[.pointer (some ⟨rb, 0, none⟩)] w fun e w' => e = .returned (.int .i32 n) ∧ RdIs w' S rb st' ∧ w.grownBy w' (some rb) := by have := ArrayLen_any w S rb st h; rw [e] at this; exact this
set_option maxRecDepth 8000 in
set_option maxHeartbeats 1000000 in
theorem sreadFrom0 (w : World) (S : Nat → Prop) (B : Nat) (p : Option Addr) (c : Nat) (hB : w.heap[B]? = some (.cells #[.slice none 0 0, .int .i32 0] 64 (0, 0))) (h : BytesAt w S (.slice p 8 c) (zz 8)) (hSB : ¬ S B) (hS : ∀ g, S g → g < w.heap.size) (he : ErrOk w) (hBe : B ≠ 0) :
    Calls Tryd.prog 38 #[.pointer (some ⟨B, 0, none⟩), .slice p 8 c, .bool false] w fun e w' => e = .returned .nilIface ∧ w.grownBy w' (some B) ∧ w'.heap[B]? = some (.cells #[.slice none 0 0, .int .i32 0] 64 (0, 0)) := by
  have hBl : B < w.heap.size := (Array.getElem?_eq_some_iff.1 hB).1
  have HE := Lib.hid he
  have HR := Lib.hid (Rs.start hB h hS)
  clear h hB he hS
  go_enter Tryd.func38, Tryd.ntmps38
  go_wp2_with fail
  refine (rAL (st := some (zz 8)) (n := 0) (st' := some (zz 4)) HR.out.rd (by kernel_rfl)).mono ?_
  rintro e w1 ⟨rfl, hr, g⟩
  have hR := HR.out.read hBl g hr
  have hc0 : w1.cell? ⟨B, 0, none⟩ = some (.slice none 0 0) := hR.cell 0
  have hf0 : w1.frozen? ⟨B, 0, none⟩ = false := hR.frozen 0
  have hR2 : Rs w (w1.setCell ⟨B, 0, none⟩ (.slice none 0 0)) S B 64 #[.slice none 0 0, .int .i32 0] (some (zz 4)) := hR.store hSB hBl 0 (.slice none 0 0)
  obtain ⟨v, -, hb, -, d0, -, -, -⟩ := rd_parts hR2.rd
  obtain ⟨ad, k, rfl⟩ := bytes_len hb
  have d0 : (w1.setCell ⟨B, 0, none⟩ (.slice none 0 0)).cell? ⟨w.heap.size, 0, none⟩ = some (.slice ad 4 k) := d0
  have HR := Lib.hid hR2
  clear hR hR2 g hr hb
  have e0 : RowKit.wrap32 0 = 0 := by kernel_rfl
  go_wp2_with fail
  refine wp_loop_rounds 1 ?_
  rw [rounds_succ]
  go_wp2_with fail
  refine (rI32 (st := some (zz 4)) (x := 0) (st' := some (zz 0)) HR.out.rd (by kernel_rfl)).mono ?_
  rintro e w2 ⟨rfl, hr, g⟩
  have hR := HR.out.read hBl g hr
  have hc1 : w2.cell? ⟨B, 1, none⟩ = some (.int .i32 0) := hR.cell 1
  have hf1 : w2.frozen? ⟨B, 1, none⟩ = false := hR.frozen 1
  have hR2 : Rs w (w2.setCell ⟨B, 1, none⟩ (.int .i32 0)) S B 64 #[.slice none 0 0, .int .i32 0] (some (zz 0)) := hR.store hSB hBl 1 (.int .i32 0)
  have HR := Lib.hid hR2
  have hE := HE.out.kept HR.out.grown (fun e => hBe (Option.some.inj e))
  clear hR hR2 g hr
  go_wp2_with fail
  refine (Complete_any _ S w.heap.size _ HR.out.rd hE).mono ?_
  rintro e w99 ⟨u, rfl, hu, hw99⟩
  subst hw99
  have hu : u = .nilIface := hu
  subst hu
  clear hE
  go_wp2
  go_ret
  exact ⟨rfl, HR.out.grown, HR.out.row⟩
theorem sReadFrom0 (w : World) (S : Nat → Prop) (B : Nat) (p : Option Addr) (c : Nat) (hB : w.heap[B]? = some (.cells #[.slice none 0 0, .int .i32 0] 64 (0, 0))) (h : BytesAt w S (.slice p 8 c) (zz 8)) (hSB : ¬ S B) (hS : ∀ g, S g → g < w.heap.size) (he : ErrOk w) (hBe : B ≠ 0) :
    Calls Tryd.prog 21 #[.pointer (some ⟨B, 0, none⟩), .slice p 8 c] w fun e w' => e = .returned .nilIface ∧ w.grownBy w' (some B) ∧ w'.heap[B]? = some (.cells #[.slice none 0 0, .int .i32 0] 64 (0, 0)) := by
  have HH := Lib.hid (sreadFrom0 w S B p c hB h hSB hS he hBe)
  clear hB h he
  go_enter Tryd.func21, Tryd.ntmps21
  go_wp2_with fail
  refine HH.out.mono ?_
  rintro e w1 ⟨rfl, hr⟩
  have HR := Lib.hid hr
  clear hr
  go_wp2
  go_ret
  exact ⟨rfl, HR.out⟩
set_option maxRecDepth 8000 in
set_option maxHeartbeats 1000000 in
theorem tellsticky0 (w : World) (S : Nat → Prop) (p : Option Addr) (c : Nat) (h : BytesAt w S (.slice p 8 c) (zz 8)) (he : ErrOk w) :
    Calls Tryd.prog 10 #[.slice p 8 c] w fun e w' => e = .returned (.tuple #[.agg #[.slice none 0 0, .int .i32 0], .bool true]) ∧ Below w.heap.size w w' := by
  have HB := Lib.hid h
  have HE := Lib.hid he
  clear h he
  go_enter Tryd.func10, Tryd.ntmps10
  go_wp2_with fail
  refine (own_any _ S _ (zz 8) (HB.out.kept (grownBy_trans (grown_alloc _ _ none) (grown_alloc _ _ none)) (by simp)) (by decide)).mono ?_
  rintro e w1 ⟨v1, rfl, ho, hb1⟩
  rw [size_alloc, size_alloc] at ho
  obtain ⟨g1, r0, r1⟩ : w.grownBy w1 none ∧ w1.heap[w.heap.size]? = some (.cells #[.slice none 0 0, .int .i32 0] 37 (0, 0)) ∧ w1.heap[w.heap.size + 1]? = some (.cells #[.slice none 0 0, .int .i32 0] 64 (0, 0)) := by
    refine ⟨grownBy_trans (grownBy_trans (grown_alloc _ _ none) (grown_alloc _ _ none)) (below_grown hb1 none), ?_, ?_⟩
    · rw [hb1.block w.heap.size (by rw [size_alloc, size_alloc]; omega), (grown_alloc _ _ none).block w.heap.size (by rw [size_alloc]; omega) (by simp)]
      exact Array.getElem?_push_size
    · rw [hb1.block (w.heap.size + 1) (by rw [size_alloc, size_alloc]; omega)]
      have := Array.getElem?_push_size (xs := (w.alloc (.cells #[.slice none 0 0, .int .i32 0] 37)).heap) (x := Obj.cells #[.slice none 0 0, .int .i32 0] 64 (0, 0))
      rw [size_alloc] at this
      exact this
  obtain ⟨ad1, c1, rfl⟩ := bytes_len (own_bytes ho)
  have hS2 : ∀ g, (Value.slice ad1 (zz 8).length c1).ownBlock = some g → w.heap.size + 2 ≤ g ∧ g < w1.heap.size := fun g hg => World.ownsRow.lt ho g hg
  have HR := Lib.hid (sReadFrom0 w1 _ (w.heap.size + 1) ad1 c1 r1 (own_bytes ho) (fun h => by have := hS2 _ h; omega) (fun g hg => (hS2 g hg).2) (HE.out.kept g1 (by simp)) (by omega))
  have HG1 := Lib.hid g1
  have HR0 := Lib.hid r0
  clear ho hb1 g1 r0 r1 HB hS2
  go_wp2_with fail
  refine HR.out.mono ?_
  rintro e w2 ⟨rfl, g2, hB2⟩
  have s1 : w.heap.size ≤ w1.heap.size := HG1.out.size
  have r0 : w2.heap[w.heap.size]? = some (.cells #[.slice none 0 0, .int .i32 0] 37 (0, 0)) := by
    rw [g2.block w.heap.size ((Array.getElem?_eq_some_iff.1 HR0.out).1) (by simp)]
    exact HR0.out
  have HG2 := Lib.hid (grown_sub HG1.out g2 (by omega))
  have n0 : w2.cell? ⟨w.heap.size, 0, none⟩ = some (.slice none 0 0) := by rw [cell_of_row w2 _ _ _ _ _ r0]; rfl
  have n1 : w2.cell? ⟨w.heap.size, 1, none⟩ = some (.int .i32 0) := by rw [cell_of_row w2 _ _ _ _ _ r0]; rfl
  have f0 : w2.frozen? ⟨w.heap.size, 0, none⟩ = false := by simp [World.frozen?, r0]
  have f1 : w2.frozen? ⟨w.heap.size, 1, none⟩ = false := by simp [World.frozen?, r0]
  have m0 : w2.cell? ⟨w.heap.size + 1, 0, none⟩ = some (.slice none 0 0) := by rw [cell_of_row w2 _ _ _ _ _ hB2]; rfl
  have m1 : w2.cell? ⟨w.heap.size + 1, 1, none⟩ = some (.int .i32 0) := by rw [cell_of_row w2 _ _ _ _ _ hB2]; rfl
  have h12 : w.heap.size + 1 < w2.heap.size := (Array.getElem?_eq_some_iff.1 hB2).1
  have h10 : w.heap.size < w2.heap.size := by omega
  have RR0 := Lib.hid r0
  clear r0 g2 hB2 HR HR0
  go_wp2_with fail
  refine wp_loop_rounds 1 ?_
  rw [rounds_succ]
  go_wp2
  have hx := (grown_alloc ((w2.setCell ⟨w.heap.size, 0, none⟩ (.slice none 0 0)).setCell ⟨w.heap.size, 1, none⟩ (.int .i32 0)) (.cells #[.slice none 0 0, .int .i32 0] 37) none).block w.heap.size (Nat.lt_of_lt_of_le h10 (grown_setCell (grown_setCell (grownBy_refl w2 (some w.heap.size)) 0 _) 1 _).size) (by simp)
  rw [heap_setCell_row (heap_setCell_row RR0.out)] at hx
  have x0 := cell_of_row _ w.heap.size 0 _ _ _ hx
  have x1 := cell_of_row _ w.heap.size 1 _ _ _ hx
  simp at x0 x1
  refine bodyPost_ret (v := .tuple #[.agg #[.slice none 0 0, .int .i32 0], .bool true]) (by simp [results, Tryd.results10, go_sem, x0, x1]) rfl ?_
  refine ⟨rfl, grown_below ?_⟩
  exact grownBy_trans (grown_new (grown_new HG2.out _ _ _ (Nat.le_refl _)) _ _ _ (Nat.le_refl _)) (grown_alloc _ _ none)
end Go.Proofs.YthdfhnnoamlacaaDoor.Rec

namespace Go.Proofs.YthdfhnnoamlacaaDoor.Rec
open Go.Proofs.YthdfhnnoamlacaaDoor
open Go.RowKit (Below wrap64 wrap32)
open Go.Proofs.YthdfhnnoamlacaaDoorW Go.Proofs.YthdfhnnoamlacaaDoorW.PrintWords Go.Proofs.YthdfhnnoamlacaaDoorW.PrintMore Go.Proofs.YthdfhnnoamlacaaDoor.PFnAnyHeader
open Kz

theorem nilC (w : World) : Kd.C (Kd.int .u8) w none ([] : List Int).length [] := ⟨rfl, by decide, fun h => absurd h (by decide)⟩
theorem OldBytes0 (w : World) : Calls Tryd.prog 29 #[.int .i64 0, .agg #[.int .i64 0, .int .i32 0, .int .i32 0, .int .i8 0, .int .i8 0, .int .i64 0, .bool false, .slice none 0 0, .bool false, .slice none 0 0]] w fun e w' => ∃ v, e = .returned v ∧ OwnB w' w.heap.size v (zz 26) ∧ Below w.heap.size w w' := by
  refine (spec_OldBytes.calls 20 0 0 0 0 0 0 0 false none 0 [] false none 0 [] (ns (zz 26)) w (nilC w) (Nat.le_refl _) (nilC w) (Nat.le_refl _) (by kernel_rfl)).mono ?_
  rintro e w' ⟨v, rfl, hr, hb⟩
  exact ⟨v, rfl, own_of_r hr rfl, hb⟩
theorem OldBytes1 (w : World) : Calls Tryd.prog 29 #[.int .i64 1, .agg #[.int .i64 0, .int .i32 0, .int .i32 0, .int .i8 0, .int .i8 0, .int .i64 0, .bool false, .slice none 0 0, .bool false, .slice none 0 0]] w fun e w' => ∃ v, e = .returned v ∧ OwnB w' w.heap.size v (zz 34) ∧ Below w.heap.size w w' := by
  refine (spec_OldBytes.calls 20 1 0 0 0 0 0 0 false none 0 [] false none 0 [] (ns (zz 34)) w (nilC w) (Nat.le_refl _) (nilC w) (Nat.le_refl _) (by kernel_rfl)).mono ?_
  rintro e w' ⟨v, rfl, hr, hb⟩
  exact ⟨v, rfl, own_of_r hr rfl, hb⟩
def bat : List UInt8 := [0, 0, 0, 0, 0, 0, 0, 0, 0, 0, 0, 49, 0, 0, 0, 0, 0, 0, 0, 0, 0, 0, 0, 0, 0, 0, 0, 0, 0, 0, 0, 0, 0, 0, 0, 0, 0, 0, 0, 0, 0, 0, 0, 0, 0, 0, 0, 0, 0, 0, 0, 0, 0, 0, 0, 0, 0, 0, 0, 0, 0]
theorem Whole0 (w : World) : Calls Tryd.prog 36 #[.agg #[.int .i64 0, .int .i32 0, .int .i32 0, .int .i8 0, .int .i32 0, .int .i16 0, .int .i32 0, .int .i64 0, .int .i64 0, .int .i64 0, .int .i16 0, .int .i32 0, .int .i32 0, .slice none 0 0]] w fun e w' =>
    ∃ ad c, e = .returned (.agg #[.int .i64 0, .int .i32 49, .int .i32 0, .int .i8 0, .int .i32 0, .int .i16 0, .int .i32 0, .int .i64 0, .int .i64 0, .int .i64 0, .int .i16 0, .int .i32 0, .int .i32 0, .slice ad 0 c]) ∧ Below w.heap.size w w' := by
  refine (spec_Whole.calls 0 0 0 0 0 0 0 0 0 0 0 0 0 (fun _ => True) (.slice none 0 0) [] 0 49 0 0 0 0 0 0 0 0 0 0 0 [] w w (Below.refl _ _) (Kd.R_nil _ _ _ _ _) (by kernel_rfl)).mono ?_
  rintro e w' ⟨v, rfl, hr, hb, -⟩
  obtain ⟨ad, c, rfl⟩ := bytes_len (own_bytes (own_of_r (bs := []) hr rfl))
  exact ⟨ad, c, rfl, hb⟩
theorem BatchBytes0 (w : World) (ad : Option Addr) (c : Nat) : Calls Tryd.prog 35 #[.agg #[.int .i64 0, .int .i32 49, .int .i32 0, .int .i8 0, .int .i32 0, .int .i16 0, .int .i32 0, .int .i64 0, .int .i64 0, .int .i64 0, .int .i16 0, .int .i32 0, .int .i32 0, .slice ad 0 c]] w fun e w' => ∃ v, e = .returned v ∧ OwnB w' w.heap.size v bat ∧ Below w.heap.size w w' := by
  refine (spec_BatchBytes.calls 20 0 49 0 0 0 0 0 0 0 0 0 0 0 ad c [] (ns bat) w ⟨rfl, by decide, fun h => absurd h (by decide)⟩ (Nat.zero_le _) (by kernel_rfl)).mono ?_
  rintro e w' ⟨v, rfl, hr, hb⟩
  exact ⟨v, rfl, own_of_r hr rfl, hb⟩
set_option maxRecDepth 8000 in
set_option maxHeartbeats 8000000 in
theorem awake : Awake := by
  intro w he
  have HE := Lib.hid he
  have HB0 := Lib.hid (Below.refl w.heap.size w)
  have hp : (pHead [0, 0]).2.isSome = true := by kernel_rfl
  clear he
  obtain ⟨w0, hw0⟩ : ∃ w0, w0 = w := ⟨_, rfl⟩
  rw [← hw0] at HE HB0 ⊢
  clear hw0 w
  have S0 : w0.heap.size ≤ w0.heap.size := Nat.le_refl _
  go_enter Tryd.func16, Tryd.ntmps16
  go_wp2_with fail
  refine (HeaderBytes0 w0).mono ?_
  rintro e w1 ⟨v, rfl, ho, hb⟩
  have HB1 := Lib.hid (HB0.out.trans (hb.lower (m := w0.heap.size) HB0.out.size))
  have S1 : w0.heap.size ≤ w1.heap.size := HB1.out.size
  obtain ⟨ad1, c1, rfl⟩ := bytes_len (own_bytes ho)
  have O1 := Lib.hid (own_bytes ho)
  clear ho hb
  have O := O1
  go_wp2_with fail
  refine (TellHeader_form w1 _ _ [0, 0] O1.out (by decide) (HE.out.kept (below_grown HB1.out none) (by simp))).mono ?_
  rintro e w2 ⟨k, d, b, u, rfl, hu, -, -, hb⟩
  have HB2 := Lib.hid (HB1.out.trans (hb.lower (m := w0.heap.size) HB1.out.size))
  have S2 : w0.heap.size ≤ w2.heap.size := HB2.out.size
  obtain ⟨au, cu, rfl⟩ : ∃ a c, u = .slice a d.length c := bytes_len hu
  rw [hp]
  clear hu hb
  go_wp2_with fail
  refine (StickyBytes0 _).mono ?_
  rintro e w3 ⟨v, rfl, ho, hb⟩
  have HB3 := Lib.hid ((HB2.out.alloc S2 _).trans (hb.lower (m := w0.heap.size) (HB2.out.alloc S2 _).size))
  have S3 : w0.heap.size ≤ w3.heap.size := HB3.out.size
  obtain ⟨ad3, c3, rfl⟩ := bytes_len (own_bytes ho)
  have O3 := Lib.hid (own_bytes ho)
  clear ho hb
  go_wp2_with fail
  refine (tellsticky0 w3 _ _ _ O3.out (HE.out.kept (below_grown HB3.out none) (by simp))).mono ?_
  rintro e w4 ⟨rfl, hb⟩
  have HB4 := Lib.hid (HB3.out.trans (hb.lower (m := w0.heap.size) HB3.out.size))
  have S4 : w0.heap.size ≤ w4.heap.size := HB4.out.size
  clear hb
  go_wp2_with fail
  refine (OldBytes0 _).mono ?_
  rintro e w5 ⟨v, rfl, ho, hb⟩
  have HB5 := Lib.hid ((HB4.out.alloc S4 _).trans (hb.lower (m := w0.heap.size) (HB4.out.alloc S4 _).size))
  have S5 : w0.heap.size ≤ w5.heap.size := HB5.out.size
  obtain ⟨ad5, c5, rfl⟩ := bytes_len (own_bytes ho)
  have O5 := Lib.hid (own_bytes ho)
  clear ho hb
  go_wp2_with fail
  refine (tellv0 w5 _ _ _ O5.out (HE.out.kept (below_grown HB5.out none) (by simp))).mono ?_
  rintro e w6 ⟨b5, e5, k5, b6, e6, k6, rfl, hb⟩
  have HB6 := Lib.hid (HB5.out.trans (hb.lower (m := w0.heap.size) HB5.out.size))
  have S6 : w0.heap.size ≤ w6.heap.size := HB6.out.size
  clear hb
  go_wp2_with fail
  refine (OldBytes1 _).mono ?_
  rintro e w7 ⟨v, rfl, ho, hb⟩
  have HB7 := Lib.hid ((HB6.out.alloc S6 _).trans (hb.lower (m := w0.heap.size) (HB6.out.alloc S6 _).size))
  have S7 : w0.heap.size ≤ w7.heap.size := HB7.out.size
  obtain ⟨ad7, c7, rfl⟩ := bytes_len (own_bytes ho)
  have O7 := Lib.hid (own_bytes ho)
  clear ho hb
  go_wp2_with fail
  refine (tellv1 w7 _ _ _ O7.out (HE.out.kept (below_grown HB7.out none) (by simp))).mono ?_
  rintro e w8 ⟨b5, e5, k5, b6, e6, k6, rfl, hb⟩
  have HB8 := Lib.hid (HB7.out.trans (hb.lower (m := w0.heap.size) HB7.out.size))
  have S8 : w0.heap.size ≤ w8.heap.size := HB8.out.size
  clear hb
  go_wp2_with fail
  refine (Measured0 _).mono ?_
  rintro e w9 ⟨rfl, hb⟩
  have HB9 := Lib.hid ((HB8.out.alloc S8 _).trans (hb.lower (m := w0.heap.size) (HB8.out.alloc S8 _).size))
  have S9 : w0.heap.size ≤ w9.heap.size := HB9.out.size
  clear hb
  go_wp2_with fail
  refine (RecordBytes0 _).mono ?_
  rintro e w10 ⟨v, rfl, ho, hb⟩
  have HB10 := Lib.hid (HB9.out.trans (hb.lower (m := w0.heap.size) HB9.out.size))
  have S10 : w0.heap.size ≤ w10.heap.size := HB10.out.size
  obtain ⟨ad10, c10, rfl⟩ := bytes_len (own_bytes ho)
  have O10 := Lib.hid (own_bytes ho)
  clear ho hb
  go_wp2_with fail
  refine (tellrec w10 _ _ _ O10.out (HE.out.kept (below_grown HB10.out none) (by simp))).mono ?_
  rintro e w11 ⟨b7, e7, k7, b8, e8, k8, rfl, hb⟩
  have HB11 := Lib.hid (HB10.out.trans (hb.lower (m := w0.heap.size) HB10.out.size))
  have S11 : w0.heap.size ≤ w11.heap.size := HB11.out.size
  clear hb
  go_wp2_with fail
  refine (Whole0 _).mono ?_
  rintro e w12 ⟨adw, cw, rfl, hb⟩
  have HB12 := Lib.hid ((HB11.out.alloc S11 _).trans (hb.lower (m := w0.heap.size) (HB11.out.alloc S11 _).size))
  have S12 : w0.heap.size ≤ w12.heap.size := HB12.out.size
  clear hb
  go_wp2_with fail
  refine (BatchBytes0 _ adw cw).mono ?_
  rintro e w13 ⟨v, rfl, ho, hb⟩
  have HB13 := Lib.hid (HB12.out.trans (hb.lower (m := w0.heap.size) HB12.out.size))
  have S13 : w0.heap.size ≤ w13.heap.size := HB13.out.size
  obtain ⟨ad13, c13, rfl⟩ := bytes_len (own_bytes ho)
  have O13 := Lib.hid (own_bytes ho)
  clear ho hb
  go_wp2_with fail
  refine (tellbatch w13 _ _ _ O13.out (HE.out.kept (below_grown HB13.out none) (by simp))).mono ?_
  rintro e w14 ⟨e9, k9, rfl, hb⟩
  have HB14 := Lib.hid (HB13.out.trans (hb.lower (m := w0.heap.size) HB13.out.size))
  have S14 : w0.heap.size ≤ w14.heap.size := HB14.out.size
  clear hb
  go_wp2
  go_ret
  exact ⟨rfl, (HB14.out.alloc S14 _)⟩
end Go.Proofs.YthdfhnnoamlacaaDoor.Rec
