/-
  Records: the thin package tells a record of nothing. Conditions: none.
-/
import Derived.Test.YthdfhnnoamlacaaDoorQn
import Derived.Deep.DeepCutAuto
namespace Go.Proofs.YthdfhnnoamlacaaDoor.Rec
open Go.Proofs.YthdfhnnoamlacaaDoor
open Go.RowKit (Below wrap64 wrap32)
open Kz

/-- Between what has been read and what is told. -/
def RecMid (w : World) (a5 : Option Addr) (c5 : Nat) (a6 : Option Addr) (c6 : Nat) (s5 : Value) (wx : World) : Prop :=
  ∃ (nb : Nat) (b5 : Bool) (e5 : Option Addr) (k5 : Nat) (b6 : Bool) (e6 : Option Addr) (k6 : Nat), s5 = .pointer (some ⟨nb, 0, none⟩) ∧ w.heap.size + 2 ≤ nb ∧ w.grownBy wx none ∧
    wx.heap[nb]? = some (.cells #[.int .i32 6, .int .i8 0, .int .i64 0, .int .i32 0, .bool b5, .slice e5 0 k5, .bool b6, .slice e6 0 k6, .slice none 0 0] 80 (0, 0)) ∧ wx.heap[w.heap.size]? = some (.cells #[.int .i32 0, .int .i8 0, .int .i64 0, .int .i32 0, .bool false, .slice none 0 0, .bool false, .slice none 0 0, .slice none 0 0] 80 (0, 0)) ∧ wx.heap[w.heap.size + 1]? = some (.cells #[.int .i32 6, .int .i8 0, .int .i32 0, .int .i64 0, .int .i32 0, .slice a5 0 c5, .slice a6 0 c6, .slice none 0 0] 110 (0, 0))
theorem nine_row {w : World} {nb : Nat} {x0 x1 x2 x3 x4 x5 x6 x7 x8 : Value} (h : w.heap[nb]? = some (.cells #[.int .i32 0, .int .i8 0, .int .i64 0, .int .i32 0, .bool false, .slice none 0 0, .bool false, .slice none 0 0, .slice none 0 0] 80 (0, 0))) :
    (((((((((w.setCell ⟨nb, 0, none⟩ x0).setCell ⟨nb, 1, none⟩ x1).setCell ⟨nb, 2, none⟩ x2).setCell ⟨nb, 3, none⟩ x3).setCell ⟨nb, 4, none⟩ x4).setCell ⟨nb, 5, none⟩ x5).setCell ⟨nb, 6, none⟩ x6).setCell ⟨nb, 7, none⟩ x7).setCell ⟨nb, 8, none⟩ x8).heap[nb]? = some (.cells #[x0, x1, x2, x3, x4, x5, x6, x7, x8] 80 (0, 0)) := by
  have h0 : (w.setCell ⟨nb, 0, none⟩ x0).heap[nb]? = some (.cells #[x0, .int .i8 0, .int .i64 0, .int .i32 0, .bool false, .slice none 0 0, .bool false, .slice none 0 0, .slice none 0 0] 80 (0, 0)) := heap_setCell_row h
  have h1 : ((w.setCell ⟨nb, 0, none⟩ x0).setCell ⟨nb, 1, none⟩ x1).heap[nb]? = some (.cells #[x0, x1, .int .i64 0, .int .i32 0, .bool false, .slice none 0 0, .bool false, .slice none 0 0, .slice none 0 0] 80 (0, 0)) := heap_setCell_row h0
  have h2 : (((w.setCell ⟨nb, 0, none⟩ x0).setCell ⟨nb, 1, none⟩ x1).setCell ⟨nb, 2, none⟩ x2).heap[nb]? = some (.cells #[x0, x1, x2, .int .i32 0, .bool false, .slice none 0 0, .bool false, .slice none 0 0, .slice none 0 0] 80 (0, 0)) := heap_setCell_row h1
  have h3 : ((((w.setCell ⟨nb, 0, none⟩ x0).setCell ⟨nb, 1, none⟩ x1).setCell ⟨nb, 2, none⟩ x2).setCell ⟨nb, 3, none⟩ x3).heap[nb]? = some (.cells #[x0, x1, x2, x3, .bool false, .slice none 0 0, .bool false, .slice none 0 0, .slice none 0 0] 80 (0, 0)) := heap_setCell_row h2
  have h4 : (((((w.setCell ⟨nb, 0, none⟩ x0).setCell ⟨nb, 1, none⟩ x1).setCell ⟨nb, 2, none⟩ x2).setCell ⟨nb, 3, none⟩ x3).setCell ⟨nb, 4, none⟩ x4).heap[nb]? = some (.cells #[x0, x1, x2, x3, x4, .slice none 0 0, .bool false, .slice none 0 0, .slice none 0 0] 80 (0, 0)) := heap_setCell_row h3
  have h5 : ((((((w.setCell ⟨nb, 0, none⟩ x0).setCell ⟨nb, 1, none⟩ x1).setCell ⟨nb, 2, none⟩ x2).setCell ⟨nb, 3, none⟩ x3).setCell ⟨nb, 4, none⟩ x4).setCell ⟨nb, 5, none⟩ x5).heap[nb]? = some (.cells #[x0, x1, x2, x3, x4, x5, .bool false, .slice none 0 0, .slice none 0 0] 80 (0, 0)) := heap_setCell_row h4
  have h6 : (((((((w.setCell ⟨nb, 0, none⟩ x0).setCell ⟨nb, 1, none⟩ x1).setCell ⟨nb, 2, none⟩ x2).setCell ⟨nb, 3, none⟩ x3).setCell ⟨nb, 4, none⟩ x4).setCell ⟨nb, 5, none⟩ x5).setCell ⟨nb, 6, none⟩ x6).heap[nb]? = some (.cells #[x0, x1, x2, x3, x4, x5, x6, .slice none 0 0, .slice none 0 0] 80 (0, 0)) := heap_setCell_row h5
  have h7 : ((((((((w.setCell ⟨nb, 0, none⟩ x0).setCell ⟨nb, 1, none⟩ x1).setCell ⟨nb, 2, none⟩ x2).setCell ⟨nb, 3, none⟩ x3).setCell ⟨nb, 4, none⟩ x4).setCell ⟨nb, 5, none⟩ x5).setCell ⟨nb, 6, none⟩ x6).setCell ⟨nb, 7, none⟩ x7).heap[nb]? = some (.cells #[x0, x1, x2, x3, x4, x5, x6, x7, .slice none 0 0] 80 (0, 0)) := heap_setCell_row h6
  have h8 : (((((((((w.setCell ⟨nb, 0, none⟩ x0).setCell ⟨nb, 1, none⟩ x1).setCell ⟨nb, 2, none⟩ x2).setCell ⟨nb, 3, none⟩ x3).setCell ⟨nb, 4, none⟩ x4).setCell ⟨nb, 5, none⟩ x5).setCell ⟨nb, 6, none⟩ x6).setCell ⟨nb, 7, none⟩ x7).setCell ⟨nb, 8, none⟩ x8).heap[nb]? = some (.cells #[x0, x1, x2, x3, x4, x5, x6, x7, x8] 80 (0, 0)) := heap_setCell_row h7
  exact h8
theorem nine_grown {w : World} {nb : Nat} {x0 x1 x2 x3 x4 x5 x6 x7 x8 : Value} : w.grownBy (((((((((w.setCell ⟨nb, 0, none⟩ x0).setCell ⟨nb, 1, none⟩ x1).setCell ⟨nb, 2, none⟩ x2).setCell ⟨nb, 3, none⟩ x3).setCell ⟨nb, 4, none⟩ x4).setCell ⟨nb, 5, none⟩ x5).setCell ⟨nb, 6, none⟩ x6).setCell ⟨nb, 7, none⟩ x7).setCell ⟨nb, 8, none⟩ x8) (some nb) := by
  repeat refine grown_setCell ?_ _ _
  exact grownBy_refl _ _
/-- The ways meet: what is known of w4 is known behind the last store. -/
theorem mid_old {w w4 : World} {nb : Nat} {a5 : Option Addr} {c5 : Nat} {a6 : Option Addr} {c6 : Nat} {b5 : Bool} {e5 : Option Addr} {k5 : Nat} {b6 : Bool} {e6 : Option Addr} {k6 : Nat} (hn : w.heap.size + 2 ≤ nb) (hg : w.grownBy w4 none) (h : w4.heap[nb]? = some (.cells #[.int .i32 0, .int .i8 0, .int .i64 0, .int .i32 0, .bool false, .slice none 0 0, .bool false, .slice none 0 0, .slice none 0 0] 80 (0, 0)))
    (h0 : w4.heap[w.heap.size]? = some (.cells #[.int .i32 0, .int .i8 0, .int .i64 0, .int .i32 0, .bool false, .slice none 0 0, .bool false, .slice none 0 0, .slice none 0 0] 80 (0, 0))) (h1 : w4.heap[w.heap.size + 1]? = some (.cells #[.int .i32 6, .int .i8 0, .int .i32 0, .int .i64 0, .int .i32 0, .slice a5 0 c5, .slice a6 0 c6, .slice none 0 0] 110 (0, 0))) :
    RecMid w a5 c5 a6 c6 (.pointer (some ⟨nb, 0, none⟩)) (((((((((w4.setCell ⟨nb, 0, none⟩ (.int .i32 6)).setCell ⟨nb, 1, none⟩ (.int .i8 0)).setCell ⟨nb, 2, none⟩ (.int .i64 0)).setCell ⟨nb, 3, none⟩ (.int .i32 0)).setCell ⟨nb, 4, none⟩ (.bool b5)).setCell ⟨nb, 5, none⟩ (.slice e5 0 k5)).setCell ⟨nb, 6, none⟩ (.bool b6)).setCell ⟨nb, 7, none⟩ (.slice e6 0 k6)).setCell ⟨nb, 8, none⟩ (.slice none 0 0)) :=
  ⟨nb, b5, e5, k5, b6, e6, k6, rfl, hn, grown_sub hg nine_grown (by omega), nine_row h, by rw [nine_grown.block _ (Array.getElem?_eq_some_iff.1 h0).1 (fun e => by have := Option.some.inj e; omega)]; exact h0,
    by rw [nine_grown.block _ (Array.getElem?_eq_some_iff.1 h1).1 (fun e => by have := Option.some.inj e; omega)]; exact h1⟩
theorem mid_new {w w4 : World} {a5 : Option Addr} {c5 : Nat} {a6 : Option Addr} {c6 : Nat} {b5 : Bool} {e5 : Option Addr} {k5 : Nat} {b6 : Bool} {e6 : Option Addr} {k6 : Nat} (hn : w.heap.size + 2 ≤ w4.heap.size) (hg : w.grownBy w4 none)
    (h0 : w4.heap[w.heap.size]? = some (.cells #[.int .i32 0, .int .i8 0, .int .i64 0, .int .i32 0, .bool false, .slice none 0 0, .bool false, .slice none 0 0, .slice none 0 0] 80 (0, 0))) (h1 : w4.heap[w.heap.size + 1]? = some (.cells #[.int .i32 6, .int .i8 0, .int .i32 0, .int .i64 0, .int .i32 0, .slice a5 0 c5, .slice a6 0 c6, .slice none 0 0] 110 (0, 0))) :
    RecMid w a5 c5 a6 c6 (.pointer (some ⟨w4.heap.size, 0, none⟩)) (w4.alloc (.cells #[.int .i32 6, .int .i8 0, .int .i64 0, .int .i32 0, .bool b5, .slice e5 0 k5, .bool b6, .slice e6 0 k6, .slice none 0 0] 80)) :=
  ⟨w4.heap.size, b5, e5, k5, b6, e6, k6, rfl, hn, grownBy_trans hg (grown_alloc _ _ none), Array.getElem?_push_size, by rw [(grown_alloc w4 _ none).block _ (Array.getElem?_eq_some_iff.1 h0).1 (by simp)]; exact h0,
    by rw [(grown_alloc w4 _ none).block _ (Array.getElem?_eq_some_iff.1 h1).1 (by simp)]; exact h1⟩
set_option maxRecDepth 8000 in
set_option maxHeartbeats 2000000 in
theorem tellrec (w : World) (S : Nat → Prop) (p : Option Addr) (c : Nat) (h : BytesAt w S (.slice p 7 c) ([12, 0, 0, 0, 0, 0, 0])) (he : ErrOk w) :
    Calls Tryd.prog 31 #[.slice p 7 c] w fun e w' => ∃ (b5 : Bool) (e5 : Option Addr) (k5 : Nat) (b6 : Bool) (e6 : Option Addr) (k6 : Nat), e = .returned (.tuple #[.agg #[.int .i32 6, .int .i8 0, .int .i64 0, .int .i32 0, .bool b5, .slice e5 0 k5, .bool b6, .slice e6 0 k6, .slice none 0 0], .bool true]) ∧ Below w.heap.size w w' := by
  have HB := Lib.hid h
  have HE := Lib.hid he
  clear h he
  go_enter Tryd.func31, Tryd.ntmps31
  go_wp2_with fail
  refine (own_any _ S _ ([12, 0, 0, 0, 0, 0, 0]) (HB.out.kept (grownBy_trans (grown_alloc _ _ none) (grown_alloc _ _ none)) (by simp)) (by decide)).mono ?_
  rintro e w1 ⟨v1, rfl, ho, hb1⟩
  rw [size_alloc, size_alloc] at ho
  obtain ⟨g1, r0, r1⟩ : w.grownBy w1 none ∧ w1.heap[w.heap.size]? = some (.cells #[.int .i32 0, .int .i8 0, .int .i64 0, .int .i32 0, .bool false, .slice none 0 0, .bool false, .slice none 0 0, .slice none 0 0] 80 (0, 0)) ∧ w1.heap[w.heap.size + 1]? = some (.cells #[.int .i32 0, .int .i8 0, .int .i32 0, .int .i64 0, .int .i32 0, .slice none 0 0, .slice none 0 0, .slice none 0 0] 110 (0, 0)) := by
    refine ⟨grownBy_trans (grownBy_trans (grown_alloc _ _ none) (grown_alloc _ _ none)) (below_grown hb1 none), ?_, ?_⟩
    · rw [hb1.block w.heap.size (by rw [size_alloc, size_alloc]; omega), (grown_alloc _ _ none).block w.heap.size (by rw [size_alloc]; omega) (by simp)]
      show (w.heap.push _)[w.heap.size]? = _
      exact Array.getElem?_push_size
    · rw [hb1.block (w.heap.size + 1) (by rw [size_alloc, size_alloc]; omega)]
      have := Array.getElem?_push_size (xs := (w.alloc (.cells #[.int .i32 0, .int .i8 0, .int .i64 0, .int .i32 0, .bool false, .slice none 0 0, .bool false, .slice none 0 0, .slice none 0 0] 80)).heap) (x := Obj.cells #[.int .i32 0, .int .i8 0, .int .i32 0, .int .i64 0, .int .i32 0, .slice none 0 0, .slice none 0 0, .slice none 0 0] 110 (0, 0))
      rw [size_alloc] at this
      exact this
  obtain ⟨ad1, c1, rfl⟩ := bytes_len (own_bytes ho)
  have hS2 : ∀ g, (Value.slice ad1 ([12, 0, 0, 0, 0, 0, 0] : List UInt8).length c1).ownBlock = some g → w.heap.size + 2 ≤ g ∧ g < w1.heap.size := fun g hg => World.ownsRow.lt ho g hg
  have HR := Lib.hid (recReadFrom w1 _ (w.heap.size + 1) ad1 c1 r1 (own_bytes ho) (fun h => by have := hS2 _ h; omega) (fun g hg => (hS2 g hg).2) (HE.out.kept g1 (by simp)) (by omega))
  have HG1 := Lib.hid g1
  have HR0 := Lib.hid r0
  clear ho hb1 g1 r0 r1 HB hS2
  go_wp2_with fail
  refine HR.out.mono ?_
  rintro e w2 ⟨v5, v6, rfl, g2, hB2, hv5, hv6⟩
  obtain ⟨a5, c5, rfl⟩ := bytes_len hv5
  obtain ⟨a6, c6, rfl⟩ := bytes_len hv6
  have HV6 := Lib.hid hv6
  have s1 : w.heap.size ≤ w1.heap.size := HG1.out.size
  have r0 : w2.heap[w.heap.size]? = some (.cells #[.int .i32 0, .int .i8 0, .int .i64 0, .int .i32 0, .bool false, .slice none 0 0, .bool false, .slice none 0 0, .slice none 0 0] 80 (0, 0)) := by
    rw [g2.block w.heap.size ((Array.getElem?_eq_some_iff.1 HR0.out).1) (by simp)]
    exact HR0.out
  have HG2 := Lib.hid (grown_sub HG1.out g2 (by omega))
  have y1 : ∀ j, w2.cell? ⟨w.heap.size + 1, j, none⟩ = (#[.int .i32 6, .int .i8 0, .int .i32 0, .int .i64 0, .int .i32 0, .slice a5 0 c5, .slice a6 0 c6, .slice none 0 0] : Array Value)[j]? := fun j => by rw [cell_of_row w2 _ _ _ _ _ hB2]; rfl
  have y0 : ∀ j, w2.drew.cell? ⟨w.heap.size + 1, j, none⟩ = (#[.int .i32 6, .int .i8 0, .int .i32 0, .int .i64 0, .int .i32 0, .slice a5 0 c5, .slice a6 0 c6, .slice none 0 0] : Array Value)[j]? := y1
  have s2 := HG2.out.size
  have h12 : w.heap.size + 1 < w2.heap.size := (Array.getElem?_eq_some_iff.1 hB2).1
  have yA : ∀ j, ((w2.alloc (.cells #[.int .i32 0, .int .i8 0, .int .i64 0, .int .i32 0, .bool false, .slice none 0 0, .bool false, .slice none 0 0, .slice none 0 0] 80)).drew).cell? ⟨w.heap.size + 1, j, none⟩ = (#[.int .i32 6, .int .i8 0, .int .i32 0, .int .i64 0, .int .i32 0, .slice a5 0 c5, .slice a6 0 c6, .slice none 0 0] : Array Value)[j]? := alloc_keep h12 y1
  have hq : BytesAt w2.drew _ (.slice a5 0 c5) [] := hv5
  have HQ5 := Lib.hid hq
  have hqA : BytesAt ((w2.alloc (.cells #[.int .i32 0, .int .i8 0, .int .i64 0, .int .i32 0, .bool false, .slice none 0 0, .bool false, .slice none 0 0, .slice none 0 0] 80)).drew) _ (.slice a5 0 c5) [] := nil_grow hv5 (grown_alloc _ _ none).size
  have HQA := Lib.hid hqA
  have HR0 := Lib.hid r0
  have HR1 := Lib.hid hB2
  have HRA := Lib.hid (show (w2.alloc (.cells #[.int .i32 0, .int .i8 0, .int .i64 0, .int .i32 0, .bool false, .slice none 0 0, .bool false, .slice none 0 0, .slice none 0 0] 80)).heap[w2.heap.size]? = some (.cells #[.int .i32 0, .int .i8 0, .int .i64 0, .int .i32 0, .bool false, .slice none 0 0, .bool false, .slice none 0 0, .slice none 0 0] 80 (0, 0)) from Array.getElem?_push_size)
  clear r0 g2 hB2 hv5 hv6 HR hq hqA
  go_wp2
  go_cut [5] from 10 to 28 (fun s5 wx => RecMid w a5 c5 a6 c6 s5 wx)
  case first =>
    have hne : w.heap.size + 1 ≠ w2.heap.size := by omega
    go_region_held3 (fun w' => ∀ j, w'.cell? ⟨w.heap.size + 1, j, none⟩ = (#[.int .i32 6, .int .i8 0, .int .i32 0, .int .i64 0, .int .i32 0, .slice a5 0 c5, .slice a6 0 c6, .slice none 0 0] : Array Value)[j]?) (first | with_reducible assumption | with_reducible exact alloc_keep l3 y3 | with_reducible exact alloc_keep l4 y4 | ((repeat (with_reducible refine set_keep hnb ?_)); with_reducible assumption)) (first
      | (go_at_call 15; (with_reducible refine (octs_nil w2.drew _ (.slice a5 0 c5) HQ5.out).mono ?_); rintro e w3 ⟨b5, e5, k5, rfl, hb3'⟩;
         have hb3 : Below w2.heap.size w2 w3 := below_undrew hb3';
         have t3 : w2.heap.size ≤ w3.heap.size := hb3.size;
         have l3 : w.heap.size + 1 < w3.heap.size := by omega;
         have y3 := fun j => ((bcell hb3).1 (w.heap.size + 1) j h12).trans (y1 j);
         have way1 : True := trivial;
         have HB3 := Lib.hid hb3; clear hb3' hb3)
      | (go_at_call 15; (with_reducible refine (octs_nil ((w2.alloc (.cells #[.int .i32 0, .int .i8 0, .int .i64 0, .int .i32 0, .bool false, .slice none 0 0, .bool false, .slice none 0 0, .slice none 0 0] 80)).drew) _ (.slice a5 0 c5) HQA.out).mono ?_); rintro e w3 ⟨b5, e5, k5, rfl, hb3'⟩;
         have hb3a : Below (w2.alloc (.cells #[.int .i32 0, .int .i8 0, .int .i64 0, .int .i32 0, .bool false, .slice none 0 0, .bool false, .slice none 0 0, .slice none 0 0] 80)).heap.size (w2.alloc (.cells #[.int .i32 0, .int .i8 0, .int .i64 0, .int .i32 0, .bool false, .slice none 0 0, .bool false, .slice none 0 0, .slice none 0 0] 80)) w3 := below_undrew hb3';
         have hb3 : Below w2.heap.size w2 w3 := grown_below (grownBy_trans (grown_alloc w2 (.cells #[.int .i32 0, .int .i8 0, .int .i64 0, .int .i32 0, .bool false, .slice none 0 0, .bool false, .slice none 0 0, .slice none 0 0] 80) none) (below_grown hb3a none));
         have t3 : w2.heap.size ≤ w3.heap.size := hb3.size;
         have l3 : w.heap.size + 1 < w3.heap.size := by omega;
         have y3 := fun j => ((bcell hb3).1 (w.heap.size + 1) j h12).trans (y1 j);
         have HN3 := Lib.hid ((hb3a.block w2.heap.size (by rw [size_alloc]; omega)).trans HRA.out);
         have HB3 := Lib.hid hb3; clear hb3' hb3 hb3a)
      | (have _t := HN3; go_at_call 15; (with_reducible refine (octs_nil w3 _ (.slice a6 0 c6) (nil_grow HV6.out t3)).mono ?_); rintro e w4 ⟨b6, e6, k6, rfl, hb4'⟩;
         have hb4 : Below w2.heap.size w2 w4 := HB3.out.trans (hb4'.lower (m := w2.heap.size) t3);
         have l4 : w.heap.size + 1 < w4.heap.size := by have := hb4.size; omega;
         have y4 := fun j => ((bcell hb4).1 (w.heap.size + 1) j h12).trans (y1 j);
         have n4 := (hb4'.block w2.heap.size (Array.getElem?_eq_some_iff.1 HN3.out).1).trans HN3.out;
         have hnb := hne;
         have p0 : w4.cell? ⟨w2.heap.size, 0, none⟩ = some (.int .i32 0) := (by rw [cell_of_row w4 _ _ _ _ _ n4]; rfl); have q0 : w4.frozen? ⟨w2.heap.size, 0, none⟩ = false := (by simp [World.frozen?, n4]);
         have p1 : w4.cell? ⟨w2.heap.size, 1, none⟩ = some (.int .i8 0) := (by rw [cell_of_row w4 _ _ _ _ _ n4]; rfl); have q1 : w4.frozen? ⟨w2.heap.size, 1, none⟩ = false := (by simp [World.frozen?, n4]);
         have p2 : w4.cell? ⟨w2.heap.size, 2, none⟩ = some (.int .i64 0) := (by rw [cell_of_row w4 _ _ _ _ _ n4]; rfl); have q2 : w4.frozen? ⟨w2.heap.size, 2, none⟩ = false := (by simp [World.frozen?, n4]);
         have p3 : w4.cell? ⟨w2.heap.size, 3, none⟩ = some (.int .i32 0) := (by rw [cell_of_row w4 _ _ _ _ _ n4]; rfl); have q3 : w4.frozen? ⟨w2.heap.size, 3, none⟩ = false := (by simp [World.frozen?, n4]);
         have p4 : w4.cell? ⟨w2.heap.size, 4, none⟩ = some (.bool false) := (by rw [cell_of_row w4 _ _ _ _ _ n4]; rfl); have q4 : w4.frozen? ⟨w2.heap.size, 4, none⟩ = false := (by simp [World.frozen?, n4]);
         have p5 : w4.cell? ⟨w2.heap.size, 5, none⟩ = some (.slice none 0 0) := (by rw [cell_of_row w4 _ _ _ _ _ n4]; rfl); have q5 : w4.frozen? ⟨w2.heap.size, 5, none⟩ = false := (by simp [World.frozen?, n4]);
         have p6 : w4.cell? ⟨w2.heap.size, 6, none⟩ = some (.bool false) := (by rw [cell_of_row w4 _ _ _ _ _ n4]; rfl); have q6 : w4.frozen? ⟨w2.heap.size, 6, none⟩ = false := (by simp [World.frozen?, n4]);
         have p7 : w4.cell? ⟨w2.heap.size, 7, none⟩ = some (.slice none 0 0) := (by rw [cell_of_row w4 _ _ _ _ _ n4]; rfl); have q7 : w4.frozen? ⟨w2.heap.size, 7, none⟩ = false := (by simp [World.frozen?, n4]);
         have p8 : w4.cell? ⟨w2.heap.size, 8, none⟩ = some (.slice none 0 0) := (by rw [cell_of_row w4 _ _ _ _ _ n4]; rfl); have q8 : w4.frozen? ⟨w2.heap.size, 8, none⟩ = false := (by simp [World.frozen?, n4]);
         have HN4 := Lib.hid n4; have HB4 := Lib.hid hb4; clear hb4' hb4 n4 HN3)
      | (have _t := way1; go_at_call 15; (with_reducible refine (octs_nil w3 _ (.slice a6 0 c6) (nil_grow HV6.out t3)).mono ?_); rintro e w4 ⟨b6, e6, k6, rfl, hb4'⟩;
         have hb4 : Below w2.heap.size w2 w4 := HB3.out.trans (hb4'.lower (m := w2.heap.size) t3);
         have l4 : w.heap.size + 1 < w4.heap.size := by have := hb4.size; omega;
         have y4 := fun j => ((bcell hb4).1 (w.heap.size + 1) j h12).trans (y1 j);
         have HB4 := Lib.hid hb4; clear hb4' hb4)
      | (go_at_call 15; (with_reducible refine (octs_nil (w3.alloc (.cells #[.int .i32 0, .int .i8 0, .int .i64 0, .int .i32 0, .bool false, .slice none 0 0, .bool false, .slice none 0 0, .slice none 0 0] 80)) _ (.slice a6 0 c6) (nil_grow HV6.out (Nat.le_trans t3 (grown_alloc w3 (.cells #[.int .i32 0, .int .i8 0, .int .i64 0, .int .i32 0, .bool false, .slice none 0 0, .bool false, .slice none 0 0, .slice none 0 0] 80) none).size))).mono ?_); rintro e w4 ⟨b6, e6, k6, rfl, hb4'⟩;
         have hb34 : Below w3.heap.size w3 w4 := grown_below (grownBy_trans (grown_alloc w3 (.cells #[.int .i32 0, .int .i8 0, .int .i64 0, .int .i32 0, .bool false, .slice none 0 0, .bool false, .slice none 0 0, .slice none 0 0] 80) none) (below_grown hb4' none));
         have hb4 : Below w2.heap.size w2 w4 := HB3.out.trans (hb34.lower (m := w2.heap.size) t3);
         have l4 : w.heap.size + 1 < w4.heap.size := by have := hb4.size; omega;
         have y4 := fun j => ((bcell hb4).1 (w.heap.size + 1) j h12).trans (y1 j);
         have n4 : w4.heap[w3.heap.size]? = some (.cells #[.int .i32 0, .int .i8 0, .int .i64 0, .int .i32 0, .bool false, .slice none 0 0, .bool false, .slice none 0 0, .slice none 0 0] 80 (0, 0)) := (hb4'.block w3.heap.size (by rw [size_alloc]; omega)).trans Array.getElem?_push_size;
         have hnb : w.heap.size + 1 ≠ w3.heap.size := by omega;
         have p0 : w4.cell? ⟨w3.heap.size, 0, none⟩ = some (.int .i32 0) := (by rw [cell_of_row w4 _ _ _ _ _ n4]; rfl); have q0 : w4.frozen? ⟨w3.heap.size, 0, none⟩ = false := (by simp [World.frozen?, n4]);
         have p1 : w4.cell? ⟨w3.heap.size, 1, none⟩ = some (.int .i8 0) := (by rw [cell_of_row w4 _ _ _ _ _ n4]; rfl); have q1 : w4.frozen? ⟨w3.heap.size, 1, none⟩ = false := (by simp [World.frozen?, n4]);
         have p2 : w4.cell? ⟨w3.heap.size, 2, none⟩ = some (.int .i64 0) := (by rw [cell_of_row w4 _ _ _ _ _ n4]; rfl); have q2 : w4.frozen? ⟨w3.heap.size, 2, none⟩ = false := (by simp [World.frozen?, n4]);
         have p3 : w4.cell? ⟨w3.heap.size, 3, none⟩ = some (.int .i32 0) := (by rw [cell_of_row w4 _ _ _ _ _ n4]; rfl); have q3 : w4.frozen? ⟨w3.heap.size, 3, none⟩ = false := (by simp [World.frozen?, n4]);
         have p4 : w4.cell? ⟨w3.heap.size, 4, none⟩ = some (.bool false) := (by rw [cell_of_row w4 _ _ _ _ _ n4]; rfl); have q4 : w4.frozen? ⟨w3.heap.size, 4, none⟩ = false := (by simp [World.frozen?, n4]);
         have p5 : w4.cell? ⟨w3.heap.size, 5, none⟩ = some (.slice none 0 0) := (by rw [cell_of_row w4 _ _ _ _ _ n4]; rfl); have q5 : w4.frozen? ⟨w3.heap.size, 5, none⟩ = false := (by simp [World.frozen?, n4]);
         have p6 : w4.cell? ⟨w3.heap.size, 6, none⟩ = some (.bool false) := (by rw [cell_of_row w4 _ _ _ _ _ n4]; rfl); have q6 : w4.frozen? ⟨w3.heap.size, 6, none⟩ = false := (by simp [World.frozen?, n4]);
         have p7 : w4.cell? ⟨w3.heap.size, 7, none⟩ = some (.slice none 0 0) := (by rw [cell_of_row w4 _ _ _ _ _ n4]; rfl); have q7 : w4.frozen? ⟨w3.heap.size, 7, none⟩ = false := (by simp [World.frozen?, n4]);
         have p8 : w4.cell? ⟨w3.heap.size, 8, none⟩ = some (.slice none 0 0) := (by rw [cell_of_row w4 _ _ _ _ _ n4]; rfl); have q8 : w4.frozen? ⟨w3.heap.size, 8, none⟩ = false := (by simp [World.frozen?, n4]);
         have HN4 := Lib.hid n4; have HB4 := Lib.hid hb4; clear hb4' hb4 hb34 n4))
    all_goals (have G4 : w.grownBy w4 none := grownBy_trans HG2.out (below_grown HB4.out none))
    all_goals (have R0 : w4.heap[w.heap.size]? = some (.cells #[.int .i32 0, .int .i8 0, .int .i64 0, .int .i32 0, .bool false, .slice none 0 0, .bool false, .slice none 0 0, .slice none 0 0] 80 (0, 0)) := (HB4.out.block w.heap.size (by omega)).trans HR0.out)
    all_goals (have R1 : w4.heap[w.heap.size + 1]? = some (.cells #[.int .i32 6, .int .i8 0, .int .i32 0, .int .i64 0, .int .i32 0, .slice a5 0 c5, .slice a6 0 c6, .slice none 0 0] 110 (0, 0)) := (HB4.out.block (w.heap.size + 1) h12).trans HR1.out)
    all_goals go_wp2_with fail
    all_goals go_meet
    · have hz : w.heap.size + 2 ≤ w4.heap.size := by omega
      with_reducible exact mid_new hz G4 R0 R1
    · have hz : w.heap.size + 2 ≤ w3.heap.size := by omega
      have z := @mid_old w w4 w3.heap.size a5 c5 a6 c6 b5 e5 k5 b6 e6 k6 hz G4 HN4.out R0 R1
      with_reducible exact z
    · have hz : w.heap.size + 2 ≤ w2.heap.size := by omega
      have z := @mid_old w w4 w2.heap.size a5 c5 a6 c6 b5 e5 k5 b6 e6 k6 hz G4 HN4.out R0 R1
      with_reducible exact z
  case rest =>
    obtain ⟨nb, b5, e5, k5, b6, e6, k6, rfl, hnb, hg, hn, h0, h1⟩ := hcut
    have hm7 : wc.cell? ⟨w.heap.size + 1, 7, none⟩ = some (.slice none 0 0) := by rw [cell_of_row wc _ _ _ _ _ h1]; rfl
    have n0 : wc.cell? ⟨nb, 0, none⟩ = some (.int .i32 6) := by rw [cell_of_row wc _ _ _ _ _ hn]; rfl
    have o0 : wc.cell? ⟨w.heap.size, 0, none⟩ = some (.int .i32 0) := by rw [cell_of_row wc _ _ _ _ _ h0]; rfl
    have f0 : wc.frozen? ⟨w.heap.size, 0, none⟩ = false := by simp [World.frozen?, h0]
    have n1 : wc.cell? ⟨nb, 1, none⟩ = some (.int .i8 0) := by rw [cell_of_row wc _ _ _ _ _ hn]; rfl
    have o1 : wc.cell? ⟨w.heap.size, 1, none⟩ = some (.int .i8 0) := by rw [cell_of_row wc _ _ _ _ _ h0]; rfl
    have f1 : wc.frozen? ⟨w.heap.size, 1, none⟩ = false := by simp [World.frozen?, h0]
    have n2 : wc.cell? ⟨nb, 2, none⟩ = some (.int .i64 0) := by rw [cell_of_row wc _ _ _ _ _ hn]; rfl
    have o2 : wc.cell? ⟨w.heap.size, 2, none⟩ = some (.int .i64 0) := by rw [cell_of_row wc _ _ _ _ _ h0]; rfl
    have f2 : wc.frozen? ⟨w.heap.size, 2, none⟩ = false := by simp [World.frozen?, h0]
    have n3 : wc.cell? ⟨nb, 3, none⟩ = some (.int .i32 0) := by rw [cell_of_row wc _ _ _ _ _ hn]; rfl
    have o3 : wc.cell? ⟨w.heap.size, 3, none⟩ = some (.int .i32 0) := by rw [cell_of_row wc _ _ _ _ _ h0]; rfl
    have f3 : wc.frozen? ⟨w.heap.size, 3, none⟩ = false := by simp [World.frozen?, h0]
    have n4 : wc.cell? ⟨nb, 4, none⟩ = some (.bool b5) := by rw [cell_of_row wc _ _ _ _ _ hn]; rfl
    have o4 : wc.cell? ⟨w.heap.size, 4, none⟩ = some (.bool false) := by rw [cell_of_row wc _ _ _ _ _ h0]; rfl
    have f4 : wc.frozen? ⟨w.heap.size, 4, none⟩ = false := by simp [World.frozen?, h0]
    have n5 : wc.cell? ⟨nb, 5, none⟩ = some (.slice e5 0 k5) := by rw [cell_of_row wc _ _ _ _ _ hn]; rfl
    have o5 : wc.cell? ⟨w.heap.size, 5, none⟩ = some (.slice none 0 0) := by rw [cell_of_row wc _ _ _ _ _ h0]; rfl
    have f5 : wc.frozen? ⟨w.heap.size, 5, none⟩ = false := by simp [World.frozen?, h0]
    have n6 : wc.cell? ⟨nb, 6, none⟩ = some (.bool b6) := by rw [cell_of_row wc _ _ _ _ _ hn]; rfl
    have o6 : wc.cell? ⟨w.heap.size, 6, none⟩ = some (.bool false) := by rw [cell_of_row wc _ _ _ _ _ h0]; rfl
    have f6 : wc.frozen? ⟨w.heap.size, 6, none⟩ = false := by simp [World.frozen?, h0]
    have n7 : wc.cell? ⟨nb, 7, none⟩ = some (.slice e6 0 k6) := by rw [cell_of_row wc _ _ _ _ _ hn]; rfl
    have o7 : wc.cell? ⟨w.heap.size, 7, none⟩ = some (.slice none 0 0) := by rw [cell_of_row wc _ _ _ _ _ h0]; rfl
    have f7 : wc.frozen? ⟨w.heap.size, 7, none⟩ = false := by simp [World.frozen?, h0]
    have n8 : wc.cell? ⟨nb, 8, none⟩ = some (.slice none 0 0) := by rw [cell_of_row wc _ _ _ _ _ hn]; rfl
    have o8 : wc.cell? ⟨w.heap.size, 8, none⟩ = some (.slice none 0 0) := by rw [cell_of_row wc _ _ _ _ _ h0]; rfl
    have f8 : wc.frozen? ⟨w.heap.size, 8, none⟩ = false := by simp [World.frozen?, h0]
    have HGC := Lib.hid hg
    clear hg hn h0 h1 y0 y1 yA HR0 HR1 HRA HQ5 HQA HV6 HG2
    go_wp2_with fail
    refine wp_loop_rounds 1 ?_
    rw [rounds_succ]
    go_wp2
    refine bodyPost_ret (v := .tuple #[.agg #[.int .i32 6, .int .i8 0, .int .i64 0, .int .i32 0, .bool b5, .slice e5 0 k5, .bool b6, .slice e6 0 k6, .slice none 0 0], .bool true]) (by simp [results, Tryd.results31, go_sem, o0, o1, o2, o3, o4, o5, o6, o7, o8]) rfl ?_
    refine ⟨_, _, _, _, _, _, rfl, grown_below ?_⟩
    repeat refine grown_new ?_ _ _ _ (Nat.le_refl _)
    exact HGC.out
end Go.Proofs.YthdfhnnoamlacaaDoor.Rec
