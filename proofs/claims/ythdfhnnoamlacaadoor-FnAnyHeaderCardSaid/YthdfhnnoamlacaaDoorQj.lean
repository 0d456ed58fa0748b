/-
  Records: the thin package tells old messages and a batch of nothing. Conditions: none.
-/
import Derived.Test.YthdfhnnoamlacaaDoorQi
namespace Go.Proofs.YthdfhnnoamlacaaDoor.Rec
open Go.Proofs.YthdfhnnoamlacaaDoor
open Go.RowKit (Below wrap64 wrap32)
open Kz

theorem set_keep {w : World} {b b' o : Nat} {x : Value} (hne : b' ≠ b) {cs : Array Value} (h : ∀ j, w.cell? ⟨b', j, none⟩ = cs[j]?) (j : Nat) : (w.setCell ⟨b, o, none⟩ x).cell? ⟨b', j, none⟩ = cs[j]? := by
  rw [World.cell?_setCell_other (h := fun e => hne (congrArg Addr.block e).symm)]
  exact h j
/-- Octets of which there are none: a slice's form. -/
theorem nil_grow {w W : World} {S : Nat → Prop} {v : Value} (h : BytesAt w S v []) (hs : w.heap.size ≤ W.heap.size) : BytesAt W S v [] := by
  rcases h with h | ⟨g, o, c, h1, h2, h3, h4, h5, -⟩
  · exact .inl h
  · exact .inr ⟨g, o, c, h1, h2, h3, h4, Nat.lt_of_lt_of_le h5 hs, fun i b hb => by simp at hb⟩
theorem octs_nil (w : World) (S : Nat → Prop) (v : Value) (h : BytesAt w S v []) : Calls Tryd.prog 15 #[v] w fun e w' => ∃ b a c, e = .returned (.agg #[.bool b, .slice a 0 c]) ∧ Below w.heap.size w w' := by
  rcases h with ⟨rfl, -⟩ | ⟨g, o, c, h1, h2, h3, h4, h5, h6⟩
  · refine (octs_any w S _ none rfl (by decide)).mono ?_
    rintro e w' ⟨u, rfl, hu, hb⟩
    obtain ⟨a, c, rfl⟩ := bytes_len hu
    exact ⟨_, a, c, rfl, hb⟩
  · refine (octs_any w S v (some []) ⟨.inr ⟨g, o, c, h1, h2, h3, h4, h5, h6⟩, fun _ => ⟨_, _, _, h1⟩⟩ (by decide)).mono ?_
    rintro e w' ⟨u, rfl, hu, hb⟩
    obtain ⟨a, c, rfl⟩ := bytes_len hu
    exact ⟨_, a, c, rfl, hb⟩
theorem own_nil (w : World) (S : Nat → Prop) (v : Value) (h : BytesAt w S v []) : Calls Tryd.prog 14 #[v] w fun e w' => ∃ a c, e = .returned (.slice a 0 c) ∧ Below w.heap.size w w' := by
  refine (own_any w S v [] h (by decide)).mono ?_
  rintro e w' ⟨u, rfl, hu, hb⟩
  obtain ⟨a, c, rfl⟩ := bytes_len (own_bytes hu)
  exact ⟨a, c, rfl, hb⟩
set_option maxRecDepth 8000 in
set_option maxHeartbeats 4000000 in
theorem tellv0 (w : World) (S : Nat → Prop) (p : Option Addr) (c : Nat) (h : BytesAt w S (.slice p 26 c) (zz 26)) (he : ErrOk w) :
    Calls Tryd.prog 28 #[.slice p 26 c] w fun e w' => ∃ (b5 : Bool) (e5 : Option Addr) (k5 : Nat) (b6 : Bool) (e6 : Option Addr) (k6 : Nat), e = .returned (.tuple #[.agg #[.int .i64 (0), .int .i32 (0), .int .i32 (0), .int .i8 (0), .int .i8 (0), .int .i64 0, .bool b5, .slice e5 0 k5, .bool b6, .slice e6 0 k6], .bool true]) ∧ Below w.heap.size w w' := by
  have HB := Lib.hid h
  have HE := Lib.hid he
  clear h he
  go_enter Tryd.func28, Tryd.ntmps28
  go_wp2_with fail
  refine (own_any _ S _ (zz 26) (HB.out.kept (grownBy_trans (grown_alloc _ _ none) (grown_alloc _ _ none)) (by simp)) (by decide)).mono ?_
  rintro e w1 ⟨v1, rfl, ho, hb1⟩
  rw [size_alloc, size_alloc] at ho
  obtain ⟨g1, r0, r1⟩ : w.grownBy w1 none ∧ w1.heap[w.heap.size]? = some (.cells #[.int .i64 0, .int .i32 0, .int .i32 0, .int .i8 0, .int .i8 0, .int .i64 0, .bool false, .slice none 0 0, .bool false, .slice none 0 0] 75 (0, 0)) ∧ w1.heap[w.heap.size + 1]? = some (.cells #[.int .i64 0, .int .i32 0, .int .i32 0, .int .i8 0, .int .i8 0, .slice none 0 0, .slice none 0 0] 105 (0, 0)) := by
    refine ⟨grownBy_trans (grownBy_trans (grown_alloc _ _ none) (grown_alloc _ _ none)) (below_grown hb1 none), ?_, ?_⟩
    · rw [hb1.block w.heap.size (by rw [size_alloc, size_alloc]; omega), (grown_alloc _ _ none).block w.heap.size (by rw [size_alloc]; omega) (by simp)]
      show (w.heap.push _)[w.heap.size]? = _
      exact Array.getElem?_push_size
    · rw [hb1.block (w.heap.size + 1) (by rw [size_alloc, size_alloc]; omega)]
      have := Array.getElem?_push_size (xs := (w.alloc (.cells #[.int .i64 0, .int .i32 0, .int .i32 0, .int .i8 0, .int .i8 0, .int .i64 0, .bool false, .slice none 0 0, .bool false, .slice none 0 0] 75)).heap) (x := Obj.cells #[.int .i64 0, .int .i32 0, .int .i32 0, .int .i8 0, .int .i8 0, .slice none 0 0, .slice none 0 0] 105 (0, 0))
      rw [size_alloc] at this
      exact this
  obtain ⟨ad1, c1, rfl⟩ := bytes_len (own_bytes ho)
  have hS2 : ∀ g, (Value.slice ad1 (zz 26).length c1).ownBlock = some g → w.heap.size + 2 ≤ g ∧ g < w1.heap.size := fun g hg => World.ownsRow.lt ho g hg
  have HR := Lib.hid (v0ReadFrom w1 _ (w.heap.size + 1) ad1 c1 r1 (own_bytes ho) (fun h => by have := hS2 _ h; omega) (fun g hg => (hS2 g hg).2) (HE.out.kept g1 (by simp)) (by omega))
  have HG1 := Lib.hid g1
  have HR0 := Lib.hid r0
  clear ho hb1 g1 r0 r1 HB hS2
  go_wp2_with fail
  refine HR.out.mono ?_
  rintro e w2 ⟨v5, v6, rfl, g2, hB2, hv5, hv6⟩
  obtain ⟨a5, c5, rfl⟩ := bytes_len hv5
  have HV5 := Lib.hid hv5
  obtain ⟨a6, c6, rfl⟩ := bytes_len hv6
  have HV6 := Lib.hid hv6
  have s1 : w.heap.size ≤ w1.heap.size := HG1.out.size
  have r0 : w2.heap[w.heap.size]? = some (.cells #[.int .i64 0, .int .i32 0, .int .i32 0, .int .i8 0, .int .i8 0, .int .i64 0, .bool false, .slice none 0 0, .bool false, .slice none 0 0] 75 (0, 0)) := by
    rw [g2.block w.heap.size ((Array.getElem?_eq_some_iff.1 HR0.out).1) (by simp)]
    exact HR0.out
  have HG2 := Lib.hid (grown_sub HG1.out g2 (by omega))
  have n10 : w2.cell? ⟨w.heap.size, 0, none⟩ = some (.int .i64 0) := by rw [cell_of_row w2 _ _ _ _ _ r0]; rfl
  have n11 : w2.cell? ⟨w.heap.size, 1, none⟩ = some (.int .i32 0) := by rw [cell_of_row w2 _ _ _ _ _ r0]; rfl
  have n12 : w2.cell? ⟨w.heap.size, 2, none⟩ = some (.int .i32 0) := by rw [cell_of_row w2 _ _ _ _ _ r0]; rfl
  have n13 : w2.cell? ⟨w.heap.size, 3, none⟩ = some (.int .i8 0) := by rw [cell_of_row w2 _ _ _ _ _ r0]; rfl
  have n14 : w2.cell? ⟨w.heap.size, 4, none⟩ = some (.int .i8 0) := by rw [cell_of_row w2 _ _ _ _ _ r0]; rfl
  have n15 : w2.cell? ⟨w.heap.size, 5, none⟩ = some (.int .i64 0) := by rw [cell_of_row w2 _ _ _ _ _ r0]; rfl
  have n16 : w2.cell? ⟨w.heap.size, 6, none⟩ = some (.bool false) := by rw [cell_of_row w2 _ _ _ _ _ r0]; rfl
  have n17 : w2.cell? ⟨w.heap.size, 7, none⟩ = some (.slice none 0 0) := by rw [cell_of_row w2 _ _ _ _ _ r0]; rfl
  have n18 : w2.cell? ⟨w.heap.size, 8, none⟩ = some (.bool false) := by rw [cell_of_row w2 _ _ _ _ _ r0]; rfl
  have n19 : w2.cell? ⟨w.heap.size, 9, none⟩ = some (.slice none 0 0) := by rw [cell_of_row w2 _ _ _ _ _ r0]; rfl
  have f1 : ∀ i, w2.frozen? ⟨w.heap.size, i, none⟩ = false := fun i => by simp [World.frozen?, r0]
  have f10 := f1 0
  have f11 := f1 1
  have f12 := f1 2
  have f13 := f1 3
  have f14 := f1 4
  have f15 := f1 5
  have f16 := f1 6
  have f17 := f1 7
  have f18 := f1 8
  have f19 := f1 9
  have y1 : ∀ j, w2.cell? ⟨w.heap.size + 1, j, none⟩ = (#[.int .i64 (0), .int .i32 (0), .int .i32 (0), .int .i8 (0), .int .i8 (0), .slice a5 0 c5, .slice a6 0 c6] : Array Value)[j]? := fun j => by rw [cell_of_row w2 _ _ _ _ _ hB2]; rfl
  have y0 : ∀ j, w2.drew.cell? ⟨w.heap.size + 1, j, none⟩ = (#[.int .i64 (0), .int .i32 (0), .int .i32 (0), .int .i8 (0), .int .i8 (0), .slice a5 0 c5, .slice a6 0 c6] : Array Value)[j]? := y1
  have s2 := HG2.out.size
  have h12 : w.heap.size + 1 < w2.heap.size := (Array.getElem?_eq_some_iff.1 hB2).1
  have h10 : w.heap.size < w2.heap.size := by omega
  have hne : w.heap.size + 1 ≠ w.heap.size := by omega
  have hq : BytesAt w2.drew _ (.slice a5 0 c5) [] := HV5.out
  have HQ5 := Lib.hid hq
  clear r0 f1 g2 hB2 hv5 hv6 HR HR0 hq
  go_wp2
  go_region_held3 (fun w' => ∀ j, w'.cell? ⟨w.heap.size + 1, j, none⟩ = (#[.int .i64 (0), .int .i32 (0), .int .i32 (0), .int .i8 (0), .int .i8 (0), .slice a5 0 c5, .slice a6 0 c6] : Array Value)[j]?) (first | with_reducible assumption | ((repeat (with_reducible refine set_keep hne ?_)); with_reducible assumption)) (first
      | (go_at_call 15; (with_reducible refine (octs_nil w2.drew _ (.slice a5 0 c5) HQ5.out).mono ?_); rintro e w3 ⟨b5, e5, k5, rfl, hb3'⟩;
         have hb3 : Below w2.heap.size w2 w3 := below_undrew hb3';
         have t3 := hb3.size;
         have y3 := fun j => ((bcell hb3).1 (w.heap.size + 1) j h12).trans (y1 j);
         have HB3 := Lib.hid hb3; clear hb3' hb3)
      | (go_at_call 15; (with_reducible refine (octs_nil w3 _ (.slice a6 0 c6) (nil_grow HV6.out t3)).mono ?_); rintro e w4 ⟨b6, e6, k6, rfl, hb4'⟩;
         have hb4 : Below w2.heap.size w2 w4 := HB3.out.trans (hb4'.lower (m := w2.heap.size) t3);
         have t4 := hb4.size;
         have y4 := fun j => ((bcell hb4).1 (w.heap.size + 1) j h12).trans (y1 j);
         have m10 := ((bcell hb4).1 w.heap.size 0 h10).trans n10; have q10 := ((bcell hb4).2 w.heap.size 0 h10).trans f10;
         have m11 := ((bcell hb4).1 w.heap.size 1 h10).trans n11; have q11 := ((bcell hb4).2 w.heap.size 1 h10).trans f11;
         have m12 := ((bcell hb4).1 w.heap.size 2 h10).trans n12; have q12 := ((bcell hb4).2 w.heap.size 2 h10).trans f12;
         have m13 := ((bcell hb4).1 w.heap.size 3 h10).trans n13; have q13 := ((bcell hb4).2 w.heap.size 3 h10).trans f13;
         have m14 := ((bcell hb4).1 w.heap.size 4 h10).trans n14; have q14 := ((bcell hb4).2 w.heap.size 4 h10).trans f14;
         have m15 := ((bcell hb4).1 w.heap.size 5 h10).trans n15; have q15 := ((bcell hb4).2 w.heap.size 5 h10).trans f15;
         have m16 := ((bcell hb4).1 w.heap.size 6 h10).trans n16; have q16 := ((bcell hb4).2 w.heap.size 6 h10).trans f16;
         have m17 := ((bcell hb4).1 w.heap.size 7 h10).trans n17; have q17 := ((bcell hb4).2 w.heap.size 7 h10).trans f17;
         have m18 := ((bcell hb4).1 w.heap.size 8 h10).trans n18; have q18 := ((bcell hb4).2 w.heap.size 8 h10).trans f18;
         have m19 := ((bcell hb4).1 w.heap.size 9 h10).trans n19; have q19 := ((bcell hb4).2 w.heap.size 9 h10).trans f19;
         have HB4 := Lib.hid hb4; clear hb4' hb4))
  go_wp2
  refine bodyPost_ret (v := .tuple #[.agg #[.int .i64 (0), .int .i32 (0), .int .i32 (0), .int .i8 (0), .int .i8 (0), .int .i64 0, .bool b5, .slice e5 0 k5, .bool b6, .slice e6 0 k6], .bool true]) (by simp [results, Tryd.results28, go_sem, m10, m11, m12, m13, m14, m15, m16, m17, m18, m19]) rfl ?_
  refine ⟨_, _, _, _, _, _, rfl, grown_below ?_⟩
  repeat refine grown_new ?_ _ _ _ (Nat.le_refl _)
  exact grownBy_trans HG2.out (below_grown HB4.out none)
set_option maxRecDepth 8000 in
set_option maxHeartbeats 4000000 in
theorem tellv1 (w : World) (S : Nat → Prop) (p : Option Addr) (c : Nat) (h : BytesAt w S (.slice p 34 c) (zz 34)) (he : ErrOk w) :
    Calls Tryd.prog 30 #[.slice p 34 c] w fun e w' => ∃ (b6 : Bool) (e6 : Option Addr) (k6 : Nat) (b7 : Bool) (e7 : Option Addr) (k7 : Nat), e = .returned (.tuple #[.agg #[.int .i64 (0), .int .i32 (0), .int .i32 (0), .int .i8 (0), .int .i8 (0), .int .i64 (0), .bool b6, .slice e6 0 k6, .bool b7, .slice e7 0 k7], .bool true]) ∧ Below w.heap.size w w' := by
  have HB := Lib.hid h
  have HE := Lib.hid he
  clear h he
  go_enter Tryd.func30, Tryd.ntmps30
  go_wp2_with fail
  refine (own_any _ S _ (zz 34) (HB.out.kept (grownBy_trans (grown_alloc _ _ none) (grown_alloc _ _ none)) (by simp)) (by decide)).mono ?_
  rintro e w1 ⟨v1, rfl, ho, hb1⟩
  rw [size_alloc, size_alloc] at ho
  obtain ⟨g1, r0, r1⟩ : w.grownBy w1 none ∧ w1.heap[w.heap.size]? = some (.cells #[.int .i64 0, .int .i32 0, .int .i32 0, .int .i8 0, .int .i8 0, .int .i64 0, .bool false, .slice none 0 0, .bool false, .slice none 0 0] 75 (0, 0)) ∧ w1.heap[w.heap.size + 1]? = some (.cells #[.int .i64 0, .int .i32 0, .int .i32 0, .int .i8 0, .int .i8 0, .int .i64 0, .slice none 0 0, .slice none 0 0] 107 (0, 0)) := by
    refine ⟨grownBy_trans (grownBy_trans (grown_alloc _ _ none) (grown_alloc _ _ none)) (below_grown hb1 none), ?_, ?_⟩
    · rw [hb1.block w.heap.size (by rw [size_alloc, size_alloc]; omega), (grown_alloc _ _ none).block w.heap.size (by rw [size_alloc]; omega) (by simp)]
      show (w.heap.push _)[w.heap.size]? = _
      exact Array.getElem?_push_size
    · rw [hb1.block (w.heap.size + 1) (by rw [size_alloc, size_alloc]; omega)]
      have := Array.getElem?_push_size (xs := (w.alloc (.cells #[.int .i64 0, .int .i32 0, .int .i32 0, .int .i8 0, .int .i8 0, .int .i64 0, .bool false, .slice none 0 0, .bool false, .slice none 0 0] 75)).heap) (x := Obj.cells #[.int .i64 0, .int .i32 0, .int .i32 0, .int .i8 0, .int .i8 0, .int .i64 0, .slice none 0 0, .slice none 0 0] 107 (0, 0))
      rw [size_alloc] at this
      exact this
  obtain ⟨ad1, c1, rfl⟩ := bytes_len (own_bytes ho)
  have hS2 : ∀ g, (Value.slice ad1 (zz 34).length c1).ownBlock = some g → w.heap.size + 2 ≤ g ∧ g < w1.heap.size := fun g hg => World.ownsRow.lt ho g hg
  have HR := Lib.hid (v1ReadFrom w1 _ (w.heap.size + 1) ad1 c1 r1 (own_bytes ho) (fun h => by have := hS2 _ h; omega) (fun g hg => (hS2 g hg).2) (HE.out.kept g1 (by simp)) (by omega))
  have HG1 := Lib.hid g1
  have HR0 := Lib.hid r0
  clear ho hb1 g1 r0 r1 HB hS2
  go_wp2_with fail
  refine HR.out.mono ?_
  rintro e w2 ⟨v6, v7, rfl, g2, hB2, hv6, hv7⟩
  obtain ⟨a6, c6, rfl⟩ := bytes_len hv6
  have HV6 := Lib.hid hv6
  obtain ⟨a7, c7, rfl⟩ := bytes_len hv7
  have HV7 := Lib.hid hv7
  have s1 : w.heap.size ≤ w1.heap.size := HG1.out.size
  have r0 : w2.heap[w.heap.size]? = some (.cells #[.int .i64 0, .int .i32 0, .int .i32 0, .int .i8 0, .int .i8 0, .int .i64 0, .bool false, .slice none 0 0, .bool false, .slice none 0 0] 75 (0, 0)) := by
    rw [g2.block w.heap.size ((Array.getElem?_eq_some_iff.1 HR0.out).1) (by simp)]
    exact HR0.out
  have HG2 := Lib.hid (grown_sub HG1.out g2 (by omega))
  have n10 : w2.cell? ⟨w.heap.size, 0, none⟩ = some (.int .i64 0) := by rw [cell_of_row w2 _ _ _ _ _ r0]; rfl
  have n11 : w2.cell? ⟨w.heap.size, 1, none⟩ = some (.int .i32 0) := by rw [cell_of_row w2 _ _ _ _ _ r0]; rfl
  have n12 : w2.cell? ⟨w.heap.size, 2, none⟩ = some (.int .i32 0) := by rw [cell_of_row w2 _ _ _ _ _ r0]; rfl
  have n13 : w2.cell? ⟨w.heap.size, 3, none⟩ = some (.int .i8 0) := by rw [cell_of_row w2 _ _ _ _ _ r0]; rfl
  have n14 : w2.cell? ⟨w.heap.size, 4, none⟩ = some (.int .i8 0) := by rw [cell_of_row w2 _ _ _ _ _ r0]; rfl
  have n15 : w2.cell? ⟨w.heap.size, 5, none⟩ = some (.int .i64 0) := by rw [cell_of_row w2 _ _ _ _ _ r0]; rfl
  have n16 : w2.cell? ⟨w.heap.size, 6, none⟩ = some (.bool false) := by rw [cell_of_row w2 _ _ _ _ _ r0]; rfl
  have n17 : w2.cell? ⟨w.heap.size, 7, none⟩ = some (.slice none 0 0) := by rw [cell_of_row w2 _ _ _ _ _ r0]; rfl
  have n18 : w2.cell? ⟨w.heap.size, 8, none⟩ = some (.bool false) := by rw [cell_of_row w2 _ _ _ _ _ r0]; rfl
  have n19 : w2.cell? ⟨w.heap.size, 9, none⟩ = some (.slice none 0 0) := by rw [cell_of_row w2 _ _ _ _ _ r0]; rfl
  have f1 : ∀ i, w2.frozen? ⟨w.heap.size, i, none⟩ = false := fun i => by simp [World.frozen?, r0]
  have f10 := f1 0
  have f11 := f1 1
  have f12 := f1 2
  have f13 := f1 3
  have f14 := f1 4
  have f15 := f1 5
  have f16 := f1 6
  have f17 := f1 7
  have f18 := f1 8
  have f19 := f1 9
  have y1 : ∀ j, w2.cell? ⟨w.heap.size + 1, j, none⟩ = (#[.int .i64 (0), .int .i32 (0), .int .i32 (0), .int .i8 (0), .int .i8 (0), .int .i64 (0), .slice a6 0 c6, .slice a7 0 c7] : Array Value)[j]? := fun j => by rw [cell_of_row w2 _ _ _ _ _ hB2]; rfl
  have y0 : ∀ j, w2.drew.cell? ⟨w.heap.size + 1, j, none⟩ = (#[.int .i64 (0), .int .i32 (0), .int .i32 (0), .int .i8 (0), .int .i8 (0), .int .i64 (0), .slice a6 0 c6, .slice a7 0 c7] : Array Value)[j]? := y1
  have s2 := HG2.out.size
  have h12 : w.heap.size + 1 < w2.heap.size := (Array.getElem?_eq_some_iff.1 hB2).1
  have h10 : w.heap.size < w2.heap.size := by omega
  have hne : w.heap.size + 1 ≠ w.heap.size := by omega
  have hq : BytesAt w2.drew _ (.slice a6 0 c6) [] := HV6.out
  have HQ6 := Lib.hid hq
  clear r0 f1 g2 hB2 hv6 hv7 HR HR0 hq
  go_wp2
  go_region_held3 (fun w' => ∀ j, w'.cell? ⟨w.heap.size + 1, j, none⟩ = (#[.int .i64 (0), .int .i32 (0), .int .i32 (0), .int .i8 (0), .int .i8 (0), .int .i64 (0), .slice a6 0 c6, .slice a7 0 c7] : Array Value)[j]?) (first | with_reducible assumption | ((repeat (with_reducible refine set_keep hne ?_)); with_reducible assumption)) (first
      | (go_at_call 15; (with_reducible refine (octs_nil w2.drew _ (.slice a6 0 c6) HQ6.out).mono ?_); rintro e w3 ⟨b6, e6, k6, rfl, hb3'⟩;
         have hb3 : Below w2.heap.size w2 w3 := below_undrew hb3';
         have t3 := hb3.size;
         have y3 := fun j => ((bcell hb3).1 (w.heap.size + 1) j h12).trans (y1 j);
         have HB3 := Lib.hid hb3; clear hb3' hb3)
      | (go_at_call 15; (with_reducible refine (octs_nil w3 _ (.slice a7 0 c7) (nil_grow HV7.out t3)).mono ?_); rintro e w4 ⟨b7, e7, k7, rfl, hb4'⟩;
         have hb4 : Below w2.heap.size w2 w4 := HB3.out.trans (hb4'.lower (m := w2.heap.size) t3);
         have t4 := hb4.size;
         have y4 := fun j => ((bcell hb4).1 (w.heap.size + 1) j h12).trans (y1 j);
         have m10 := ((bcell hb4).1 w.heap.size 0 h10).trans n10; have q10 := ((bcell hb4).2 w.heap.size 0 h10).trans f10;
         have m11 := ((bcell hb4).1 w.heap.size 1 h10).trans n11; have q11 := ((bcell hb4).2 w.heap.size 1 h10).trans f11;
         have m12 := ((bcell hb4).1 w.heap.size 2 h10).trans n12; have q12 := ((bcell hb4).2 w.heap.size 2 h10).trans f12;
         have m13 := ((bcell hb4).1 w.heap.size 3 h10).trans n13; have q13 := ((bcell hb4).2 w.heap.size 3 h10).trans f13;
         have m14 := ((bcell hb4).1 w.heap.size 4 h10).trans n14; have q14 := ((bcell hb4).2 w.heap.size 4 h10).trans f14;
         have m15 := ((bcell hb4).1 w.heap.size 5 h10).trans n15; have q15 := ((bcell hb4).2 w.heap.size 5 h10).trans f15;
         have m16 := ((bcell hb4).1 w.heap.size 6 h10).trans n16; have q16 := ((bcell hb4).2 w.heap.size 6 h10).trans f16;
         have m17 := ((bcell hb4).1 w.heap.size 7 h10).trans n17; have q17 := ((bcell hb4).2 w.heap.size 7 h10).trans f17;
         have m18 := ((bcell hb4).1 w.heap.size 8 h10).trans n18; have q18 := ((bcell hb4).2 w.heap.size 8 h10).trans f18;
         have m19 := ((bcell hb4).1 w.heap.size 9 h10).trans n19; have q19 := ((bcell hb4).2 w.heap.size 9 h10).trans f19;
         have HB4 := Lib.hid hb4; clear hb4' hb4))
  go_wp2
  refine bodyPost_ret (v := .tuple #[.agg #[.int .i64 (0), .int .i32 (0), .int .i32 (0), .int .i8 (0), .int .i8 (0), .int .i64 (0), .bool b6, .slice e6 0 k6, .bool b7, .slice e7 0 k7], .bool true]) (by simp [results, Tryd.results30, go_sem, m10, m11, m12, m13, m14, m15, m16, m17, m18, m19]) rfl ?_
  refine ⟨_, _, _, _, _, _, rfl, grown_below ?_⟩
  repeat refine grown_new ?_ _ _ _ (Nat.le_refl _)
  exact grownBy_trans HG2.out (below_grown HB4.out none)
set_option maxRecDepth 8000 in
set_option maxHeartbeats 4000000 in
theorem tellbatch (w : World) (S : Nat → Prop) (p : Option Addr) (c : Nat) (h : BytesAt w S (.slice p 61 c) ([0, 0, 0, 0, 0, 0, 0, 0, 0, 0, 0, 49, 0, 0, 0, 0, 0, 0, 0, 0, 0, 0, 0, 0, 0, 0, 0, 0, 0, 0, 0, 0, 0, 0, 0, 0, 0, 0, 0, 0, 0, 0, 0, 0, 0, 0, 0, 0, 0, 0, 0, 0, 0, 0, 0, 0, 0, 0, 0, 0, 0])) (he : ErrOk w) :
    Calls Tryd.prog 34 #[.slice p 61 c] w fun e w' => ∃ (e13 : Option Addr) (k13 : Nat), e = .returned (.tuple #[.agg #[.int .i64 (0), .int .i32 (49), .int .i32 (0), .int .i8 (0), .int .i32 (0), .int .i16 (0), .int .i32 (0), .int .i64 (0), .int .i64 (0), .int .i64 (0), .int .i16 (0), .int .i32 (0), .int .i32 (0), .slice e13 0 k13], .bool true]) ∧ Below w.heap.size w w' := by
  have HB := Lib.hid h
  have HE := Lib.hid he
  clear h he
  go_enter Tryd.func34, Tryd.ntmps34
  go_wp2_with fail
  refine (own_any _ S _ ([0, 0, 0, 0, 0, 0, 0, 0, 0, 0, 0, 49, 0, 0, 0, 0, 0, 0, 0, 0, 0, 0, 0, 0, 0, 0, 0, 0, 0, 0, 0, 0, 0, 0, 0, 0, 0, 0, 0, 0, 0, 0, 0, 0, 0, 0, 0, 0, 0, 0, 0, 0, 0, 0, 0, 0, 0, 0, 0, 0, 0]) (HB.out.kept (grownBy_trans (grown_alloc _ _ none) (grown_alloc _ _ none)) (by simp)) (by decide)).mono ?_
  rintro e w1 ⟨v1, rfl, ho, hb1⟩
  rw [size_alloc, size_alloc] at ho
  obtain ⟨g1, r0, r1⟩ : w.grownBy w1 none ∧ w1.heap[w.heap.size]? = some (.cells #[.int .i64 0, .int .i32 0, .int .i32 0, .int .i8 0, .int .i32 0, .int .i16 0, .int .i32 0, .int .i64 0, .int .i64 0, .int .i64 0, .int .i16 0, .int .i32 0, .int .i32 0, .slice none 0 0] 87 (0, 0)) ∧ w1.heap[w.heap.size + 1]? = some (.cells #[.int .i64 0, .int .i32 0, .int .i32 0, .int .i8 0, .int .i32 0, .int .i16 0, .int .i32 0, .int .i64 0, .int .i64 0, .int .i64 0, .int .i16 0, .int .i32 0, .int .i32 0, .slice none 0 0] 112 (0, 0)) := by
    refine ⟨grownBy_trans (grownBy_trans (grown_alloc _ _ none) (grown_alloc _ _ none)) (below_grown hb1 none), ?_, ?_⟩
    · rw [hb1.block w.heap.size (by rw [size_alloc, size_alloc]; omega), (grown_alloc _ _ none).block w.heap.size (by rw [size_alloc]; omega) (by simp)]
      show (w.heap.push _)[w.heap.size]? = _
      exact Array.getElem?_push_size
    · rw [hb1.block (w.heap.size + 1) (by rw [size_alloc, size_alloc]; omega)]
      have := Array.getElem?_push_size (xs := (w.alloc (.cells #[.int .i64 0, .int .i32 0, .int .i32 0, .int .i8 0, .int .i32 0, .int .i16 0, .int .i32 0, .int .i64 0, .int .i64 0, .int .i64 0, .int .i16 0, .int .i32 0, .int .i32 0, .slice none 0 0] 87)).heap) (x := Obj.cells #[.int .i64 0, .int .i32 0, .int .i32 0, .int .i8 0, .int .i32 0, .int .i16 0, .int .i32 0, .int .i64 0, .int .i64 0, .int .i64 0, .int .i16 0, .int .i32 0, .int .i32 0, .slice none 0 0] 112 (0, 0))
      rw [size_alloc] at this
      exact this
  obtain ⟨ad1, c1, rfl⟩ := bytes_len (own_bytes ho)
  have hS2 : ∀ g, (Value.slice ad1 ([0, 0, 0, 0, 0, 0, 0, 0, 0, 0, 0, 49, 0, 0, 0, 0, 0, 0, 0, 0, 0, 0, 0, 0, 0, 0, 0, 0, 0, 0, 0, 0, 0, 0, 0, 0, 0, 0, 0, 0, 0, 0, 0, 0, 0, 0, 0, 0, 0, 0, 0, 0, 0, 0, 0, 0, 0, 0, 0, 0, 0]).length c1).ownBlock = some g → w.heap.size + 2 ≤ g ∧ g < w1.heap.size := fun g hg => World.ownsRow.lt ho g hg
  have HR := Lib.hid (batchReadFrom w1 _ (w.heap.size + 1) ad1 c1 r1 (own_bytes ho) (fun h => by have := hS2 _ h; omega) (fun g hg => (hS2 g hg).2) (HE.out.kept g1 (by simp)) (by omega))
  have HG1 := Lib.hid g1
  have HR0 := Lib.hid r0
  clear ho hb1 g1 r0 r1 HB hS2
  go_wp2_with fail
  refine HR.out.mono ?_
  rintro e w2 ⟨v13, rfl, g2, hB2, hv13⟩
  obtain ⟨a13, c13, rfl⟩ := bytes_len hv13
  have HV13 := Lib.hid hv13
  have s1 : w.heap.size ≤ w1.heap.size := HG1.out.size
  have r0 : w2.heap[w.heap.size]? = some (.cells #[.int .i64 0, .int .i32 0, .int .i32 0, .int .i8 0, .int .i32 0, .int .i16 0, .int .i32 0, .int .i64 0, .int .i64 0, .int .i64 0, .int .i16 0, .int .i32 0, .int .i32 0, .slice none 0 0] 87 (0, 0)) := by
    rw [g2.block w.heap.size ((Array.getElem?_eq_some_iff.1 HR0.out).1) (by simp)]
    exact HR0.out
  have HG2 := Lib.hid (grown_sub HG1.out g2 (by omega))
  have n10 : w2.cell? ⟨w.heap.size, 0, none⟩ = some (.int .i64 0) := by rw [cell_of_row w2 _ _ _ _ _ r0]; rfl
  have n11 : w2.cell? ⟨w.heap.size, 1, none⟩ = some (.int .i32 0) := by rw [cell_of_row w2 _ _ _ _ _ r0]; rfl
  have n12 : w2.cell? ⟨w.heap.size, 2, none⟩ = some (.int .i32 0) := by rw [cell_of_row w2 _ _ _ _ _ r0]; rfl
  have n13 : w2.cell? ⟨w.heap.size, 3, none⟩ = some (.int .i8 0) := by rw [cell_of_row w2 _ _ _ _ _ r0]; rfl
  have n14 : w2.cell? ⟨w.heap.size, 4, none⟩ = some (.int .i32 0) := by rw [cell_of_row w2 _ _ _ _ _ r0]; rfl
  have n15 : w2.cell? ⟨w.heap.size, 5, none⟩ = some (.int .i16 0) := by rw [cell_of_row w2 _ _ _ _ _ r0]; rfl
  have n16 : w2.cell? ⟨w.heap.size, 6, none⟩ = some (.int .i32 0) := by rw [cell_of_row w2 _ _ _ _ _ r0]; rfl
  have n17 : w2.cell? ⟨w.heap.size, 7, none⟩ = some (.int .i64 0) := by rw [cell_of_row w2 _ _ _ _ _ r0]; rfl
  have n18 : w2.cell? ⟨w.heap.size, 8, none⟩ = some (.int .i64 0) := by rw [cell_of_row w2 _ _ _ _ _ r0]; rfl
  have n19 : w2.cell? ⟨w.heap.size, 9, none⟩ = some (.int .i64 0) := by rw [cell_of_row w2 _ _ _ _ _ r0]; rfl
  have n110 : w2.cell? ⟨w.heap.size, 10, none⟩ = some (.int .i16 0) := by rw [cell_of_row w2 _ _ _ _ _ r0]; rfl
  have n111 : w2.cell? ⟨w.heap.size, 11, none⟩ = some (.int .i32 0) := by rw [cell_of_row w2 _ _ _ _ _ r0]; rfl
  have n112 : w2.cell? ⟨w.heap.size, 12, none⟩ = some (.int .i32 0) := by rw [cell_of_row w2 _ _ _ _ _ r0]; rfl
  have n113 : w2.cell? ⟨w.heap.size, 13, none⟩ = some (.slice none 0 0) := by rw [cell_of_row w2 _ _ _ _ _ r0]; rfl
  have f1 : ∀ i, w2.frozen? ⟨w.heap.size, i, none⟩ = false := fun i => by simp [World.frozen?, r0]
  have f10 := f1 0
  have f11 := f1 1
  have f12 := f1 2
  have f13 := f1 3
  have f14 := f1 4
  have f15 := f1 5
  have f16 := f1 6
  have f17 := f1 7
  have f18 := f1 8
  have f19 := f1 9
  have f110 := f1 10
  have f111 := f1 11
  have f112 := f1 12
  have f113 := f1 13
  have y1 : ∀ j, w2.cell? ⟨w.heap.size + 1, j, none⟩ = (#[.int .i64 (0), .int .i32 (49), .int .i32 (0), .int .i8 (0), .int .i32 (0), .int .i16 (0), .int .i32 (0), .int .i64 (0), .int .i64 (0), .int .i64 (0), .int .i16 (0), .int .i32 (0), .int .i32 (0), .slice a13 0 c13] : Array Value)[j]? := fun j => by rw [cell_of_row w2 _ _ _ _ _ hB2]; rfl
  have y0 : ∀ j, w2.drew.cell? ⟨w.heap.size + 1, j, none⟩ = (#[.int .i64 (0), .int .i32 (49), .int .i32 (0), .int .i8 (0), .int .i32 (0), .int .i16 (0), .int .i32 (0), .int .i64 (0), .int .i64 (0), .int .i64 (0), .int .i16 (0), .int .i32 (0), .int .i32 (0), .slice a13 0 c13] : Array Value)[j]? := y1
  have s2 := HG2.out.size
  have h12 : w.heap.size + 1 < w2.heap.size := (Array.getElem?_eq_some_iff.1 hB2).1
  have h10 : w.heap.size < w2.heap.size := by omega
  have hne : w.heap.size + 1 ≠ w.heap.size := by omega
  have hq : BytesAt w2.drew _ (.slice a13 0 c13) [] := HV13.out
  have HQ13 := Lib.hid hq
  clear r0 f1 g2 hB2 hv13 HR HR0 hq
  go_wp2
  go_region_held3 (fun w' => ∀ j, w'.cell? ⟨w.heap.size + 1, j, none⟩ = (#[.int .i64 (0), .int .i32 (49), .int .i32 (0), .int .i8 (0), .int .i32 (0), .int .i16 (0), .int .i32 (0), .int .i64 (0), .int .i64 (0), .int .i64 (0), .int .i16 (0), .int .i32 (0), .int .i32 (0), .slice a13 0 c13] : Array Value)[j]?) (first | with_reducible assumption | ((repeat (with_reducible refine set_keep hne ?_)); with_reducible assumption)) (first
      | (go_at_call 14; (with_reducible refine (own_nil w2.drew _ (.slice a13 0 c13) HQ13.out).mono ?_); rintro e w3 ⟨e13, k13, rfl, hb3'⟩;
         have hb3 : Below w2.heap.size w2 w3 := below_undrew hb3';
         have t3 := hb3.size;
         have y3 := fun j => ((bcell hb3).1 (w.heap.size + 1) j h12).trans (y1 j);
         have m10 := ((bcell hb3).1 w.heap.size 0 h10).trans n10; have q10 := ((bcell hb3).2 w.heap.size 0 h10).trans f10;
         have m11 := ((bcell hb3).1 w.heap.size 1 h10).trans n11; have q11 := ((bcell hb3).2 w.heap.size 1 h10).trans f11;
         have m12 := ((bcell hb3).1 w.heap.size 2 h10).trans n12; have q12 := ((bcell hb3).2 w.heap.size 2 h10).trans f12;
         have m13 := ((bcell hb3).1 w.heap.size 3 h10).trans n13; have q13 := ((bcell hb3).2 w.heap.size 3 h10).trans f13;
         have m14 := ((bcell hb3).1 w.heap.size 4 h10).trans n14; have q14 := ((bcell hb3).2 w.heap.size 4 h10).trans f14;
         have m15 := ((bcell hb3).1 w.heap.size 5 h10).trans n15; have q15 := ((bcell hb3).2 w.heap.size 5 h10).trans f15;
         have m16 := ((bcell hb3).1 w.heap.size 6 h10).trans n16; have q16 := ((bcell hb3).2 w.heap.size 6 h10).trans f16;
         have m17 := ((bcell hb3).1 w.heap.size 7 h10).trans n17; have q17 := ((bcell hb3).2 w.heap.size 7 h10).trans f17;
         have m18 := ((bcell hb3).1 w.heap.size 8 h10).trans n18; have q18 := ((bcell hb3).2 w.heap.size 8 h10).trans f18;
         have m19 := ((bcell hb3).1 w.heap.size 9 h10).trans n19; have q19 := ((bcell hb3).2 w.heap.size 9 h10).trans f19;
         have m110 := ((bcell hb3).1 w.heap.size 10 h10).trans n110; have q110 := ((bcell hb3).2 w.heap.size 10 h10).trans f110;
         have m111 := ((bcell hb3).1 w.heap.size 11 h10).trans n111; have q111 := ((bcell hb3).2 w.heap.size 11 h10).trans f111;
         have m112 := ((bcell hb3).1 w.heap.size 12 h10).trans n112; have q112 := ((bcell hb3).2 w.heap.size 12 h10).trans f112;
         have m113 := ((bcell hb3).1 w.heap.size 13 h10).trans n113; have q113 := ((bcell hb3).2 w.heap.size 13 h10).trans f113;
         have HB3 := Lib.hid hb3; clear hb3' hb3))
  go_wp2
  refine bodyPost_ret (v := .tuple #[.agg #[.int .i64 (0), .int .i32 (49), .int .i32 (0), .int .i8 (0), .int .i32 (0), .int .i16 (0), .int .i32 (0), .int .i64 (0), .int .i64 (0), .int .i64 (0), .int .i16 (0), .int .i32 (0), .int .i32 (0), .slice e13 0 k13], .bool true]) (by simp [results, Tryd.results34, go_sem, m10, m11, m12, m13, m14, m15, m16, m17, m18, m19, m110, m111, m112, m113]) rfl ?_
  refine ⟨_, _, rfl, grown_below ?_⟩
  repeat refine grown_new ?_ _ _ _ (Nat.le_refl _)
  exact grownBy_trans HG2.out (below_grown HB3.out none)
end Go.Proofs.YthdfhnnoamlacaaDoor.Rec
