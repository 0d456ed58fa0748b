/-
  Records: what the reference writes of a record of nothing. Conditions: none.
-/
import Derived.Test.YthdfhnnoamlacaaDoorQk
namespace Go.Proofs.YthdfhnnoamlacaaDoor.Rec
open Go.Proofs.YthdfhnnoamlacaaDoor
open Go.RowKit (Below wrap64 wrap32)
open Kz
theorem alloc_keep {w : World} {b : Nat} {o : Obj} (hb : b < w.heap.size) {cs : Array Value} (h : ∀ j, w.cell? ⟨b, j, none⟩ = cs[j]?) (j : Nat) : (w.alloc o).cell? ⟨b, j, none⟩ = cs[j]? :=
  (cell_grown (grown_alloc w o none) (by simp) hb).trans (h j)
theorem own_one (w : World) (b : UInt8) : OwnB (w.alloc (.cells #[bv b] 5)) w.heap.size (.slice (some ⟨w.heap.size, 0, none⟩) 1 1) [b] :=
  ⟨rfl, .inr ⟨w.heap.size, 1, #[bv b], rfl, Nat.le_refl _, Array.getElem?_push_size, Nat.le_refl _, by decide, rfl, rfl⟩⟩
set_option maxRecDepth 8000 in
set_option maxHeartbeats 4000000 in
theorem RecordRest0 (w : World) (n : Int) : Calls Tryd.prog 52 #[.agg #[.int .i32 n, .int .i8 0, .int .i64 0, .int .i32 0, .bool false, .slice none 0 0, .bool false, .slice none 0 0, .slice none 0 0]] w fun e w' => ∃ v, e = .returned v ∧ OwnB w' w.heap.size v [0, 0, 0, 0, 0, 0] ∧ Below w.heap.size w w' := by
  go_enter Tryd.func52, Tryd.ntmps52
  go_wp2_with fail
  generalize hW : w.alloc (.cells #[.int .i32 n, .int .i8 0, .int .i64 0, .int .i32 0, .bool false, .slice none 0 0, .bool false, .slice none 0 0, .slice none 0 0] 80) = W
  have hB : Below w.heap.size w W := by rw [← hW]; exact (Below.refl _ _).alloc (Nat.le_refl _) _
  have hz : W.heap[w.heap.size]? = some (.cells #[.int .i32 n, .int .i8 0, .int .i64 0, .int .i32 0, .bool false, .slice none 0 0, .bool false, .slice none 0 0, .slice none 0 0] 80 (0, 0)) := by rw [← hW]; exact Array.getElem?_push_size
  have hlt : w.heap.size < W.heap.size := (Array.getElem?_eq_some_iff.1 hz).1
  have hltD : w.heap.size < W.drew.heap.size := hlt
  have y1 : ∀ j, W.cell? ⟨w.heap.size, j, none⟩ = (#[.int .i32 n, .int .i8 0, .int .i64 0, .int .i32 0, .bool false, .slice none 0 0, .bool false, .slice none 0 0, .slice none 0 0] : Array Value)[j]? := fun j => by rw [cell_of_row W _ _ _ _ _ hz]
  have y0 : ∀ j, W.drew.cell? ⟨w.heap.size, j, none⟩ = (#[.int .i32 n, .int .i8 0, .int .i64 0, .int .i32 0, .bool false, .slice none 0 0, .bool false, .slice none 0 0, .slice none 0 0] : Array Value)[j]? := y1
  have HB := Lib.hid hB
  clear hW hB hz
  have e0 : IntKind.u8.wrap 0 = 0 := by kernel_rfl
  have yA : ∀ j, ((W.alloc (.cells #[.int .u8 0] 5)).drew).cell? ⟨w.heap.size, j, none⟩ = (#[.int .i32 n, .int .i8 0, .int .i64 0, .int .i32 0, .bool false, .slice none 0 0, .bool false, .slice none 0 0, .slice none 0 0] : Array Value)[j]? := alloc_keep hlt y1
  go_region_held3 (fun w' => ∀ j, w'.cell? ⟨w.heap.size, j, none⟩ = (#[.int .i32 n, .int .i8 0, .int .i64 0, .int .i32 0, .bool false, .slice none 0 0, .bool false, .slice none 0 0, .slice none 0 0] : Array Value)[j]?) (first | with_reducible assumption | with_reducible exact alloc_keep hB2 y2) (first
    | (refine step_append_octets rfl (.tmp 9) (.tmp 12) rfl W.heap.size (.slice (some ⟨W.heap.size, 0, none⟩) 1 1) v2 [0] [0] rfl rfl HA.out (own_at_bytes HVA.out) (by decide) tA (fun v3 w3 ho3 hg3 => ?_);
       have y3 := fun j => (cell_grown hg3 (fun e => by have := HA.out.base _ e.symm; omega) (show w.heap.size < w2.heap.size by omega)).trans (yA2 j);
       have H3 := Lib.hid ho3; have t3 : W.heap.size ≤ w3.heap.size := Nat.le_trans tA hg3.size; have HB3 := Lib.hid (HBA.out.trans ((below_growB HA.out tA hg3).lower (m := w.heap.size) (by omega))); clear ho3 hg3)
    | (refine step_append_octets rfl (.tmp 9) (.tmp 12) rfl w2.heap.size (.slice (some ⟨w2.heap.size, 0, none⟩) 1 1) v2 [0] [0] rfl rfl (own_one w2 0) (own_at_bytes (H1.out.stay ((Below.refl _ _).alloc (Nat.le_refl _) _))) (by decide) (grown_alloc w2 _ none).size (fun v3 w3 ho3 hg3 => ?_);
       have y3 := fun j => (cell_grown hg3 (fun e => by have e := Option.some.inj e; simp only at e; omega) (show w.heap.size < (w2.alloc (.cells #[.int .u8 0] 5)).heap.size by rw [size_alloc]; omega)).trans (alloc_keep hB2 y2 j);
       have H3 := Lib.hid (ho3.low (base' := W.heap.size) t2); have t3 : W.heap.size ≤ w3.heap.size := Nat.le_trans t2 (Nat.le_trans (grown_alloc w2 (.cells #[.int .u8 0] 5) none).size hg3.size);
       have HB3 := Lib.hid ((HB2.out.trans ((Below.refl w2.heap.size w2).alloc (Nat.le_refl _) (.cells #[.int .u8 0] 5) |>.lower (m := w.heap.size) (by omega))).trans ((below_growB (own_one w2 0) (grown_alloc w2 _ none).size hg3).lower (m := w.heap.size) (by omega))); clear ho3 hg3)
    | (go_at_call 46; (with_reducible refine (varW0 W.drew).mono ?_); rintro e w2 ⟨v2, rfl, ho2, hb2'⟩; have hb2 : Below W.heap.size W w2 := below_undrew hb2';
       have y2 := fun j => ((bcell hb2).1 w.heap.size j hlt).trans (y1 j);
       have t2 : W.heap.size ≤ w2.heap.size := hb2.size;
       have hB2 : w.heap.size < w2.heap.size := by omega;
       have H1 := Lib.hid (show OwnB w2 W.heap.size v2 [0] from ho2); have HB2 := Lib.hid (HB.out.trans (hb2.lower (m := w.heap.size) (by omega))); clear hb2' hb2 ho2)
    | (go_at_call 46; (with_reducible refine (varW0 ((W.alloc (.cells #[.int .u8 0] 5)).drew)).mono ?_); rintro e w2 ⟨v2, rfl, ho2, hb2'⟩; have hb2 : Below (W.alloc (.cells #[.int .u8 0] 5)).heap.size (W.alloc (.cells #[.int .u8 0] 5)) w2 := below_undrew hb2';
       have yA2 := fun j => ((bcell hb2).1 w.heap.size j (by rw [size_alloc]; omega)).trans (yA j);
       have tA : W.heap.size ≤ w2.heap.size := Nat.le_trans (grown_alloc W _ none).size hb2.size;
       have hA2 : w.heap.size < w2.heap.size := by omega;
       have HA := Lib.hid ((own_one W 0).stay hb2);
       have HVA := Lib.hid ho2; have HBA := Lib.hid ((HB.out.alloc (by omega) (.cells #[.int .u8 0] 5)).trans (hb2.lower (m := w.heap.size) (by rw [size_alloc]; omega))); clear hb2' hb2 ho2))
  all_goals (have h3 : OwnB w3 W.heap.size v3 [0, 0] := H3.out)
  all_goals (clear H3)
  all_goals (have H3 := Lib.hid h3)
  all_goals (clear h3)
  all_goals go_wp2_with fail
  all_goals (refine (varW0 w3).mono ?_)
  all_goals (rintro e w4 ⟨v4, rfl, ho4, hb4⟩)
  all_goals (have H4 := Lib.hid (own_at_bytes ho4))
  all_goals (have O4 := Lib.hid (H3.out.stay hb4))
  all_goals (have t4 : W.heap.size ≤ w4.heap.size := Nat.le_trans t3 hb4.size)
  all_goals (have y4 : ∀ j, w4.cell? ⟨w.heap.size, j, none⟩ = (#[.int .i32 n, .int .i8 0, .int .i64 0, .int .i32 0, .bool false, .slice none 0 0, .bool false, .slice none 0 0, .slice none 0 0] : Array Value)[j]? := fun j => ((bcell hb4).1 w.heap.size j (show w.heap.size < w3.heap.size by omega)).trans (y3 j))
  all_goals (have HB4 := Lib.hid (HB3.out.trans (hb4.lower (m := w.heap.size) HB3.out.size)))
  all_goals (clear ho4 hb4 y3 H3 HB3)
  all_goals go_wp2_with (at_builtin; refine wpList_append_octets rfl _ _ rfl W.heap.size _ _ [0, 0] [0] Tr rfl rfl O4.out H4.out (by decide) t4 ?_)
  all_goals (intro v5 w5 ho5 hg5)
  all_goals (have ho5' : OwnB w5 W.heap.size v5 [0, 0, 0] := ho5)
  all_goals (have H5 := Lib.hid ho5')
  all_goals (have t5 : W.heap.size ≤ w5.heap.size := Nat.le_trans t4 hg5.size)
  all_goals (have y5 : ∀ j, w5.cell? ⟨w.heap.size, j, none⟩ = (#[.int .i32 n, .int .i8 0, .int .i64 0, .int .i32 0, .bool false, .slice none 0 0, .bool false, .slice none 0 0, .slice none 0 0] : Array Value)[j]? := fun j => (cell_grown hg5 (fun e => by have := O4.out.base _ e.symm; omega) (show w.heap.size < w4.heap.size by omega)).trans (y4 j))
  all_goals (have HB5 := Lib.hid (HB4.out.trans ((below_growB O4.out t4 hg5).lower (m := w.heap.size) (by omega))))
  all_goals (clear ho5 ho5' hg5 y4 O4 H4 HB4 t4 t3)
  all_goals go_wp2_with fail
  all_goals (refine (octW0 w5).mono ?_)
  all_goals (rintro e w6 ⟨v6, rfl, ho6, hb6⟩)
  all_goals (have H6 := Lib.hid (own_at_bytes ho6))
  all_goals (have O6 := Lib.hid (H5.out.stay hb6))
  all_goals (have t6 : W.heap.size ≤ w6.heap.size := Nat.le_trans t5 hb6.size)
  all_goals (have y6 : ∀ j, w6.cell? ⟨w.heap.size, j, none⟩ = (#[.int .i32 n, .int .i8 0, .int .i64 0, .int .i32 0, .bool false, .slice none 0 0, .bool false, .slice none 0 0, .slice none 0 0] : Array Value)[j]? := fun j => ((bcell hb6).1 w.heap.size j (show w.heap.size < w5.heap.size by omega)).trans (y5 j))
  all_goals (have HB6 := Lib.hid (HB5.out.trans (hb6.lower (m := w.heap.size) HB5.out.size)))
  all_goals (clear ho6 hb6 y5 H5 HB5)
  all_goals go_wp2_with (at_builtin; refine wpList_append_octets rfl _ _ rfl W.heap.size _ _ [0, 0, 0] [0] Tr rfl rfl O6.out H6.out (by decide) t6 ?_)
  all_goals (intro v7 w7 ho7 hg7)
  all_goals (have ho7' : OwnB w7 W.heap.size v7 [0, 0, 0, 0] := ho7)
  all_goals (have H7 := Lib.hid ho7')
  all_goals (have t7 : W.heap.size ≤ w7.heap.size := Nat.le_trans t6 hg7.size)
  all_goals (have y7 : ∀ j, w7.cell? ⟨w.heap.size, j, none⟩ = (#[.int .i32 n, .int .i8 0, .int .i64 0, .int .i32 0, .bool false, .slice none 0 0, .bool false, .slice none 0 0, .slice none 0 0] : Array Value)[j]? := fun j => (cell_grown hg7 (fun e => by have := O6.out.base _ e.symm; omega) (show w.heap.size < w6.heap.size by omega)).trans (y6 j))
  all_goals (have HB7 := Lib.hid (HB6.out.trans ((below_growB O6.out t6 hg7).lower (m := w.heap.size) (by omega))))
  all_goals (clear ho7 ho7' hg7 y6 O6 H6 HB6 t6 t5)
  all_goals go_wp2_with fail
  all_goals (refine (octW0 w7).mono ?_)
  all_goals (rintro e w8 ⟨v8, rfl, ho8, hb8⟩)
  all_goals (have H8 := Lib.hid (own_at_bytes ho8))
  all_goals (have O8 := Lib.hid (H7.out.stay hb8))
  all_goals (have t8 : W.heap.size ≤ w8.heap.size := Nat.le_trans t7 hb8.size)
  all_goals (have y8 : ∀ j, w8.cell? ⟨w.heap.size, j, none⟩ = (#[.int .i32 n, .int .i8 0, .int .i64 0, .int .i32 0, .bool false, .slice none 0 0, .bool false, .slice none 0 0, .slice none 0 0] : Array Value)[j]? := fun j => ((bcell hb8).1 w.heap.size j (show w.heap.size < w7.heap.size by omega)).trans (y7 j))
  all_goals (have HB8 := Lib.hid (HB7.out.trans (hb8.lower (m := w.heap.size) HB7.out.size)))
  all_goals (clear ho8 hb8 y7 H7 HB7)
  all_goals go_wp2_with (at_builtin; refine wpList_append_octets rfl _ _ rfl W.heap.size _ _ [0, 0, 0, 0] [0] Tr rfl rfl O8.out H8.out (by decide) t8 ?_)
  all_goals (intro v9 w9 ho9 hg9)
  all_goals (have ho9' : OwnB w9 W.heap.size v9 [0, 0, 0, 0, 0] := ho9)
  all_goals (have H9 := Lib.hid ho9')
  all_goals (have t9 : W.heap.size ≤ w9.heap.size := Nat.le_trans t8 hg9.size)
  all_goals (have y9 : ∀ j, w9.cell? ⟨w.heap.size, j, none⟩ = (#[.int .i32 n, .int .i8 0, .int .i64 0, .int .i32 0, .bool false, .slice none 0 0, .bool false, .slice none 0 0, .slice none 0 0] : Array Value)[j]? := fun j => (cell_grown hg9 (fun e => by have := O8.out.base _ e.symm; omega) (show w.heap.size < w8.heap.size by omega)).trans (y8 j))
  all_goals (have HB9 := Lib.hid (HB8.out.trans ((below_growB O8.out t8 hg9).lower (m := w.heap.size) (by omega))))
  all_goals (clear ho9 ho9' hg9 y8 O8 H8 HB8 t8 t7)
  all_goals go_wp2_with fail
  all_goals (refine (varW0 w9).mono ?_)
  all_goals (rintro e w10 ⟨v10, rfl, ho10, hb10⟩)
  all_goals (have H10 := Lib.hid (own_at_bytes ho10))
  all_goals (have O10 := Lib.hid (H9.out.stay hb10))
  all_goals (have t10 : W.heap.size ≤ w10.heap.size := Nat.le_trans t9 hb10.size)
  all_goals (have y10 : ∀ j, w10.cell? ⟨w.heap.size, j, none⟩ = (#[.int .i32 n, .int .i8 0, .int .i64 0, .int .i32 0, .bool false, .slice none 0 0, .bool false, .slice none 0 0, .slice none 0 0] : Array Value)[j]? := fun j => ((bcell hb10).1 w.heap.size j (show w.heap.size < w9.heap.size by omega)).trans (y9 j))
  all_goals (have HB10 := Lib.hid (HB9.out.trans (hb10.lower (m := w.heap.size) HB9.out.size)))
  all_goals (clear ho10 hb10 y9 H9 HB9)
  all_goals go_wp2_with (at_builtin; refine wpList_append_octets rfl _ _ rfl W.heap.size _ _ [0, 0, 0, 0, 0] [0] Tr rfl rfl O10.out H10.out (by decide) t10 ?_)
  all_goals (intro v11 w11 ho11 hg11)
  all_goals (have ho11' : OwnB w11 W.heap.size v11 [0, 0, 0, 0, 0, 0] := ho11)
  all_goals (have H11 := Lib.hid ho11')
  all_goals (have t11 : W.heap.size ≤ w11.heap.size := Nat.le_trans t10 hg11.size)
  all_goals (have y11 : ∀ j, w11.cell? ⟨w.heap.size, j, none⟩ = (#[.int .i32 n, .int .i8 0, .int .i64 0, .int .i32 0, .bool false, .slice none 0 0, .bool false, .slice none 0 0, .slice none 0 0] : Array Value)[j]? := fun j => (cell_grown hg11 (fun e => by have := O10.out.base _ e.symm; omega) (show w.heap.size < w10.heap.size by omega)).trans (y10 j))
  all_goals (have HB11 := Lib.hid (HB10.out.trans ((below_growB O10.out t10 hg11).lower (m := w.heap.size) (by omega))))
  all_goals (clear ho11 ho11' hg11 y10 O10 H10 HB10 t10 t9)
  all_goals go_wp2_with fail
  all_goals (refine wp_loop_rounds 1 ?_; rw [rounds_succ])
  all_goals go_wp2
  all_goals go_ret
  all_goals exact ⟨_, rfl, H11.out.low (base' := w.heap.size) (by omega), HB11.out⟩
set_option maxRecDepth 8000 in
set_option maxHeartbeats 1000000 in
theorem Measured0 (w : World) : Calls Tryd.prog 33 #[.agg #[.int .i32 0, .int .i8 0, .int .i64 0, .int .i32 0, .bool false, .slice none 0 0, .bool false, .slice none 0 0, .slice none 0 0]] w fun e w' => e = .returned (.agg #[.int .i32 6, .int .i8 0, .int .i64 0, .int .i32 0, .bool false, .slice none 0 0, .bool false, .slice none 0 0, .slice none 0 0]) ∧ Below w.heap.size w w' := by
  go_enter Tryd.func33, Tryd.ntmps33
  go_wp2_with fail
  refine (RecordRest0 _ 0).mono ?_
  rintro e w1 ⟨v, rfl, ho, hb⟩
  obtain ⟨p, c, rfl⟩ := bytes_len (own_bytes ho)
  have g1 : ((w.alloc (.cells #[.int .i32 0, .int .i8 0, .int .i64 0, .int .i32 0, .bool false, .slice none 0 0, .bool false, .slice none 0 0, .slice none 0 0] 80)).alloc (.cells #[.int .i32 0, .int .i8 0, .int .i64 0, .int .i32 0, .bool false, .slice none 0 0, .bool false, .slice none 0 0, .slice none 0 0] 80)).grownBy w1 none := below_grown hb none
  have hbw : Below w.heap.size w w1 := grown_below (grownBy_trans (grownBy_trans (grown_alloc _ _ none) (grown_alloc _ _ none)) g1)
  have r0 : w1.heap[w.heap.size]? = some (.cells #[.int .i32 0, .int .i8 0, .int .i64 0, .int .i32 0, .bool false, .slice none 0 0, .bool false, .slice none 0 0, .slice none 0 0] 80 (0, 0)) := by
    rw [hb.block w.heap.size (by rw [size_alloc, size_alloc]; omega), (grown_alloc _ _ none).block w.heap.size (by rw [size_alloc]; omega) (by simp)]
    exact Array.getElem?_push_size
  have r1 : w1.heap[w.heap.size + 1]? = some (.cells #[.int .i32 0, .int .i8 0, .int .i64 0, .int .i32 0, .bool false, .slice none 0 0, .bool false, .slice none 0 0, .slice none 0 0] 80 (0, 0)) := by
    rw [hb.block (w.heap.size + 1) (by rw [size_alloc, size_alloc]; omega)]
    have := Array.getElem?_push_size (xs := (w.alloc (.cells #[.int .i32 0, .int .i8 0, .int .i64 0, .int .i32 0, .bool false, .slice none 0 0, .bool false, .slice none 0 0, .slice none 0 0] 80)).heap) (x := Obj.cells #[.int .i32 0, .int .i8 0, .int .i64 0, .int .i32 0, .bool false, .slice none 0 0, .bool false, .slice none 0 0, .slice none 0 0] 80 (0, 0))
    rw [size_alloc] at this
    exact this
  have a0 : w1.cell? ⟨w.heap.size, 0, none⟩ = some (.int .i32 0) := by rw [cell_of_row w1 _ _ _ _ _ r0]; rfl
  have b0 : w1.cell? ⟨w.heap.size + 1, 0, none⟩ = some (.int .i32 0) := by rw [cell_of_row w1 _ _ _ _ _ r1]; rfl
  have g0' : w1.frozen? ⟨w.heap.size + 1, 0, none⟩ = false := by simp [World.frozen?, r1]
  have a1 : w1.cell? ⟨w.heap.size, 1, none⟩ = some (.int .i8 0) := by rw [cell_of_row w1 _ _ _ _ _ r0]; rfl
  have b1 : w1.cell? ⟨w.heap.size + 1, 1, none⟩ = some (.int .i8 0) := by rw [cell_of_row w1 _ _ _ _ _ r1]; rfl
  have g1' : w1.frozen? ⟨w.heap.size + 1, 1, none⟩ = false := by simp [World.frozen?, r1]
  have a2 : w1.cell? ⟨w.heap.size, 2, none⟩ = some (.int .i64 0) := by rw [cell_of_row w1 _ _ _ _ _ r0]; rfl
  have b2 : w1.cell? ⟨w.heap.size + 1, 2, none⟩ = some (.int .i64 0) := by rw [cell_of_row w1 _ _ _ _ _ r1]; rfl
  have g2' : w1.frozen? ⟨w.heap.size + 1, 2, none⟩ = false := by simp [World.frozen?, r1]
  have a3 : w1.cell? ⟨w.heap.size, 3, none⟩ = some (.int .i32 0) := by rw [cell_of_row w1 _ _ _ _ _ r0]; rfl
  have b3 : w1.cell? ⟨w.heap.size + 1, 3, none⟩ = some (.int .i32 0) := by rw [cell_of_row w1 _ _ _ _ _ r1]; rfl
  have g3' : w1.frozen? ⟨w.heap.size + 1, 3, none⟩ = false := by simp [World.frozen?, r1]
  have a4 : w1.cell? ⟨w.heap.size, 4, none⟩ = some (.bool false) := by rw [cell_of_row w1 _ _ _ _ _ r0]; rfl
  have b4 : w1.cell? ⟨w.heap.size + 1, 4, none⟩ = some (.bool false) := by rw [cell_of_row w1 _ _ _ _ _ r1]; rfl
  have g4' : w1.frozen? ⟨w.heap.size + 1, 4, none⟩ = false := by simp [World.frozen?, r1]
  have a5 : w1.cell? ⟨w.heap.size, 5, none⟩ = some (.slice none 0 0) := by rw [cell_of_row w1 _ _ _ _ _ r0]; rfl
  have b5 : w1.cell? ⟨w.heap.size + 1, 5, none⟩ = some (.slice none 0 0) := by rw [cell_of_row w1 _ _ _ _ _ r1]; rfl
  have g5' : w1.frozen? ⟨w.heap.size + 1, 5, none⟩ = false := by simp [World.frozen?, r1]
  have a6 : w1.cell? ⟨w.heap.size, 6, none⟩ = some (.bool false) := by rw [cell_of_row w1 _ _ _ _ _ r0]; rfl
  have b6 : w1.cell? ⟨w.heap.size + 1, 6, none⟩ = some (.bool false) := by rw [cell_of_row w1 _ _ _ _ _ r1]; rfl
  have g6' : w1.frozen? ⟨w.heap.size + 1, 6, none⟩ = false := by simp [World.frozen?, r1]
  have a7 : w1.cell? ⟨w.heap.size, 7, none⟩ = some (.slice none 0 0) := by rw [cell_of_row w1 _ _ _ _ _ r0]; rfl
  have b7 : w1.cell? ⟨w.heap.size + 1, 7, none⟩ = some (.slice none 0 0) := by rw [cell_of_row w1 _ _ _ _ _ r1]; rfl
  have g7' : w1.frozen? ⟨w.heap.size + 1, 7, none⟩ = false := by simp [World.frozen?, r1]
  have a8 : w1.cell? ⟨w.heap.size, 8, none⟩ = some (.slice none 0 0) := by rw [cell_of_row w1 _ _ _ _ _ r0]; rfl
  have b8 : w1.cell? ⟨w.heap.size + 1, 8, none⟩ = some (.slice none 0 0) := by rw [cell_of_row w1 _ _ _ _ _ r1]; rfl
  have g8' : w1.frozen? ⟨w.heap.size + 1, 8, none⟩ = false := by simp [World.frozen?, r1]
  have f0 : w1.frozen? ⟨w.heap.size, 0, none⟩ = false := by simp [World.frozen?, r0]
  have HB := Lib.hid hbw
  clear hb g1 r0 r1 ho hbw
  go_wp2
  refine bodyPost_ret (v := .agg #[.int .i32 6, .int .i8 0, .int .i64 0, .int .i32 0, .bool false, .slice none 0 0, .bool false, .slice none 0 0, .slice none 0 0]) (by simp [results, Tryd.results33, go_sem, b0, b1, b2, b3, b4, b5, b6, b7, b8]) rfl ?_
  refine ⟨rfl, grown_below ?_⟩
  repeat refine grown_new ?_ _ _ _ (by omega)
  exact below_grown HB.out none
end Go.Proofs.YthdfhnnoamlacaaDoor.Rec
