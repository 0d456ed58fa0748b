/-
  Records: the reference writes a record of nothing with its length. Conditions: none.
-/
import Derived.Test.YthdfhnnoamlacaaDoorQl
namespace Go.Proofs.YthdfhnnoamlacaaDoor.Rec
open Go.Proofs.YthdfhnnoamlacaaDoor
open Go.RowKit (Below wrap64 wrap32)
open Go.Proofs.YthdfhnnoamlacaaDoorW Go.Proofs.YthdfhnnoamlacaaDoorW.PrintWords Go.Proofs.YthdfhnnoamlacaaDoorW.PrintMore Go.Proofs.YthdfhnnoamlacaaDoor.PFnAnyHeader
open Kz

theorem varW6 (w : World) : Calls Tryd.prog 46 #[.int .i64 6] w fun e w' => ∃ v, e = .returned v ∧ OwnB w' w.heap.size v [12] ∧ Below w.heap.size w w' := varW w 6 [12] 5 (by kernel_rfl)
set_option maxRecDepth 8000 in
set_option maxHeartbeats 1000000 in
theorem RecordBytes0 (w : World) : Calls Tryd.prog 32 #[.agg #[.int .i32 6, .int .i8 0, .int .i64 0, .int .i32 0, .bool false, .slice none 0 0, .bool false, .slice none 0 0, .slice none 0 0]] w fun e w' => ∃ v, e = .returned v ∧ OwnB w' w.heap.size v [12, 0, 0, 0, 0, 0, 0] ∧ Below w.heap.size w w' := by
  go_enter Tryd.func32, Tryd.ntmps32
  go_wp2_with fail
  generalize hW : w.alloc (.cells #[.int .i32 6, .int .i8 0, .int .i64 0, .int .i32 0, .bool false, .slice none 0 0, .bool false, .slice none 0 0, .slice none 0 0] 80) = W
  have hB : Below w.heap.size w W := by rw [← hW]; exact (Below.refl _ _).alloc (Nat.le_refl _) _
  have hz : W.heap[w.heap.size]? = some (.cells #[.int .i32 6, .int .i8 0, .int .i64 0, .int .i32 0, .bool false, .slice none 0 0, .bool false, .slice none 0 0, .slice none 0 0] 80 (0, 0)) := by rw [← hW]; exact Array.getElem?_push_size
  have hlt : w.heap.size < W.heap.size := (Array.getElem?_eq_some_iff.1 hz).1
  have y1 : ∀ j, W.cell? ⟨w.heap.size, j, none⟩ = (#[.int .i32 6, .int .i8 0, .int .i64 0, .int .i32 0, .bool false, .slice none 0 0, .bool false, .slice none 0 0, .slice none 0 0] : Array Value)[j]? := fun j => by rw [cell_of_row W _ _ _ _ _ hz]
  have y0 : ∀ j, W.drew.cell? ⟨w.heap.size, j, none⟩ = (#[.int .i32 6, .int .i8 0, .int .i64 0, .int .i32 0, .bool false, .slice none 0 0, .bool false, .slice none 0 0, .slice none 0 0] : Array Value)[j]? := y1
  have HB := Lib.hid hB
  clear hW hB hz
  have e6 : IntKind.i64.wrap 6 = 6 := by kernel_rfl
  go_region_held3 (fun w' => ∀ j, w'.cell? ⟨w.heap.size, j, none⟩ = (#[.int .i32 6, .int .i8 0, .int .i64 0, .int .i32 0, .bool false, .slice none 0 0, .bool false, .slice none 0 0, .slice none 0 0] : Array Value)[j]?) (with_reducible assumption) (first
    | (refine step_append_octets rfl (.tmp 6) (.tmp 8) rfl W.heap.size v2 v3 [12] [0, 0, 0, 0, 0, 0] rfl rfl H3.out (own_at_bytes H2.out) (by decide) t3 (fun v4 w4 ho4 hg4 => ?_);
       have y4 := fun j => (cell_grown hg4 (fun e => by have := H3.out.base _ e.symm; omega) (show w.heap.size < w3.heap.size by omega)).trans (y3 j);
       have H4 := Lib.hid ho4; have HB4 := Lib.hid (HB3.out.trans ((below_growB H3.out t3 hg4).lower (m := w.heap.size) (by omega))); clear ho4 hg4)
    | (go_at_call 46; (with_reducible refine (varW6 W.drew).mono ?_); rintro e w2 ⟨v2, rfl, ho2, hb2'⟩; have hb2 : Below W.heap.size W w2 := below_undrew hb2';
       have y2 := fun j => ((bcell hb2).1 w.heap.size j hlt).trans (y1 j);
       have t2 : W.heap.size ≤ w2.heap.size := hb2.size;
       have H1 := Lib.hid (show OwnB w2 W.heap.size v2 [12] from ho2); have HB2 := Lib.hid (HB.out.trans (hb2.lower (m := w.heap.size) (by omega))); clear hb2' hb2 ho2)
    | (go_at_call 52; (with_reducible refine (RecordRest0 w2 6).mono ?_); rintro e w3 ⟨v3, rfl, ho3, hb3⟩;
       have y3 := fun j => ((bcell hb3).1 w.heap.size j (show w.heap.size < w2.heap.size by omega)).trans (y2 j);
       have t3 : W.heap.size ≤ w3.heap.size := Nat.le_trans t2 hb3.size;
       have H3 := Lib.hid (H1.out.stay hb3); have H2 := Lib.hid ho3; have HB3 := Lib.hid (HB2.out.trans (hb3.lower (m := w.heap.size) (by omega))); clear hb3 ho3))
  go_wp2
  go_ret
  exact ⟨_, rfl, H4.out.low (base' := w.heap.size) (by omega), HB4.out⟩
end Go.Proofs.YthdfhnnoamlacaaDoor.Rec
