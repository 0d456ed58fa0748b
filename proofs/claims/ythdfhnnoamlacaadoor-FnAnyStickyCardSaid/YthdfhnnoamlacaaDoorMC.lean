/-
  Records: what the reference writes of a thing of nothing: a header, a record. Conditions: none.
  Records: what the reference writes of a record of nothing. Conditions: none.
  Records: the reference writes a record of nothing with its length. Conditions: none.
  Records: a record of nothing is read. Conditions: none.
-/
import Derived.Test.YthdfhnnoamlacaaDoorMB
import Derived.Test.YthdfhnnoamlacaaDoorPFnAnyHeaderx2
import Derived.Test.YthdfhnnoamlacaaDoorPFnAnyHeaderx3
import Derived.Deep.RegionLaw
namespace Go.Proofs.YthdfhnnoamlacaaDoor.Rec
open Go.Proofs.YthdfhnnoamlacaaDoor
open Go.RowKit (Below wrap64 wrap32)
open Go.Proofs.YthdfhnnoamlacaaDoorW Go.Proofs.YthdfhnnoamlacaaDoorW.PrintWords Go.Proofs.YthdfhnnoamlacaaDoorW.PrintMore Go.Proofs.YthdfhnnoamlacaaDoor.PFnAnyHeader
open Kz

theorem varW (w : World) (n : Int) (bs : List UInt8) (k : Nat) (h : spec_Varint.f k n = some (ns bs)) : Calls Tryd.prog 46 #[.int .i64 n] w fun e w' => ∃ v, e = .returned v ∧ OwnB w' w.heap.size v bs ∧ Below w.heap.size w w' := by
  refine (spec_Varint.calls k n (ns bs) w h).mono ?_
  rintro e w' ⟨v, rfl, hr, hb⟩
  exact ⟨v, rfl, own_of_r hr rfl, hb⟩
theorem varW0 (w : World) : Calls Tryd.prog 46 #[.int .i64 0] w fun e w' => ∃ v, e = .returned v ∧ OwnB w' w.heap.size v [0] ∧ Below w.heap.size w w' := varW w 0 [0] 5 (by kernel_rfl)
theorem octW0 (w : World) : Calls Tryd.prog 47 #[.agg #[.bool false, .slice none 0 0]] w fun e w' => ∃ v, e = .returned v ∧ OwnB w' w.heap.size v [0] ∧ Below w.heap.size w w' := by
  refine (spec_OctetsBytes.calls 5 false none 0 [] (ns [0]) w ⟨rfl, by decide, fun h => absurd h (by decide)⟩ (Nat.le_refl _) (by kernel_rfl)).mono ?_
  rintro e w' ⟨v, rfl, hr, hb⟩
  exact ⟨v, rfl, own_of_r hr rfl, hb⟩
/-- A text's append as a step of a region that draws its order. -/
theorem step_append_text {ops : Array Oper} {o : Oper} {a : Act} {w : World} {K : Act → World → Prop} {Q : Exit → Act → World → Prop} {E : Prop} (hgd : o.guard = none) (s x : Operand)
    (ho : o.op = .call { callee := .builtin .append, args := #[s, x], argTypes := #[22, 9] }) (base : Nat) (v : Value) (bs out : List UInt8) (hs : a.eval s = v) (hx : a.eval x = .string ⟨out.toArray⟩) (h : OwnB w base v bs)
    (hl : bs.length + out.length ≤ lim) (hb : base ≤ w.heap.size) (hk : ∀ v' w', OwnB w' base v' (bs ++ out) → w.grownBy w' v.ownBlock → K (a.put o.dst v') w') :
    if Region.wanted o (yielded ops a.tmps) = true then Oper.wp Tryd.prog o a w K Q else E := by
  have hw : Region.wanted o (yielded ops a.tmps) = true := by simp [Region.wanted, hgd]
  rw [if_pos hw]
  have hi : (Tryd.prog.info? 5).map (fun i => (i.zero, i.size, i.bytes)) = some (some (.int .u8 0), 1, 1) := by kernel_rfl
  obtain ⟨i, hi, hz, hsz, hby⟩ := info_parts hi
  simp only [lim] at hl
  have e : (⟨out.toArray⟩ : ByteArray).size = out.length := by simp [ByteArray.size]
  have hm1 : bs.length + (⟨out.toArray⟩ : ByteArray).size ≤ maxLen := by rw [e]; simp only [maxLen]; omega
  have hm2 : bs.length + (⟨out.toArray⟩ : ByteArray).size ≤ 140737488355328 := by rw [e]; omega
  obtain ⟨v', w', h1, h2, h3, -⟩ := Lib.run_append_own_string (P := Tryd.prog) w base 22 9 o.type 5 i Tryd.underlying22 Tryd.underlying9 hi hz hsz hby v bs.length (bs.map bv) h ⟨out.toArray⟩ hm1 hm2 hb
  refine Lib.wp_append_run w s x _ _ ho _ _ hs hx v' w' h1 (hk v' w' ?_ h3)
  unfold OwnB
  rw [List.length_append, List.map_append, ← strCells_bv, ← e]
  exact h2
set_option maxRecDepth 8000 in
set_option maxHeartbeats 1000000 in
theorem HeaderBytes0 (w : World) : Calls Tryd.prog 27 #[.agg #[.string ⟨#[]⟩, .bool false, .slice none 0 0]] w fun e w' => ∃ v, e = .returned v ∧ OwnB w' w.heap.size v [0, 0] ∧ Below w.heap.size w w' := by
  go_enter Tryd.func27, Tryd.ntmps27
  go_wp2_with fail
  generalize hW : w.alloc (.cells #[.string ⟨#[]⟩, .bool false, .slice none 0 0] 26) = W
  have hB : Below w.heap.size w W := by rw [← hW]; exact (Below.refl _ _).alloc (Nat.le_refl _) _
  have hz : W.heap[w.heap.size]? = some (.cells #[.string ⟨#[]⟩, .bool false, .slice none 0 0] 26 (0, 0)) := by rw [← hW]; exact Array.getElem?_push_size
  have hlt : w.heap.size < W.heap.size := (Array.getElem?_eq_some_iff.1 hz).1
  have y1 : ∀ j, W.cell? ⟨w.heap.size, j, none⟩ = (#[.string ⟨#[]⟩, .bool false, .slice none 0 0] : Array Value)[j]? := fun j => by rw [cell_of_row W _ _ _ _ _ hz]
  have y0 : ∀ j, W.drew.cell? ⟨w.heap.size, j, none⟩ = (#[.string ⟨#[]⟩, .bool false, .slice none 0 0] : Array Value)[j]? := y1
  have HB := Lib.hid hB
  clear hW hB hz
  go_region_held3 (fun w' => ∀ j, w'.cell? ⟨w.heap.size, j, none⟩ = (#[.string ⟨#[]⟩, .bool false, .slice none 0 0] : Array Value)[j]?) (with_reducible assumption) (first
    | (refine step_append_text rfl (.tmp 7) (.tmp 9) rfl W.heap.size v2 [0] [] rfl rfl H1.out (by decide) t2 (fun v3 w3 ho3 hg3 => ?_);
       have y3 := fun j => (cell_grown hg3 (fun e => by have := H1.out.base _ e.symm; omega) (show w.heap.size < w2.heap.size by omega)).trans (y2 j);
       have H3 := Lib.hid ho3; have t3 : W.heap.size ≤ w3.heap.size := Nat.le_trans t2 hg3.size; have HB3 := Lib.hid (HB2.out.trans ((below_growB H1.out t2 hg3).lower (m := w.heap.size) (by omega))); clear ho3 hg3)
    | (go_at_call 46; (with_reducible refine (varW0 W.drew).mono ?_); rintro e w2 ⟨v2, rfl, ho2, hb2'⟩; have hb2 : Below W.heap.size W w2 := below_undrew hb2';
       have y2 := fun j => ((bcell hb2).1 w.heap.size j hlt).trans (y1 j);
       have t2 : W.heap.size ≤ w2.heap.size := hb2.size;
       have H1 := Lib.hid (show OwnB w2 W.heap.size v2 [0] from ho2); have HB2 := Lib.hid (HB.out.trans (hb2.lower (m := w.heap.size) (by omega))); clear hb2' hb2 ho2))
  go_wp2_with fail
  refine (octW0 w3).mono ?_
  rintro e w4 ⟨v4, rfl, ho4, hb4⟩
  have H4 := Lib.hid (own_at_bytes ho4)
  have H5 := Lib.hid (H3.out.stay hb4)
  have t4 : W.heap.size ≤ w4.heap.size := Nat.le_trans t3 hb4.size
  have HB4 := Lib.hid (HB3.out.trans (hb4.lower (m := w.heap.size) HB3.out.size))
  clear ho4 hb4 y1 y0 y2 y3
  go_wp2_with (at_builtin; refine wpList_append_octets rfl _ _ rfl W.heap.size _ _ ([0] ++ []) [0] Tr rfl rfl H5.out H4.out (by decide) t4 ?_)
  intro v5 w5 ho5 hg5
  have H6 := Lib.hid (ho5.low (base' := w.heap.size) (by omega))
  have HB5 := Lib.hid (HB4.out.trans ((below_growB H5.out t4 hg5).lower (m := w.heap.size) (by omega)))
  clear ho5 hg5
  go_wp2
  go_ret
  exact ⟨_, rfl, H6.out, HB5.out⟩
end Go.Proofs.YthdfhnnoamlacaaDoor.Rec

namespace Go.Proofs.YthdfhnnoamlacaaDoor.Rec
open Go.Proofs.YthdfhnnoamlacaaDoor
open Go.RowKit (Below wrap64 wrap32)
open Kz
theorem alloc_keep {w : World} {b : Nat} {o : Obj} (hb : b < w.heap.size) {cs : Array Value} (h : ∀ j, w.cell? ⟨b, j, none⟩ = cs[j]?) (j : Nat) : (w.alloc o).cell? ⟨b, j, none⟩ = cs[j]? :=
  (cell_grown (grown_alloc w o none) (by simp) hb).trans (h j)
theorem own_one (w : World) (b : UInt8) : OwnB (w.alloc (.cells #[bv b] 5)) w.heap.size (.slice (some ⟨w.heap.size, 0, none⟩) 1 1) [b] :=
  ⟨rfl, .inr ⟨w.heap.size, 1, #[bv b], rfl, Nat.le_refl _, Array.getElem?_push_size, Nat.le_refl _, by decide, rfl, rfl⟩⟩
set_option maxRecDepth 8000 in
set_option maxHeartbeats 4000000 in
theorem RecordRest0 (w : World) (n : Int) : Calls Tryd.prog 52 #[.agg #[.int .i32 n, .int .i8 0, .int .i64 0, .int .i32 0, .bool false, .slice none 0 0, .bool false, .slice none 0 0, .slice none 0 0]] w fun e w' => ∃ v, e = .returned v ∧ OwnB w' w.heap.size v [0, 0, 0, 0, 0, 0] ∧ Below w.heap.size w w' := by
  go_enter Tryd.func52, Tryd.ntmps52
  go_wp2_with fail
  generalize hW : w.alloc (.cells #[.int .i32 n, .int .i8 0, .int .i64 0, .int .i32 0, .bool false, .slice none 0 0, .bool false, .slice none 0 0, .slice none 0 0] 80) = W
  have hB : Below w.heap.size w W := by rw [← hW]; exact (Below.refl _ _).alloc (Nat.le_refl _) _
  have hz : W.heap[w.heap.size]? = some (.cells #[.int .i32 n, .int .i8 0, .int .i64 0, .int .i32 0, .bool false, .slice none 0 0, .bool false, .slice none 0 0, .slice none 0 0] 80 (0, 0)) := by rw [← hW]; exact Array.getElem?_push_size
  have hlt : w.heap.size < W.heap.size := (Array.getElem?_eq_some_iff.1 hz).1
  have hltD : w.heap.size < W.drew.heap.size := hlt
  have y1 : ∀ j, W.cell? ⟨w.heap.size, j, none⟩ = (#[.int .i32 n, .int .i8 0, .int .i64 0, .int .i32 0, .bool false, .slice none 0 0, .bool false, .slice none 0 0, .slice none 0 0] : Array Value)[j]? := fun j => by rw [cell_of_row W _ _ _ _ _ hz]
  have y0 : ∀ j, W.drew.cell? ⟨w.heap.size, j, none⟩ = (#[.int .i32 n, .int .i8 0, .int .i64 0, .int .i32 0, .bool false, .slice none 0 0, .bool false, .slice none 0 0, .slice none 0 0] : Array Value)[j]? := y1
  have HB := Lib.hid hB
  clear hW hB hz
  have e0 : IntKind.u8.wrap 0 = 0 := by kernel_rfl
  have yA : ∀ j, ((W.alloc (.cells #[.int .u8 0] 5)).drew).cell? ⟨w.heap.size, j, none⟩ = (#[.int .i32 n, .int .i8 0, .int .i64 0, .int .i32 0, .bool false, .slice none 0 0, .bool false, .slice none 0 0, .slice none 0 0] : Array Value)[j]? := alloc_keep hlt y1
  go_region_held3 (fun w' => ∀ j, w'.cell? ⟨w.heap.size, j, none⟩ = (#[.int .i32 n, .int .i8 0, .int .i64 0, .int .i32 0, .bool false, .slice none 0 0, .bool false, .slice none 0 0, .slice none 0 0] : Array Value)[j]?) (first | with_reducible assumption | with_reducible exact alloc_keep hB2 y2) (first
    | (refine step_append_octets rfl (.tmp 9) (.tmp 12) rfl W.heap.size (.slice (some ⟨W.heap.size, 0, none⟩) 1 1) v2 [0] [0] rfl rfl HA.out (own_at_bytes HVA.out) (by decide) tA (fun v3 w3 ho3 hg3 => ?_);
       have y3 := fun j => (cell_grown hg3 (fun e => by have := HA.out.base _ e.symm; omega) (show w.heap.size < w2.heap.size by omega)).trans (yA2 j);
       have H3 := Lib.hid ho3; have t3 : W.heap.size ≤ w3.heap.size := Nat.le_trans tA hg3.size; have HB3 := Lib.hid (HBA.out.trans ((below_growB HA.out tA hg3).lower (m := w.heap.size) (by omega))); clear ho3 hg3)
    | (refine step_append_octets rfl (.tmp 9) (.tmp 12) rfl w2.heap.size (.slice (some ⟨w2.heap.size, 0, none⟩) 1 1) v2 [0] [0] rfl rfl (own_one w2 0) (own_at_bytes (H1.out.stay ((Below.refl _ _).alloc (Nat.le_refl _) _))) (by decide) (grown_alloc w2 _ none).size (fun v3 w3 ho3 hg3 => ?_);
       have y3 := fun j => (cell_grown hg3 (fun e => by have e := Option.some.inj e; simp only at e; omega) (show w.heap.size < (w2.alloc (.cells #[.int .u8 0] 5)).heap.size by rw [size_alloc]; omega)).trans (alloc_keep hB2 y2 j);
       have H3 := Lib.hid (ho3.low (base' := W.heap.size) t2); have t3 : W.heap.size ≤ w3.heap.size := Nat.le_trans t2 (Nat.le_trans (grown_alloc w2 (.cells #[.int .u8 0] 5) none).size hg3.size);
       have HB3 := Lib.hid ((HB2.out.trans ((Below.refl w2.heap.size w2).alloc (Nat.le_refl _) (.cells #[.int .u8 0] 5) |>.lower (m := w.heap.size) (by omega))).trans ((below_growB (own_one w2 0) (grown_alloc w2 _ none).size hg3).lower (m := w.heap.size) (by omega))); clear ho3 hg3)
    | (go_at_call 46; (with_reducible refine (varW0 W.drew).mono ?_); rintro e w2 ⟨v2, rfl, ho2, hb2'⟩; have hb2 : Below W.heap.size W w2 := below_undrew hb2';
       have y2 := fun j => ((bcell hb2).1 w.heap.size j hlt).trans (y1 j);
       have t2 : W.heap.size ≤ w2.heap.size := hb2.size;
       have hB2 : w.heap.size < w2.heap.size := by omega;
       have H1 := Lib.hid (show OwnB w2 W.heap.size v2 [0] from ho2); have HB2 := Lib.hid (HB.out.trans (hb2.lower (m := w.heap.size) (by omega))); clear hb2' hb2 ho2)
    | (go_at_call 46; (with_reducible refine (varW0 ((W.alloc (.cells #[.int .u8 0] 5)).drew)).mono ?_); rintro e w2 ⟨v2, rfl, ho2, hb2'⟩; have hb2 : Below (W.alloc (.cells #[.int .u8 0] 5)).heap.size (W.alloc (.cells #[.int .u8 0] 5)) w2 := below_undrew hb2';
       have yA2 := fun j => ((bcell hb2).1 w.heap.size j (by rw [size_alloc]; omega)).trans (yA j);
       have tA : W.heap.size ≤ w2.heap.size := Nat.le_trans (grown_alloc W _ none).size hb2.size;
       have hA2 : w.heap.size < w2.heap.size := by omega;
       have HA := Lib.hid ((own_one W 0).stay hb2);
       have HVA := Lib.hid ho2; have HBA := Lib.hid ((HB.out.alloc (by omega) (.cells #[.int .u8 0] 5)).trans (hb2.lower (m := w.heap.size) (by rw [size_alloc]; omega))); clear hb2' hb2 ho2))
  all_goals (have h3 : OwnB w3 W.heap.size v3 [0, 0] := H3.out)
  all_goals (clear H3)
  all_goals (have H3 := Lib.hid h3)
  all_goals (clear h3)
  all_goals go_wp2_with fail
  all_goals (refine (varW0 w3).mono ?_)
  all_goals (rintro e w4 ⟨v4, rfl, ho4, hb4⟩)
  all_goals (have H4 := Lib.hid (own_at_bytes ho4))
  all_goals (have O4 := Lib.hid (H3.out.stay hb4))
  all_goals (have t4 : W.heap.size ≤ w4.heap.size := Nat.le_trans t3 hb4.size)
  all_goals (have y4 : ∀ j, w4.cell? ⟨w.heap.size, j, none⟩ = (#[.int .i32 n, .int .i8 0, .int .i64 0, .int .i32 0, .bool false, .slice none 0 0, .bool false, .slice none 0 0, .slice none 0 0] : Array Value)[j]? := fun j => ((bcell hb4).1 w.heap.size j (show w.heap.size < w3.heap.size by omega)).trans (y3 j))
  all_goals (have HB4 := Lib.hid (HB3.out.trans (hb4.lower (m := w.heap.size) HB3.out.size)))
  all_goals (clear ho4 hb4 y3 H3 HB3)
  all_goals go_wp2_with (at_builtin; refine wpList_append_octets rfl _ _ rfl W.heap.size _ _ [0, 0] [0] Tr rfl rfl O4.out H4.out (by decide) t4 ?_)
  all_goals (intro v5 w5 ho5 hg5)
  all_goals (have ho5' : OwnB w5 W.heap.size v5 [0, 0, 0] := ho5)
  all_goals (have H5 := Lib.hid ho5')
  all_goals (have t5 : W.heap.size ≤ w5.heap.size := Nat.le_trans t4 hg5.size)
  all_goals (have y5 : ∀ j, w5.cell? ⟨w.heap.size, j, none⟩ = (#[.int .i32 n, .int .i8 0, .int .i64 0, .int .i32 0, .bool false, .slice none 0 0, .bool false, .slice none 0 0, .slice none 0 0] : Array Value)[j]? := fun j => (cell_grown hg5 (fun e => by have := O4.out.base _ e.symm; omega) (show w.heap.size < w4.heap.size by omega)).trans (y4 j))
  all_goals (have HB5 := Lib.hid (HB4.out.trans ((below_growB O4.out t4 hg5).lower (m := w.heap.size) (by omega))))
  all_goals (clear ho5 ho5' hg5 y4 O4 H4 HB4 t4 t3)
  all_goals go_wp2_with fail
  all_goals (refine (octW0 w5).mono ?_)
  all_goals (rintro e w6 ⟨v6, rfl, ho6, hb6⟩)
  all_goals (have H6 := Lib.hid (own_at_bytes ho6))
  all_goals (have O6 := Lib.hid (H5.out.stay hb6))
  all_goals (have t6 : W.heap.size ≤ w6.heap.size := Nat.le_trans t5 hb6.size)
  all_goals (have y6 : ∀ j, w6.cell? ⟨w.heap.size, j, none⟩ = (#[.int .i32 n, .int .i8 0, .int .i64 0, .int .i32 0, .bool false, .slice none 0 0, .bool false, .slice none 0 0, .slice none 0 0] : Array Value)[j]? := fun j => ((bcell hb6).1 w.heap.size j (show w.heap.size < w5.heap.size by omega)).trans (y5 j))
  all_goals (have HB6 := Lib.hid (HB5.out.trans (hb6.lower (m := w.heap.size) HB5.out.size)))
  all_goals (clear ho6 hb6 y5 H5 HB5)
  all_goals go_wp2_with (at_builtin; refine wpList_append_octets rfl _ _ rfl W.heap.size _ _ [0, 0, 0] [0] Tr rfl rfl O6.out H6.out (by decide) t6 ?_)
  all_goals (intro v7 w7 ho7 hg7)
  all_goals (have ho7' : OwnB w7 W.heap.size v7 [0, 0, 0, 0] := ho7)
  all_goals (have H7 := Lib.hid ho7')
  all_goals (have t7 : W.heap.size ≤ w7.heap.size := Nat.le_trans t6 hg7.size)
  all_goals (have y7 : ∀ j, w7.cell? ⟨w.heap.size, j, none⟩ = (#[.int .i32 n, .int .i8 0, .int .i64 0, .int .i32 0, .bool false, .slice none 0 0, .bool false, .slice none 0 0, .slice none 0 0] : Array Value)[j]? := fun j => (cell_grown hg7 (fun e => by have := O6.out.base _ e.symm; omega) (show w.heap.size < w6.heap.size by omega)).trans (y6 j))
  all_goals (have HB7 := Lib.hid (HB6.out.trans ((below_growB O6.out t6 hg7).lower (m := w.heap.size) (by omega))))
  all_goals (clear ho7 ho7' hg7 y6 O6 H6 HB6 t6 t5)
  all_goals go_wp2_with fail
  all_goals (refine (octW0 w7).mono ?_)
  all_goals (rintro e w8 ⟨v8, rfl, ho8, hb8⟩)
  all_goals (have H8 := Lib.hid (own_at_bytes ho8))
  all_goals (have O8 := Lib.hid (H7.out.stay hb8))
  all_goals (have t8 : W.heap.size ≤ w8.heap.size := Nat.le_trans t7 hb8.size)
  all_goals (have y8 : ∀ j, w8.cell? ⟨w.heap.size, j, none⟩ = (#[.int .i32 n, .int .i8 0, .int .i64 0, .int .i32 0, .bool false, .slice none 0 0, .bool false, .slice none 0 0, .slice none 0 0] : Array Value)[j]? := fun j => ((bcell hb8).1 w.heap.size j (show w.heap.size < w7.heap.size by omega)).trans (y7 j))
  all_goals (have HB8 := Lib.hid (HB7.out.trans (hb8.lower (m := w.heap.size) HB7.out.size)))
  all_goals (clear ho8 hb8 y7 H7 HB7)
  all_goals go_wp2_with (at_builtin; refine wpList_append_octets rfl _ _ rfl W.heap.size _ _ [0, 0, 0, 0] [0] Tr rfl rfl O8.out H8.out (by decide) t8 ?_)
  all_goals (intro v9 w9 ho9 hg9)
  all_goals (have ho9' : OwnB w9 W.heap.size v9 [0, 0, 0, 0, 0] := ho9)
  all_goals (have H9 := Lib.hid ho9')
  all_goals (have t9 : W.heap.size ≤ w9.heap.size := Nat.le_trans t8 hg9.size)
  all_goals (have y9 : ∀ j, w9.cell? ⟨w.heap.size, j, none⟩ = (#[.int .i32 n, .int .i8 0, .int .i64 0, .int .i32 0, .bool false, .slice none 0 0, .bool false, .slice none 0 0, .slice none 0 0] : Array Value)[j]? := fun j => (cell_grown hg9 (fun e => by have := O8.out.base _ e.symm; omega) (show w.heap.size < w8.heap.size by omega)).trans (y8 j))
  all_goals (have HB9 := Lib.hid (HB8.out.trans ((below_growB O8.out t8 hg9).lower (m := w.heap.size) (by omega))))
  all_goals (clear ho9 ho9' hg9 y8 O8 H8 HB8 t8 t7)
  all_goals go_wp2_with fail
  all_goals (refine (varW0 w9).mono ?_)
  all_goals (rintro e w10 ⟨v10, rfl, ho10, hb10⟩)
  all_goals (have H10 := Lib.hid (own_at_bytes ho10))
  all_goals (have O10 := Lib.hid (H9.out.stay hb10))
  all_goals (have t10 : W.heap.size ≤ w10.heap.size := Nat.le_trans t9 hb10.size)
  all_goals (have y10 : ∀ j, w10.cell? ⟨w.heap.size, j, none⟩ = (#[.int .i32 n, .int .i8 0, .int .i64 0, .int .i32 0, .bool false, .slice none 0 0, .bool false, .slice none 0 0, .slice none 0 0] : Array Value)[j]? := fun j => ((bcell hb10).1 w.heap.size j (show w.heap.size < w9.heap.size by omega)).trans (y9 j))
  all_goals (have HB10 := Lib.hid (HB9.out.trans (hb10.lower (m := w.heap.size) HB9.out.size)))
  all_goals (clear ho10 hb10 y9 H9 HB9)
  all_goals go_wp2_with (at_builtin; refine wpList_append_octets rfl _ _ rfl W.heap.size _ _ [0, 0, 0, 0, 0] [0] Tr rfl rfl O10.out H10.out (by decide) t10 ?_)
  all_goals (intro v11 w11 ho11 hg11)
  all_goals (have ho11' : OwnB w11 W.heap.size v11 [0, 0, 0, 0, 0, 0] := ho11)
  all_goals (have H11 := Lib.hid ho11')
  all_goals (have t11 : W.heap.size ≤ w11.heap.size := Nat.le_trans t10 hg11.size)
  all_goals (have y11 : ∀ j, w11.cell? ⟨w.heap.size, j, none⟩ = (#[.int .i32 n, .int .i8 0, .int .i64 0, .int .i32 0, .bool false, .slice none 0 0, .bool false, .slice none 0 0, .slice none 0 0] : Array Value)[j]? := fun j => (cell_grown hg11 (fun e => by have := O10.out.base _ e.symm; omega) (show w.heap.size < w10.heap.size by omega)).trans (y10 j))
  all_goals (have HB11 := Lib.hid (HB10.out.trans ((below_growB O10.out t10 hg11).lower (m := w.heap.size) (by omega))))
  all_goals (clear ho11 ho11' hg11 y10 O10 H10 HB10 t10 t9)
  all_goals go_wp2_with fail
  all_goals (refine wp_loop_rounds 1 ?_; rw [rounds_succ])
  all_goals go_wp2
  all_goals go_ret
  all_goals exact ⟨_, rfl, H11.out.low (base' := w.heap.size) (by omega), HB11.out⟩
set_option maxRecDepth 8000 in
set_option maxHeartbeats 1000000 in
theorem Measured0 (w : World) : Calls Tryd.prog 33 #[.agg #[.int .i32 0, .int .i8 0, .int .i64 0, .int .i32 0, .bool false, .slice none 0 0, .bool false, .slice none 0 0, .slice none 0 0]] w fun e w' => e = .returned (.agg #[.int .i32 6, .int .i8 0, .int .i64 0, .int .i32 0, .bool false, .slice none 0 0, .bool false, .slice none 0 0, .slice none 0 0]) ∧ Below w.heap.size w w' := by
  go_enter Tryd.func33, Tryd.ntmps33
  go_wp2_with fail
  refine (RecordRest0 _ 0).mono ?_
  rintro e w1 ⟨v, rfl, ho, hb⟩
  obtain ⟨p, c, rfl⟩ := bytes_len (own_bytes ho)
  have g1 : ((w.alloc (.cells #[.int .i32 0, .int .i8 0, .int .i64 0, .int .i32 0, .bool false, .slice none 0 0, .bool false, .slice none 0 0, .slice none 0 0] 80)).alloc (.cells #[.int .i32 0, .int .i8 0, .int .i64 0, .int .i32 0, .bool false, .slice none 0 0, .bool false, .slice none 0 0, .slice none 0 0] 80)).grownBy w1 none := below_grown hb none
  have hbw : Below w.heap.size w w1 := grown_below (grownBy_trans (grownBy_trans (grown_alloc _ _ none) (grown_alloc _ _ none)) g1)
  have r0 : w1.heap[w.heap.size]? = some (.cells #[.int .i32 0, .int .i8 0, .int .i64 0, .int .i32 0, .bool false, .slice none 0 0, .bool false, .slice none 0 0, .slice none 0 0] 80 (0, 0)) := by
    rw [hb.block w.heap.size (by rw [size_alloc, size_alloc]; omega), (grown_alloc _ _ none).block w.heap.size (by rw [size_alloc]; omega) (by simp)]
    exact Array.getElem?_push_size
  have r1 : w1.heap[w.heap.size + 1]? = some (.cells #[.int .i32 0, .int .i8 0, .int .i64 0, .int .i32 0, .bool false, .slice none 0 0, .bool false, .slice none 0 0, .slice none 0 0] 80 (0, 0)) := by
    rw [hb.block (w.heap.size + 1) (by rw [size_alloc, size_alloc]; omega)]
    have := Array.getElem?_push_size (xs := (w.alloc (.cells #[.int .i32 0, .int .i8 0, .int .i64 0, .int .i32 0, .bool false, .slice none 0 0, .bool false, .slice none 0 0, .slice none 0 0] 80)).heap) (x := Obj.cells #[.int .i32 0, .int .i8 0, .int .i64 0, .int .i32 0, .bool false, .slice none 0 0, .bool false, .slice none 0 0, .slice none 0 0] 80 (0, 0))
    rw [size_alloc] at this
    exact this
  have a0 : w1.cell? ⟨w.heap.size, 0, none⟩ = some (.int .i32 0) := by rw [cell_of_row w1 _ _ _ _ _ r0]; rfl
  have b0 : w1.cell? ⟨w.heap.size + 1, 0, none⟩ = some (.int .i32 0) := by rw [cell_of_row w1 _ _ _ _ _ r1]; rfl
  have g0' : w1.frozen? ⟨w.heap.size + 1, 0, none⟩ = false := by simp [World.frozen?, r1]
  have a1 : w1.cell? ⟨w.heap.size, 1, none⟩ = some (.int .i8 0) := by rw [cell_of_row w1 _ _ _ _ _ r0]; rfl
  have b1 : w1.cell? ⟨w.heap.size + 1, 1, none⟩ = some (.int .i8 0) := by rw [cell_of_row w1 _ _ _ _ _ r1]; rfl
  have g1' : w1.frozen? ⟨w.heap.size + 1, 1, none⟩ = false := by simp [World.frozen?, r1]
  have a2 : w1.cell? ⟨w.heap.size, 2, none⟩ = some (.int .i64 0) := by rw [cell_of_row w1 _ _ _ _ _ r0]; rfl
  have b2 : w1.cell? ⟨w.heap.size + 1, 2, none⟩ = some (.int .i64 0) := by rw [cell_of_row w1 _ _ _ _ _ r1]; rfl
  have g2' : w1.frozen? ⟨w.heap.size + 1, 2, none⟩ = false := by simp [World.frozen?, r1]
  have a3 : w1.cell? ⟨w.heap.size, 3, none⟩ = some (.int .i32 0) := by rw [cell_of_row w1 _ _ _ _ _ r0]; rfl
  have b3 : w1.cell? ⟨w.heap.size + 1, 3, none⟩ = some (.int .i32 0) := by rw [cell_of_row w1 _ _ _ _ _ r1]; rfl
  have g3' : w1.frozen? ⟨w.heap.size + 1, 3, none⟩ = false := by simp [World.frozen?, r1]
  have a4 : w1.cell? ⟨w.heap.size, 4, none⟩ = some (.bool false) := by rw [cell_of_row w1 _ _ _ _ _ r0]; rfl
  have b4 : w1.cell? ⟨w.heap.size + 1, 4, none⟩ = some (.bool false) := by rw [cell_of_row w1 _ _ _ _ _ r1]; rfl
  have g4' : w1.frozen? ⟨w.heap.size + 1, 4, none⟩ = false := by simp [World.frozen?, r1]
  have a5 : w1.cell? ⟨w.heap.size, 5, none⟩ = some (.slice none 0 0) := by rw [cell_of_row w1 _ _ _ _ _ r0]; rfl
  have b5 : w1.cell? ⟨w.heap.size + 1, 5, none⟩ = some (.slice none 0 0) := by rw [cell_of_row w1 _ _ _ _ _ r1]; rfl
  have g5' : w1.frozen? ⟨w.heap.size + 1, 5, none⟩ = false := by simp [World.frozen?, r1]
  have a6 : w1.cell? ⟨w.heap.size, 6, none⟩ = some (.bool false) := by rw [cell_of_row w1 _ _ _ _ _ r0]; rfl
  have b6 : w1.cell? ⟨w.heap.size + 1, 6, none⟩ = some (.bool false) := by rw [cell_of_row w1 _ _ _ _ _ r1]; rfl
  have g6' : w1.frozen? ⟨w.heap.size + 1, 6, none⟩ = false := by simp [World.frozen?, r1]
  have a7 : w1.cell? ⟨w.heap.size, 7, none⟩ = some (.slice none 0 0) := by rw [cell_of_row w1 _ _ _ _ _ r0]; rfl
  have b7 : w1.cell? ⟨w.heap.size + 1, 7, none⟩ = some (.slice none 0 0) := by rw [cell_of_row w1 _ _ _ _ _ r1]; rfl
  have g7' : w1.frozen? ⟨w.heap.size + 1, 7, none⟩ = false := by simp [World.frozen?, r1]
  have a8 : w1.cell? ⟨w.heap.size, 8, none⟩ = some (.slice none 0 0) := by rw [cell_of_row w1 _ _ _ _ _ r0]; rfl
  have b8 : w1.cell? ⟨w.heap.size + 1, 8, none⟩ = some (.slice none 0 0) := by rw [cell_of_row w1 _ _ _ _ _ r1]; rfl
  have g8' : w1.frozen? ⟨w.heap.size + 1, 8, none⟩ = false := by simp [World.frozen?, r1]
  have f0 : w1.frozen? ⟨w.heap.size, 0, none⟩ = false := by simp [World.frozen?, r0]
  have HB := Lib.hid hbw
  clear hb g1 r0 r1 ho hbw
  go_wp2
  refine bodyPost_ret (v := .agg #[.int .i32 6, .int .i8 0, .int .i64 0, .int .i32 0, .bool false, .slice none 0 0, .bool false, .slice none 0 0, .slice none 0 0]) (by simp [results, Tryd.results33, go_sem, b0, b1, b2, b3, b4, b5, b6, b7, b8]) rfl ?_
  refine ⟨rfl, grown_below ?_⟩
  repeat refine grown_new ?_ _ _ _ (by omega)
  exact below_grown HB.out none
end Go.Proofs.YthdfhnnoamlacaaDoor.Rec

namespace Go.Proofs.YthdfhnnoamlacaaDoor.Rec
open Go.Proofs.YthdfhnnoamlacaaDoor
open Go.RowKit (Below wrap64 wrap32)
open Go.Proofs.YthdfhnnoamlacaaDoorW Go.Proofs.YthdfhnnoamlacaaDoorW.PrintWords Go.Proofs.YthdfhnnoamlacaaDoorW.PrintMore Go.Proofs.YthdfhnnoamlacaaDoor.PFnAnyHeader
open Kz

theorem varW6 (w : World) : Calls Tryd.prog 46 #[.int .i64 6] w fun e w' => ∃ v, e = .returned v ∧ OwnB w' w.heap.size v [12] ∧ Below w.heap.size w w' := varW w 6 [12] 5 (by kernel_rfl)
set_option maxRecDepth 8000 in
set_option maxHeartbeats 1000000 in
theorem RecordBytes0 (w : World) : Calls Tryd.prog 32 #[.agg #[.int .i32 6, .int .i8 0, .int .i64 0, .int .i32 0, .bool false, .slice none 0 0, .bool false, .slice none 0 0, .slice none 0 0]] w fun e w' => ∃ v, e = .returned v ∧ OwnB w' w.heap.size v [12, 0, 0, 0, 0, 0, 0] ∧ Below w.heap.size w w' := by
  go_enter Tryd.func32, Tryd.ntmps32
  go_wp2_with fail
  generalize hW : w.alloc (.cells #[.int .i32 6, .int .i8 0, .int .i64 0, .int .i32 0, .bool false, .slice none 0 0, .bool false, .slice none 0 0, .slice none 0 0] 80) = W
  have hB : Below w.heap.size w W := by rw [← hW]; exact (Below.refl _ _).alloc (Nat.le_refl _) _
  have hz : W.heap[w.heap.size]? = some (.cells #[.int .i32 6, .int .i8 0, .int .i64 0, .int .i32 0, .bool false, .slice none 0 0, .bool false, .slice none 0 0, .slice none 0 0] 80 (0, 0)) := by rw [← hW]; exact Array.getElem?_push_size
  have hlt : w.heap.size < W.heap.size := (Array.getElem?_eq_some_iff.1 hz).1
  have y1 : ∀ j, W.cell? ⟨w.heap.size, j, none⟩ = (#[.int .i32 6, .int .i8 0, .int .i64 0, .int .i32 0, .bool false, .slice none 0 0, .bool false, .slice none 0 0, .slice none 0 0] : Array Value)[j]? := fun j => by rw [cell_of_row W _ _ _ _ _ hz]
  have y0 : ∀ j, W.drew.cell? ⟨w.heap.size, j, none⟩ = (#[.int .i32 6, .int .i8 0, .int .i64 0, .int .i32 0, .bool false, .slice none 0 0, .bool false, .slice none 0 0, .slice none 0 0] : Array Value)[j]? := y1
  have HB := Lib.hid hB
  clear hW hB hz
  have e6 : IntKind.i64.wrap 6 = 6 := by kernel_rfl
  go_region_held3 (fun w' => ∀ j, w'.cell? ⟨w.heap.size, j, none⟩ = (#[.int .i32 6, .int .i8 0, .int .i64 0, .int .i32 0, .bool false, .slice none 0 0, .bool false, .slice none 0 0, .slice none 0 0] : Array Value)[j]?) (with_reducible assumption) (first
    | (refine step_append_octets rfl (.tmp 6) (.tmp 8) rfl W.heap.size v2 v3 [12] [0, 0, 0, 0, 0, 0] rfl rfl H3.out (own_at_bytes H2.out) (by decide) t3 (fun v4 w4 ho4 hg4 => ?_);
       have y4 := fun j => (cell_grown hg4 (fun e => by have := H3.out.base _ e.symm; omega) (show w.heap.size < w3.heap.size by omega)).trans (y3 j);
       have H4 := Lib.hid ho4; have HB4 := Lib.hid (HB3.out.trans ((below_growB H3.out t3 hg4).lower (m := w.heap.size) (by omega))); clear ho4 hg4)
    | (go_at_call 46; (with_reducible refine (varW6 W.drew).mono ?_); rintro e w2 ⟨v2, rfl, ho2, hb2'⟩; have hb2 : Below W.heap.size W w2 := below_undrew hb2';
       have y2 := fun j => ((bcell hb2).1 w.heap.size j hlt).trans (y1 j);
       have t2 : W.heap.size ≤ w2.heap.size := hb2.size;
       have H1 := Lib.hid (show OwnB w2 W.heap.size v2 [12] from ho2); have HB2 := Lib.hid (HB.out.trans (hb2.lower (m := w.heap.size) (by omega))); clear hb2' hb2 ho2)
    | (go_at_call 52; (with_reducible refine (RecordRest0 w2 6).mono ?_); rintro e w3 ⟨v3, rfl, ho3, hb3⟩;
       have y3 := fun j => ((bcell hb3).1 w.heap.size j (show w.heap.size < w2.heap.size by omega)).trans (y2 j);
       have t3 : W.heap.size ≤ w3.heap.size := Nat.le_trans t2 hb3.size;
       have H3 := Lib.hid (H1.out.stay hb3); have H2 := Lib.hid ho3; have HB3 := Lib.hid (HB2.out.trans (hb3.lower (m := w.heap.size) (by omega))); clear hb3 ho3))
  go_wp2
  go_ret
  exact ⟨_, rfl, H4.out.low (base' := w.heap.size) (by omega), HB4.out⟩
end Go.Proofs.YthdfhnnoamlacaaDoor.Rec

namespace Go.Proofs.YthdfhnnoamlacaaDoor.Rec
open Go.Proofs.YthdfhnnoamlacaaDoor
open Go.RowKit (Below wrap64 wrap32)
open Kz

set_option maxRecDepth 8000 in
set_option maxHeartbeats 800000 in
theorem uvarlong0 (w : World) (g o n c : Nat) (hn : 1 ≤ n) (d0 : w.cell? ⟨g, o, none⟩ = some (.int .u8 0)) :
    Calls Tryd.prog 85 #[.slice (some ⟨g, o, none⟩) n c] w fun e w' => e = .returned (.tuple #[.int .u64 0, .int .i64 1]) ∧ w = w' := by
  have t0 : (bits BinOp.and IntKind.u8 0 128 == 0) = true := by kernel_rfl
  have t1 : bits BinOp.and IntKind.u8 0 127 = 0 := by kernel_rfl
  have t2 : IntKind.u64.wrap 0 = 0 := by kernel_rfl
  go_enter Tryd.func85, Tryd.ntmps85
  go_wp2
  go_step3
  go_wp2
  rw [Exit.noGoto_ret]
  go_ret2
  exact ⟨rfl, rfl⟩
theorem Varlong0 (w : World) (g o n c : Nat) (hn : 1 ≤ n) (d0 : w.cell? ⟨g, o, none⟩ = some (.int .u8 0)) :
    Calls Tryd.prog 83 #[.slice (some ⟨g, o, none⟩) n c] w fun e w' => e = .returned (.tuple #[.int .i64 0, .int .i64 1]) ∧ w = w' := by
  have t1 : bits BinOp.and IntKind.u64 0 1 = 0 := by kernel_rfl
  have t2 : IntKind.u64.wrap 0 = 0 := by kernel_rfl
  have t3 : bits BinOp.xor IntKind.u64 0 0 = 0 := by kernel_rfl
  have t4 : RowKit.wrap64 0 = 0 := by kernel_rfl
  go_enter Tryd.func83, Tryd.ntmps83
  go_wp2_with fail
  refine (uvarlong0 w g o n c hn d0).mono ?_
  rintro e w' ⟨rfl, rfl⟩
  go_wp2
  go_ret2
  exact ⟨rfl, rfl⟩
theorem RVarlong0 (w : World) (S : Nat → Prop) (rb : Nat) (r : List UInt8) (h : RdIs w S rb (some (0 :: r))) : Calls Tryd.prog 76 #[.pointer (some ⟨rb, 0, none⟩)] w fun e w' =>
    e = .returned (.int .i64 0) ∧ RdIs w' S rb (some r) ∧ w.grownBy w' (some rb) := by
  obtain ⟨v, hv, hb, h0, c0, c1, f0, f1⟩ := rd_parts h
  rcases hb with ⟨-, h⟩ | ⟨g, o, c, rfl, h2, h3, h4, h5, h6⟩
  · cases h
  have H := Lib.hid (Varlong0 w g o (0 :: r : List UInt8).length c (by simp) (h6 0 0 rfl))
  have hd := BytesAt.drop (S := S) 1 (by simp) rfl h2 h3 h4 h5 h6
  have HD := Lib.hid hd
  have HV := Lib.hid hv
  rw [List.length_cons] at c0 H h2 HD HV
  have t0 : decide ((1 : Int) ≤ 0) = false := by decide
  clear hd h6 hv h
  by_cases hne : c = 1
  · subst hne
    obtain rfl : r = [] := by simpa using h2
    go_enter Tryd.func76, Tryd.ntmps76
    go_wp2_with fail
    refine H.out.mono ?_
    rintro e w' ⟨rfl, rfl⟩
    go_wp2
    go_ret
    have ho := rd_on h0 (grownBy_refl _ _) HV.out (HD.out _ (.inr ⟨by trivial, rfl⟩))
    exact ⟨rfl, ho⟩
  · go_enter Tryd.func76, Tryd.ntmps76
    go_wp2_with fail
    refine H.out.mono ?_
    rintro e w' ⟨rfl, rfl⟩
    go_wp2
    go_ret
    have ho := rd_on h0 (grownBy_refl _ _) HV.out (HD.out _ (.inl rfl))
    exact ⟨rfl, ho⟩
theorem rVar {w : World} {S : Nat → Prop} {rb : Nat} {st st' : St} {n : Nat} (h : RdIs w S rb st) (e : rdV st = (n, st')) : Calls Tryd.prog 59 #[.pointer (some ⟨rb, 0, none⟩)] w fun e w' => e = .returned (.int .i32 (zig n)) ∧ RdIs w' S rb st' ∧ w.grownBy w' (some rb) := by
  have := RVarint_any w S rb st h
  rw [e] at this
  exact this.mono fun _ _ ⟨a, b, c, _⟩ => ⟨a, b, c⟩
theorem rVB0 {w : World} {S : Nat → Prop} {rb : Nat} {r : List UInt8} (h : RdIs w S rb (some (0 :: r))) : Calls Tryd.prog 44 #[.pointer (some ⟨rb, 0, none⟩)] w fun e w' => ∃ v, e = .returned v ∧ BytesAt w' S v [] ∧ RdIs w' S rb (some r) ∧ w.grownBy w' (some rb) := by
  have := VarintBytes_any w S rb (some (0 :: r)) h
  have e : rdVB (some (0 :: r)) = (some [], some r) := by
    have e1 : rdV (some (0 :: r)) = (0, some r) := rfl
    have e2 : zig 0 = 0 := rfl
    unfold rdVB
    rw [e1, e2, if_neg (by decide)]
    simp [rdSpan]
  rw [e] at this
  exact this.mono fun _ _ ⟨v, a, b, c, d⟩ => ⟨v, a, b.1, c, d⟩
theorem rVAL0 {w : World} {S : Nat → Prop} {rb : Nat} {r : List UInt8} (h : RdIs w S rb (some (0 :: r))) : Calls Tryd.prog 77 #[.pointer (some ⟨rb, 0, none⟩)] w fun e w' => e = .returned (.int .i32 0) ∧ RdIs w' S rb (some r) ∧ w.grownBy w' (some rb) := by
  have HV := Lib.hid (rVar h (n := 0) (st' := some r) rfl)
  have z0 : zig 0 = 0 := rfl
  rw [z0] at HV
  have t0 : decide ((r.length : Int) < 0) = false := by simp
  clear h z0
  go_enter Tryd.func77, Tryd.ntmps77
  go_wp2_with fail
  refine HV.out.mono ?_
  rintro e w1 ⟨rfl, h1, g1⟩
  obtain ⟨v, hv, hb, h0, c0, c1, f0, f1⟩ := rd_parts h1
  obtain ⟨ad, c, rfl⟩ := bytes_len hb
  have H1 := Lib.hid h1
  clear h1 hv hb
  go_wp2
  go_ret
  exact ⟨rfl, H1.out, g1⟩
set_option maxRecDepth 8000 in
set_option maxHeartbeats 4000000 in
theorem recreadFrom (w : World) (S : Nat → Prop) (B : Nat) (p : Option Addr) (c : Nat) (hB : w.heap[B]? = some (.cells #[.int .i32 0, .int .i8 0, .int .i32 0, .int .i64 0, .int .i32 0, .slice none 0 0, .slice none 0 0, .slice none 0 0] 110 (0, 0))) (h : BytesAt w S (.slice p 7 c) ([12, 0, 0, 0, 0, 0, 0])) (hSB : ¬ S B) (hS : ∀ g, S g → g < w.heap.size) (he : ErrOk w) (hBe : B ≠ 0) :
    Calls Tryd.prog 65 #[.pointer (some ⟨B, 0, none⟩), .slice p 7 c, .bool false] w fun e w' => ∃ v5 v6 : Value, e = .returned .nilIface ∧ w.grownBy w' (some B) ∧ w'.heap[B]? = some (.cells #[.int .i32 6, .int .i8 0, .int .i32 0, .int .i64 0, .int .i32 0, v5, v6, .slice none 0 0] 110 (0, 0)) ∧ BytesAt w' S v5 [] ∧ BytesAt w' S v6 [] := by
  have hBl : B < w.heap.size := (Array.getElem?_eq_some_iff.1 hB).1
  have HE := Lib.hid he
  have HR := Lib.hid (Rs.start hB h hS)
  have HSS := Lib.hid hS
  have z12 : zig 12 = 6 := rfl
  have z0 : zig 0 = 0 := rfl
  clear h hB he hS
  go_enter Tryd.func65, Tryd.ntmps65
  go_wp2_with fail
  refine (default_is Tryd.func75 rfl rfl _ _).mono ?_
  rintro e w' ⟨rfl, hw⟩
  have hw := hw.symm
  subst hw
  go_wp2_with fail
  refine (rVar (st := some ([12, 0, 0, 0, 0, 0, 0])) (n := 12) (st' := some ([0, 0, 0, 0, 0, 0])) HR.out.rd rfl).mono ?_
  rintro e w1 ⟨rfl, hr, g⟩
  have hR := HR.out.read hBl g hr
  have hc : w1.cell? ⟨B, 0, none⟩ = some (.int .i32 0) := hR.cell 0
  have hf : w1.frozen? ⟨B, 0, none⟩ = false := hR.frozen 0
  have hR2 : Rs w (w1.setCell ⟨B, 0, none⟩ (.int .i32 6)) S B 110 #[.int .i32 6, .int .i8 0, .int .i32 0, .int .i64 0, .int .i32 0, .slice none 0 0, .slice none 0 0, .slice none 0 0] (some ([0, 0, 0, 0, 0, 0])) := hR.store hSB hBl 0 (.int .i32 6)
  have HR := Lib.hid hR2
  clear hR hR2 g hr
  go_wp2_with fail
  refine (rI8 (st := some ([0, 0, 0, 0, 0, 0])) (x := 0) (st' := some ([0, 0, 0, 0, 0])) HR.out.rd (by kernel_rfl)).mono ?_
  rintro e w2 ⟨rfl, hr, g⟩
  have hR := HR.out.read hBl g hr
  have hc : w2.cell? ⟨B, 1, none⟩ = some (.int .i8 0) := hR.cell 1
  have hf : w2.frozen? ⟨B, 1, none⟩ = false := hR.frozen 1
  have hR2 : Rs w (w2.setCell ⟨B, 1, none⟩ (.int .i8 0)) S B 110 #[.int .i32 6, .int .i8 0, .int .i32 0, .int .i64 0, .int .i32 0, .slice none 0 0, .slice none 0 0, .slice none 0 0] (some ([0, 0, 0, 0, 0])) := hR.store hSB hBl 1 (.int .i8 0)
  have HR := Lib.hid hR2
  clear hR hR2 g hr
  go_wp2_with fail
  refine (RVarlong0 _ S _ ([0, 0, 0, 0]) HR.out.rd).mono ?_
  rintro e w3 ⟨rfl, hr, g⟩
  have hR := HR.out.read hBl g hr
  have hc : w3.cell? ⟨B, 3, none⟩ = some (.int .i64 0) := hR.cell 3
  have hf : w3.frozen? ⟨B, 3, none⟩ = false := hR.frozen 3
  have hc2 : w3.cell? ⟨B, 2, none⟩ = some (.int .i32 0) := hR.cell 2
  have hf2 : w3.frozen? ⟨B, 2, none⟩ = false := hR.frozen 2
  have e0 : RowKit.wrap32 0 = 0 := by kernel_rfl
  have hR2 : Rs w ((w3.setCell ⟨B, 3, none⟩ (.int .i64 0)).setCell ⟨B, 2, none⟩ (.int .i32 0)) S B 110 #[.int .i32 6, .int .i8 0, .int .i32 0, .int .i64 0, .int .i32 0, .slice none 0 0, .slice none 0 0, .slice none 0 0] (some ([0, 0, 0, 0])) := (hR.store hSB hBl 3 (.int .i64 0)).store hSB hBl 2 (.int .i32 0)
  have HR := Lib.hid hR2
  clear hR hR2 g hr
  go_wp2_with fail
  refine (rVar (st := some ([0, 0, 0, 0])) (n := 0) (st' := some ([0, 0, 0])) HR.out.rd rfl).mono ?_
  rintro e w4 ⟨rfl, hr, g⟩
  have hR := HR.out.read hBl g hr
  have hc : w4.cell? ⟨B, 4, none⟩ = some (.int .i32 0) := hR.cell 4
  have hf : w4.frozen? ⟨B, 4, none⟩ = false := hR.frozen 4
  have hR2 : Rs w (w4.setCell ⟨B, 4, none⟩ (.int .i32 0)) S B 110 #[.int .i32 6, .int .i8 0, .int .i32 0, .int .i64 0, .int .i32 0, .slice none 0 0, .slice none 0 0, .slice none 0 0] (some ([0, 0, 0])) := hR.store hSB hBl 4 (.int .i32 0)
  have HR := Lib.hid hR2
  clear hR hR2 g hr
  go_wp2_with fail
  refine (rVB0 (r := [0, 0]) HR.out.rd).mono ?_
  rintro e w5 ⟨v5, rfl, hv, hr, g⟩
  obtain ⟨a5, c5, rfl⟩ := bytes_len hv
  have HV5 := Lib.hid hv
  clear hv
  have hR := HR.out.read hBl g hr
  have hc : w5.cell? ⟨B, 5, none⟩ = some (.slice none 0 0) := hR.cell 5
  have hf : w5.frozen? ⟨B, 5, none⟩ = false := hR.frozen 5
  have hR2 : Rs w (w5.setCell ⟨B, 5, none⟩ (.slice a5 0 c5)) S B 110 #[.int .i32 6, .int .i8 0, .int .i32 0, .int .i64 0, .int .i32 0, .slice a5 0 c5, .slice none 0 0, .slice none 0 0] (some ([0, 0])) := hR.store hSB hBl 5 (.slice a5 0 c5)
  have HR := Lib.hid hR2
  clear hR hR2 g hr
  go_wp2_with fail
  refine (rVB0 (r := [0]) HR.out.rd).mono ?_
  rintro e w6 ⟨v6, rfl, hv, hr, g⟩
  obtain ⟨a6, c6, rfl⟩ := bytes_len hv
  have HV6 := Lib.hid hv
  clear hv
  have hR := HR.out.read hBl g hr
  have hc : w6.cell? ⟨B, 6, none⟩ = some (.slice none 0 0) := hR.cell 6
  have hf : w6.frozen? ⟨B, 6, none⟩ = false := hR.frozen 6
  have hR2 : Rs w (w6.setCell ⟨B, 6, none⟩ (.slice a6 0 c6)) S B 110 #[.int .i32 6, .int .i8 0, .int .i32 0, .int .i64 0, .int .i32 0, .slice a5 0 c5, .slice a6 0 c6, .slice none 0 0] (some ([0])) := hR.store hSB hBl 6 (.slice a6 0 c6)
  have HR := Lib.hid hR2
  have hl7 : (w6.setCell ⟨B, 6, none⟩ (.slice a6 0 c6)).cell? ⟨B, 7, none⟩ = some (.slice none 0 0) := hR2.cell 7
  clear hR hR2 g hr
  go_wp2_with fail
  refine (rVAL0 (r := []) HR.out.rd).mono ?_
  rintro e w7 ⟨rfl, hr, g⟩
  have hR := HR.out.read hBl g hr
  have HR := Lib.hid hR
  clear hR g hr
  go_wp2_with fail
  refine (Ok_any _ S w.heap.size _ HR.out.rd).mono ?_
  rintro e w9 ⟨rfl, hw9⟩
  subst hw9
  have hc7 : w7.cell? ⟨B, 7, none⟩ = some (.slice none 0 0) := HR.out.cell 7
  have hf7 : w7.frozen? ⟨B, 7, none⟩ = false := HR.out.frozen 7
  have HR2 := Lib.hid (HR.out.store hSB hBl 7 (.slice none 0 0))
  go_wp2_with fail
  refine wp_loop_rounds 1 ?_
  rw [rounds_succ]
  have hE := HE.out.kept HR2.out.grown (fun e => hBe (Option.some.inj e))
  go_wp2_with fail
  refine (Complete_any _ S w.heap.size _ HR2.out.rd hE).mono ?_
  rintro e w99 ⟨u, rfl, hu, hw99⟩
  subst hw99
  have hu : u = .nilIface := hu
  subst hu
  clear hE
  go_wp2
  go_ret
  exact ⟨_, _, rfl, HR2.out.grown, HR2.out.row, nil_s HV5.out HSS.out HR2.out.grown, nil_s HV6.out HSS.out HR2.out.grown⟩
theorem recReadFrom (w : World) (S : Nat → Prop) (B : Nat) (p : Option Addr) (c : Nat) (hB : w.heap[B]? = some (.cells #[.int .i32 0, .int .i8 0, .int .i32 0, .int .i64 0, .int .i32 0, .slice none 0 0, .slice none 0 0, .slice none 0 0] 110 (0, 0))) (h : BytesAt w S (.slice p 7 c) ([12, 0, 0, 0, 0, 0, 0])) (hSB : ¬ S B) (hS : ∀ g, S g → g < w.heap.size) (he : ErrOk w) (hBe : B ≠ 0) :
    Calls Tryd.prog 51 #[.pointer (some ⟨B, 0, none⟩), .slice p 7 c] w fun e w' => ∃ v5 v6 : Value, e = .returned .nilIface ∧ w.grownBy w' (some B) ∧ w'.heap[B]? = some (.cells #[.int .i32 6, .int .i8 0, .int .i32 0, .int .i64 0, .int .i32 0, v5, v6, .slice none 0 0] 110 (0, 0)) ∧ BytesAt w' S v5 [] ∧ BytesAt w' S v6 [] := by
  have HH := Lib.hid (recreadFrom w S B p c hB h hSB hS he hBe)
  clear hB h he
  go_enter Tryd.func51, Tryd.ntmps51
  go_wp2_with fail
  refine HH.out.mono ?_
  rintro e w1 ⟨v5, v6, rfl, hr⟩
  have HR := Lib.hid hr
  clear hr
  go_wp2
  go_ret
  exact ⟨_, _, rfl, HR.out⟩
end Go.Proofs.YthdfhnnoamlacaaDoor.Rec
