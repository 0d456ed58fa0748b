/-
  Records: what the reference writes of a thing of nothing: a header, a record. Conditions: none.
-/
import Derived.Test.YthdfhnnoamlacaaDoorQj
import Derived.Test.YthdfhnnoamlacaaDoorPFnAnyHeaderx2
import Derived.Test.YthdfhnnoamlacaaDoorPFnAnyHeaderx3
import Derived.Deep.RegionLaw
namespace Go.Proofs.YthdfhnnoamlacaaDoor.Rec
open Go.Proofs.YthdfhnnoamlacaaDoor
open Go.RowKit (Below wrap64 wrap32)
open Go.Proofs.YthdfhnnoamlacaaDoorW Go.Proofs.YthdfhnnoamlacaaDoorW.PrintWords Go.Proofs.YthdfhnnoamlacaaDoorW.PrintMore Go.Proofs.YthdfhnnoamlacaaDoor.PFnAnyHeader
open Kz

theorem varW (w : World) (n : Int) (bs : List UInt8) (k : Nat) (h : spec_Varint.f k n = some (ns bs)) : Calls Tryd.prog 46 #[.int .i64 n] w fun e w' => ∃ v, e = .returned v ∧ OwnB w' w.heap.size v bs ∧ Below w.heap.size w w' := by
  refine (spec_Varint.calls k n (ns bs) w h).mono ?_
  rintro e w' ⟨v, rfl, hr, hb⟩
  exact ⟨v, rfl, own_of_r hr rfl, hb⟩
theorem varW0 (w : World) : Calls Tryd.prog 46 #[.int .i64 0] w fun e w' => ∃ v, e = .returned v ∧ OwnB w' w.heap.size v [0] ∧ Below w.heap.size w w' := varW w 0 [0] 5 (by kernel_rfl)
theorem octW0 (w : World) : Calls Tryd.prog 47 #[.agg #[.bool false, .slice none 0 0]] w fun e w' => ∃ v, e = .returned v ∧ OwnB w' w.heap.size v [0] ∧ Below w.heap.size w w' := by
  refine (spec_OctetsBytes.calls 5 false none 0 [] (ns [0]) w ⟨rfl, by decide, fun h => absurd h (by decide)⟩ (Nat.le_refl _) (by kernel_rfl)).mono ?_
  rintro e w' ⟨v, rfl, hr, hb⟩
  exact ⟨v, rfl, own_of_r hr rfl, hb⟩
/-- A text's append as a step of a region that draws its order. -/
theorem step_append_text {ops : Array Oper} {o : Oper} {a : Act} {w : World} {K : Act → World → Prop} {Q : Exit → Act → World → Prop} {E : Prop} (hgd : o.guard = none) (s x : Operand)
    (ho : o.op = .call { callee := .builtin .append, args := #[s, x], argTypes := #[22, 9] }) (base : Nat) (v : Value) (bs out : List UInt8) (hs : a.eval s = v) (hx : a.eval x = .string ⟨out.toArray⟩) (h : OwnB w base v bs)
    (hl : bs.length + out.length ≤ lim) (hb : base ≤ w.heap.size) (hk : ∀ v' w', OwnB w' base v' (bs ++ out) → w.grownBy w' v.ownBlock → K (a.put o.dst v') w') :
    if Region.wanted o (yielded ops a.tmps) = true then Oper.wp Tryd.prog o a w K Q else E := by
  have hw : Region.wanted o (yielded ops a.tmps) = true := by simp [Region.wanted, hgd]
  rw [if_pos hw]
  have hi : (Tryd.prog.info? 5).map (fun i => (i.zero, i.size, i.bytes)) = some (some (.int .u8 0), 1, 1) := by kernel_rfl
  obtain ⟨i, hi, hz, hsz, hby⟩ := info_parts hi
  simp only [lim] at hl
  have e : (⟨out.toArray⟩ : ByteArray).size = out.length := by simp [ByteArray.size]
  have hm1 : bs.length + (⟨out.toArray⟩ : ByteArray).size ≤ maxLen := by rw [e]; simp only [maxLen]; omega
  have hm2 : bs.length + (⟨out.toArray⟩ : ByteArray).size ≤ 140737488355328 := by rw [e]; omega
  obtain ⟨v', w', h1, h2, h3, -⟩ := Lib.run_append_own_string (P := Tryd.prog) w base 22 9 o.type 5 i Tryd.underlying22 Tryd.underlying9 hi hz hsz hby v bs.length (bs.map bv) h ⟨out.toArray⟩ hm1 hm2 hb
  refine Lib.wp_append_run w s x _ _ ho _ _ hs hx v' w' h1 (hk v' w' ?_ h3)
  unfold OwnB
  rw [List.length_append, List.map_append, ← strCells_bv, ← e]
  exact h2
set_option maxRecDepth 8000 in
set_option maxHeartbeats 1000000 in
theorem HeaderBytes0 (w : World) : Calls Tryd.prog 27 #[.agg #[.string ⟨#[]⟩, .bool false, .slice none 0 0]] w fun e w' => ∃ v, e = .returned v ∧ OwnB w' w.heap.size v [0, 0] ∧ Below w.heap.size w w' := by
  go_enter Tryd.func27, Tryd.ntmps27
  go_wp2_with fail
  generalize hW : w.alloc (.cells #[.string ⟨#[]⟩, .bool false, .slice none 0 0] 26) = W
  have hB : Below w.heap.size w W := by rw [← hW]; exact (Below.refl _ _).alloc (Nat.le_refl _) _
  have hz : W.heap[w.heap.size]? = some (.cells #[.string ⟨#[]⟩, .bool false, .slice none 0 0] 26 (0, 0)) := by rw [← hW]; exact Array.getElem?_push_size
  have hlt : w.heap.size < W.heap.size := (Array.getElem?_eq_some_iff.1 hz).1
  have y1 : ∀ j, W.cell? ⟨w.heap.size, j, none⟩ = (#[.string ⟨#[]⟩, .bool false, .slice none 0 0] : Array Value)[j]? := fun j => by rw [cell_of_row W _ _ _ _ _ hz]
  have y0 : ∀ j, W.drew.cell? ⟨w.heap.size, j, none⟩ = (#[.string ⟨#[]⟩, .bool false, .slice none 0 0] : Array Value)[j]? := y1
  have HB := Lib.hid hB
  clear hW hB hz
  go_region_held3 (fun w' => ∀ j, w'.cell? ⟨w.heap.size, j, none⟩ = (#[.string ⟨#[]⟩, .bool false, .slice none 0 0] : Array Value)[j]?) (with_reducible assumption) (first
    | (refine step_append_text rfl (.tmp 7) (.tmp 9) rfl W.heap.size v2 [0] [] rfl rfl H1.out (by decide) t2 (fun v3 w3 ho3 hg3 => ?_);
       have y3 := fun j => (cell_grown hg3 (fun e => by have := H1.out.base _ e.symm; omega) (show w.heap.size < w2.heap.size by omega)).trans (y2 j);
       have H3 := Lib.hid ho3; have t3 : W.heap.size ≤ w3.heap.size := Nat.le_trans t2 hg3.size; have HB3 := Lib.hid (HB2.out.trans ((below_growB H1.out t2 hg3).lower (m := w.heap.size) (by omega))); clear ho3 hg3)
    | (go_at_call 46; (with_reducible refine (varW0 W.drew).mono ?_); rintro e w2 ⟨v2, rfl, ho2, hb2'⟩; have hb2 : Below W.heap.size W w2 := below_undrew hb2';
       have y2 := fun j => ((bcell hb2).1 w.heap.size j hlt).trans (y1 j);
       have t2 : W.heap.size ≤ w2.heap.size := hb2.size;
       have H1 := Lib.hid (show OwnB w2 W.heap.size v2 [0] from ho2); have HB2 := Lib.hid (HB.out.trans (hb2.lower (m := w.heap.size) (by omega))); clear hb2' hb2 ho2))
  go_wp2_with fail
  refine (octW0 w3).mono ?_
  rintro e w4 ⟨v4, rfl, ho4, hb4⟩
  have H4 := Lib.hid (own_at_bytes ho4)
  have H5 := Lib.hid (H3.out.stay hb4)
  have t4 : W.heap.size ≤ w4.heap.size := Nat.le_trans t3 hb4.size
  have HB4 := Lib.hid (HB3.out.trans (hb4.lower (m := w.heap.size) HB3.out.size))
  clear ho4 hb4 y1 y0 y2 y3
  go_wp2_with (at_builtin; refine wpList_append_octets rfl _ _ rfl W.heap.size _ _ ([0] ++ []) [0] Tr rfl rfl H5.out H4.out (by decide) t4 ?_)
  intro v5 w5 ho5 hg5
  have H6 := Lib.hid (ho5.low (base' := w.heap.size) (by omega))
  have HB5 := Lib.hid (HB4.out.trans ((below_growB H5.out t4 hg5).lower (m := w.heap.size) (by omega)))
  clear ho5 hg5
  go_wp2
  go_ret
  exact ⟨_, rfl, H6.out, HB5.out⟩
end Go.Proofs.YthdfhnnoamlacaaDoor.Rec
