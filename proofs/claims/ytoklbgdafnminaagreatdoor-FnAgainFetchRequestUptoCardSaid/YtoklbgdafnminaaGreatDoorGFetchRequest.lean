/-
  Whatever a FetchRequest says, written by the rules of the protocol, is read, and written back. Conditions: none.
-/
import Derived.Test.YtoklbgdafnminaaGreatDoorWFetchRequest
import Derived.Test.YtoklbgdafnminaaGreatDoorY7
namespace Go.Proofs.YtoklbgdafnminaaGreatDoor.FetchRequest
open Go.Proofs.YtoklbgdafnminaaGreatDoor
open Go.RowKit
open Kz
theorem againA : AgainOk 22 msg := again.all
theorem maxv (w : World) : Calls Tryz.prog 20 #[] w fun e w' => e = .returned (.int .i64 18) ∧ Below w.heap.size w w' := by
  go_enter Tryz.func20, Tryz.ntmps20
  go_wp2_with (first
    | (go_at_call 45; refine (news.2 _).mono ?_; rintro e w' ⟨rfl, rfl⟩)
    | go_in)
  all_goals go_ret
  exact ⟨rfl, rfl, rfl, rfl, by simp, fun k hk => alloc_old w _ k hk⟩
theorem okv (v : Int) (h0 : 0 ≤ v) (h1 : v < 19) : msg.ok v = true := by
  have h : v = 0 ∨ v = 1 ∨ v = 2 ∨ v = 3 ∨ v = 4 ∨ v = 5 ∨ v = 6 ∨ v = 7 ∨ v = 8 ∨ v = 9 ∨ v = 10 ∨ v = 11 ∨ v = 12 ∨ v = 13 ∨ v = 14 ∨ v = 15 ∨ v = 16 ∨ v = 17 ∨ v = 18 := by omega
  rcases h with rfl | rfl | rfl | rfl | rfl | rfl | rfl | rfl | rfl | rfl | rfl | rfl | rfl | rfl | rfl | rfl | rfl | rfl | rfl
  all_goals exact of_decide_eq_true (by kernel_rfl)
set_option maxRecDepth 8000 in
set_option maxHeartbeats 1000000 in
theorem sp_fss2 : PartsOk 47 fss2 := by
  intro w
  go_enter Tryz.func47, Tryz.ntmps47
  go_wp2
  go_ret
  exact ⟨_, rfl, FL.of_row (fs := fss2) (alloc_last _ _) (by rfl) (ss := List.replicate 2 (.slice none 0 0)) (by rfl) (by kernel_rfl) (FL.none_within (by kernel_rfl) rfl) (by rfl), below_push _ (Nat.le_refl _) _ rfl⟩
set_option maxRecDepth 8000 in
set_option maxHeartbeats 1000000 in
theorem sp_fss9s2 : PartsOk 91 fss9s2 := by
  intro w
  go_enter Tryz.func91, Tryz.ntmps91
  go_wp2
  go_ret
  exact ⟨_, rfl, FL.of_row (fs := fss9s2) (alloc_last _ _) (by rfl) (ss := List.replicate 8 (.slice none 0 0)) (by rfl) (by kernel_rfl) (FL.none_within (by kernel_rfl) rfl) (by rfl), below_push _ (Nat.le_refl _) _ rfl⟩
set_option maxRecDepth 8000 in
set_option maxHeartbeats 1000000 in
theorem sp_fss9 : PartsOk 48 fss9 := by
  intro w
  go_enter Tryz.func48, Tryz.ntmps48
  go_wp2_with fail
  refine (sp_fss9s2 _).mono ?_
  rintro e z0 ⟨x0, rfl, hf0, hb0⟩
  obtain ⟨p0, c0, rfl⟩ := hf0.len
  have F0 := Lib.hid hf0
  have B0 := Lib.hid hb0
  clear hf0 hb0
  go_wp2
  go_ret
  have hfl : FLs z0 fss9 [.slice none 0 0, .slice none 0 0, .slice p0 (List.length fss9s2) c0] := (.cons .nil (.cons .nil (.cons F0.out .nil)))
  exact ⟨_, rfl, FL.of_row (fs := fss9) (alloc_last _ _) (by rfl) (ss := [.slice none 0 0, .slice none 0 0, .slice p0 (List.length fss9s2) c0]) (by rfl) (by kernel_rfl) (FLs.get (hfl.stay (below_push _ (Nat.le_refl _) _ rfl))) (by rfl), below_box B0.out (Nat.le_refl _)⟩
set_option maxRecDepth 8000 in
set_option maxHeartbeats 1000000 in
theorem sp_fss10 : PartsOk 49 fss10 := by
  intro w
  go_enter Tryz.func49, Tryz.ntmps49
  go_wp2
  go_ret
  exact ⟨_, rfl, FL.of_row (fs := fss10) (alloc_last _ _) (by rfl) (ss := List.replicate 3 (.slice none 0 0)) (by rfl) (by kernel_rfl) (FL.none_within (by kernel_rfl) rfl) (by rfl), below_push _ (Nat.le_refl _) _ rfl⟩
set_option maxRecDepth 8000 in
set_option maxHeartbeats 1000000 in
theorem spec : SpecOk 21 msg := by
  intro w
  go_enter Tryz.func21, Tryz.ntmps21
  go_wp2_with fail
  refine (sp_fss2 _).mono ?_
  rintro e z0 ⟨x0, rfl, hf0, hb0⟩
  obtain ⟨p0, c0, rfl⟩ := hf0.len
  have F0 := Lib.hid hf0
  have B0 := Lib.hid ((below_push w.heap.size (Nat.le_refl _) (.cells #[.slice none 0 0, iv 0] 33) rfl).trans (hb0.lower (m := w.heap.size) (by simp)))
  have HX : Hid (z0.heap[w.heap.size]? = some (.cells #[.slice none 0 0, iv 0] 33 (0, 0))) := Lib.hid ((hb0.block _ (by simp)).trans (alloc_last w _))
  clear hf0 hb0
  go_wp2_with fail
  refine (sp_fss9 _).mono ?_
  rintro e z1 ⟨x1, rfl, hf1, hb1⟩
  obtain ⟨p1, c1, rfl⟩ := hf1.len
  have F1 := Lib.hid hf1
  have B1 := Lib.hid (B0.out.trans (hb1.lower (m := w.heap.size) B0.out.size))
  have F0 := Lib.hid (F0.out.stay hb1)
  have HX := Lib.hid ((hb1.block _ (Array.getElem?_eq_some_iff.1 HX.out).1).trans HX.out)
  clear hf1 hb1
  go_wp2_with fail
  refine (sp_fss10 _).mono ?_
  rintro e z2 ⟨x2, rfl, hf2, hb2⟩
  obtain ⟨p2, c2, rfl⟩ := hf2.len
  have F2 := Lib.hid hf2
  have B2 := Lib.hid (B1.out.trans (hb2.lower (m := w.heap.size) B1.out.size))
  have F0 := Lib.hid (F0.out.stay hb2)
  have F1 := Lib.hid (F1.out.stay hb2)
  have HX := Lib.hid ((hb2.block _ (Array.getElem?_eq_some_iff.1 HX.out).1).trans HX.out)
  clear hf2 hb2
  have y0 : z2.cell? ⟨w.heap.size, 0, none⟩ = some (.slice none 0 0) := cell_of_row _ _ _ _ _ _ HX.out
  have y1 : z2.cell? ⟨w.heap.size, 1, none⟩ = some (iv 0) := cell_of_row _ _ _ _ _ _ HX.out
  have g0 : z2.frozen? ⟨w.heap.size, 0, none⟩ = false := frozen_of_row _ _ _ _ _ HX.out
  have g1 : z2.frozen? ⟨w.heap.size, 1, none⟩ = false := frozen_of_row _ _ _ _ _ HX.out
  have hlt : w.heap.size < z2.heap.size := (Array.getElem?_eq_some_iff.1 HX.out).1
  go_wp2
  have hfl : FLs z2 fs [.slice none 0 0, .slice none 0 0, .slice p0 (List.length fss2) c0, .slice none 0 0, .slice none 0 0, .slice none 0 0, .slice none 0 0, .slice none 0 0, .slice none 0 0, .slice p1 (List.length fss9) c1, .slice p2 (List.length fss10) c2, .slice none 0 0] := (.cons .nil (.cons .nil (.cons F0.out (.cons .nil (.cons .nil (.cons .nil (.cons .nil (.cons .nil (.cons .nil (.cons F1.out (.cons F2.out (.cons .nil .nil))))))))))))
  obtain ⟨k1, k2, k3⟩ := msg_end (m := msg) (ty := 48) (n := 12) (x := 12) B2.out HX.out hfl (by kernel_rfl) (by rfl) (by rfl) (by rfl) (by rfl)
  have hl2 : w.heap.size < (z2.setCell ⟨w.heap.size, 0, none⟩ (.slice (some ⟨z2.heap.size, 0, none⟩) 12 12)).heap.size := by simpa [World.setCell] using hlt
  rw [World.setCell_alloc_past _ _ _ _ hlt, World.setCell_alloc_past _ _ _ _ hl2] at k1 k2 k3
  exact ⟨rfl, _, (results_cell1 (p := 0) (ty := 33) (by kernel_rfl) _ _ _).trans k1, _, rfl, k2, k3⟩

set_option maxRecDepth 8000 in
set_option maxHeartbeats 4000000 in
theorem walk (w : World) (n : Int) (h0 : 0 ≤ n) (h1' : n < 256) (tv : Value) (t : T) (ht : TreeV w tv t) (her : ErrOk w) (hz : ∀ v, (write msg v t).length < 4294967296) :
    Calls Tryz.prog 6 #[.int .u8 n, tv] w fun e w' => e = .returned (.bool true) ∧ Below w.heap.size w w' := by
  obtain ⟨s, l, u, rfl, h1, h2, h3⟩ := ht
  obtain ⟨a1, c1, rfl⟩ := h1.len
  obtain ⟨a2, c2, rfl⟩ := h2.len
  obtain ⟨a3, c3, rfl⟩ := h3.len
  have HT : Hid (TreeV w (treV t.n t.null (.slice a1 t.s.length c1) (.slice a2 t.l.length c2) (.slice a3 t.u.length c3)) t) := Lib.hid ⟨_, _, _, rfl, h1, h2, h3⟩
  have HK := Lib.hid HT.out.keys
  have HE := Lib.hid her
  have HZ := Lib.hid hz
  obtain ⟨q1, q3⟩ := last_box (Below.refl _ (w.alloc (.cells #[iv t.n, .slice a1 t.s.length c1, .bool t.null, .slice a2 t.l.length c2, .slice a3 t.u.length c3] 26)))
  have hB := below_push w.heap.size (Nat.le_refl _) (.cells #[iv t.n, .slice a1 t.s.length c1, .bool t.null, .slice a2 t.l.length c2, .slice a3 t.u.length c3] 26) rfl
  generalize hW : w.alloc (.cells #[iv t.n, .slice a1 t.s.length c1, .bool t.null, .slice a2 t.l.length c2, .slice a3 t.u.length c3] 26) = W at *
  have HB := Lib.hid hB
  have hwz : w.heap.size ≤ W.heap.size := hB.size
  have hm0 : 0 ≤ n % 19 := Int.emod_nonneg _ (by decide)
  have hm1 : n % 19 < 19 := Int.emod_lt_of_pos _ (by decide)
  have HOK := Lib.hid (okv _ hm0 hm1)
  clear h1 h2 h3 hB her hz
  go_enter Tryz.func6, Tryz.ntmps6
  go_wp2_with fail
  clear hW
  refine (fits2_any W _ t (HT.out.stay HB.out)).mono ?_
  rintro e w1 ⟨⟨qf, rfl⟩, hb1⟩
  have y1 := fun k => ((bcell hb1).1 w.heap.size k (show w.heap.size < W.heap.size by omega)).trans (q1 k)
  have Z1 := Lib.hid (HB.out.trans (hb1.lower (m := w.heap.size) hwz))
  have s1 : W.heap.size ≤ w1.heap.size := hb1.size
  clear hb1 q1
  cases qf
  · go_wp2
    go_ret
    exact ⟨rfl, Z1.out⟩
  go_wp2_with fail
  refine (maxv w1).mono ?_
  rintro e w2 ⟨rfl, hb2⟩
  have y2 := fun k => ((bcell hb2).1 w.heap.size k (show w.heap.size < w1.heap.size by omega)).trans (y1 k)
  have Z2 := Lib.hid (Z1.out.trans (hb2.lower (m := w.heap.size) Z1.out.size))
  have s2 : w1.heap.size ≤ w2.heap.size := hb2.size
  clear hb2 y1
  go_wp2_with fail
  go_region_held3 (fun w' => ∀ k, w'.cell? ⟨w.heap.size, k, none⟩ = (#[iv t.n, .slice a1 t.s.length c1, .bool t.null, .slice a2 t.l.length c2, .slice a3 t.u.length c3] : Array Value)[k]?) (assumption) (first
    | (go_at_call 21; refine (spec _).mono ?_; rintro e w3 ⟨v3, rfl, hmv, hbel'⟩; have hbel := below_undrew hbel'; clear hbel';
       have y3 := fun k => ((bcell hbel).1 w.heap.size k (show w.heap.size < w2.heap.size by omega)).trans (y2 k);
       have Z3 := Lib.hid (Z2.out.trans (hbel.lower (m := w.heap.size) Z2.out.size)); have HM := Lib.hid hmv; have s3 : w2.heap.size ≤ w3.heap.size := hbel.size; clear hbel hmv)
    | (go_at_call 11; refine (version_any _ n 18 h0 h1' (by decide) (by decide)).mono ?_; rintro e w4 ⟨rfl, hw4⟩; have hw4 := hw4.symm; subst hw4)
    | (go_at_call 9; refine (Write_any _ _ _ msg (n % 19) t HM.out (HT.out.stay Z3.out) (by kernel_rfl) (by have := HZ.out (n % 19); simp only [lim]; omega)).mono ?_; rintro e w5 ⟨v5, rfl, hown, hbel⟩;
       have y4 := fun k => ((bcell hbel).1 w.heap.size k (show w.heap.size < w3.heap.size by omega)).trans (y3 k);
       have Z5 := Lib.hid (Z3.out.trans (hbel.lower (m := w.heap.size) Z3.out.size)); have HO := Lib.hid hown; have s5 : w3.heap.size ≤ w5.heap.size := hbel.size; clear hbel hown))
  obtain ⟨p5, c5, rfl, -⟩ := row_form HO.out
  have HE5 := Lib.hid (HE.out.below Z5.out)
  obtain ⟨t', e1, e2, e3, e4⟩ := again_law msg (n % 19) t HOK.out HK.out (HZ.out _)
  have HZ5 := Lib.hid (HZ.out (n % 19))
  have h63 : (write msg (n % 19) t).length ≤ 9223372036854775807 := by have := HZ5.out; omega
  have hag := againA.2 w5 (n % 19) _ _ (write msg (n % 19) t) hm0 (by omega) (own_bytes HO.out) HE5.out (by have := HZ5.out; simp only [lim2]; omega) (fun t'' r'' h => by rw [e1] at h; cases h; exact ⟨e3, by rw [e2]; have := HZ5.out; simp only [lim2]; omega⟩)
  rw [e1, e2] at hag
  have HA := Lib.hid hag
  have HC := Lib.hid e4
  clear hag e1 e2 e3 e4 y2 y3 y4
  clear HC
  go_wp2_with fail
  refine (version_any w5 n 18 h0 h1' (by decide) (by decide)).mono ?_
  rintro e w6 ⟨rfl, rfl⟩
  go_wp2_with fail
  refine HA.out.mono ?_
  rintro e w7 ⟨u7, rfl, hb7, ho7⟩
  have ho7 : OwnB w7 w6.heap.size u7 (write msg (n % 19) t) := ho7
  have Z7 := Lib.hid (Z5.out.trans (hb7.lower (m := w.heap.size) Z5.out.size))
  have hby : BytesAt w7 _ (.slice p5 (write msg (n % 19) t).length c5) (write msg (n % 19) t) := (own_between HO.out).on hb7
  have hsm := Same_any w7 _ _ _ _ (write msg (n % 19) t) (write msg (n % 19) t) (own_bytes ho7) hby (by have := HZ5.out; omega)
  have HS := Lib.hid hsm
  clear hb7 ho7 hby hsm
  go_wp2_with fail
  refine HS.out.mono ?_
  rintro e w8 ⟨rfl, hg8⟩
  simp only [decide_true]
  have Z8 : Hid (Below w.heap.size w w8) := Lib.hid (Z7.out.trans ⟨hg8.os, hg8.tape, hg8.output, hg8.size, fun k hk => hg8.block k (Nat.lt_of_lt_of_le hk Z7.out.size) (by simp)⟩)
  clear hg8
  go_wp2
  go_ret
  exact ⟨rfl, Z8.out⟩

section
open Go.ChangeShapes Go.WideShapes Go.ChangeAt Go.RowKit
set_option maxRecDepth 100000 in
theorem lifted (os : Os) (started : os.Started) (H : Type) (enc : TypeId × Value → H) (F : Stop.Interp) :
    ReturnsInHanded {} Tryz.checked os 6 .any ((Rows.OpenSpec.upto Rows.fnAgainFetchRequestSpec).preRow enc Tryz.prog Tryz.f6 Rows.fnAgainFetchRequestUptoRow.domain false Rows.fnAgainFetchRequestUptoRow.laid) (((Rows.OpenSpec.upto Rows.fnAgainFetchRequestSpec).at F).post enc Tryz.prog Tryz.f6 false true false false) := by
  have hw : (DataW.whole enc Tryz.prog ((laidWorld os).forCall (fun _ _ => 0) ⟨#[], #[.int .u8 0, .agg #[.int .i64 0, .slice none 0 0, .bool false, .slice none 0 0, .slice none 0 0]], []⟩).memory Tryz.f6.params.toList Rows.fnAgainFetchRequestSpec.vars false (#[.int .u8 0, .agg #[.int .i64 0, .slice none 0 0, .bool false, .slice none 0 0, .slice none 0 0]] : Array Value).toList 8).map (fun x => (x.1, x.2.1)) = some ([.lit (.int .u8 0), .agg [.lit (.int .i64 0), .nil, .lit (.bool false), .nil, .nil]], []) := by kernel_rfl
  obtain ⟨⟨x1, x2, x3⟩, hx, hx1⟩ := Option.map_eq_some_iff.1 hw
  simp only [Prod.mk.injEq] at hx1
  obtain ⟨rfl, rfl⟩ := hx1
  refine returnsInHanded_of_row (C := Tryz.checked) (s := (Rows.OpenSpec.upto Rows.fnAgainFetchRequestSpec)) own started (by kernel_rfl) Tryz.func6
    (witness_row_atRef (enc := enc) (C := Tryz.checked) false (laidWorld os) #[.int .u8 0, .agg #[.int .i64 0, .slice none 0 0, .bool false, .slice none 0 0, .slice none 0 0]] rfl (by kernel_rfl) (by kernel_rfl) (by kernel_rfl)
      (OpenSpec.preRow_of_cond 8 hx (by kernel_rfl) (fun k hk => by cases hk; kernel_rfl) (by kernel_rfl) (laidMet_of_run' 8 (by kernel_rfl) (by kernel_rfl)))) ?_
  intro W base args ds gs before hval0 hW _ hcond _ hL _ _
  have her : ErrOk W := err_of_laid hL
  have hW' := hW
  have hltb := hW.lt
  obtain ⟨p, q, hA0, hV, hpq, -, -⟩ := hW
  have hA : DataW.TrodAll enc Tryz.prog W 0 (fun _ => true) true Tryz.f6.params.toList args.toList ds p := hA0
  have hval : ∀ (j : Nat) t v, Tryz.f6.params[j]? = some t → args[j]? = some v → Value.okWide Tryz.prog W .any base t v := hval0
  rw [Tryz.params6] at hA hval
  obtain ⟨v0, vs0, d0, ds0, p0, q0, hargs, rfl, rfl, h0, r0⟩ := trodAll_cons hA
  obtain ⟨v1, vs1, d1, ds1, p1, q1, hargs1, rfl, rfl, h1, r1⟩ := trodAll_cons r0
  obtain ⟨rfl, rfl, rfl⟩ := trodAll_nil r1
  obtain rfl : args = #[v0, v1] := by cases args; simp_all
  obtain ⟨n, rfl, rfl, rfl, hn⟩ := open_int Tryz.underlying5 (hval 0 5 v0 rfl rfl) h0
  obtain ⟨hn0, hn1⟩ := u8_range hn
  obtain ⟨t, ht, hbt⟩ := open_tree (hval 1 26 v1 rfl rfl) h1
  have hsm := small_le (hcond _ rfl)
  have hbd : Rows.uptoBulk d1 ≤ 1048576 := Nat.le_trans (bulk_mem (by simp)) hsm
  refine Calls.mono (walk W n hn0 hn1 v1 t ht her (fun v => write_bulk (m := msg) (by kernel_rfl) v t (Nat.le_trans hbt hbd))) ?_
  rintro e W' ⟨rfl, hb⟩
  refine ⟨_, rfl, ?_⟩
  refine law_post rfl (by kernel_rfl) hW' ?_ (fun t ht => ?_) hb
  · obtain ⟨rfl, rfl⟩ := trodVars_none hV
    rfl
  · rw [Tryz.params6] at ht
    simp only [List.mem_cons, List.not_mem_nil, or_false] at ht
    rcases ht with rfl | rfl
    all_goals exact ⟨by kernel_rfl, of_decide_eq_true (by kernel_rfl)⟩
/-- The row's facts, first half. -/
def jA (P : Program) (f : FuncId) (fn : Func) (s : ChangeSpec) (c : OpenClaim) : Bool :=
  c.wf (OpenSpec.ofChange s) && laidOutB P && mapsRowed P &&
  fn.params.all (P.readableRec ·) && namedTie P c.named s.vars &&
  (c.stops == []) && (P.stops == []) && (c.knobs == []) && (P.stopKnobs == []) &&
  (c.inPlace == P.inPlace f) && (c.unfollowed == P.unfollowed f) && (c.recurses == P.recurses f) && (c.named == P.varsNamed f) &&
  (c.maps == (fn.params.toList ++ s.plain.varTypes P).any (P.mapsRec ·)) && (c.ifaces == (fn.params.toList ++ s.plain.varTypes P).any (P.ifacesRec ·)) && (c.mapsOut == P.mapsAmong fn.resultTypes.toList) &&
  (c.loops == (fn.params.toList ++ s.plain.varTypes P).any (P.loopsFrom ·)) && (c.wideKeys == (fn.params.toList ++ s.plain.varTypes P ++ fn.resultTypes.toList).any (P.wideKeysFrom ·)) &&
  s.vars.all (P.varReadable ·) && fn.resultTypes.all (fun t => P.readableRec t && decide (t < P.types.size)) && (c.ifacesOut == fn.resultTypes.toList.any (P.ifacesRec ·)) && (c.loopsOut == fn.resultTypes.toList.any (P.loopsFrom ·)) && (c.plainKeys == P.plainKeys) && c.shortTexts.isNone
/-- The second half. -/
def jB (P : Program) (fn : Func) (s : ChangeSpec) (c : OpenClaim) : Bool :=
  P.stopsHeard && P.mayEnter && (c.lifted == P.liftsFinal) && (P.make == some c.make) && (c.kinds == (if c.domain.isEmpty then [] else fn.params.toList.map fun t => match P.underlying t with | some (.int k) => some k | _ => none)) && (c.pinned == c.pinnedBy) &&
  (c.veiled == (fn.params.toList ++ s.plain.varTypes P ++ fn.resultTypes.toList).any (P.veiledRec ·)) && c.veiledFits P fn.params.toList (fn.params.toList ++ s.plain.varTypes P ++ fn.resultTypes.toList)
theorem j_two {P : Program} {f : FuncId} {fn : Func} {s : ChangeSpec} {c : OpenClaim} (hA : jA P f fn s c = true) (hB : jB P fn s c = true) : joinedFacts P f fn s c = true := by
  simp only [jA, Bool.and_eq_true] at hA
  simp only [jB, Bool.and_eq_true] at hB
  obtain ⟨⟨⟨⟨⟨⟨⟨b1, b2⟩, b3⟩, b4⟩, b5⟩, b6⟩, b7⟩, b8⟩ := hB
  simp only [joinedFacts, Bool.and_eq_true]
  exact ⟨⟨⟨⟨⟨⟨⟨⟨hA, b1⟩, b2⟩, b3⟩, b4⟩, b5⟩, b6⟩, b7⟩, b8⟩
theorem factsA : jA Tryz.pinned.checked.prog 6 Tryz.f6 ((Rows.OpenSpec.upto Rows.fnAgainFetchRequestSpec)).bare Rows.fnAgainFetchRequestUptoRow = true := by kernel_rfl
theorem factsB : jB Tryz.pinned.checked.prog Tryz.f6 ((Rows.OpenSpec.upto Rows.fnAgainFetchRequestSpec)).bare Rows.fnAgainFetchRequestUptoRow = true := by kernel_rfl
theorem said : Rows.FnAgainFetchRequestUptoSaid :=
  OpenClaim.holds_of_cond 6 Tryz.f6 rfl rfl rfl rfl rfl rfl rfl ⟨rfl, rfl, rfl, rfl, rfl⟩ rfl rfl rfl rfl rfl (by kernel_rfl) Tryz.func6 (j_two factsA factsB)
    (of_decide_eq_true (by kernel_rfl)) (by unfold Func.isWrapper; first | (rw [if_pos (by decide +kernel)]; kernel_rfl) | (rw [if_neg (by decide +kernel)]; exact ⟨rfl, rfl⟩))
    (fun os started H enc _ F => by rw [OpenClaim.pre_eq_preRow]; exact lifted os started H enc F)
theorem plain (f : FuncId) (fn : Func) (hf : Tryz.pinned.checked.prog.funcNamed "pub-kmsg/laws.FnAgainFetchRequest" = some f) (hfn : Tryz.pinned.checked.prog.funcs[f]? = some fn) :
    false = Tryz.pinned.checked.prog.looks [] ∧ ∀ (j : Nat) t, fn.params[j]? = some t → Tryz.pinned.checked.prog.wantsStandIn t = false := by
  obtain rfl : f = 6 := Option.some.inj ((show Tryz.prog.funcNamed "pub-kmsg/laws.FnAgainFetchRequest" = some 6 by kernel_rfl).symm.trans hf) |>.symm
  obtain rfl : fn = Tryz.f6 := (Option.some.inj (Tryz.func6.symm.trans hfn)).symm
  refine ⟨by kernel_rfl, fun j t ht => ?_⟩
  rw [Tryz.params6] at ht
  have hm := Array.mem_of_getElem? ht
  simp only [List.mem_toArray, List.mem_cons, List.not_mem_nil, or_false] at hm
  rcases hm with rfl | rfl
  all_goals exact of_decide_eq_true (by kernel_rfl)
theorem card : Rows.FnAgainFetchRequestUptoCardSaid :=
  Claim7.holds_tied_plain_at .later [] _ _ _ _ said (fun _ h => by cases h) (by kernel_rfl) (fun _ h => by cases h) fnAgainFetchRequestUpto_row_tie rfl ⟨rfl, rfl⟩ (by kernel_rfl) rfl plain (by kernel_rfl)
end
end Go.Proofs.YtoklbgdafnminaaGreatDoor.FetchRequest
