/-
  A ProduceResponse that ends anywhere ahead of its end is an error. Conditions: none.
-/
import Derived.Test.YtoklbgdafnminaaGreatDoorWProduceResponse
import Derived.Test.YtoklbgdafnminaaGreatDoorY7
import Derived.Test.YtoklbgdafnminaaGreatDoorKc
namespace Go.Proofs.YtoklbgdafnminaaGreatDoor.ProduceResponse
open Go.Proofs.YtoklbgdafnminaaGreatDoor
open Go.RowKit
open Kz
theorem maxv (w : World) : Calls Tryz.prog 17 #[] w fun e w' => e = .returned (.int .i64 13) ∧ Below w.heap.size w w' := by
  go_enter Tryz.func17, Tryz.ntmps17
  go_wp2_with (first
    | (go_at_call 38; refine (news.2 _).mono ?_; rintro e w' ⟨rfl, rfl⟩)
    | go_in)
  all_goals go_ret
  exact ⟨rfl, rfl, rfl, rfl, by simp, fun k hk => alloc_old w _ k hk⟩
theorem okv (v : Int) (h0 : 0 ≤ v) (h1 : v < 14) : msg.ok v = true := by
  have h : v = 0 ∨ v = 1 ∨ v = 2 ∨ v = 3 ∨ v = 4 ∨ v = 5 ∨ v = 6 ∨ v = 7 ∨ v = 8 ∨ v = 9 ∨ v = 10 ∨ v = 11 ∨ v = 12 ∨ v = 13 := by omega
  rcases h with rfl | rfl | rfl | rfl | rfl | rfl | rfl | rfl | rfl | rfl | rfl | rfl | rfl | rfl
  all_goals exact of_decide_eq_true (by kernel_rfl)
set_option maxRecDepth 8000 in
set_option maxHeartbeats 1000000 in
theorem sp_fss0s2s5 : PartsOk 136 fss0s2s5 := by
  intro w
  go_enter Tryz.func136, Tryz.ntmps136
  go_wp2
  go_ret
  exact ⟨_, rfl, FL.of_row (fs := fss0s2s5) (alloc_last _ _) (by rfl) (ss := List.replicate 2 (.slice none 0 0)) (by rfl) (by kernel_rfl) (FL.none_within (by kernel_rfl) rfl) (by rfl), below_push _ (Nat.le_refl _) _ rfl⟩
set_option maxRecDepth 8000 in
set_option maxHeartbeats 1000000 in
theorem sp_fss0s2s7 : PartsOk 137 fss0s2s7 := by
  intro w
  go_enter Tryz.func137, Tryz.ntmps137
  go_wp2
  go_ret
  exact ⟨_, rfl, FL.of_row (fs := fss0s2s7) (alloc_last _ _) (by rfl) (ss := List.replicate 2 (.slice none 0 0)) (by rfl) (by kernel_rfl) (FL.none_within (by kernel_rfl) rfl) (by rfl), below_push _ (Nat.le_refl _) _ rfl⟩
set_option maxRecDepth 8000 in
set_option maxHeartbeats 1000000 in
theorem sp_fss0s2 : PartsOk 85 fss0s2 := by
  intro w
  go_enter Tryz.func85, Tryz.ntmps85
  go_wp2_with fail
  refine (sp_fss0s2s5 _).mono ?_
  rintro e z0 ⟨x0, rfl, hf0, hb0⟩
  obtain ⟨p0, c0, rfl⟩ := hf0.len
  have F0 := Lib.hid hf0
  have B0 := Lib.hid hb0
  clear hf0 hb0
  go_wp2_with fail
  refine (sp_fss0s2s7 _).mono ?_
  rintro e z1 ⟨x1, rfl, hf1, hb1⟩
  obtain ⟨p1, c1, rfl⟩ := hf1.len
  have F1 := Lib.hid hf1
  have B1 := Lib.hid (B0.out.trans (hb1.lower (m := w.heap.size) B0.out.size))
  have F0 := Lib.hid (F0.out.stay hb1)
  clear hf1 hb1
  go_wp2
  go_ret
  have hfl : FLs z1 fss0s2 [.slice none 0 0, .slice none 0 0, .slice none 0 0, .slice none 0 0, .slice none 0 0, .slice p0 (List.length fss0s2s5) c0, .slice none 0 0, .slice p1 (List.length fss0s2s7) c1] := (.cons .nil (.cons .nil (.cons .nil (.cons .nil (.cons .nil (.cons F0.out (.cons .nil (.cons F1.out .nil))))))))
  exact ⟨_, rfl, FL.of_row (fs := fss0s2) (alloc_last _ _) (by rfl) (ss := [.slice none 0 0, .slice none 0 0, .slice none 0 0, .slice none 0 0, .slice none 0 0, .slice p0 (List.length fss0s2s5) c0, .slice none 0 0, .slice p1 (List.length fss0s2s7) c1]) (by rfl) (by kernel_rfl) (FLs.get (hfl.stay (below_push _ (Nat.le_refl _) _ rfl))) (by rfl), below_box B1.out (Nat.le_refl _)⟩
set_option maxRecDepth 8000 in
set_option maxHeartbeats 1000000 in
theorem sp_fss0 : PartsOk 40 fss0 := by
  intro w
  go_enter Tryz.func40, Tryz.ntmps40
  go_wp2_with fail
  refine (sp_fss0s2 _).mono ?_
  rintro e z0 ⟨x0, rfl, hf0, hb0⟩
  obtain ⟨p0, c0, rfl⟩ := hf0.len
  have F0 := Lib.hid hf0
  have B0 := Lib.hid hb0
  clear hf0 hb0
  go_wp2
  go_ret
  have hfl : FLs z0 fss0 [.slice none 0 0, .slice none 0 0, .slice p0 (List.length fss0s2) c0] := (.cons .nil (.cons .nil (.cons F0.out .nil)))
  exact ⟨_, rfl, FL.of_row (fs := fss0) (alloc_last _ _) (by rfl) (ss := [.slice none 0 0, .slice none 0 0, .slice p0 (List.length fss0s2) c0]) (by rfl) (by kernel_rfl) (FLs.get (hfl.stay (below_push _ (Nat.le_refl _) _ rfl))) (by rfl), below_box B0.out (Nat.le_refl _)⟩
set_option maxRecDepth 8000 in
set_option maxHeartbeats 1000000 in
theorem sp_fss2 : PartsOk 41 fss2 := by
  intro w
  go_enter Tryz.func41, Tryz.ntmps41
  go_wp2
  go_ret
  exact ⟨_, rfl, FL.of_row (fs := fss2) (alloc_last _ _) (by rfl) (ss := List.replicate 4 (.slice none 0 0)) (by rfl) (by kernel_rfl) (FL.none_within (by kernel_rfl) rfl) (by rfl), below_push _ (Nat.le_refl _) _ rfl⟩
set_option maxRecDepth 8000 in
set_option maxHeartbeats 1000000 in
theorem spec : SpecOk 18 msg := by
  intro w
  go_enter Tryz.func18, Tryz.ntmps18
  go_wp2_with fail
  refine (sp_fss0 _).mono ?_
  rintro e z0 ⟨x0, rfl, hf0, hb0⟩
  obtain ⟨p0, c0, rfl⟩ := hf0.len
  have F0 := Lib.hid hf0
  have B0 := Lib.hid ((below_push w.heap.size (Nat.le_refl _) (.cells #[.slice none 0 0, iv 0] 33) rfl).trans (hb0.lower (m := w.heap.size) (by simp)))
  have HX : Hid (z0.heap[w.heap.size]? = some (.cells #[.slice none 0 0, iv 0] 33 (0, 0))) := Lib.hid ((hb0.block _ (by simp)).trans (alloc_last w _))
  clear hf0 hb0
  go_wp2_with fail
  refine (sp_fss2 _).mono ?_
  rintro e z1 ⟨x1, rfl, hf1, hb1⟩
  obtain ⟨p1, c1, rfl⟩ := hf1.len
  have F1 := Lib.hid hf1
  have B1 := Lib.hid (B0.out.trans (hb1.lower (m := w.heap.size) B0.out.size))
  have F0 := Lib.hid (F0.out.stay hb1)
  have HX := Lib.hid ((hb1.block _ (Array.getElem?_eq_some_iff.1 HX.out).1).trans HX.out)
  clear hf1 hb1
  have y0 : z1.cell? ⟨w.heap.size, 0, none⟩ = some (.slice none 0 0) := cell_of_row _ _ _ _ _ _ HX.out
  have y1 : z1.cell? ⟨w.heap.size, 1, none⟩ = some (iv 0) := cell_of_row _ _ _ _ _ _ HX.out
  have g0 : z1.frozen? ⟨w.heap.size, 0, none⟩ = false := frozen_of_row _ _ _ _ _ HX.out
  have g1 : z1.frozen? ⟨w.heap.size, 1, none⟩ = false := frozen_of_row _ _ _ _ _ HX.out
  have hlt : w.heap.size < z1.heap.size := (Array.getElem?_eq_some_iff.1 HX.out).1
  go_wp2
  have hfl : FLs z1 fs [.slice p0 (List.length fss0) c0, .slice none 0 0, .slice p1 (List.length fss2) c1] := (.cons F0.out (.cons .nil (.cons F1.out .nil)))
  obtain ⟨k1, k2, k3⟩ := msg_end (m := msg) (ty := 48) (n := 3) (x := 9) B1.out HX.out hfl (by kernel_rfl) (by rfl) (by rfl) (by rfl) (by rfl)
  have hl2 : w.heap.size < (z1.setCell ⟨w.heap.size, 0, none⟩ (.slice (some ⟨z1.heap.size, 0, none⟩) 3 3)).heap.size := by simpa [World.setCell] using hlt
  rw [World.setCell_alloc_past _ _ _ _ hlt, World.setCell_alloc_past _ _ _ _ hl2] at k1 k2 k3
  exact ⟨rfl, _, (results_cell1 (p := 0) (ty := 33) (by kernel_rfl) _ _ _).trans k1, _, rfl, k2, k3⟩

set_option maxRecDepth 8000 in
set_option maxHeartbeats 4000000 in
theorem walk (w : World) (n : Int) (h0 : 0 ≤ n) (h1' : n < 256) (tv : Value) (t : T) (m : Int) (ha0 : 0 ≤ m) (ha1 : m < 65536) (ht : TreeV w tv t) (her : ErrOk w) (hz : ∀ v, (write msg v t).length < 4294967296) :
    Calls Tryz.prog 5 #[.int .u8 n, tv, .int .u16 m] w fun e w' => e = .returned (.bool true) ∧ Below w.heap.size w w' := by
  obtain ⟨s, l, u, rfl, h1, h2, h3⟩ := ht
  obtain ⟨a1, c1, rfl⟩ := h1.len
  obtain ⟨a2, c2, rfl⟩ := h2.len
  obtain ⟨a3, c3, rfl⟩ := h3.len
  have HT : Hid (TreeV w (treV t.n t.null (.slice a1 t.s.length c1) (.slice a2 t.l.length c2) (.slice a3 t.u.length c3)) t) := Lib.hid ⟨_, _, _, rfl, h1, h2, h3⟩
  have HK := Lib.hid HT.out.keys
  have HE := Lib.hid her
  have HZ := Lib.hid hz
  obtain ⟨q1, q3⟩ := last_box (Below.refl _ (w.alloc (.cells #[iv t.n, .slice a1 t.s.length c1, .bool t.null, .slice a2 t.l.length c2, .slice a3 t.u.length c3] 26)))
  have hB := below_push w.heap.size (Nat.le_refl _) (.cells #[iv t.n, .slice a1 t.s.length c1, .bool t.null, .slice a2 t.l.length c2, .slice a3 t.u.length c3] 26) rfl
  generalize hW : w.alloc (.cells #[iv t.n, .slice a1 t.s.length c1, .bool t.null, .slice a2 t.l.length c2, .slice a3 t.u.length c3] 26) = W at *
  have HB := Lib.hid hB
  have hwz : w.heap.size ≤ W.heap.size := hB.size
  have hm0 : 0 ≤ n % 14 := Int.emod_nonneg _ (by decide)
  have hm1 : n % 14 < 14 := Int.emod_lt_of_pos _ (by decide)
  have HOK := Lib.hid (okv _ hm0 hm1)
  clear h1 h2 h3 hB her hz
  go_enter Tryz.func5, Tryz.ntmps5
  go_wp2_with fail
  clear hW
  refine (fits2_any W _ t (HT.out.stay HB.out)).mono ?_
  rintro e w1 ⟨⟨qf, rfl⟩, hb1⟩
  have y1 := fun k => ((bcell hb1).1 w.heap.size k (show w.heap.size < W.heap.size by omega)).trans (q1 k)
  have Z1 := Lib.hid (HB.out.trans (hb1.lower (m := w.heap.size) hwz))
  have s1 : W.heap.size ≤ w1.heap.size := hb1.size
  clear hb1 q1
  cases qf
  · go_wp2
    go_ret
    exact ⟨rfl, Z1.out⟩
  go_wp2_with fail
  refine (maxv w1).mono ?_
  rintro e w2 ⟨rfl, hb2⟩
  have y2 := fun k => ((bcell hb2).1 w.heap.size k (show w.heap.size < w1.heap.size by omega)).trans (y1 k)
  have Z2 := Lib.hid (Z1.out.trans (hb2.lower (m := w.heap.size) Z1.out.size))
  have s2 : w1.heap.size ≤ w2.heap.size := hb2.size
  clear hb2 y1
  go_wp2_with fail
  go_region_held3 (fun w' => ∀ k, w'.cell? ⟨w.heap.size, k, none⟩ = (#[iv t.n, .slice a1 t.s.length c1, .bool t.null, .slice a2 t.l.length c2, .slice a3 t.u.length c3] : Array Value)[k]?) (assumption) (first
    | (go_at_call 18; refine (spec _).mono ?_; rintro e w3 ⟨v3, rfl, hmv, hbel'⟩; have hbel := below_undrew hbel'; clear hbel';
       have y3 := fun k => ((bcell hbel).1 w.heap.size k (show w.heap.size < w2.heap.size by omega)).trans (y2 k);
       have Z3 := Lib.hid (Z2.out.trans (hbel.lower (m := w.heap.size) Z2.out.size)); have HM := Lib.hid hmv; have s3 : w2.heap.size ≤ w3.heap.size := hbel.size; clear hbel hmv)
    | (go_at_call 11; refine (version_any _ n 13 h0 h1' (by decide) (by decide)).mono ?_; rintro e w4 ⟨rfl, hw4⟩; have hw4 := hw4.symm; subst hw4)
    | (go_at_call 9; refine (Write_any _ _ _ msg (n % 14) t HM.out (HT.out.stay Z3.out) (by kernel_rfl) (by have := HZ.out (n % 14); simp only [lim]; omega)).mono ?_; rintro e w5 ⟨v5, rfl, hown, hbel⟩;
       have y4 := fun k => ((bcell hbel).1 w.heap.size k (show w.heap.size < w3.heap.size by omega)).trans (y3 k);
       have Z5 := Lib.hid (Z3.out.trans (hbel.lower (m := w.heap.size) Z3.out.size)); have HO := Lib.hid hown; have s5 : w3.heap.size ≤ w5.heap.size := hbel.size; clear hbel hown))
  obtain ⟨p5, c5, rfl, -⟩ := row_form HO.out
  have HE5 := Lib.hid (HE.out.below Z5.out)
  obtain ⟨t', e1, e2, e3, e4⟩ := again_law msg (n % 14) t HOK.out HK.out (HZ.out _)
  have HON : Hid (∀ k, onceM [0] msg (n % 14) ((write msg (n % 14) t).take k)) := Lib.hid (fun k => once_law msg (n % 14) t k HOK.out (by kernel_rfl) (by kernel_rfl) HK.out (HZ.out _))
  have HZ5 := Lib.hid (HZ.out (n % 14))
  have h63 : (write msg (n % 14) t).length ≤ 9223372036854775807 := by have := HZ5.out; omega
  have hag := again.2 w5 (n % 14) _ _ (write msg (n % 14) t) hm0 (by omega) (own_bytes HO.out) HE5.out (by have := HZ5.out; simp only [lim2]; omega) (fun t'' r'' h => by rw [e1] at h; cases h; exact ⟨e3, by rw [e2]; have := HZ5.out; simp only [lim2]; omega⟩) (by have := HON.out (write msg (n % 14) t).length; rwa [List.take_length] at this)
  rw [e1, e2] at hag
  have HA := Lib.hid hag
  have HC := Lib.hid e4
  clear hag e1 e2 e3 e4 y2 y3 y4
  go_wp2_with fail
  refine (version_any w5 n 13 h0 h1' (by decide) (by decide)).mono ?_
  rintro e w6 ⟨rfl, rfl⟩
  go_wp2_with fail
  refine HA.out.mono ?_
  rintro e w7 ⟨u7, rfl, hb7, ho7⟩
  have Z7 := Lib.hid (Z5.out.trans (hb7.lower (m := w.heap.size) Z5.out.size))
  have hby : BytesAt w7 _ (.slice p5 (write msg (n % 14) t).length c5) (write msg (n % 14) t) := (own_between HO.out).on hb7
  have HBy := Lib.hid hby
  have HE7 := Lib.hid (HE.out.below Z7.out)
  have HF := Lib.hid (row_form HO.out)
  clear hb7 ho7 hby HA HZ HO HE5
  generalize write msg (n % 14) t = B at *
  by_cases hlen : B.length = 0
  · have hleni : (B.length : Int) = 0 := by omega
    go_wp2
    go_ret
    exact ⟨rfl, Z7.out⟩
  · obtain ⟨_, _, hpe, hpf⟩ := HF.out
    obtain ⟨g, hg⟩ := hpf 0 (by omega)
    simp only [Value.slice.injEq, true_and] at hpe
    obtain ⟨hp1, hp2⟩ := hpe
    rw [hg] at hp1
    subst hp1
    clear hp2 hpf hg HF
    have hcap : B.length ≤ c5 := by
      rcases HBy.out with ⟨h, -⟩ | ⟨_, _, _, h, hc, -⟩
      · simp at h
      · simp only [Value.slice.injEq] at h; omega
    have hLi : ¬ ((B.length : Int) = 0) := by omega
    have hBne : ¬ (B = []) := fun h => hlen (by rw [h]; rfl)
    obtain ⟨k, hk⟩ : ∃ k : Nat, (k : Int) = m % (B.length : Int) := ⟨(m % (B.length : Int)).toNat, by have := Int.emod_nonneg m hLi; omega⟩
    have hkl : k < B.length := by have := Int.emod_lt_of_pos m (show 0 < (B.length : Int) by omega); omega
    have e1 : Int.tmod m (B.length : Int) = (k : Int) := by rw [Int.tmod_eq_emod_of_nonneg ha0, hk]
    have e2 : IntKind.wrap .i64 (k : Int) = (k : Int) := by rw [IntKind.wrap_i64]; omega
    have e3 : IntKind.wrap .i64 m = m := by rw [IntKind.wrap_i64]; omega
    have e4 : m % (B.length : Int) = (k : Int) := hk.symm
    have hkc : (k : Int) ≤ (c5 : Int) := by omega
    have hnone := HC.out k hkl
    have HG : Hid (∀ W', Below w7.heap.size w7 W' → Calls Tryz.prog 19 #[.int .i64 (n % 14), .slice (some ⟨g, 0, none⟩) k c5] W' fun e w' => ∃ u, e = .returned (.tuple #[u, .bool false]) ∧ Below W'.heap.size W' w') := Lib.hid fun W' hW' => by
      have hfr := (HBy.out.on hW').front (k := k) (by omega)
      have h := again.2 W' (n % 14) _ _ (B.take k) hm0 (by omega) hfr (HE7.out.below hW') (by rw [List.length_take]; have := HZ5.out; simp only [lim2]; omega) (fun t'' r'' h => by rw [h] at hnone; cases hnone) (HON.out k)
      rw [hnone] at h
      refine h.mono ?_
      rintro e w' ⟨u, he, hb, -⟩
      exact ⟨u, he, hb⟩
    have s7 : w.heap.size ≤ w7.heap.size := Z7.out.size
    clear hnone hk hlen
    go_wp2_with fail
    go_region_held3 (fun _ => True) (trivial) (first
      | (go_at_call 11; refine (version_any _ n 13 h0 h1' (by decide) (by decide)).mono ?_; rintro e w8 ⟨rfl, hw8⟩; have hw8 := hw8.symm; subst hw8)
      | (go_at_call 19; refine (HG.out _ (below_todrew (Below.refl _ _))).mono ?_; rintro e w9 ⟨u9, rfl, hb9'⟩; have hb9 := below_undrew hb9';
         have Z9 := Lib.hid (Z7.out.trans (hb9.lower (m := w.heap.size) (show w.heap.size ≤ w7.heap.size by omega))); clear hb9 hb9'))
    go_wp2
    go_ret
    exact ⟨rfl, Z9.out⟩

section
open Go.ChangeShapes Go.WideShapes Go.ChangeAt Go.RowKit
set_option maxRecDepth 100000 in
theorem lifted (os : Os) (started : os.Started) (H : Type) (enc : TypeId × Value → H) (F : Stop.Interp) :
    ReturnsInHanded {} Tryz.checked os 5 .any ((Rows.OpenSpec.upto Rows.fnCutProduceResponseSpec).preRow enc Tryz.prog Tryz.f5 Rows.fnCutProduceResponseUptoRow.domain false Rows.fnCutProduceResponseUptoRow.laid) (((Rows.OpenSpec.upto Rows.fnCutProduceResponseSpec).at F).post enc Tryz.prog Tryz.f5 false true false false) := by
  have hw : (DataW.whole enc Tryz.prog ((laidWorld os).forCall (fun _ _ => 0) ⟨#[], #[.int .u8 0, .agg #[.int .i64 0, .slice none 0 0, .bool false, .slice none 0 0, .slice none 0 0], .int .u16 0], []⟩).memory Tryz.f5.params.toList Rows.fnCutProduceResponseSpec.vars false (#[.int .u8 0, .agg #[.int .i64 0, .slice none 0 0, .bool false, .slice none 0 0, .slice none 0 0], .int .u16 0] : Array Value).toList 8).map (fun x => (x.1, x.2.1)) = some ([.lit (.int .u8 0), .agg [.lit (.int .i64 0), .nil, .lit (.bool false), .nil, .nil], .lit (.int .u16 0)], []) := by kernel_rfl
  obtain ⟨⟨x1, x2, x3⟩, hx, hx1⟩ := Option.map_eq_some_iff.1 hw
  simp only [Prod.mk.injEq] at hx1
  obtain ⟨rfl, rfl⟩ := hx1
  refine returnsInHanded_of_row (C := Tryz.checked) (s := (Rows.OpenSpec.upto Rows.fnCutProduceResponseSpec)) own started (by kernel_rfl) Tryz.func5
    (witness_row_atRef (enc := enc) (C := Tryz.checked) false (laidWorld os) #[.int .u8 0, .agg #[.int .i64 0, .slice none 0 0, .bool false, .slice none 0 0, .slice none 0 0], .int .u16 0] rfl (by kernel_rfl) (by kernel_rfl) (by kernel_rfl)
      (OpenSpec.preRow_of_cond 8 hx (by kernel_rfl) (fun k hk => by cases hk; kernel_rfl) (by kernel_rfl) (laidMet_of_run' 8 (by kernel_rfl) (by kernel_rfl)))) ?_
  intro W base args ds gs before hval0 hW _ hcond _ hL _ _
  have her : ErrOk W := err_of_laid hL
  have hW' := hW
  have hltb := hW.lt
  obtain ⟨p, q, hA0, hV, hpq, -, -⟩ := hW
  have hA : DataW.TrodAll enc Tryz.prog W 0 (fun _ => true) true Tryz.f5.params.toList args.toList ds p := hA0
  have hval : ∀ (j : Nat) t v, Tryz.f5.params[j]? = some t → args[j]? = some v → Value.okWide Tryz.prog W .any base t v := hval0
  rw [Tryz.params5] at hA hval
  obtain ⟨v0, vs0, d0, ds0, p0, q0, hargs, rfl, rfl, h0, r0⟩ := trodAll_cons hA
  obtain ⟨v1, vs1, d1, ds1, p1, q1, hargs1, rfl, rfl, h1, r1⟩ := trodAll_cons r0
  obtain ⟨v2, vs2, d2, ds2, p2, q2, hargs2, rfl, rfl, h2, r2⟩ := trodAll_cons r1
  obtain ⟨rfl, rfl, rfl⟩ := trodAll_nil r2
  obtain rfl : args = #[v0, v1, v2] := by cases args; simp_all
  obtain ⟨n, rfl, rfl, rfl, hn⟩ := open_int Tryz.underlying5 (hval 0 5 v0 rfl rfl) h0
  obtain ⟨hn0, hn1⟩ := u8_range hn
  obtain ⟨t, ht, hbt⟩ := open_tree (hval 1 26 v1 rfl rfl) h1
  obtain ⟨m, rfl, rfl, rfl, hm⟩ := open_int Tryz.underlying27 (hval 2 27 v2 rfl rfl) h2
  obtain ⟨hm0, hm1⟩ := u16_range hm
  have hsm := small_le (hcond _ rfl)
  have hbd : Rows.uptoBulk d1 ≤ 1048576 := Nat.le_trans (bulk_mem (by simp)) hsm
  refine Calls.mono (walk W n hn0 hn1 v1 t m hm0 hm1 ht her (fun v => write_bulk (m := msg) (by kernel_rfl) v t (Nat.le_trans hbt hbd))) ?_
  rintro e W' ⟨rfl, hb⟩
  refine ⟨_, rfl, ?_⟩
  refine law_post rfl (by kernel_rfl) hW' ?_ (fun t ht => ?_) hb
  · obtain ⟨rfl, rfl⟩ := trodVars_none hV
    rfl
  · rw [Tryz.params5] at ht
    simp only [List.mem_cons, List.not_mem_nil, or_false] at ht
    rcases ht with rfl | rfl | rfl
    all_goals exact ⟨by kernel_rfl, of_decide_eq_true (by kernel_rfl)⟩
/-- The row's facts, first half. -/
def jA (P : Program) (f : FuncId) (fn : Func) (s : ChangeSpec) (c : OpenClaim) : Bool :=
  c.wf (OpenSpec.ofChange s) && laidOutB P && mapsRowed P &&
  fn.params.all (P.readableRec ·) && namedTie P c.named s.vars &&
  (c.stops == []) && (P.stops == []) && (c.knobs == []) && (P.stopKnobs == []) &&
  (c.inPlace == P.inPlace f) && (c.unfollowed == P.unfollowed f) && (c.recurses == P.recurses f) && (c.named == P.varsNamed f) &&
  (c.maps == (fn.params.toList ++ s.plain.varTypes P).any (P.mapsRec ·)) && (c.ifaces == (fn.params.toList ++ s.plain.varTypes P).any (P.ifacesRec ·)) && (c.mapsOut == P.mapsAmong fn.resultTypes.toList) &&
  (c.loops == (fn.params.toList ++ s.plain.varTypes P).any (P.loopsFrom ·)) && (c.wideKeys == (fn.params.toList ++ s.plain.varTypes P ++ fn.resultTypes.toList).any (P.wideKeysFrom ·)) &&
  s.vars.all (P.varReadable ·) && fn.resultTypes.all (fun t => P.readableRec t && decide (t < P.types.size)) && (c.ifacesOut == fn.resultTypes.toList.any (P.ifacesRec ·)) && (c.loopsOut == fn.resultTypes.toList.any (P.loopsFrom ·)) && (c.plainKeys == P.plainKeys) && c.shortTexts.isNone
/-- The second half. -/
def jB (P : Program) (fn : Func) (s : ChangeSpec) (c : OpenClaim) : Bool :=
  P.stopsHeard && P.mayEnter && (c.lifted == P.liftsFinal) && (P.make == some c.make) && (c.kinds == (if c.domain.isEmpty then [] else fn.params.toList.map fun t => match P.underlying t with | some (.int k) => some k | _ => none)) && (c.pinned == c.pinnedBy) &&
  (c.veiled == (fn.params.toList ++ s.plain.varTypes P ++ fn.resultTypes.toList).any (P.veiledRec ·)) && c.veiledFits P fn.params.toList (fn.params.toList ++ s.plain.varTypes P ++ fn.resultTypes.toList)
theorem j_two {P : Program} {f : FuncId} {fn : Func} {s : ChangeSpec} {c : OpenClaim} (hA : jA P f fn s c = true) (hB : jB P fn s c = true) : joinedFacts P f fn s c = true := by
  simp only [jA, Bool.and_eq_true] at hA
  simp only [jB, Bool.and_eq_true] at hB
  obtain ⟨⟨⟨⟨⟨⟨⟨b1, b2⟩, b3⟩, b4⟩, b5⟩, b6⟩, b7⟩, b8⟩ := hB
  simp only [joinedFacts, Bool.and_eq_true]
  exact ⟨⟨⟨⟨⟨⟨⟨⟨hA, b1⟩, b2⟩, b3⟩, b4⟩, b5⟩, b6⟩, b7⟩, b8⟩
theorem factsA : jA Tryz.pinned.checked.prog 5 Tryz.f5 ((Rows.OpenSpec.upto Rows.fnCutProduceResponseSpec)).bare Rows.fnCutProduceResponseUptoRow = true := by kernel_rfl
theorem factsB : jB Tryz.pinned.checked.prog Tryz.f5 ((Rows.OpenSpec.upto Rows.fnCutProduceResponseSpec)).bare Rows.fnCutProduceResponseUptoRow = true := by kernel_rfl
theorem said : Rows.FnCutProduceResponseUptoSaid :=
  OpenClaim.holds_of_cond 5 Tryz.f5 rfl rfl rfl rfl rfl rfl rfl ⟨rfl, rfl, rfl, rfl, rfl⟩ rfl rfl rfl rfl rfl (by kernel_rfl) Tryz.func5 (j_two factsA factsB)
    (of_decide_eq_true (by kernel_rfl)) (by unfold Func.isWrapper; first | (rw [if_pos (by decide +kernel)]; kernel_rfl) | (rw [if_neg (by decide +kernel)]; exact ⟨rfl, rfl⟩))
    (fun os started H enc _ F => by rw [OpenClaim.pre_eq_preRow]; exact lifted os started H enc F)
theorem plain (f : FuncId) (fn : Func) (hf : Tryz.pinned.checked.prog.funcNamed "pub-kmsg/laws.FnCutProduceResponse" = some f) (hfn : Tryz.pinned.checked.prog.funcs[f]? = some fn) :
    false = Tryz.pinned.checked.prog.looks [] ∧ ∀ (j : Nat) t, fn.params[j]? = some t → Tryz.pinned.checked.prog.wantsStandIn t = false := by
  obtain rfl : f = 5 := Option.some.inj ((show Tryz.prog.funcNamed "pub-kmsg/laws.FnCutProduceResponse" = some 5 by kernel_rfl).symm.trans hf) |>.symm
  obtain rfl : fn = Tryz.f5 := (Option.some.inj (Tryz.func5.symm.trans hfn)).symm
  refine ⟨by kernel_rfl, fun j t ht => ?_⟩
  rw [Tryz.params5] at ht
  have hm := Array.mem_of_getElem? ht
  simp only [List.mem_toArray, List.mem_cons, List.not_mem_nil, or_false] at hm
  rcases hm with rfl | rfl | rfl
  all_goals exact of_decide_eq_true (by kernel_rfl)
theorem card : Rows.FnCutProduceResponseUptoCardSaid :=
  Claim7.holds_tied_plain_at .later [] _ _ _ _ said (fun _ h => by cases h) (by kernel_rfl) (fun _ h => by cases h) fnCutProduceResponseUpto_row_tie rfl ⟨rfl, rfl⟩ (by kernel_rfl) rfl plain (by kernel_rfl)
end
end Go.Proofs.YtoklbgdafnminaaGreatDoor.ProduceResponse
