/-
  A OffsetCommitKey that ends anywhere ahead of its end is an error. Conditions: none.
-/
import Derived.Test.YtodmlklfjinonaaDoorY5
import Derived.Test.YtodmlklfjinonaaDoorY7
import Derived.Test.YtodmlklfjinonaaDoorKl
namespace Go.Proofs.YtodmlklfjinonaaDoor.OffsetCommitKey
open Go.Proofs.YtodmlklfjinonaaDoor
open Go.RowKit
open Kz
def fs : List F := [⟨8, 0, -1, -1, -1, 0, 0, []⟩, ⟨8, 0, -1, -1, -1, 0, 0, []⟩, ⟨3, 0, -1, -1, -1, 0, 0, []⟩]
def msg : M := ⟨fs, -1⟩
def gs : List F := [⟨8, -32768, -1, -1, -1, 0, 0, []⟩, ⟨8, -32768, -1, -1, -1, 0, 0, []⟩, ⟨3, -32768, -1, -1, -1, 0, 0, []⟩]
def msgI : M := ⟨gs, -1⟩
def sets_OffsetCommitKey : List (Nat × Value) := []
theorem def_OffsetCommitKey : DefSets 63 4 sets_OffsetCommitKey := defSets Tryd.func63 rfl rfl (by kernel_rfl) (by kernel_rfl) DS.skip
theorem reads : ReadsKept TagRep 64 msgI 61 := by
  refine readsKept (E := ⟨47, 7, 8, 2, none, 6⟩) (s := 9) stable_tagRep rfl rfl Tryd.func64 rfl (by kernel_rfl) (by kernel_rfl) (by kernel_rfl) (by decide) (sconst (by kernel_rfl)) (sdefault (DefSets.okM def_OffsetCommitKey (by kernel_rfl)) (by kernel_rfl)) (sreader rfl (by kernel_rfl) (by kernel_rfl)) (sver rd_Int16 (by kernel_rfl) (by kernel_rfl) (by kernel_rfl) (by kernel_rfl)) (sload (by kernel_rfl) (by kernel_rfl) (by kernel_rfl)) (smove (by kernel_rfl)) (scopy (by kernel_rfl)) (by kernel_rfl) (by kernel_rfl) (by kernel_rfl) (by kernel_rfl) (fun v hv => ?_)
  have hfl : false = false := rfl
  have hft : false = true → false = true := id
  refine RdTE.part (by kernel_rfl) ?_
  refine RdTE.cons hft stable_tagRep (RdV.always (RdV.empty (by decide) (by kernel_rfl) (RdV.of (FV.textN hfl (Rv.safe (by kernel_rfl) (by kernel_rfl) (Rv.call rd_String (by kernel_rfl)))) (by kernel_rfl) (by kernel_rfl) (by kernel_rfl) (by kernel_rfl) (by kernel_rfl) (by kernel_rfl))) (by simp [F.has, hv])) (by kernel_rfl) ?_
  refine RdTE.cons hft stable_tagRep (RdV.always (RdV.empty (by decide) (by kernel_rfl) (RdV.of (FV.textN hfl (Rv.safe (by kernel_rfl) (by kernel_rfl) (Rv.call rd_String (by kernel_rfl)))) (by kernel_rfl) (by kernel_rfl) (by kernel_rfl) (by kernel_rfl) (by kernel_rfl) (by kernel_rfl))) (by simp [F.has, hv])) (by kernel_rfl) ?_
  refine RdTE.cons hft stable_tagRep (RdV.always (RdV.of (FV.int (by decide) (Rv.call rd_Int32 (by kernel_rfl))) (by kernel_rfl) (by kernel_rfl) (by kernel_rfl) (by kernel_rfl) (by kernel_rfl) (by kernel_rfl)) (by simp [F.has, hv])) (by kernel_rfl) ?_
  exact RdTE.nil rfl hfl (sfail rfl (by kernel_rfl))
theorem writes' : WritesKept TagRep 38 msgI := by
  refine writesKept (E := ⟨44, 1, 5, none⟩) (res := 4) stable_tagRep rfl rfl Tryd.func38 rfl (by kernel_rfl) (by kernel_rfl) (by kernel_rfl) (by decide) (sconst (by kernel_rfl)) (sload (by kernel_rfl) (by kernel_rfl) (by kernel_rfl)) (smove (by kernel_rfl)) (sload (by kernel_rfl) (by kernel_rfl) (by kernel_rfl)) (fun _ => Av.call wr_Int16 (by kernel_rfl) (by kernel_rfl)) (by kernel_rfl) (by kernel_rfl) (by kernel_rfl) (by kernel_rfl) (fun v hv => ?_)
  have hfl : false = false := rfl
  have hft : false = true → false = true := id
  refine ApTE.part (by kernel_rfl) ?_
  refine ApTE.cons hft stable_tagRep (ApV.always (ApV.of (sload (by kernel_rfl) (by kernel_rfl) (by kernel_rfl)) (FA.text (Av.plainV (textB 2) hfl (Av.call wr_String (by kernel_rfl) (by kernel_rfl)))) (by kernel_rfl) (by kernel_rfl)) (by simp [F.has, hv])) (by kernel_rfl) ?_
  refine ApTE.cons hft stable_tagRep (ApV.always (ApV.of (sload (by kernel_rfl) (by kernel_rfl) (by kernel_rfl)) (FA.text (Av.plainV (textB 2) hfl (Av.call wr_String (by kernel_rfl) (by kernel_rfl)))) (by kernel_rfl) (by kernel_rfl)) (by simp [F.has, hv])) (by kernel_rfl) ?_
  refine ApTE.cons hft stable_tagRep (ApV.always (ApV.of (sload (by kernel_rfl) (by kernel_rfl) (by kernel_rfl)) (FA.int (by kernel_rfl) (Av.call wr_Int32 (by kernel_rfl) (by kernel_rfl))) (by kernel_rfl) (by kernel_rfl)) (by simp [F.has, hv])) (by kernel_rfl) ?_
  exact ApTE.nil hfl (scopy (by kernel_rfl))
theorem news (w : World) : Calls Tryd.prog 36 #[] w fun e w' => e = .returned (.agg #[.int .i16 0, .string ⟨#[]⟩, .string ⟨#[]⟩, .int .i32 0]) ∧ Below w.heap.size w w' := by
  go_enter Tryd.func36, Tryd.ntmps36
  go_wp2_with (go_at_call 63; refine (default_skip Tryd.func63 rfl rfl _ _).mono ?_; rintro e w' ⟨rfl, hw⟩; have hw := hw.symm; subst hw)
  refine bodyPost_ret (v := .agg #[.int .i16 0, .string ⟨#[]⟩, .string ⟨#[]⟩, .int .i32 0]) (by simp [results, Tryd.results36, go_sem]) rfl ⟨rfl, ?_⟩
  exact ((Below.refl _ _).alloc (Nat.le_refl _) _).alloc (by simp) _
theorem readsF : ReadsFrom 37 64 := readsFrom Tryd.func37 rfl rfl (by kernel_rfl) (by kernel_rfl) (by kernel_rfl) (by kernel_rfl)
theorem again : AgainKOk 19 msgI := againKept (init := #[.int .i16 0, .string ⟨#[]⟩, .string ⟨#[]⟩, .int .i32 0]) (z := #[.int .i16 0, .string ⟨#[]⟩, .string ⟨#[]⟩, .int .i32 0]) Tryd.func19 rfl rfl rfl (by kernel_rfl) rfl rfl (fun _ => by kernel_rfl) (by kernel_rfl) (by kernel_rfl) rfl rfl ⟨(by kernel_rfl), news⟩ readsF reads writes' (by kernel_rfl) rfl (nil_all (by kernel_rfl))
theorem okI (v : Int) : msgI.ok v = true := by
  simp [M.ok, M.isFlex, msgI, gs, okFs, okF, scalar, most, okTagged]
theorem wrI (v : Int) (h0 : 0 ≤ v) (h1 : v < 2) (t : T) : fixed v 2 ++ write msg v t = writeK msgI v t := by
  have h : v = 0 ∨ v = 1 := by omega
  rcases h with rfl | rfl <;> rfl
set_option maxRecDepth 8000 in
set_option maxHeartbeats 1000000 in
theorem spec : SpecOk 18 msg := by
  intro w
  go_enter Tryd.func18, Tryd.ntmps18
  go_wp2
  exact ⟨rfl, _, (results_cell1 (p := 0) (ty := 31) (by kernel_rfl) _ _ _).trans (msg_load (heap_first _ _ _)), _, rfl, ⟨_, rfl, FL.of_row (fs := fs) (heap_second _ _ _) (ss := List.replicate 3 (.slice none 0 0)) (by rfl) (by rfl) (by kernel_rfl) (FL.none_within (by kernel_rfl) rfl) (by rfl)⟩, below_push2 _ (Nat.le_refl _) _ _ rfl⟩

set_option maxRecDepth 8000 in
set_option maxHeartbeats 4000000 in
theorem walk (w : World) (n : Int) (h0 : 0 ≤ n) (h1' : n < 256) (tv : Value) (t : T) (m : Int) (ha0 : 0 ≤ m) (ha1 : m < 65536) (ht : TreeV w tv t) (her : ErrOk w) (hz : ∀ v, (write msg v t).length < 4294967296) :
    Calls Tryd.prog 5 #[.int .u8 n, tv, .int .u16 m] w fun e w' => e = .returned (.bool true) ∧ Below w.heap.size w w' := by
  obtain ⟨s, l, u, rfl, h1, h2, h3⟩ := ht
  obtain ⟨a1, c1, rfl⟩ := h1.len
  obtain ⟨a2, c2, rfl⟩ := h2.len
  obtain ⟨a3, c3, rfl⟩ := h3.len
  have HT : Hid (TreeV w (treV t.n t.null (.slice a1 t.s.length c1) (.slice a2 t.l.length c2) (.slice a3 t.u.length c3)) t) := Lib.hid ⟨_, _, _, rfl, h1, h2, h3⟩
  have HK := Lib.hid HT.out.keys
  have HE := Lib.hid her
  have HZ := Lib.hid hz
  obtain ⟨q1, q3⟩ := last_box (Below.refl _ (w.alloc (.cells #[iv t.n, .slice a1 t.s.length c1, .bool t.null, .slice a2 t.l.length c2, .slice a3 t.u.length c3] 26)))
  have hB := below_push w.heap.size (Nat.le_refl _) (.cells #[iv t.n, .slice a1 t.s.length c1, .bool t.null, .slice a2 t.l.length c2, .slice a3 t.u.length c3] 26) rfl
  generalize hW : w.alloc (.cells #[iv t.n, .slice a1 t.s.length c1, .bool t.null, .slice a2 t.l.length c2, .slice a3 t.u.length c3] 26) = W at *
  have HB := Lib.hid hB
  have hwz : w.heap.size ≤ W.heap.size := hB.size
  have hm0 : 0 ≤ n % 2 := Int.emod_nonneg _ (by decide)
  have hm1 : n % 2 < 2 := Int.emod_lt_of_pos _ (by decide)
  clear h1 h2 h3 hB her hz
  go_enter Tryd.func5, Tryd.ntmps5
  go_wp2_with fail
  clear hW
  refine (fits2_any W _ t (HT.out.stay HB.out)).mono ?_
  rintro e w1 ⟨⟨qf, rfl⟩, hb1⟩
  have y1 := fun k => ((bcell hb1).1 w.heap.size k (show w.heap.size < W.heap.size by omega)).trans (q1 k)
  have Z1 := Lib.hid (HB.out.trans (hb1.lower (m := w.heap.size) hwz))
  have s1 : W.heap.size ≤ w1.heap.size := hb1.size
  clear hb1 q1
  cases qf
  · go_wp2
    go_ret
    exact ⟨rfl, Z1.out⟩
  have r1 : IntKind.wrap .i64 n = n := by rw [IntKind.wrap_i64]; omega
  have r2 : Int.tmod n 2 = n % 2 := Int.tmod_eq_emod_of_nonneg h0
  have r3 : IntKind.wrap .i64 (n % 2) = n % 2 := by rw [IntKind.wrap_i64]; omega
  go_wp2_with fail
  go_region_held3 (fun w' => ∀ k, w'.cell? ⟨w.heap.size, k, none⟩ = (#[iv t.n, .slice a1 t.s.length c1, .bool t.null, .slice a2 t.l.length c2, .slice a3 t.u.length c3] : Array Value)[k]?) (assumption) (first
    | (go_at_call 18; refine (spec _).mono ?_; rintro e w3 ⟨v3, rfl, hmv, hbel'⟩; have hbel := below_undrew hbel'; clear hbel';
       have y3 := fun k => ((bcell hbel).1 w.heap.size k (show w.heap.size < w1.heap.size by omega)).trans (y1 k);
       have Z3 := Lib.hid (Z1.out.trans (hbel.lower (m := w.heap.size) Z1.out.size)); have HM := Lib.hid hmv; have s3 : w1.heap.size ≤ w3.heap.size := hbel.size; clear hbel hmv)
    | (go_at_call 9; refine (Kept_any _ _ _ msg (n % 2) t HM.out (HT.out.stay Z3.out) (by kernel_rfl) (by have := HZ.out (n % 2); rw [List.length_append, fixed_length]; simp only [lim]; omega)).mono ?_; rintro e w5 ⟨v5, rfl, hown, hbel⟩;
       have y4 := fun k => ((bcell hbel).1 w.heap.size k (show w.heap.size < w3.heap.size by omega)).trans (y3 k);
       have Z5 := Lib.hid (Z3.out.trans (hbel.lower (m := w.heap.size) Z3.out.size)); have HO := Lib.hid hown; have s5 : w3.heap.size ≤ w5.heap.size := hbel.size; clear hbel hown))
  clear r1 r2 r3
  obtain ⟨p5, c5, rfl, -⟩ := row_form HO.out
  have HE5 := Lib.hid (HE.out.below Z5.out)
  have HZ5 : Hid ((fixed (n % 2) 2 ++ write msg (n % 2) t).length < 4294967300) := Lib.hid (by have := HZ.out (n % 2); rw [List.length_append, fixed_length]; omega)
  have h63 : (fixed (n % 2) 2 ++ write msg (n % 2) t).length ≤ 9223372036854775807 := by have := HZ5.out; omega
  have HW := Lib.hid (wrI (n % 2) hm0 hm1 t)
  obtain ⟨t', e1, e2, e3, e4⟩ := kept_law msgI (n % 2) t (by omega) (by decide) (okI _) HK.out (by have g1 := HW.out; rw [writeK_eq msgI _ t (by decide)] at g1; have g2 := congrArg List.length g1; have g3 := HZ.out (n % 2); simp only [List.length_append] at g2; omega)
  rw [← HW.out] at e1 e2 e4
  have hag := again.2 w5 _ _ (fixed (n % 2) 2 ++ write msg (n % 2) t) (own_bytes HO.out) HE5.out (by have := HZ5.out; simp only [lim2]; omega) (fun r'' h => by rw [e1] at h ⊢; exact ⟨e3, by rw [e2]; have := HZ5.out; simp only [lim2]; omega⟩)
  rw [e1] at hag
  simp only [Option.isSome_some, if_true] at hag
  rw [e2] at hag
  have HA := Lib.hid hag
  have HC := Lib.hid e4
  clear hag e1 e2 e3 e4 y1 y3 y4 HW
  have hlen : 2 ≤ (fixed (n % 2) 2 ++ write msg (n % 2) t).length := by rw [List.length_append, fixed_length]; omega
  generalize fixed (n % 2) 2 ++ write msg (n % 2) t = B at *
  go_wp2_with fail
  refine HA.out.mono ?_
  rintro e w7 ⟨u7, rfl, hb7, ho7⟩
  have Z7 := Lib.hid (Z5.out.trans (hb7.lower (m := w.heap.size) Z5.out.size))
  have hby : BytesAt w7 _ (.slice p5 B.length c5) B := (own_between HO.out).on hb7
  have HBy := Lib.hid hby
  have HE7 := Lib.hid (HE.out.below Z7.out)
  have HF := Lib.hid (row_form HO.out)
  clear hb7 ho7 hby HA HZ HO HE5
  obtain ⟨_, _, hpe, hpf⟩ := HF.out
  obtain ⟨g, hg⟩ := hpf 0 (by omega)
  simp only [Value.slice.injEq, true_and] at hpe
  obtain ⟨hp1, hp2⟩ := hpe
  rw [hg] at hp1
  subst hp1
  clear hp2 hpf hg HF
  have hcap : B.length ≤ c5 := by
    rcases HBy.out with ⟨h, -⟩ | ⟨_, _, _, h, hc, -⟩
    · simp at h
    · simp only [Value.slice.injEq] at h; omega
  have hLi : ¬ ((B.length : Int) = 0) := by omega
  have hBne : ¬ (B = []) := fun h => by rw [h] at hlen; simp at hlen
  obtain ⟨k, hk⟩ : ∃ k : Nat, (k : Int) = m % (B.length : Int) := ⟨(m % (B.length : Int)).toNat, by have := Int.emod_nonneg m hLi; omega⟩
  have hkl : k < B.length := by have := Int.emod_lt_of_pos m (show 0 < (B.length : Int) by omega); omega
  have e1 : Int.tmod m (B.length : Int) = (k : Int) := by rw [Int.tmod_eq_emod_of_nonneg ha0, hk]
  have e2 : IntKind.wrap .i64 (k : Int) = (k : Int) := by rw [IntKind.wrap_i64]; omega
  have e3 : IntKind.wrap .i64 m = m := by rw [IntKind.wrap_i64]; omega
  have e4 : m % (B.length : Int) = (k : Int) := hk.symm
  have hkc : (k : Int) ≤ (c5 : Int) := by omega
  have hnone := HC.out k hkl
  have HG : Hid (∀ W', Below w7.heap.size w7 W' → Calls Tryd.prog 19 #[.slice (some ⟨g, 0, none⟩) k c5] W' fun e w' => ∃ u, e = .returned (.tuple #[u, .bool false]) ∧ Below W'.heap.size W' w') := Lib.hid fun W' hW' => by
    have hfr := (HBy.out.on hW').front (k := k) (by omega)
    have h := again.2 W' _ _ (B.take k) hfr (HE7.out.below hW') (by rw [List.length_take]; have := HZ5.out; simp only [lim2]; omega) (fun r'' h => by rw [hnone] at h; cases h)
    rw [hnone] at h
    refine h.mono ?_
    rintro e w' ⟨u, he, hb, -⟩
    exact ⟨u, he, hb⟩
  have s7 : w.heap.size ≤ w7.heap.size := Z7.out.size
  clear hnone hk hlen
  go_wp2_with fail
  refine (HG.out _ (Below.refl _ _)).mono ?_
  rintro e w9 ⟨u9, rfl, hb9⟩
  have Z9 := Lib.hid (Z7.out.trans (hb9.lower (m := w.heap.size) (show w.heap.size ≤ w7.heap.size by omega)))
  clear hb9
  go_wp2
  go_ret
  exact ⟨rfl, Z9.out⟩

section
open Go.ChangeShapes Go.WideShapes Go.ChangeAt Go.RowKit
set_option maxRecDepth 100000 in
theorem lifted (os : Os) (started : os.Started) (H : Type) (enc : TypeId × Value → H) (F : Stop.Interp) :
    ReturnsInHanded {} Tryd.checked os 5 .any ((OpenSpec.ofChange Rows.fnCutOffsetCommitKeySpec).preRow enc Tryd.prog Tryd.f5 Rows.fnCutOffsetCommitKeyRow.domain false Rows.fnCutOffsetCommitKeyRow.laid) (((OpenSpec.ofChange Rows.fnCutOffsetCommitKeySpec).at F).post enc Tryd.prog Tryd.f5 false true false false) := by
  have hw : (DataW.whole enc Tryd.prog ((laidWorld os).forCall (fun _ _ => 0) ⟨#[], #[.int .u8 0, .agg #[.int .i64 0, .slice none 0 0, .bool false, .slice none 0 0, .slice none 0 0], .int .u16 0], []⟩).memory Tryd.f5.params.toList Rows.fnCutOffsetCommitKeySpec.vars false (#[.int .u8 0, .agg #[.int .i64 0, .slice none 0 0, .bool false, .slice none 0 0, .slice none 0 0], .int .u16 0] : Array Value).toList 8).map (fun x => (x.1, x.2.1)) = some ([.lit (.int .u8 0), .agg [.lit (.int .i64 0), .nil, .lit (.bool false), .nil, .nil], .lit (.int .u16 0)], []) := by kernel_rfl
  obtain ⟨⟨x1, x2, x3⟩, hx, hx1⟩ := Option.map_eq_some_iff.1 hw
  simp only [Prod.mk.injEq] at hx1
  obtain ⟨rfl, rfl⟩ := hx1
  refine returnsInHanded_of_row (C := Tryd.checked) (s := (OpenSpec.ofChange Rows.fnCutOffsetCommitKeySpec)) own started (by kernel_rfl) Tryd.func5
    (witness_row_atRef (enc := enc) (C := Tryd.checked) false (laidWorld os) #[.int .u8 0, .agg #[.int .i64 0, .slice none 0 0, .bool false, .slice none 0 0, .slice none 0 0], .int .u16 0] rfl (by kernel_rfl) (by kernel_rfl) (by kernel_rfl)
      (OpenSpec.preRow_of_cond 8 hx (by kernel_rfl) (fun k hk => by cases hk) (by kernel_rfl) (laidMet_of_run' 8 (by kernel_rfl) (by kernel_rfl)))) ?_
  intro W base args ds gs before hval0 hW _ hcond _ hL _ _
  have her : ErrOk W := err_of_laid hL
  have hW' := hW
  have hltb := hW.lt
  obtain ⟨p, q, hA0, hV, hpq, -, -⟩ := hW
  have hA : DataW.TrodAll enc Tryd.prog W 0 (fun _ => true) true Tryd.f5.params.toList args.toList ds p := hA0
  have hval : ∀ (j : Nat) t v, Tryd.f5.params[j]? = some t → args[j]? = some v → Value.okWide Tryd.prog W .any base t v := hval0
  rw [Tryd.params5] at hA hval
  obtain ⟨v0, vs0, d0, ds0, p0, q0, hargs, rfl, rfl, h0, r0⟩ := trodAll_cons hA
  obtain ⟨v1, vs1, d1, ds1, p1, q1, hargs1, rfl, rfl, h1, r1⟩ := trodAll_cons r0
  obtain ⟨v2, vs2, d2, ds2, p2, q2, hargs2, rfl, rfl, h2, r2⟩ := trodAll_cons r1
  obtain ⟨rfl, rfl, rfl⟩ := trodAll_nil r2
  obtain rfl : args = #[v0, v1, v2] := by cases args; simp_all
  obtain ⟨n, rfl, rfl, rfl, hn⟩ := open_int Tryd.underlying5 (hval 0 5 v0 rfl rfl) h0
  obtain ⟨hn0, hn1⟩ := u8_range hn
  obtain ⟨t, ht, hbt⟩ := open_tree (hval 1 26 v1 rfl rfl) h1
  obtain ⟨m, rfl, rfl, rfl, hm⟩ := open_int Tryd.underlying37 (hval 2 37 v2 rfl rfl) h2
  obtain ⟨hm0, hm1⟩ := u16_range hm
  refine Calls.mono (walk W n hn0 hn1 v1 t m hm0 hm1 ht her (fun v => write_mx (m := msg) (by kernel_rfl) v t)) ?_
  rintro e W' ⟨rfl, hb⟩
  refine ⟨_, rfl, ?_⟩
  refine law_post rfl (by kernel_rfl) hW' ?_ (fun t ht => ?_) hb
  · obtain ⟨rfl, rfl⟩ := trodVars_none hV
    rfl
  · rw [Tryd.params5] at ht
    simp only [List.mem_cons, List.not_mem_nil, or_false] at ht
    rcases ht with rfl | rfl | rfl
    all_goals exact ⟨by kernel_rfl, of_decide_eq_true (by kernel_rfl)⟩
/-- The row's facts, first half. -/
def jA (P : Program) (f : FuncId) (fn : Func) (s : ChangeSpec) (c : OpenClaim) : Bool :=
  c.wf (OpenSpec.ofChange s) && laidOutB P && mapsRowed P &&
  fn.params.all (P.readableRec ·) && namedTie P c.named s.vars &&
  (c.stops == []) && (P.stops == []) && (c.knobs == []) && (P.stopKnobs == []) &&
  (c.inPlace == P.inPlace f) && (c.unfollowed == P.unfollowed f) && (c.recurses == P.recurses f) && (c.named == P.varsNamed f) &&
  (c.maps == (fn.params.toList ++ s.plain.varTypes P).any (P.mapsRec ·)) && (c.ifaces == (fn.params.toList ++ s.plain.varTypes P).any (P.ifacesRec ·)) && (c.mapsOut == P.mapsAmong fn.resultTypes.toList) &&
  (c.loops == (fn.params.toList ++ s.plain.varTypes P).any (P.loopsFrom ·)) && (c.wideKeys == (fn.params.toList ++ s.plain.varTypes P ++ fn.resultTypes.toList).any (P.wideKeysFrom ·)) &&
  s.vars.all (P.varReadable ·) && fn.resultTypes.all (fun t => P.readableRec t && decide (t < P.types.size)) && (c.ifacesOut == fn.resultTypes.toList.any (P.ifacesRec ·)) && (c.loopsOut == fn.resultTypes.toList.any (P.loopsFrom ·)) && (c.plainKeys == P.plainKeys) && c.shortTexts.isNone
/-- The second half. -/
def jB (P : Program) (fn : Func) (s : ChangeSpec) (c : OpenClaim) : Bool :=
  P.stopsHeard && P.mayEnter && (c.lifted == P.liftsFinal) && (P.make == some c.make) && (c.kinds == (if c.domain.isEmpty then [] else fn.params.toList.map fun t => match P.underlying t with | some (.int k) => some k | _ => none)) && (c.pinned == c.pinnedBy) &&
  (c.veiled == (fn.params.toList ++ s.plain.varTypes P ++ fn.resultTypes.toList).any (P.veiledRec ·)) && c.veiledFits P fn.params.toList (fn.params.toList ++ s.plain.varTypes P ++ fn.resultTypes.toList)
theorem j_two {P : Program} {f : FuncId} {fn : Func} {s : ChangeSpec} {c : OpenClaim} (hA : jA P f fn s c = true) (hB : jB P fn s c = true) : joinedFacts P f fn s c = true := by
  simp only [jA, Bool.and_eq_true] at hA
  simp only [jB, Bool.and_eq_true] at hB
  obtain ⟨⟨⟨⟨⟨⟨⟨b1, b2⟩, b3⟩, b4⟩, b5⟩, b6⟩, b7⟩, b8⟩ := hB
  simp only [joinedFacts, Bool.and_eq_true]
  exact ⟨⟨⟨⟨⟨⟨⟨⟨hA, b1⟩, b2⟩, b3⟩, b4⟩, b5⟩, b6⟩, b7⟩, b8⟩
theorem factsA : jA Tryd.pinned.checked.prog 5 Tryd.f5 ((OpenSpec.ofChange Rows.fnCutOffsetCommitKeySpec)).bare Rows.fnCutOffsetCommitKeyRow = true := by kernel_rfl
theorem factsB : jB Tryd.pinned.checked.prog Tryd.f5 ((OpenSpec.ofChange Rows.fnCutOffsetCommitKeySpec)).bare Rows.fnCutOffsetCommitKeyRow = true := by kernel_rfl
theorem said : Rows.FnCutOffsetCommitKeySaid :=
  OpenClaim.holds_of_cond 5 Tryd.f5 rfl rfl rfl rfl rfl rfl rfl ⟨rfl, rfl, rfl, rfl, rfl⟩ rfl rfl rfl rfl rfl (by kernel_rfl) Tryd.func5 (j_two factsA factsB)
    (of_decide_eq_true (by kernel_rfl)) (by unfold Func.isWrapper; first | (rw [if_pos (by decide +kernel)]; kernel_rfl) | (rw [if_neg (by decide +kernel)]; exact ⟨rfl, rfl⟩))
    (fun os started H enc _ F => by rw [OpenClaim.pre_eq_preRow]; exact lifted os started H enc F)
theorem plain (f : FuncId) (fn : Func) (hf : Tryd.pinned.checked.prog.funcNamed "pub-kmsg/laws.FnCutOffsetCommitKey" = some f) (hfn : Tryd.pinned.checked.prog.funcs[f]? = some fn) :
    false = Tryd.pinned.checked.prog.looks [] ∧ ∀ (j : Nat) t, fn.params[j]? = some t → Tryd.pinned.checked.prog.wantsStandIn t = false := by
  obtain rfl : f = 5 := Option.some.inj ((show Tryd.prog.funcNamed "pub-kmsg/laws.FnCutOffsetCommitKey" = some 5 by kernel_rfl).symm.trans hf) |>.symm
  obtain rfl : fn = Tryd.f5 := (Option.some.inj (Tryd.func5.symm.trans hfn)).symm
  refine ⟨by kernel_rfl, fun j t ht => ?_⟩
  rw [Tryd.params5] at ht
  have hm := Array.mem_of_getElem? ht
  simp only [List.mem_toArray, List.mem_cons, List.not_mem_nil, or_false] at hm
  rcases hm with rfl | rfl | rfl
  all_goals exact of_decide_eq_true (by kernel_rfl)
theorem card : Rows.FnCutOffsetCommitKeyCardSaid :=
  Claim7.holds_tied_plain_at .later [] _ _ _ _ said (fun _ h => by cases h) (by kernel_rfl) (fun _ h => by cases h) fnCutOffsetCommitKey_row_tie rfl ⟨rfl, rfl⟩ (by kernel_rfl) rfl plain (by kernel_rfl)
end
end Go.Proofs.YtodmlklfjinonaaDoor.OffsetCommitKey

