/-
  What is read of any octets as a ConnectMemberMetadata is written as octets that are read again, and written as the same. Conditions: none.
-/
import Derived.Test.YtodmlklfjinonaaDoorY5
import Derived.Test.YtodmlklfjinonaaDoorY7
import Derived.Test.YtodmlklfjinonaaDoorKl
import Derived.Test.YtodmlklfjinonaaDoorKb
namespace Go.Proofs.YtodmlklfjinonaaDoor.ConnectMemberMetadata
open Go.Proofs.YtodmlklfjinonaaDoor
open Go.RowKit
open Kz
def fs : List F := [⟨8, 0, -1, -1, -1, 0, 0, []⟩, ⟨4, 0, -1, -1, -1, 0, 0, []⟩, ⟨9, 1, -1, -1, -1, 0, 0, []⟩]
def msg : M := ⟨fs, -1⟩
def gs : List F := [⟨8, -32768, -1, -1, -1, 0, 0, []⟩, ⟨4, -32768, -1, -1, -1, 0, 0, []⟩, ⟨9, 1, -1, 1, -1, 0, 0, []⟩]
def msgI : M := ⟨gs, -1⟩
def sets_ConnectMemberMetadata : List (Nat × Value) := []
theorem def_ConnectMemberMetadata : DefSets 65 4 sets_ConnectMemberMetadata := defSets Tryd.func65 rfl rfl (by kernel_rfl) (by kernel_rfl) DS.skip
theorem reads : ReadsKept TagRep 66 msgI 64 := by
  refine readsKept (E := ⟨47, 7, 8, 2, none, 6⟩) (s := 9) stable_tagRep rfl rfl Tryd.func66 rfl (by kernel_rfl) (by kernel_rfl) (by kernel_rfl) (by decide) (sconst (by kernel_rfl)) (sdefault (DefSets.okM def_ConnectMemberMetadata (by kernel_rfl)) (by kernel_rfl)) (sreader rfl (by kernel_rfl) (by kernel_rfl)) (sver rd_Int16 (by kernel_rfl) (by kernel_rfl) (by kernel_rfl) (by kernel_rfl)) (sload (by kernel_rfl) (by kernel_rfl) (by kernel_rfl)) (smove (by kernel_rfl)) (scopy (by kernel_rfl)) (by kernel_rfl) (by kernel_rfl) (by kernel_rfl) (by kernel_rfl) (fun v hv => ?_)
  have hfl : false = false := rfl
  have hft : false = true → false = true := id
  refine RdTE.part (by kernel_rfl) ?_
  refine RdTE.cons hft stable_tagRep (RdV.always (RdV.empty (by decide) (by kernel_rfl) (RdV.of (FV.textN hfl (Rv.safe (by kernel_rfl) (by kernel_rfl) (Rv.call rd_String (by kernel_rfl)))) (by kernel_rfl) (by kernel_rfl) (by kernel_rfl) (by kernel_rfl) (by kernel_rfl) (by kernel_rfl))) (by simp [F.has, hv])) (by kernel_rfl) ?_
  refine RdTE.cons hft stable_tagRep (RdV.always (RdV.of (FV.int (by decide) (Rv.call rd_Int64 (by kernel_rfl))) (by kernel_rfl) (by kernel_rfl) (by kernel_rfl) (by kernel_rfl) (by kernel_rfl) (by kernel_rfl)) (by simp [F.has, hv])) (by kernel_rfl) ?_
  exact RdTE.lastN rfl rfl (test_geq (by kernel_rfl) (by kernel_rfl)) (by simp [F.has]) (by decide) (fun h => ⟨by decide, of_decide_eq_true h⟩) (by kernel_rfl) (rvB rfl (by kernel_rfl)) (by kernel_rfl) (sstore (by kernel_rfl) (by kernel_rfl) (by kernel_rfl) (by kernel_rfl)) (by kernel_rfl) (sfail rfl (by kernel_rfl))
theorem writes' : WritesKept TagRep 41 msgI := by
  refine writesKept (E := ⟨46, 1, 5, none⟩) (res := 4) stable_tagRep rfl rfl Tryd.func41 rfl (by kernel_rfl) (by kernel_rfl) (by kernel_rfl) (by decide) (sconst (by kernel_rfl)) (sload (by kernel_rfl) (by kernel_rfl) (by kernel_rfl)) (smove (by kernel_rfl)) (sload (by kernel_rfl) (by kernel_rfl) (by kernel_rfl)) (fun _ => Av.call wr_Int16 (by kernel_rfl) (by kernel_rfl)) (by kernel_rfl) (by kernel_rfl) (by kernel_rfl) (by kernel_rfl) (fun v hv => ?_)
  have hfl : false = false := rfl
  have hft : false = true → false = true := id
  refine ApTE.part (by kernel_rfl) ?_
  refine ApTE.cons hft stable_tagRep (ApV.always (ApV.of (sload (by kernel_rfl) (by kernel_rfl) (by kernel_rfl)) (FA.text (Av.plainV (textB 2) hfl (Av.call wr_String (by kernel_rfl) (by kernel_rfl)))) (by kernel_rfl) (by kernel_rfl)) (by simp [F.has, hv])) (by kernel_rfl) ?_
  refine ApTE.cons hft stable_tagRep (ApV.always (ApV.of (sload (by kernel_rfl) (by kernel_rfl) (by kernel_rfl)) (FA.int (by kernel_rfl) (Av.call wr_Int64 (by kernel_rfl) (by kernel_rfl))) (by kernel_rfl) (by kernel_rfl)) (by simp [F.has, hv])) (by kernel_rfl) ?_
  refine ApTE.cons hft stable_tagRep (ApV.guardV (testW_geq (by kernel_rfl) (by kernel_rfl)) (by simp [F.has]) (by decide) (by kernel_rfl) (fun hq => (ApV.of (sload (by kernel_rfl) (by kernel_rfl) (by kernel_rfl)) (FA.noctets (by kernel_rfl) (by simp [F.has] at hq; omega) (Av.call wr_NullableBytes (by kernel_rfl) (by kernel_rfl))) (by kernel_rfl) (by kernel_rfl)))) (by kernel_rfl) ?_
  exact ApTE.nil hfl (scopy (by kernel_rfl))
theorem news (w : World) : Calls Tryd.prog 39 #[] w fun e w' => e = .returned (.agg #[.int .i16 0, .string ⟨#[]⟩, .int .i64 0, .slice none 0 0]) ∧ Below w.heap.size w w' := by
  go_enter Tryd.func39, Tryd.ntmps39
  go_wp2_with (go_at_call 65; refine (default_skip Tryd.func65 rfl rfl _ _).mono ?_; rintro e w' ⟨rfl, hw⟩; have hw := hw.symm; subst hw)
  refine bodyPost_ret (v := .agg #[.int .i16 0, .string ⟨#[]⟩, .int .i64 0, .slice none 0 0]) (by simp [results, Tryd.results39, go_sem]) rfl ⟨rfl, ?_⟩
  exact ((Below.refl _ _).alloc (Nat.le_refl _) _).alloc (by simp) _
theorem readsF : ReadsFrom 40 66 := readsFrom Tryd.func40 rfl rfl (by kernel_rfl) (by kernel_rfl) (by kernel_rfl) (by kernel_rfl)
theorem again : AgainKOk 20 msgI := againKept (init := #[.int .i16 0, .string ⟨#[]⟩, .int .i64 0, .slice none 0 0]) (z := #[.int .i16 0, .string ⟨#[]⟩, .int .i64 0, .slice none 0 0]) Tryd.func20 rfl rfl rfl (by kernel_rfl) rfl rfl (fun _ => by kernel_rfl) (by kernel_rfl) (by kernel_rfl) rfl rfl ⟨(by kernel_rfl), news⟩ readsF reads writes' (by kernel_rfl) rfl (nil_all (by kernel_rfl))
theorem okI (v : Int) : msgI.ok v = true := by
  simp [M.ok, M.isFlex, msgI, gs, okFs, okF, scalar, most, okTagged]
theorem wrI0 : fixed 0 2 ++ write msg 0 T.zero = writeK msgI 0 T.zero := eq_of_beq (by kernel_rfl)
set_option maxRecDepth 8000 in
set_option maxHeartbeats 1000000 in
theorem spec : SpecOk 21 msg := by
  intro w
  go_enter Tryd.func21, Tryd.ntmps21
  go_wp2
  exact ⟨rfl, _, (results_cell1 (p := 0) (ty := 31) (by kernel_rfl) _ _ _).trans (msg_load (heap_first _ _ _)), _, rfl, ⟨_, rfl, FL.of_row (fs := fs) (heap_second _ _ _) (ss := List.replicate 3 (.slice none 0 0)) (by rfl) (by rfl) (by kernel_rfl) (FL.none_within (by kernel_rfl) rfl) (by rfl)⟩, below_push2 _ (Nat.le_refl _) _ _ rfl⟩

set_option maxRecDepth 8000 in
set_option maxHeartbeats 4000000 in
theorem walk (w : World) (S : Nat → Prop) (q : Option Addr) (c : Nat) (bs : List UInt8) (hd : BytesAt w S (.slice q bs.length c) bs) (her : ErrOk w) :
    Calls Tryd.prog 6 #[.slice q bs.length c] w fun e w' => e = .returned (.bool true) ∧ Below w.heap.size w w' := by
  have bd : Box _ := ⟨hd⟩
  have be : Box _ := ⟨her⟩
  clear hd her
  by_cases hl : (bs.length : Int) > 2147483647
  · go_enter Tryd.func6, Tryd.ntmps6
    go_wp2
    go_ret
    exact ⟨rfl, Below.refl _ _⟩
  by_cases hk : (bs.length : Int) > 1000
  · go_enter Tryd.func6, Tryd.ntmps6
    go_wp2
    go_ret
    exact ⟨rfl, Below.refl _ _⟩
  go_enter Tryd.func6, Tryd.ntmps6
  go_wp2_with fail
  refine (spec _).mono ?_
  rintro e w1 ⟨mv, rfl, hmv, hb1⟩
  have HM := Lib.hid hmv
  have bb1 : Box _ := ⟨hb1⟩
  have bd1 : Box (BytesAt w1 (inW w S) (.slice q bs.length c) bs) := ⟨(bnd_bytes bd.get).below hb1 (fun g h => h.2)⟩
  clear hmv hb1
  go_wp2_with fail
  refine (Kept_any w1 _ _ msg 0 T.zero HM.out ⟨_, _, _, rfl, .inl ⟨none, rfl, rfl⟩, .nil none, .inl ⟨none, rfl, rfl⟩⟩ (by kernel_rfl) (of_decide_eq_true (by kernel_rfl))).mono ?_
  rintro e w2 ⟨v2, rfl, hown, hb2⟩
  obtain ⟨p2, c2, rfl, -⟩ := row_form hown
  have bb2 : Box (Below w.heap.size w w2) := ⟨bb1.get.trans (hb2.lower (m := w.heap.size) bb1.get.size)⟩
  have be2 : Box (ErrOk w2) := ⟨be.get.below bb2.get⟩
  have bd2 : Box (BytesAt w2 (inW w S) (.slice q bs.length c) bs) := ⟨(bnd_bytes bd.get).below bb2.get (fun g h => h.2)⟩
  have ho2 : Box (BytesAt w2 _ _ _) := ⟨own_bytes hown⟩
  have hw0 := wrI0
  obtain ⟨t0, k1, k2, k3, -⟩ := kept_law msgI 0 T.zero (by decide) (by decide) (okI _) KeysOk.zero (of_decide_eq_true (by kernel_rfl))
  have hl0 : (writeK msgI 0 T.zero).length ≤ lim2 := of_decide_eq_true (by kernel_rfl)
  rw [← hw0] at k1 k2 hl0
  have hag := again.2 w2 _ _ (fixed 0 2 ++ write msg 0 T.zero) ho2.get be2.get hl0 (fun r'' h => by rw [k1] at h ⊢; exact ⟨k3, by rw [k2]; exact hl0⟩)
  rw [k1] at hag
  simp only [Option.isSome_some, if_true] at hag
  have HA := Lib.hid hag
  clear hown hb2 k1 k2 k3 hag hw0 hl0
  go_wp2_with fail
  refine HA.out.mono ?_
  rintro e w3 ⟨u3, rfl, hb3, -⟩
  have bb3 : Box (Below w.heap.size w w3) := ⟨bb2.get.trans (hb3.lower (m := w.heap.size) bb2.get.size)⟩
  have be3 : Box (ErrOk w3) := ⟨be.get.below bb3.get⟩
  have bd3 : Box (BytesAt w3 (inW w S) (.slice q bs.length c) bs) := ⟨(bnd_bytes bd.get).below bb3.get (fun g h => h.2)⟩
  clear hb3 HA
  have hbm : bs.length ≤ most := by simp only [most]; omega
  cases hrd : msgI.readK (some bs) with
  | mk v ts =>
  obtain ⟨t, st⟩ := ts
  cases st with
  | none =>
    have hag := again.2 w3 _ _ bs bd3.get be3.get (by simp only [lim2]; omega) (fun r'' h => by rw [hrd] at h; cases h)
    rw [hrd] at hag
    have HA := Lib.hid hag
    clear hag
    go_wp2_with fail
    refine HA.out.mono ?_
    rintro e w4 ⟨u4, rfl, hb4, hu4⟩
    have hu4 : u4 = .slice none 0 0 := hu4
    subst hu4
    have bb4 : Box (Below w.heap.size w w4) := ⟨bb3.get.trans (hb4.lower (m := w.heap.size) bb3.get.size)⟩
    clear hb4 HA
    go_wp2
    go_ret
    exact ⟨rfl, bb4.get⟩
  | some r =>
    obtain ⟨hv0, hf, hwl, t', hr', hw', hf'⟩ := keptAny_law msgI bs r v t (by decide) (fun v _ => okI v) (by kernel_rfl) hbm hrd
    have hl2 : (writeK msgI v t).length ≤ lim2 := by simp only [lim2]; omega
    have hag := again.2 w3 _ _ bs bd3.get be3.get (by simp only [lim2]; omega) (fun r'' h => by rw [hrd]; exact ⟨hf, hl2⟩)
    rw [hrd] at hag
    simp only [Option.isSome_some, if_true] at hag
    have HA := Lib.hid hag
    have HR : Hid (msgI.readK (some (writeK msgI v t)) = (v, t', some [])) := Lib.hid hr'
    have HW := Lib.hid hw'
    have hwl' : (writeK msgI v t).length < 4611686018427387904 := by omega
    clear hag hr' hw' hv0 hwl
    generalize writeK msgI v t = B at *
    go_wp2_with fail
    refine HA.out.mono ?_
    rintro e w4 ⟨u4, rfl, hb4, ho4⟩
    obtain ⟨p4, n4, m4, rfl⟩ := own_slice ho4
    have bb4 : Box (Below w.heap.size w w4) := ⟨bb3.get.trans (hb4.lower (m := w.heap.size) bb3.get.size)⟩
    have be4 : Box (ErrOk w4) := ⟨be.get.below bb4.get⟩
    have bo4 : Box (BytesAt w4 _ _ B) := ⟨own_bytes ho4⟩
    have hag2 := again.2 w4 _ _ B bo4.get be4.get hl2 (fun r'' h => by rw [HR.out]; exact ⟨hf', by rw [HW.out]; exact hl2⟩)
    rw [HR.out] at hag2
    simp only [Option.isSome_some, if_true] at hag2
    rw [HW.out] at hag2
    have HA2 := Lib.hid hag2
    clear hb4 ho4 hag2 HA HR HW hf hf'
    go_wp2_with fail
    refine HA2.out.mono ?_
    rintro e w5 ⟨u5, rfl, hb5, ho5⟩
    obtain ⟨p5, n5, m5, rfl⟩ := own_slice ho5
    have bb5 : Box (Below w.heap.size w w5) := ⟨bb4.get.trans (hb5.lower (m := w.heap.size) bb4.get.size)⟩
    have hby : BytesAt w5 _ _ B := (bnd_bytes bo4.get).below hb5 (fun g h => h.2)
    have hsm := Same_any w5 _ _ _ _ B B hby (own_bytes ho5) hwl'
    have bsm : Box _ := ⟨hsm⟩
    clear hb5 ho5 hby hsm HA2
    go_wp2_with fail
    refine bsm.get.mono ?_
    rintro e w6 ⟨rfl, hg6⟩
    simp only [decide_true]
    have bb6 : Box (Below w.heap.size w w6) := ⟨bb5.get.trans ⟨hg6.os, hg6.tape, hg6.output, hg6.size, fun k hk => hg6.block k (Nat.lt_of_lt_of_le hk bb5.get.size) (by simp)⟩⟩
    clear hg6
    go_wp2
    go_ret
    exact ⟨rfl, bb6.get⟩

section
open Go.ChangeShapes Go.WideShapes Go.ChangeAt Go.RowKit
set_option maxRecDepth 100000 in
theorem lifted (os : Os) (started : os.Started) (H : Type) (enc : TypeId × Value → H) (F : Stop.Interp) :
    ReturnsInHanded {} Tryd.checked os 6 .any ((OpenSpec.ofChange Rows.fnAnyConnectMemberMetadataSpec).preRow enc Tryd.prog Tryd.f6 Rows.fnAnyConnectMemberMetadataRow.domain false Rows.fnAnyConnectMemberMetadataRow.laid) (((OpenSpec.ofChange Rows.fnAnyConnectMemberMetadataSpec).at F).post enc Tryd.prog Tryd.f6 false true false false) := by
  have hw : (DataW.whole enc Tryd.prog ((laidWorld os).forCall (fun _ _ => 0) ⟨#[], #[.slice none 0 0], []⟩).memory Tryd.f6.params.toList Rows.fnAnyConnectMemberMetadataSpec.vars false (#[.slice none 0 0] : Array Value).toList 8).map (fun x => (x.1, x.2.1)) = some ([.nil], []) := by kernel_rfl
  obtain ⟨⟨x1, x2, x3⟩, hx, hx1⟩ := Option.map_eq_some_iff.1 hw
  simp only [Prod.mk.injEq] at hx1
  obtain ⟨rfl, rfl⟩ := hx1
  refine returnsInHanded_of_row (C := Tryd.checked) (s := (OpenSpec.ofChange Rows.fnAnyConnectMemberMetadataSpec)) own started (by kernel_rfl) Tryd.func6
    (witness_row_atRef (enc := enc) (C := Tryd.checked) false (laidWorld os) #[.slice none 0 0] rfl (by kernel_rfl) (by kernel_rfl) (by kernel_rfl)
      (OpenSpec.preRow_of_cond 8 hx (by kernel_rfl) (fun k hk => by cases hk) (by kernel_rfl) (laidMet_of_run' 8 (by kernel_rfl) (by kernel_rfl)))) ?_
  intro W base args ds gs before hval0 hW _ hcond _ hL _ _
  have her : ErrOk W := err_of_laid hL
  have hW' := hW
  have hltb := hW.lt
  obtain ⟨p, q, hA0, hV, hpq, -, -⟩ := hW
  have hA : DataW.TrodAll enc Tryd.prog W 0 (fun _ => true) true Tryd.f6.params.toList args.toList ds p := hA0
  have hval : ∀ (j : Nat) t v, Tryd.f6.params[j]? = some t → args[j]? = some v → Value.okWide Tryd.prog W .any base t v := hval0
  rw [Tryd.params6] at hA hval
  obtain ⟨v1, vs1, d1, ds1, p1, q1, hargs1, rfl, rfl, h1, r1⟩ := trodAll_cons hA
  obtain ⟨rfl, rfl, rfl⟩ := trodAll_nil r1
  obtain rfl : args = #[v1] := by cases args; simp_all
  obtain ⟨q, c, bs, rfl, hbs⟩ := open_octets (hval 0 22 v1 rfl rfl) h1
  refine Calls.mono (walk W _ q c bs hbs her) ?_
  rintro e W' ⟨rfl, hb⟩
  refine ⟨_, rfl, ?_⟩
  refine law_post rfl (by kernel_rfl) hW' ?_ (fun t ht => ?_) hb
  · obtain ⟨rfl, rfl⟩ := trodVars_none hV
    rfl
  · rw [Tryd.params6] at ht
    simp only [List.mem_cons, List.not_mem_nil, or_false] at ht
    rcases ht with rfl
    all_goals exact ⟨by kernel_rfl, of_decide_eq_true (by kernel_rfl)⟩
/-- The row's facts, first half. -/
def jA (P : Program) (f : FuncId) (fn : Func) (s : ChangeSpec) (c : OpenClaim) : Bool :=
  c.wf (OpenSpec.ofChange s) && laidOutB P && mapsRowed P &&
  fn.params.all (P.readableRec ·) && namedTie P c.named s.vars &&
  (c.stops == []) && (P.stops == []) && (c.knobs == []) && (P.stopKnobs == []) &&
  (c.inPlace == P.inPlace f) && (c.unfollowed == P.unfollowed f) && (c.recurses == P.recurses f) && (c.named == P.varsNamed f) &&
  (c.maps == (fn.params.toList ++ s.plain.varTypes P).any (P.mapsRec ·)) && (c.ifaces == (fn.params.toList ++ s.plain.varTypes P).any (P.ifacesRec ·)) && (c.mapsOut == P.mapsAmong fn.resultTypes.toList) &&
  (c.loops == (fn.params.toList ++ s.plain.varTypes P).any (P.loopsFrom ·)) && (c.wideKeys == (fn.params.toList ++ s.plain.varTypes P ++ fn.resultTypes.toList).any (P.wideKeysFrom ·)) &&
  s.vars.all (P.varReadable ·) && fn.resultTypes.all (fun t => P.readableRec t && decide (t < P.types.size)) && (c.ifacesOut == fn.resultTypes.toList.any (P.ifacesRec ·)) && (c.loopsOut == fn.resultTypes.toList.any (P.loopsFrom ·)) && (c.plainKeys == P.plainKeys) && c.shortTexts.isNone
/-- The second half. -/
def jB (P : Program) (fn : Func) (s : ChangeSpec) (c : OpenClaim) : Bool :=
  P.stopsHeard && P.mayEnter && (c.lifted == P.liftsFinal) && (P.make == some c.make) && (c.kinds == (if c.domain.isEmpty then [] else fn.params.toList.map fun t => match P.underlying t with | some (.int k) => some k | _ => none)) && (c.pinned == c.pinnedBy) &&
  (c.veiled == (fn.params.toList ++ s.plain.varTypes P ++ fn.resultTypes.toList).any (P.veiledRec ·)) && c.veiledFits P fn.params.toList (fn.params.toList ++ s.plain.varTypes P ++ fn.resultTypes.toList)
theorem j_two {P : Program} {f : FuncId} {fn : Func} {s : ChangeSpec} {c : OpenClaim} (hA : jA P f fn s c = true) (hB : jB P fn s c = true) : joinedFacts P f fn s c = true := by
  simp only [jA, Bool.and_eq_true] at hA
  simp only [jB, Bool.and_eq_true] at hB
  obtain ⟨⟨⟨⟨⟨⟨⟨b1, b2⟩, b3⟩, b4⟩, b5⟩, b6⟩, b7⟩, b8⟩ := hB
  simp only [joinedFacts, Bool.and_eq_true]
  exact ⟨⟨⟨⟨⟨⟨⟨⟨hA, b1⟩, b2⟩, b3⟩, b4⟩, b5⟩, b6⟩, b7⟩, b8⟩
theorem factsA : jA Tryd.pinned.checked.prog 6 Tryd.f6 ((OpenSpec.ofChange Rows.fnAnyConnectMemberMetadataSpec)).bare Rows.fnAnyConnectMemberMetadataRow = true := by kernel_rfl
theorem factsB : jB Tryd.pinned.checked.prog Tryd.f6 ((OpenSpec.ofChange Rows.fnAnyConnectMemberMetadataSpec)).bare Rows.fnAnyConnectMemberMetadataRow = true := by kernel_rfl
theorem said : Rows.FnAnyConnectMemberMetadataSaid :=
  OpenClaim.holds_of_cond 6 Tryd.f6 rfl rfl rfl rfl rfl rfl rfl ⟨rfl, rfl, rfl, rfl, rfl⟩ rfl rfl rfl rfl rfl (by kernel_rfl) Tryd.func6 (j_two factsA factsB)
    (of_decide_eq_true (by kernel_rfl)) (by unfold Func.isWrapper; first | (rw [if_pos (by decide +kernel)]; kernel_rfl) | (rw [if_neg (by decide +kernel)]; exact ⟨rfl, rfl⟩))
    (fun os started H enc _ F => by rw [OpenClaim.pre_eq_preRow]; exact lifted os started H enc F)
theorem plain (f : FuncId) (fn : Func) (hf : Tryd.pinned.checked.prog.funcNamed "pub-kmsg/laws.FnAnyConnectMemberMetadata" = some f) (hfn : Tryd.pinned.checked.prog.funcs[f]? = some fn) :
    false = Tryd.pinned.checked.prog.looks [] ∧ ∀ (j : Nat) t, fn.params[j]? = some t → Tryd.pinned.checked.prog.wantsStandIn t = false := by
  obtain rfl : f = 6 := Option.some.inj ((show Tryd.prog.funcNamed "pub-kmsg/laws.FnAnyConnectMemberMetadata" = some 6 by kernel_rfl).symm.trans hf) |>.symm
  obtain rfl : fn = Tryd.f6 := (Option.some.inj (Tryd.func6.symm.trans hfn)).symm
  refine ⟨by kernel_rfl, fun j t ht => ?_⟩
  rw [Tryd.params6] at ht
  have hm := Array.mem_of_getElem? ht
  simp only [List.mem_toArray, List.mem_cons, List.not_mem_nil, or_false] at hm
  rcases hm with rfl
  all_goals exact of_decide_eq_true (by kernel_rfl)
theorem card : Rows.FnAnyConnectMemberMetadataCardSaid :=
  Claim7.holds_tied_plain_at .later [] _ _ _ _ said (fun _ h => by cases h) (by kernel_rfl) (fun _ h => by cases h) fnAnyConnectMemberMetadata_row_tie rfl ⟨rfl, rfl⟩ (by kernel_rfl) rfl plain (by kernel_rfl)
end
end Go.Proofs.YtodmlklfjinonaaDoor.ConnectMemberMetadata

