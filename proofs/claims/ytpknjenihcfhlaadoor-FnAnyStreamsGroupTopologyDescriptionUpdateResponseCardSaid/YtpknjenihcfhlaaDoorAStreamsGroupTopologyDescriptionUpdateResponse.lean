/-
  What is read of any octets as a StreamsGroupTopologyDescriptionUpdateResponse is written as octets that are read again, and written as the same. Conditions: none.
-/
import Derived.Test.YtpknjenihcfhlaaDoorY5
namespace Go.Proofs.YtpknjenihcfhlaaDoor.StreamsGroupTopologyDescriptionUpdateResponse
open Go.Proofs.YtpknjenihcfhlaaDoor
open Go.RowKit
open Kz
def fs : List F := [⟨3, 0, -1, -1, -1, 0, 0, []⟩, ⟨2, 0, -1, -1, -1, 0, 0, []⟩, ⟨8, 0, -1, 0, -1, 0, 0, []⟩]
def msg : M := ⟨fs, 0⟩
def sets_StreamsGroupTopologyDescriptionUpdateResponse : List (Nat × Value) := []
theorem def_StreamsGroupTopologyDescriptionUpdateResponse : DefSets 67 5 sets_StreamsGroupTopologyDescriptionUpdateResponse := defSets Tryd.func67 rfl rfl (by kernel_rfl) (by kernel_rfl) DS.skip
theorem reads : ReadsMsg TagRep 68 msg true 64 := by
  refine readsMsg_flex (E := ⟨54, 7, 8, 2, some 9, 6⟩) (s := 10) rfl stable_tagRep rfl (by decide) rfl Tryd.func68 rfl (by kernel_rfl) (by kernel_rfl) (by kernel_rfl) (by decide) (sconst (by kernel_rfl)) (fun v => sdefault (DefSets.okM def_StreamsGroupTopologyDescriptionUpdateResponse (by kernel_rfl)) (by kernel_rfl)) (sreader rfl (by kernel_rfl) (by kernel_rfl)) (sload (by kernel_rfl) (by kernel_rfl) (by kernel_rfl)) (smove (by kernel_rfl)) (scmpV (by kernel_rfl)) (smove (by kernel_rfl)) (scopy (by kernel_rfl)) (by kernel_rfl) (by kernel_rfl) (by kernel_rfl) (by kernel_rfl) (by kernel_rfl) (by kernel_rfl) (fun v hv => ?_)
  have hft : msg.isFlex v = true → true = true := fun _ => rfl
  refine RdTE.part (by kernel_rfl) ?_
  refine RdTE.cons hft stable_tagRep (RdV.always (RdV.of (FV.int (by decide) (Rv.call rd_Int32 (by kernel_rfl))) (by kernel_rfl) (by kernel_rfl) (by kernel_rfl) (by kernel_rfl) (by kernel_rfl) (by kernel_rfl)) (by simp [F.has, hv])) (by kernel_rfl) ?_
  refine RdTE.cons hft stable_tagRep (RdV.always (RdV.of (FV.int (by decide) (Rv.call rd_Int16 (by kernel_rfl))) (by kernel_rfl) (by kernel_rfl) (by kernel_rfl) (by kernel_rfl) (by kernel_rfl) (by kernel_rfl)) (by simp [F.has, hv])) (by kernel_rfl) ?_
  refine RdTE.cons hft stable_tagRep (RdV.always (RdV.empty (by decide) (by kernel_rfl) (RdV.of (FV.ntextF (by kernel_rfl) (by omega) rfl (by kernel_rfl) (by kernel_rfl) (Rv.safe (by kernel_rfl) (by kernel_rfl) (Rv.call rd_CompactNullableString (by kernel_rfl))) (Rv.safe (by kernel_rfl) (by kernel_rfl) (Rv.call rd_NullableString (by kernel_rfl)))) (by kernel_rfl) (by kernel_rfl) (by kernel_rfl) (by kernel_rfl) (by kernel_rfl) (by kernel_rfl))) (by simp [F.has, hv])) (by kernel_rfl) ?_
  exact RdTE.last (RdTl.tags rfl rfl rfl rfl (by kernel_rfl) (by kernel_rfl) (by kernel_rfl) (by kernel_rfl)) (sfail rfl (by kernel_rfl)) (by kernel_rfl)
theorem writes' : WritesMsg TagRep 37 msg true := by
  refine writesMsg_flex (E := ⟨58, 1, 5, some 6⟩) (res := 4) rfl (by decide) rfl Tryd.func37 rfl (by kernel_rfl) (by kernel_rfl) (by kernel_rfl) (by decide) (sconst (by kernel_rfl)) (sload (by kernel_rfl) (by kernel_rfl) (by kernel_rfl)) (smove (by kernel_rfl)) (scmpV (by kernel_rfl)) (smove (by kernel_rfl)) (by kernel_rfl) (by kernel_rfl) (by kernel_rfl) (by kernel_rfl) (fun v hv => ?_)
  have hft : msg.isFlex v = true → true = true := fun _ => rfl
  refine ApTE.part (by kernel_rfl) ?_
  refine ApTE.cons hft stable_tagRep (ApV.always (ApV.of (sload (by kernel_rfl) (by kernel_rfl) (by kernel_rfl)) (FA.int (by kernel_rfl) (Av.call wr_Int32 (by kernel_rfl) (by kernel_rfl))) (by kernel_rfl) (by kernel_rfl)) (by simp [F.has, hv])) (by kernel_rfl) ?_
  refine ApTE.cons hft stable_tagRep (ApV.always (ApV.of (sload (by kernel_rfl) (by kernel_rfl) (by kernel_rfl)) (FA.int (by kernel_rfl) (Av.call wr_Int16 (by kernel_rfl) (by kernel_rfl))) (by kernel_rfl) (by kernel_rfl)) (by simp [F.has, hv])) (by kernel_rfl) ?_
  refine ApTE.cons hft stable_tagRep (ApV.always (ApV.of (sload (by kernel_rfl) (by kernel_rfl) (by kernel_rfl)) (FA.ntext (by kernel_rfl) (by omega) (Av.flexV ntextB rfl (by kernel_rfl) (by kernel_rfl) (Av.call wr_CompactNullableString (by kernel_rfl) (by kernel_rfl)) (Av.call wr_NullableString (by kernel_rfl) (by kernel_rfl)))) (by kernel_rfl) (by kernel_rfl)) (by simp [F.has, hv])) (by kernel_rfl) ?_
  exact ApTE.last (ApTl.tagsE rfl rfl rfl rfl rfl rfl (by kernel_rfl) (by kernel_rfl) (by kernel_rfl) (by kernel_rfl) (by kernel_rfl) (by kernel_rfl) (by kernel_rfl)) (scopy (by kernel_rfl))
theorem news : NewsMsg 33 64 (setArr #[.int .i16 0, .int .i32 0, .int .i16 0, .pointer none, .map none] 0 sets_StreamsGroupTopologyDescriptionUpdateResponse) := newsMsg (N := 3) Tryd.func33 rfl rfl rfl (by kernel_rfl) (by kernel_rfl) (by kernel_rfl) (fun _ => by kernel_rfl) def_StreamsGroupTopologyDescriptionUpdateResponse
theorem setsV : SetsVersion 35 := setsVersion Tryd.func35 rfl rfl (by kernel_rfl) (by kernel_rfl) (by kernel_rfl) (by kernel_rfl) (by kernel_rfl)
theorem readsF : ReadsFrom 36 68 := readsFrom Tryd.func36 rfl rfl (by kernel_rfl) (by kernel_rfl) (by kernel_rfl) (by kernel_rfl)
theorem again : AgainOk 16 msg := againOk Tryd.func16 rfl rfl rfl (by kernel_rfl) rfl rfl rfl news setsV readsF reads writes' (by kernel_rfl) (nil_all (by kernel_rfl))
theorem maxv (w : World) : Calls Tryd.prog 15 #[] w fun e w' => e = .returned (.int .i64 0) ∧ Below w.heap.size w w' := by
  go_enter Tryd.func15, Tryd.ntmps15
  go_wp2_with (first
    | (go_at_call 33; refine (news.2 _).mono ?_; rintro e w' ⟨rfl, rfl⟩)
    | go_in)
  all_goals go_ret
  exact ⟨rfl, rfl, rfl, rfl, by simp, fun k hk => alloc_old w _ k hk⟩
theorem okv (v : Int) (h0 : 0 ≤ v) (h1 : v < 1) : msg.ok v = true := by
  obtain rfl : v = 0 := by omega
  kernel_rfl
set_option maxRecDepth 8000 in
set_option maxHeartbeats 1000000 in
theorem walk (w : World) (n : Int) (h0 : 0 ≤ n) (h1 : n < 256) (S : Nat → Prop) (q : Option Addr) (c : Nat) (bs : List UInt8) (hd : BytesAt w S (.slice q bs.length c) bs) (her : ErrOk w) :
    Calls Tryd.prog 5 #[.int .u8 n, .slice q bs.length c] w fun e w' => e = .returned (.bool true) ∧ Below w.heap.size w w' := by
  have bd : Box _ := ⟨hd⟩
  have be : Box _ := ⟨her⟩
  have hm0 : (0 : Int) ≤ 0 := by decide
  have bok : Box (msg.ok 0 = true) := ⟨okv 0 (by decide) (by decide)⟩
  clear hd her
  by_cases hl : (bs.length : Int) > 2147483647
  · go_enter Tryd.func5, Tryd.ntmps5
    go_wp2
    go_ret
    exact ⟨rfl, Below.refl _ _⟩
  by_cases hk : (bs.length : Int) > 1000
  · go_enter Tryd.func5, Tryd.ntmps5
    go_wp2_with fail
    refine (maxv w).mono ?_
    rintro e w1 ⟨rfl, hb1⟩
    go_wp2
    go_ret
    exact ⟨rfl, hb1⟩
  go_enter Tryd.func5, Tryd.ntmps5
  go_wp2_with fail
  refine (maxv w).mono ?_
  rintro e w1 ⟨rfl, hb1⟩
  have bb1 : Box _ := ⟨hb1⟩
  have bd1 : Box (BytesAt w1 (inW w S) (.slice q bs.length c) bs) := ⟨(bnd_bytes bd.get).below hb1 (fun g h => h.2)⟩
  have be1 : Box (ErrOk w1) := ⟨by obtain ⟨t, x, h⟩ := be.get; exact ⟨t, x, by rw [cell_kept (hb1.block _ (World.block_lt_of_cell? w _ h))]; exact h⟩⟩
  clear hb1
  go_wp2_with fail
  refine (version_any w1 n 0 h0 h1 (by decide) (by decide)).mono ?_
  rintro e w2 ⟨he, rfl⟩
  rw [show n % (0 + 1) = (0 : Int) by omega] at he
  subst he
  go_wp2_with fail
  have hbm : bs.length ≤ most := by simp only [most]; omega
  have hany := fun t r h => any_law msg 0 bs r t bok.get (by kernel_rfl) hbm h
  refine (again.2 w2 0 _ _ bs hm0 (by omega) bd1.get be1.get (by simp only [lim2]; omega) (fun t r h => ⟨(hany t r h).1, by have := (hany t r h).2.1; simp only [lim2]; omega⟩)).mono ?_
  rintro e w3 ⟨u3, rfl, hb3, hu3⟩
  have hb13 := bb1.get.trans ⟨hb3.os, hb3.tape, hb3.output, hb3.size, fun k hk => hb3.block k (Nat.lt_of_lt_of_le hk bb1.get.size)⟩
  have bb13 : Box _ := ⟨hb13⟩
  cases hrd : msg.read 0 (some bs) with
  | mk t st =>
  cases st with
  | none =>
    rw [hrd] at hu3
    have hu3 : u3 = .slice none 0 0 := hu3
    subst hu3
    clear hb3 hb13 hany
    go_wp2
    go_ret
    exact ⟨rfl, bb13.get⟩
  | some r =>
    rw [hrd] at hu3
    have ho3 : OwnB w3 w2.heap.size u3 (write msg 0 t) := hu3
    obtain ⟨hf, hwl, t', hr', hw', hf'⟩ := hany t r hrd
    obtain ⟨p3, n3, m3, rfl⟩ := own_slice ho3
    have bo3 : Box _ := ⟨ho3⟩
    have be3 : Box (ErrOk w3) := ⟨by obtain ⟨t, x, h⟩ := be.get; exact ⟨t, x, by rw [cell_kept (bb13.get.block _ (World.block_lt_of_cell? w _ h))]; exact h⟩⟩
    have hag := again.2 w3 0 _ _ (write msg 0 t) hm0 (by omega) (own_bytes ho3) be3.get (by simp only [lim2]; omega) (fun t'' r'' h => by rw [hr'] at h; cases h; exact ⟨hf', by rw [hw']; simp only [lim2]; omega⟩)
    rw [hr', hw'] at hag
    have bag : Box _ := ⟨hag⟩
    have hwl' : (write msg 0 t).length < 4611686018427387904 := by omega
    clear hb3 hb13 hany hu3 ho3 hag hwl
    go_wp2_with fail
    refine (version_any w3 n 0 h0 h1 (by decide) (by decide)).mono ?_
    rintro e w4 ⟨he, rfl⟩
    rw [show n % (0 + 1) = (0 : Int) by omega] at he
    subst he
    go_wp2_with fail
    refine bag.get.mono ?_
    rintro e w5 ⟨u5, rfl, hb5, ho5⟩
    have ho5 : OwnB w5 w4.heap.size u5 (write msg 0 t) := ho5
    have bb5 : Box _ := ⟨hb5⟩
    have bo5 : Box _ := ⟨ho5⟩
    obtain ⟨p5, n5, m5, rfl⟩ := own_slice ho5
    have hby : BytesAt w5 _ _ (write msg 0 t) := (bnd_bytes (own_bytes bo3.get)).below hb5 (fun g h => h.2)
    have hsm := Same_any w5 _ _ _ _ (write msg 0 t) (write msg 0 t) hby (own_bytes ho5) hwl'
    have bsm : Box _ := ⟨hsm⟩
    clear hb5 ho5 hby hsm
    go_wp2_with fail
    refine bsm.get.mono ?_
    rintro e w6 ⟨rfl, hg6⟩
    simp only [decide_true]
    have hfin : Below w.heap.size w w6 := by
      have hb5 := bb5.get
      have h13 := bb13.get
      exact h13.trans ⟨hg6.os.trans hb5.os, hg6.tape.trans hb5.tape, hg6.output.trans hb5.output, Nat.le_trans hb5.size hg6.size, fun k hk => (hg6.block k (by have := hb5.size; have := h13.size; omega) (by simp)).trans (hb5.block k (by have := h13.size; omega))⟩
    clear hg6
    go_wp2
    go_ret
    exact ⟨rfl, hfin⟩
section
open Go.ChangeShapes Go.WideShapes Go.ChangeAt Go.RowKit
set_option maxRecDepth 100000 in
theorem lifted (os : Os) (started : os.Started) (H : Type) (enc : TypeId × Value → H) (F : Stop.Interp) :
    ReturnsInHanded {} Tryd.checked os 5 .any ((OpenSpec.ofChange Rows.fnAnyStreamsGroupTopologyDescriptionUpdateResponseSpec).preRow enc Tryd.prog Tryd.f5 Rows.fnAnyStreamsGroupTopologyDescriptionUpdateResponseRow.domain false Rows.fnAnyStreamsGroupTopologyDescriptionUpdateResponseRow.laid) (((OpenSpec.ofChange Rows.fnAnyStreamsGroupTopologyDescriptionUpdateResponseSpec).at F).post enc Tryd.prog Tryd.f5 false true false false) := by
  have hw : (DataW.whole enc Tryd.prog ((laidWorld os).forCall (fun _ _ => 0) ⟨#[], #[.int .u8 0, .slice none 0 0], []⟩).memory Tryd.f5.params.toList Rows.fnAnyStreamsGroupTopologyDescriptionUpdateResponseSpec.vars false (#[.int .u8 0, .slice none 0 0] : Array Value).toList 8).map (fun x => (x.1, x.2.1)) = some ([.lit (.int .u8 0), .nil], []) := by kernel_rfl
  obtain ⟨⟨x1, x2, x3⟩, hx, hx1⟩ := Option.map_eq_some_iff.1 hw
  simp only [Prod.mk.injEq] at hx1
  obtain ⟨rfl, rfl⟩ := hx1
  refine returnsInHanded_of_row (C := Tryd.checked) (s := (OpenSpec.ofChange Rows.fnAnyStreamsGroupTopologyDescriptionUpdateResponseSpec)) own started (by kernel_rfl) Tryd.func5
    (witness_row_atRef (enc := enc) (C := Tryd.checked) false (laidWorld os) #[.int .u8 0, .slice none 0 0] rfl (by kernel_rfl) (by kernel_rfl) (by kernel_rfl)
      (OpenSpec.preRow_of_cond 8 hx (by kernel_rfl) (fun k hk => by cases hk) (by kernel_rfl) (laidMet_of_run' 8 (by kernel_rfl) (by kernel_rfl)))) ?_
  intro W base args ds gs before hval0 hW _ hcond _ hL _ _
  have her : ErrOk W := err_of_laid hL
  have hW' := hW
  have hltb := hW.lt
  obtain ⟨p, q, hA0, hV, hpq, -, -⟩ := hW
  have hA : DataW.TrodAll enc Tryd.prog W 0 (fun _ => true) true Tryd.f5.params.toList args.toList ds p := hA0
  have hval : ∀ (j : Nat) t v, Tryd.f5.params[j]? = some t → args[j]? = some v → Value.okWide Tryd.prog W .any base t v := hval0
  rw [Tryd.params5] at hA hval
  obtain ⟨v0, vs0, d0, ds0, p0, q0, hargs, rfl, rfl, h0, r0⟩ := trodAll_cons hA
  obtain ⟨v1, vs1, d1, ds1, p1, q1, hargs1, rfl, rfl, h1, r1⟩ := trodAll_cons r0
  obtain ⟨rfl, rfl, rfl⟩ := trodAll_nil r1
  obtain rfl : args = #[v0, v1] := by cases args; simp_all
  obtain ⟨n, rfl, rfl, rfl, hn⟩ := open_int Tryd.underlying5 (hval 0 5 v0 rfl rfl) h0
  obtain ⟨hn0, hn1⟩ := u8_range hn
  obtain ⟨q, c, bs, rfl, hbs⟩ := open_octets (hval 1 22 v1 rfl rfl) h1
  refine Calls.mono (walk W n hn0 hn1 _ q c bs hbs her) ?_
  rintro e W' ⟨rfl, hb⟩
  refine ⟨_, rfl, ?_⟩
  refine law_post rfl (by kernel_rfl) hW' ?_ (fun t ht => ?_) hb
  · obtain ⟨rfl, rfl⟩ := trodVars_none hV
    rfl
  · rw [Tryd.params5] at ht
    simp only [List.mem_cons, List.not_mem_nil, or_false] at ht
    rcases ht with rfl | rfl
    all_goals exact ⟨by kernel_rfl, of_decide_eq_true (by kernel_rfl)⟩
theorem said : Rows.FnAnyStreamsGroupTopologyDescriptionUpdateResponseSaid :=
  OpenClaim.holds_of_cond 5 Tryd.f5 rfl rfl rfl rfl rfl rfl rfl ⟨rfl, rfl, rfl, rfl, rfl⟩ rfl rfl rfl rfl rfl (by kernel_rfl) Tryd.func5 (by kernel_rfl)
    (of_decide_eq_true (by kernel_rfl)) (by unfold Func.isWrapper; first | (rw [if_pos (by decide +kernel)]; kernel_rfl) | (rw [if_neg (by decide +kernel)]; exact ⟨rfl, rfl⟩))
    (fun os started H enc _ F => by rw [OpenClaim.pre_eq_preRow]; exact lifted os started H enc F)
theorem plain (f : FuncId) (fn : Func) (hf : Tryd.pinned.checked.prog.funcNamed "pub-kmsg/laws.FnAnyStreamsGroupTopologyDescriptionUpdateResponse" = some f) (hfn : Tryd.pinned.checked.prog.funcs[f]? = some fn) :
    false = Tryd.pinned.checked.prog.looks [] ∧ ∀ (j : Nat) t, fn.params[j]? = some t → Tryd.pinned.checked.prog.wantsStandIn t = false := by
  obtain rfl : f = 5 := Option.some.inj ((show Tryd.prog.funcNamed "pub-kmsg/laws.FnAnyStreamsGroupTopologyDescriptionUpdateResponse" = some 5 by kernel_rfl).symm.trans hf) |>.symm
  obtain rfl : fn = Tryd.f5 := (Option.some.inj (Tryd.func5.symm.trans hfn)).symm
  refine ⟨by kernel_rfl, fun j t ht => ?_⟩
  rw [Tryd.params5] at ht
  have hm := Array.mem_of_getElem? ht
  simp only [List.mem_toArray, List.mem_cons, List.not_mem_nil, or_false] at hm
  rcases hm with rfl | rfl
  all_goals exact of_decide_eq_true (by kernel_rfl)
theorem card : Rows.FnAnyStreamsGroupTopologyDescriptionUpdateResponseCardSaid :=
  Claim7.holds_tied_plain_at .later [] _ _ _ _ said (fun _ h => by cases h) (by kernel_rfl) (fun _ h => by cases h) fnAnyStreamsGroupTopologyDescriptionUpdateResponse_row_tie rfl ⟨rfl, rfl⟩ (by kernel_rfl) rfl plain (by kernel_rfl)
end
end Go.Proofs.YtpknjenihcfhlaaDoor.StreamsGroupTopologyDescriptionUpdateResponse

