/-
  FnACLOperationText: the row and the card. Conditions: none.
-/
import Derived.Test.YtbogepbfbplndaaDoorN8
import Derived.Test.YtbogepbfbplndaaDoorY5
import Derived.ChangeMaps5
import Derived.LaidMore
import Derived.Lay
import Derived.SevenTiedAt
import Derived.Stop.Joined
namespace Go.Proofs.YtbogepbfbplndaaDoor.Nm.Acl
open Go.RowKit (Below)
open Kz
section
open Go.ChangeShapes Go.WideShapes Go.ChangeAt Go.RowKit
theorem tab_of {W : World} (h : laidMetH Tryd.prog Rows.fnACLOperationTextRow.laid W) : Tab W := by
  rw [MakeChecks.laidMetH_plain _ _ _ (by kernel_rfl)] at h
  have e : Rows.fnACLOperationTextRow.laid.drop 2 = ("strings.asciiSpace", Lib.tabData .u8 Lib.asciiSpaceTab) :: Rows.fnACLOperationTextRow.laid.drop 3 := by kernel_rfl
  have h2 : laidMet Tryd.prog (Rows.fnACLOperationTextRow.laid.drop 2) W := h.tail.tail
  rw [e] at h2
  exact Lib.tabIs_of_head (g := (Tryd.prog.globalNamed "strings.asciiSpace").get (by kernel_rfl)) (t := 151) (e := 5) (n := 256) (by kernel_rfl) (by kernel_rfl) Tryd.underlying151 Tryd.underlying5 (by kernel_rfl) (by kernel_rfl) h2
set_option maxRecDepth 100000 in
theorem lifted (os : Os) (started : os.Started) (H : Type) (enc : TypeId × Value → H) (F : Stop.Interp) :
    ReturnsInHanded {} Tryd.checked os 4 .any ((OpenSpec.ofChange Rows.fnACLOperationTextSpec).preRow enc Tryd.prog Tryd.f4 Rows.fnACLOperationTextRow.domain false Rows.fnACLOperationTextRow.laid) (((OpenSpec.ofChange Rows.fnACLOperationTextSpec).at F).post enc Tryd.prog Tryd.f4 false true false false) := by
  have hw : (DataW.whole enc Tryd.prog ((World.laidAll Tryd.prog os Rows.fnACLOperationTextRow.laid).forCall (fun _ _ => 0) ⟨#[], #[.int .i8 0], []⟩).memory Tryd.f4.params.toList Rows.fnACLOperationTextSpec.vars false (#[.int .i8 0] : Array Value).toList 8).map (fun x => (x.1, x.2.1)) = some ([.lit (.int .i8 0)], []) := by kernel_rfl
  obtain ⟨⟨x1, x2, x3⟩, hx, hx1⟩ := Option.map_eq_some_iff.1 hw
  simp only [Prod.mk.injEq] at hx1
  obtain ⟨rfl, rfl⟩ := hx1
  refine returnsInHanded_of_row (C := Tryd.checked) (s := (OpenSpec.ofChange Rows.fnACLOperationTextSpec)) own started (by kernel_rfl) Tryd.func4
    (witness_row_atRef (enc := enc) (C := Tryd.checked) false (World.laidAll Tryd.prog os Rows.fnACLOperationTextRow.laid) #[.int .i8 0] (World.laidAll_os _ _ _) (by kernel_rfl) (by kernel_rfl) (by kernel_rfl)
      (OpenSpec.preRow_of_cond 8 hx (by kernel_rfl) (fun k hk => by cases hk) (by kernel_rfl) (by rw [MakeChecks.laidMetH_plain _ _ _ (by kernel_rfl)]; exact laidMet_laidAll _ (by kernel_rfl) (by kernel_rfl)))) ?_
  intro W base args ds gs before hval0 hW _ hcond _ hL _ _
  have ht : Tab W := tab_of hL
  have hW' := hW
  obtain ⟨p, q, hA0, hV, hpq, -, -⟩ := hW
  have hA : DataW.TrodAll enc Tryd.prog W 0 (fun _ => true) true Tryd.f4.params.toList args.toList ds p := hA0
  have hval : ∀ (j : Nat) t v, Tryd.f4.params[j]? = some t → args[j]? = some v → Value.okWide Tryd.prog W .any base t v := hval0
  rw [Tryd.params4] at hA hval
  obtain ⟨v0, vs0, d0, ds0, p0, q0, hargs, rfl, rfl, h0, r0⟩ := trodAll_cons hA
  obtain ⟨rfl, rfl, rfl⟩ := trodAll_nil r0
  obtain rfl : args = #[v0] := by cases args; simp_all
  obtain ⟨n, rfl, rfl, rfl, hn⟩ := open_int Tryd.underlying30 (hval 0 30 v0 rfl rfl) h0
  obtain ⟨n1, n2⟩ : -128 ≤ n ∧ n ≤ 127 := by
    have hh : IntKind.i8.min ≤ n ∧ n ≤ IntKind.i8.max := by simpa [Lit.wf] using hn
    have e1 : IntKind.i8.min = -128 := rfl
    have e2 : IntKind.i8.max = 127 := rfl
    omega
  refine Calls.mono (acl_law n n1 n2 W ht) ?_
  rintro e W' ⟨rfl, hb⟩
  refine ⟨_, rfl, ?_⟩
  refine law_post rfl (by kernel_rfl) hW' ?_ (fun t ht => ?_) hb
  · obtain ⟨rfl, rfl⟩ := trodVars_none hV
    rfl
  · rw [Tryd.params4] at ht
    simp only [List.mem_cons, List.not_mem_nil, or_false] at ht
    subst ht
    exact ⟨by kernel_rfl, of_decide_eq_true (by kernel_rfl)⟩
/-- The row's facts, first half. -/
def jA (P : Program) (f : FuncId) (fn : Func) (s : ChangeSpec) (c : OpenClaim) : Bool :=
  c.wf (OpenSpec.ofChange s) && laidOutB P && mapsRowed P &&
  fn.params.all (P.readableRec ·) && namedTie P c.named s.vars &&
  (c.stops == []) && (P.stops == []) && (c.knobs == []) && (P.stopKnobs == []) &&
  (c.inPlace == P.inPlace f) && (c.unfollowed == P.unfollowed f) && (c.recurses == P.recurses f) && (c.named == P.varsNamed f) &&
  (c.maps == (fn.params.toList ++ s.plain.varTypes P).any (P.mapsRec ·)) && (c.ifaces == (fn.params.toList ++ s.plain.varTypes P).any (P.ifacesRec ·)) && (c.mapsOut == P.mapsAmong fn.resultTypes.toList) &&
  (c.loops == (fn.params.toList ++ s.plain.varTypes P).any (P.loopsFrom ·)) && (c.wideKeys == (fn.params.toList ++ s.plain.varTypes P ++ fn.resultTypes.toList).any (P.wideKeysFrom ·)) &&
  s.vars.all (P.varReadable ·) && fn.resultTypes.all (fun t => P.readableRec t && decide (t < P.types.size)) && (c.ifacesOut == fn.resultTypes.toList.any (P.ifacesRec ·)) && (c.loopsOut == fn.resultTypes.toList.any (P.loopsFrom ·)) && (c.plainKeys == P.plainKeys) && c.shortTexts.isNone
/-- The second half. -/
def jB (P : Program) (fn : Func) (s : ChangeSpec) (c : OpenClaim) : Bool :=
  P.stopsHeard && P.mayEnter && (c.lifted == P.liftsFinal) && (P.make == some c.make) && (c.kinds == (if c.domain.isEmpty then [] else fn.params.toList.map fun t => match P.underlying t with | some (.int k) => some k | _ => none)) && (c.pinned == c.pinnedBy) &&
  (c.veiled == (fn.params.toList ++ s.plain.varTypes P ++ fn.resultTypes.toList).any (P.veiledRec ·)) && c.veiledFits P fn.params.toList (fn.params.toList ++ s.plain.varTypes P ++ fn.resultTypes.toList)
theorem j_two {P : Program} {f : FuncId} {fn : Func} {s : ChangeSpec} {c : OpenClaim} (hA : jA P f fn s c = true) (hB : jB P fn s c = true) : joinedFacts P f fn s c = true := by
  simp only [jA, Bool.and_eq_true] at hA
  simp only [jB, Bool.and_eq_true] at hB
  obtain ⟨⟨⟨⟨⟨⟨⟨b1, b2⟩, b3⟩, b4⟩, b5⟩, b6⟩, b7⟩, b8⟩ := hB
  simp only [joinedFacts, Bool.and_eq_true]
  exact ⟨⟨⟨⟨⟨⟨⟨⟨hA, b1⟩, b2⟩, b3⟩, b4⟩, b5⟩, b6⟩, b7⟩, b8⟩
theorem factsA : jA Tryd.pinned.checked.prog 4 Tryd.f4 ((OpenSpec.ofChange Rows.fnACLOperationTextSpec)).bare Rows.fnACLOperationTextRow = true := by kernel_rfl
theorem factsB : jB Tryd.pinned.checked.prog Tryd.f4 ((OpenSpec.ofChange Rows.fnACLOperationTextSpec)).bare Rows.fnACLOperationTextRow = true := by kernel_rfl
theorem said : Rows.FnACLOperationTextSaid :=
  OpenClaim.holds_of_cond 4 Tryd.f4 rfl rfl rfl rfl rfl rfl rfl ⟨rfl, rfl, rfl, rfl, rfl⟩ rfl rfl rfl rfl rfl (by kernel_rfl) Tryd.func4 (j_two factsA factsB)
    (of_decide_eq_true (by kernel_rfl)) (by unfold Func.isWrapper; first | (rw [if_pos (by decide +kernel)]; kernel_rfl) | (rw [if_neg (by decide +kernel)]; exact ⟨rfl, rfl⟩))
    (fun os started H enc _ F => by rw [OpenClaim.pre_eq_preRow]; exact lifted os started H enc F)
theorem plain (f : FuncId) (fn : Func) (hf : Tryd.pinned.checked.prog.funcNamed "pub-kmsg/laws.FnACLOperationText" = some f) (hfn : Tryd.pinned.checked.prog.funcs[f]? = some fn) :
    false = Tryd.pinned.checked.prog.looks [] ∧ ∀ (j : Nat) t, fn.params[j]? = some t → Tryd.pinned.checked.prog.wantsStandIn t = false := by
  obtain rfl : f = 4 := Option.some.inj ((show Tryd.prog.funcNamed "pub-kmsg/laws.FnACLOperationText" = some 4 by kernel_rfl).symm.trans hf) |>.symm
  obtain rfl : fn = Tryd.f4 := (Option.some.inj (Tryd.func4.symm.trans hfn)).symm
  refine ⟨by kernel_rfl, fun j t ht => ?_⟩
  rw [Tryd.params4] at ht
  have hm := Array.mem_of_getElem? ht
  simp only [List.mem_toArray, List.mem_cons, List.not_mem_nil, or_false] at hm
  subst hm
  exact of_decide_eq_true (by kernel_rfl)
theorem card : Rows.FnACLOperationTextCardSaid :=
  Claim7.holds_tied_plain_at .later [] _ _ _ _ said (fun _ h => by cases h) (by kernel_rfl) (fun _ h => by cases h) fnACLOperationText_row_tie rfl ⟨rfl, rfl⟩ (by kernel_rfl) rfl plain (by kernel_rfl)
end
end Go.Proofs.YtbogepbfbplndaaDoor.Nm.Acl

