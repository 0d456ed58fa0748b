/-
  HeartbeatRequest: read, written, made. Conditions: none.
-/
import Derived.Test.YtncaphiimdkniaaGreatDoorY5
namespace Go.Proofs.YtncaphiimdkniaaGreatDoor.HeartbeatRequest
open Go.Proofs.YtncaphiimdkniaaGreatDoor
open Go.RowKit
open Kz
def fs : List F := [⟨8, 0, -1, -1, -1, 0, 0, []⟩, ⟨3, 0, -1, -1, -1, 0, 0, []⟩, ⟨8, 0, -1, -1, -1, 0, 0, []⟩, ⟨8, 3, -1, 3, -1, 0, 0, []⟩]
def msg : M := ⟨fs, 4⟩
def sets_HeartbeatRequest : List (Nat × Value) := []
theorem def_HeartbeatRequest : DefSets 24 6 sets_HeartbeatRequest := defSets Tryz.func24 rfl rfl (by kernel_rfl) (by kernel_rfl) DS.skip
theorem reads : ReadsMsg TagRep 33 msg true 68 := by
  refine readsMsg_flex (E := ⟨74, 7, 8, 2, some 9, 6⟩) (s := 10) rfl stable_tagRep rfl (by decide) rfl Tryz.func33 rfl (by kernel_rfl) (by kernel_rfl) (by kernel_rfl) (by decide) (sconst (by kernel_rfl)) (fun v => sdefault (DefSets.okM def_HeartbeatRequest (by kernel_rfl)) (by kernel_rfl)) (sreader rfl (by kernel_rfl) (by kernel_rfl)) (sload (by kernel_rfl) (by kernel_rfl) (by kernel_rfl)) (smove (by kernel_rfl)) (scmpV (by kernel_rfl)) (smove (by kernel_rfl)) (scopy (by kernel_rfl)) (by kernel_rfl) (by kernel_rfl) (by kernel_rfl) (by kernel_rfl) (by kernel_rfl) (by kernel_rfl) (fun v hv => ?_)
  have hft : msg.isFlex v = true → true = true := fun _ => rfl
  refine RdTE.part (by kernel_rfl) ?_
  refine RdTE.cons hft stable_tagRep (RdV.always (RdV.empty (by decide) (by kernel_rfl) (RdV.of (FV.text (Rv.safe (by kernel_rfl) (by kernel_rfl) (Rv.flexG (fun f => rdText f false 2) rfl (by kernel_rfl) (by kernel_rfl) (Rv.call rd_CompactString (by kernel_rfl)) (Rv.call rd_String (by kernel_rfl))))) (by kernel_rfl) (by kernel_rfl) (by kernel_rfl) (by kernel_rfl) (by kernel_rfl) (by kernel_rfl))) (by simp [F.has, hv])) (by kernel_rfl) ?_
  refine RdTE.cons hft stable_tagRep (RdV.always (RdV.of (FV.int (by decide) (Rv.call rd_Int32 (by kernel_rfl))) (by kernel_rfl) (by kernel_rfl) (by kernel_rfl) (by kernel_rfl) (by kernel_rfl) (by kernel_rfl)) (by simp [F.has, hv])) (by kernel_rfl) ?_
  refine RdTE.cons hft stable_tagRep (RdV.always (RdV.empty (by decide) (by kernel_rfl) (RdV.of (FV.text (Rv.safe (by kernel_rfl) (by kernel_rfl) (Rv.flexG (fun f => rdText f false 2) rfl (by kernel_rfl) (by kernel_rfl) (Rv.call rd_CompactString (by kernel_rfl)) (Rv.call rd_String (by kernel_rfl))))) (by kernel_rfl) (by kernel_rfl) (by kernel_rfl) (by kernel_rfl) (by kernel_rfl) (by kernel_rfl))) (by simp [F.has, hv])) (by kernel_rfl) ?_
  refine RdTE.cons hft stable_tagRep (RdV.guardV (test_geq (by kernel_rfl) (by kernel_rfl)) (by simp [F.has]) (by decide) (by kernel_rfl) (fun hq => (RdV.empty (by decide) (by kernel_rfl) (RdV.of (FV.ntextF (by kernel_rfl) (by simp [F.has] at hq; omega) rfl (by kernel_rfl) (by kernel_rfl) (Rv.safe (by kernel_rfl) (by kernel_rfl) (Rv.call rd_CompactNullableString (by kernel_rfl))) (Rv.safe (by kernel_rfl) (by kernel_rfl) (Rv.call rd_NullableString (by kernel_rfl)))) (by kernel_rfl) (by kernel_rfl) (by kernel_rfl) (by kernel_rfl) (by kernel_rfl) (by kernel_rfl))))) (by kernel_rfl) ?_
  exact RdTE.last (RdTl.tags rfl rfl rfl rfl (by kernel_rfl) (by kernel_rfl) (by kernel_rfl) (by kernel_rfl)) (sfail rfl (by kernel_rfl)) (by kernel_rfl)
theorem writes' : WritesMsg TagRep 84 msg true := by
  refine writesMsg_flex (E := ⟨76, 1, 5, some 6⟩) (res := 4) rfl (by decide) rfl Tryz.func84 rfl (by kernel_rfl) (by kernel_rfl) (by kernel_rfl) (by decide) (sconst (by kernel_rfl)) (sload (by kernel_rfl) (by kernel_rfl) (by kernel_rfl)) (smove (by kernel_rfl)) (scmpV (by kernel_rfl)) (smove (by kernel_rfl)) (by kernel_rfl) (by kernel_rfl) (by kernel_rfl) (by kernel_rfl) (fun v hv => ?_)
  have hft : msg.isFlex v = true → true = true := fun _ => rfl
  refine ApTE.part (by kernel_rfl) ?_
  refine ApTE.cons hft stable_tagRep (ApV.always (ApV.of (sload (by kernel_rfl) (by kernel_rfl) (by kernel_rfl)) (FA.text (Av.flexV (textB 2) rfl (by kernel_rfl) (by kernel_rfl) (Av.call wr_CompactString (by kernel_rfl) (by kernel_rfl)) (Av.call wr_String (by kernel_rfl) (by kernel_rfl)))) (by kernel_rfl) (by kernel_rfl)) (by simp [F.has, hv])) (by kernel_rfl) ?_
  refine ApTE.cons hft stable_tagRep (ApV.always (ApV.of (sload (by kernel_rfl) (by kernel_rfl) (by kernel_rfl)) (FA.int (by kernel_rfl) (Av.call wr_Int32 (by kernel_rfl) (by kernel_rfl))) (by kernel_rfl) (by kernel_rfl)) (by simp [F.has, hv])) (by kernel_rfl) ?_
  refine ApTE.cons hft stable_tagRep (ApV.always (ApV.of (sload (by kernel_rfl) (by kernel_rfl) (by kernel_rfl)) (FA.text (Av.flexV (textB 2) rfl (by kernel_rfl) (by kernel_rfl) (Av.call wr_CompactString (by kernel_rfl) (by kernel_rfl)) (Av.call wr_String (by kernel_rfl) (by kernel_rfl)))) (by kernel_rfl) (by kernel_rfl)) (by simp [F.has, hv])) (by kernel_rfl) ?_
  refine ApTE.cons hft stable_tagRep (ApV.guardV (testW_geq (by kernel_rfl) (by kernel_rfl)) (by simp [F.has]) (by decide) (by kernel_rfl) (fun hq => (ApV.of (sload (by kernel_rfl) (by kernel_rfl) (by kernel_rfl)) (FA.ntext (by kernel_rfl) (by simp [F.has] at hq; omega) (Av.flexV ntextB rfl (by kernel_rfl) (by kernel_rfl) (Av.call wr_CompactNullableString (by kernel_rfl) (by kernel_rfl)) (Av.call wr_NullableString (by kernel_rfl) (by kernel_rfl)))) (by kernel_rfl) (by kernel_rfl)))) (by kernel_rfl) ?_
  exact ApTE.last (ApTl.tagsE rfl rfl rfl rfl rfl rfl (by kernel_rfl) (by kernel_rfl) (by kernel_rfl) (by kernel_rfl) (by kernel_rfl) (by kernel_rfl) (by kernel_rfl)) (scopy (by kernel_rfl))
theorem news : NewsMsg 15 68 (setArr #[.int .i16 0, .string ⟨#[]⟩, .int .i32 0, .string ⟨#[]⟩, .pointer none, .map none] 0 sets_HeartbeatRequest) := newsMsg (N := 3) Tryz.func15 rfl rfl rfl (by kernel_rfl) (by kernel_rfl) (by kernel_rfl) (fun _ => by kernel_rfl) def_HeartbeatRequest
theorem setsV : SetsVersion 18 := setsVersion Tryz.func18 rfl rfl (by kernel_rfl) (by kernel_rfl) (by kernel_rfl) (by kernel_rfl) (by kernel_rfl)
theorem readsF : ReadsFrom 19 33 := readsFrom Tryz.func19 rfl rfl (by kernel_rfl) (by kernel_rfl) (by kernel_rfl) (by kernel_rfl)
theorem maxv (w : World) : Calls Tryz.prog 7 #[] w fun e w' => e = .returned (.int .i64 4) ∧ Below w.heap.size w w' := by
  go_enter Tryz.func7, Tryz.ntmps7
  go_wp2_with (first
    | (go_at_call 15; refine (news.2 _).mono ?_; rintro e w' ⟨rfl, rfl⟩)
    | go_in)
  all_goals go_ret
  exact ⟨rfl, rfl, rfl, rfl, by simp, fun k hk => alloc_old w _ k hk⟩
theorem okv (v : Int) (h0 : 0 ≤ v) (h1 : v < 5) : msg.ok v = true := by
  have h : v = 0 ∨ v = 1 ∨ v = 2 ∨ v = 3 ∨ v = 4 := by omega
  rcases h with rfl | rfl | rfl | rfl | rfl
  all_goals exact of_decide_eq_true (by kernel_rfl)
end Go.Proofs.YtncaphiimdkniaaGreatDoor.HeartbeatRequest
