/-
  Whatever a OffsetFetchResponse says, written by the rules of the protocol, is read, and written back. Conditions: none.
-/
import Derived.Test.YtoklbgdafnminaaGreatDoorY5
import Derived.Test.YtoklbgdafnminaaGreatDoorY7
import Derived.Test.YtoklbgdafnminaaGreatDoorUu
namespace Go.Proofs.YtoklbgdafnminaaGreatDoor.OffsetFetchResponse
open Go.Proofs.YtoklbgdafnminaaGreatDoor
open Go.RowKit
open Kz
def fss1s1 : List F := [⟨3, 0, -1, -1, -1, 0, 0, []⟩, ⟨4, 0, -1, -1, -1, 0, 0, []⟩, ⟨3, 5, -1, -1, -1, -1, 0, []⟩, ⟨8, 0, -1, 0, -1, 0, 0, []⟩, ⟨2, 0, -1, -1, -1, 0, 0, []⟩]
def fss1 : List F := [⟨8, 0, -1, -1, -1, 0, 0, []⟩, ⟨11, 0, -1, -1, -1, 0, 10, fss1s1⟩]
def fss3s1s2 : List F := [⟨3, 0, -1, -1, -1, 0, 0, []⟩, ⟨4, 0, -1, -1, -1, 0, 0, []⟩, ⟨3, 0, -1, -1, -1, -1, 0, []⟩, ⟨8, 0, -1, 0, -1, 0, 0, []⟩, ⟨2, 0, -1, -1, -1, 0, 0, []⟩]
def fss3s1 : List F := [⟨8, 8, 9, -1, -1, 0, 0, []⟩, ⟨7, 10, -1, -1, -1, 0, 0, []⟩, ⟨11, 0, -1, -1, -1, 0, 10, fss3s1s2⟩]
def fss3 : List F := [⟨8, 0, -1, -1, -1, 0, 0, []⟩, ⟨11, 0, -1, -1, -1, 0, 10, fss3s1⟩, ⟨2, 0, -1, -1, -1, 0, 0, []⟩]
def fs : List F := [⟨3, 3, -1, -1, -1, 0, 0, []⟩, ⟨11, 0, 7, -1, -1, 0, 10, fss1⟩, ⟨2, 2, 7, -1, -1, 0, 0, []⟩, ⟨11, 8, -1, -1, -1, 0, 10, fss3⟩]
def msg : M := ⟨fs, 6⟩
def sets_OffsetFetchResponseTopicPartition : List (Nat × Value) := [(2, .int .i32 (-1))]
theorem def_sOffsetFetchResponseTopicPartition : DefSets 129 6 sets_OffsetFetchResponseTopicPartition := defSets Tryz.func129 rfl rfl (by kernel_rfl) (by kernel_rfl) (DS.store (by kernel_rfl) (by kernel_rfl) rfl (by kernel_rfl) (by kernel_rfl))
def sets_OffsetFetchResponseTopic : List (Nat × Value) := []
theorem def_sOffsetFetchResponseTopic : DefSets 128 3 sets_OffsetFetchResponseTopic := defSets Tryz.func128 rfl rfl (by kernel_rfl) (by kernel_rfl) DS.skip
def sets_OffsetFetchResponseGroupTopicPartition : List (Nat × Value) := [(2, .int .i32 (-1))]
theorem def_sOffsetFetchResponseGroupTopicPartition : DefSets 134 6 sets_OffsetFetchResponseGroupTopicPartition := defSets Tryz.func134 rfl rfl (by kernel_rfl) (by kernel_rfl) (DS.store (by kernel_rfl) (by kernel_rfl) rfl (by kernel_rfl) (by kernel_rfl))
def sets_OffsetFetchResponseGroupTopic : List (Nat × Value) := []
theorem def_sOffsetFetchResponseGroupTopic : DefSets 132 19 sets_OffsetFetchResponseGroupTopic := defSets Tryz.func132 rfl rfl (by kernel_rfl) (by kernel_rfl) DS.skip
def sets_OffsetFetchResponseGroup : List (Nat × Value) := []
theorem def_sOffsetFetchResponseGroup : DefSets 131 4 sets_OffsetFetchResponseGroup := defSets Tryz.func131 rfl rfl (by kernel_rfl) (by kernel_rfl) DS.skip
def sets_OffsetFetchResponse : List (Nat × Value) := []
theorem def_OffsetFetchResponse : DefSets 78 6 sets_OffsetFetchResponse := defSets Tryz.func78 rfl rfl (by kernel_rfl) (by kernel_rfl) DS.skip
theorem reads : ReadsMsg TagRep 81 msg true 95 := by
  refine readsMsg_flex (E := ⟨413, 7, 8, 2, some 9, 6⟩) (s := 10) rfl stable_tagRep rfl (by decide) rfl Tryz.func81 rfl (by kernel_rfl) (by kernel_rfl) (by kernel_rfl) (by decide) (sconst (by kernel_rfl)) (fun v => sdefault (DefSets.okM def_OffsetFetchResponse (by kernel_rfl)) (by kernel_rfl)) (sreader rfl (by kernel_rfl) (by kernel_rfl)) (sload (by kernel_rfl) (by kernel_rfl) (by kernel_rfl)) (smove (by kernel_rfl)) (scmpV (by kernel_rfl)) (smove (by kernel_rfl)) (scopy (by kernel_rfl)) (by kernel_rfl) (by kernel_rfl) (by kernel_rfl) (by kernel_rfl) (by kernel_rfl) (by kernel_rfl) (fun v hv => ?_)
  have hft : msg.isFlex v = true → true = true := fun _ => rfl
  refine RdTE.part (by kernel_rfl) ?_
  refine RdTE.cons hft stable_tagRep (RdV.guardV (test_geq (by kernel_rfl) (by kernel_rfl)) (by simp [F.has]) (by decide) (by kernel_rfl) (fun _ => (RdV.of (FV.int (by decide) (Rv.call rd_Int32 (by kernel_rfl))) (by kernel_rfl) (by kernel_rfl) (by kernel_rfl) (by kernel_rfl) (by kernel_rfl) (by kernel_rfl)))) (by kernel_rfl) ?_
  refine RdTE.cons hft stable_tagRep (RdV.guardV (test_range (by kernel_rfl) (by kernel_rfl) (by kernel_rfl)) (by simp [F.has]) (by decide) (by kernel_rfl) (fun _ => (RdV.list (z := #[.string ⟨#[]⟩, .slice none 0 0, .map none]) hft stable_tagRep (by decide) (sload (by kernel_rfl) (by kernel_rfl) (by kernel_rfl)) (scopy (by kernel_rfl)) (sconst (by kernel_rfl)) (Rv.lenF rfl (by kernel_rfl) (by kernel_rfl) (Rv.call rd_CompactArrayLen (by kernel_rfl)) (Rv.call rd_ArrayLen (by kernel_rfl))) (snotok rfl (by kernel_rfl)) (sfail rfl (by kernel_rfl)) (sslice0 (e := 99) (sz := 3) (by kernel_rfl) (by kernel_rfl) (by kernel_rfl)) (spos (by kernel_rfl)) (sapp (e := 99) (by kernel_rfl) (by kernel_rfl) (by kernel_rfl) (by kernel_rfl) (by kernel_rfl)) (sconst (by kernel_rfl)) (sloop (ElB.block (ElB.struct hft stable_tagRep (sindex (e := 99) (by kernel_rfl) (by kernel_rfl) (by kernel_rfl) (by kernel_rfl)) (sdefault (DefSets.ok def_sOffsetFetchResponseTopic (by kernel_rfl)) (by kernel_rfl)) (scopy (by kernel_rfl)) (RdTl.part (by kernel_rfl) (RdTl.cons hft stable_tagRep (RdV.always (RdV.empty (by decide) (by kernel_rfl) (RdV.of (FV.text (Rv.safe (by kernel_rfl) (by kernel_rfl) (Rv.flexG (fun f => rdText f false 2) rfl (by kernel_rfl) (by kernel_rfl) (Rv.call rd_CompactString (by kernel_rfl)) (Rv.call rd_String (by kernel_rfl))))) (by kernel_rfl) (by kernel_rfl) (by kernel_rfl) (by kernel_rfl) (by kernel_rfl) (by kernel_rfl))) (by simp [F.has, hv])) (by kernel_rfl) (RdTl.cons hft stable_tagRep (RdV.always (RdV.list (z := #[.int .i32 0, .int .i64 0, .int .i32 0, .pointer none, .int .i16 0, .map none]) hft stable_tagRep (by decide) (sload (by kernel_rfl) (by kernel_rfl) (by kernel_rfl)) (scopy (by kernel_rfl)) (sconst (by kernel_rfl)) (Rv.lenF rfl (by kernel_rfl) (by kernel_rfl) (Rv.call rd_CompactArrayLen (by kernel_rfl)) (Rv.call rd_ArrayLen (by kernel_rfl))) (snotok rfl (by kernel_rfl)) (sfail rfl (by kernel_rfl)) (sslice0 (e := 102) (sz := 6) (by kernel_rfl) (by kernel_rfl) (by kernel_rfl)) (spos (by kernel_rfl)) (sapp (e := 102) (by kernel_rfl) (by kernel_rfl) (by kernel_rfl) (by kernel_rfl) (by kernel_rfl)) (sconst (by kernel_rfl)) (sloop (ElB.block (ElB.struct hft stable_tagRep (sindex (e := 102) (by kernel_rfl) (by kernel_rfl) (by kernel_rfl) (by kernel_rfl)) (sdefault (DefSets.ok def_sOffsetFetchResponseTopicPartition (by kernel_rfl)) (by kernel_rfl)) (scopy (by kernel_rfl)) (RdTl.part (by kernel_rfl) (RdTl.cons hft stable_tagRep (RdV.always (RdV.of (FV.int (by decide) (Rv.call rd_Int32 (by kernel_rfl))) (by kernel_rfl) (by kernel_rfl) (by kernel_rfl) (by kernel_rfl) (by kernel_rfl) (by kernel_rfl)) (by simp [F.has, hv])) (by kernel_rfl) (RdTl.cons hft stable_tagRep (RdV.always (RdV.of (FV.int (by decide) (Rv.call rd_Int64 (by kernel_rfl))) (by kernel_rfl) (by kernel_rfl) (by kernel_rfl) (by kernel_rfl) (by kernel_rfl) (by kernel_rfl)) (by simp [F.has, hv])) (by kernel_rfl) (RdTl.cons hft stable_tagRep (RdV.guardV (test_geq (by kernel_rfl) (by kernel_rfl)) (by simp [F.has]) (by decide) (by kernel_rfl) (fun _ => (RdV.of (FV.int (by decide) (Rv.call rd_Int32 (by kernel_rfl))) (by kernel_rfl) (by kernel_rfl) (by kernel_rfl) (by kernel_rfl) (by kernel_rfl) (by kernel_rfl)))) (by kernel_rfl) (RdTl.cons hft stable_tagRep (RdV.always (RdV.empty (by decide) (by kernel_rfl) (RdV.of (FV.ntextF (by kernel_rfl) (by omega) rfl (by kernel_rfl) (by kernel_rfl) (Rv.safe (by kernel_rfl) (by kernel_rfl) (Rv.call rd_CompactNullableString (by kernel_rfl))) (Rv.safe (by kernel_rfl) (by kernel_rfl) (Rv.call rd_NullableString (by kernel_rfl)))) (by kernel_rfl) (by kernel_rfl) (by kernel_rfl) (by kernel_rfl) (by kernel_rfl) (by kernel_rfl))) (by simp [F.has, hv])) (by kernel_rfl) (RdTl.cons hft stable_tagRep (RdV.always (RdV.of (FV.int (by decide) (Rv.call rd_Int16 (by kernel_rfl))) (by kernel_rfl) (by kernel_rfl) (by kernel_rfl) (by kernel_rfl) (by kernel_rfl) (by kernel_rfl)) (by simp [F.has, hv])) (by kernel_rfl) (RdTl.tags rfl rfl rfl rfl (by kernel_rfl) (by kernel_rfl) (by kernel_rfl) (by kernel_rfl)))))))) (by kernel_rfl) (by kernel_rfl) (by kernel_rfl))) (elG_strict _ _ _ _) (elR_stable hft stable_tagRep _ _) (elIni_loc _ _ _) (by kernel_rfl) (by kernel_rfl) (by kernel_rfl) (by kernel_rfl) (by kernel_rfl)) (scopy (by kernel_rfl)) (sstore (by kernel_rfl) (by kernel_rfl) (by kernel_rfl) (by kernel_rfl)) (by kernel_rfl) (fun _ => ini_all (by kernel_rfl)) (by kernel_rfl) (by kernel_rfl) (by kernel_rfl)) (by simp [F.has, hv])) (by kernel_rfl) (RdTl.tags rfl rfl rfl rfl (by kernel_rfl) (by kernel_rfl) (by kernel_rfl) (by kernel_rfl))))) (by kernel_rfl) (by kernel_rfl) (by kernel_rfl))) (elG_strict _ _ _ _) (elR_stable hft stable_tagRep _ _) (elIni_loc _ _ _) (by kernel_rfl) (by kernel_rfl) (by kernel_rfl) (by kernel_rfl) (by kernel_rfl)) (scopy (by kernel_rfl)) (sstore (by kernel_rfl) (by kernel_rfl) (by kernel_rfl) (by kernel_rfl)) (by kernel_rfl) (fun _ => ini_all (by kernel_rfl)) (by kernel_rfl) (by kernel_rfl) (by kernel_rfl)))) (by kernel_rfl) ?_
  refine RdTE.cons hft stable_tagRep (RdV.guardV (test_range (by kernel_rfl) (by kernel_rfl) (by kernel_rfl)) (by simp [F.has]) (by decide) (by kernel_rfl) (fun _ => (RdV.of (FV.int (by decide) (Rv.call rd_Int16 (by kernel_rfl))) (by kernel_rfl) (by kernel_rfl) (by kernel_rfl) (by kernel_rfl) (by kernel_rfl) (by kernel_rfl)))) (by kernel_rfl) ?_
  refine RdTE.cons hft stable_tagRep (RdV.guardV (test_geq (by kernel_rfl) (by kernel_rfl)) (by simp [F.has]) (by decide) (by kernel_rfl) (fun _ => (RdV.list (z := #[.string ⟨#[]⟩, .slice none 0 0, .int .i16 0, .map none]) hft stable_tagRep (by decide) (sload (by kernel_rfl) (by kernel_rfl) (by kernel_rfl)) (scopy (by kernel_rfl)) (sconst (by kernel_rfl)) (Rv.lenF rfl (by kernel_rfl) (by kernel_rfl) (Rv.call rd_CompactArrayLen (by kernel_rfl)) (Rv.call rd_ArrayLen (by kernel_rfl))) (snotok rfl (by kernel_rfl)) (sfail rfl (by kernel_rfl)) (sslice0 (e := 107) (sz := 4) (by kernel_rfl) (by kernel_rfl) (by kernel_rfl)) (spos (by kernel_rfl)) (sapp (e := 107) (by kernel_rfl) (by kernel_rfl) (by kernel_rfl) (by kernel_rfl) (by kernel_rfl)) (sconst (by kernel_rfl)) (sloop (ElB.block (ElB.struct hft stable_tagRep (sindex (e := 107) (by kernel_rfl) (by kernel_rfl) (by kernel_rfl) (by kernel_rfl)) (sdefault (DefSets.ok def_sOffsetFetchResponseGroup (by kernel_rfl)) (by kernel_rfl)) (scopy (by kernel_rfl)) (RdTl.part (by kernel_rfl) (RdTl.cons hft stable_tagRep (RdV.always (RdV.empty (by decide) (by kernel_rfl) (RdV.of (FV.text (Rv.safe (by kernel_rfl) (by kernel_rfl) (Rv.flexG (fun f => rdText f false 2) rfl (by kernel_rfl) (by kernel_rfl) (Rv.call rd_CompactString (by kernel_rfl)) (Rv.call rd_String (by kernel_rfl))))) (by kernel_rfl) (by kernel_rfl) (by kernel_rfl) (by kernel_rfl) (by kernel_rfl) (by kernel_rfl))) (by simp [F.has, hv])) (by kernel_rfl) (RdTl.cons hft stable_tagRep (RdV.always (RdV.list (z := #[.string ⟨#[]⟩, .int .u8 0, .int .u8 0, .int .u8 0, .int .u8 0, .int .u8 0, .int .u8 0, .int .u8 0, .int .u8 0, .int .u8 0, .int .u8 0, .int .u8 0, .int .u8 0, .int .u8 0, .int .u8 0, .int .u8 0, .int .u8 0, .slice none 0 0, .map none]) hft stable_tagRep (by decide) (sload (by kernel_rfl) (by kernel_rfl) (by kernel_rfl)) (scopy (by kernel_rfl)) (sconst (by kernel_rfl)) (Rv.lenF rfl (by kernel_rfl) (by kernel_rfl) (Rv.call rd_CompactArrayLen (by kernel_rfl)) (Rv.call rd_ArrayLen (by kernel_rfl))) (snotok rfl (by kernel_rfl)) (sfail rfl (by kernel_rfl)) (sslice0 (e := 112) (sz := 19) (by kernel_rfl) (by kernel_rfl) (by kernel_rfl)) (spos (by kernel_rfl)) (sapp (e := 112) (by kernel_rfl) (by kernel_rfl) (by kernel_rfl) (by kernel_rfl) (by kernel_rfl)) (sconst (by kernel_rfl)) (sloop (ElB.block (ElB.struct hft stable_tagRep (sindex (e := 112) (by kernel_rfl) (by kernel_rfl) (by kernel_rfl) (by kernel_rfl)) (sdefault (DefSets.ok def_sOffsetFetchResponseGroupTopic (by kernel_rfl)) (by kernel_rfl)) (scopy (by kernel_rfl)) (RdTl.part (by kernel_rfl) (RdTl.cons hft stable_tagRep (RdV.guardV (test_range (by kernel_rfl) (by kernel_rfl) (by kernel_rfl)) (by simp [F.has]) (by decide) (by kernel_rfl) (fun _ => (RdV.empty (by decide) (by kernel_rfl) (RdV.of (FV.text (Rv.safe (by kernel_rfl) (by kernel_rfl) (Rv.flexG (fun f => rdText f false 2) rfl (by kernel_rfl) (by kernel_rfl) (Rv.call rd_CompactString (by kernel_rfl)) (Rv.call rd_String (by kernel_rfl))))) (by kernel_rfl) (by kernel_rfl) (by kernel_rfl) (by kernel_rfl) (by kernel_rfl) (by kernel_rfl))))) (by kernel_rfl) (RdTl.cons hft stable_tagRep (RdV.guardV (test_geq (by kernel_rfl) (by kernel_rfl)) (by simp [F.has]) (by decide) (by kernel_rfl) (fun _ => (RdV.sixteen (by kernel_rfl) (by kernel_rfl) (by kernel_rfl) (by kernel_rfl)))) (by kernel_rfl) (RdTl.cons hft stable_tagRep (RdV.always (RdV.list (z := #[.int .i32 0, .int .i64 0, .int .i32 0, .pointer none, .int .i16 0, .map none]) hft stable_tagRep (by decide) (sload (by kernel_rfl) (by kernel_rfl) (by kernel_rfl)) (scopy (by kernel_rfl)) (sconst (by kernel_rfl)) (Rv.lenF rfl (by kernel_rfl) (by kernel_rfl) (Rv.call rd_CompactArrayLen (by kernel_rfl)) (Rv.call rd_ArrayLen (by kernel_rfl))) (snotok rfl (by kernel_rfl)) (sfail rfl (by kernel_rfl)) (sslice0 (e := 115) (sz := 6) (by kernel_rfl) (by kernel_rfl) (by kernel_rfl)) (spos (by kernel_rfl)) (sapp (e := 115) (by kernel_rfl) (by kernel_rfl) (by kernel_rfl) (by kernel_rfl) (by kernel_rfl)) (sconst (by kernel_rfl)) (sloop (ElB.block (ElB.struct hft stable_tagRep (sindex (e := 115) (by kernel_rfl) (by kernel_rfl) (by kernel_rfl) (by kernel_rfl)) (sdefault (DefSets.ok def_sOffsetFetchResponseGroupTopicPartition (by kernel_rfl)) (by kernel_rfl)) (scopy (by kernel_rfl)) (RdTl.part (by kernel_rfl) (RdTl.cons hft stable_tagRep (RdV.always (RdV.of (FV.int (by decide) (Rv.call rd_Int32 (by kernel_rfl))) (by kernel_rfl) (by kernel_rfl) (by kernel_rfl) (by kernel_rfl) (by kernel_rfl) (by kernel_rfl)) (by simp [F.has, hv])) (by kernel_rfl) (RdTl.cons hft stable_tagRep (RdV.always (RdV.of (FV.int (by decide) (Rv.call rd_Int64 (by kernel_rfl))) (by kernel_rfl) (by kernel_rfl) (by kernel_rfl) (by kernel_rfl) (by kernel_rfl) (by kernel_rfl)) (by simp [F.has, hv])) (by kernel_rfl) (RdTl.cons hft stable_tagRep (RdV.always (RdV.of (FV.int (by decide) (Rv.call rd_Int32 (by kernel_rfl))) (by kernel_rfl) (by kernel_rfl) (by kernel_rfl) (by kernel_rfl) (by kernel_rfl) (by kernel_rfl)) (by simp [F.has, hv])) (by kernel_rfl) (RdTl.cons hft stable_tagRep (RdV.always (RdV.empty (by decide) (by kernel_rfl) (RdV.of (FV.ntextF (by kernel_rfl) (by omega) rfl (by kernel_rfl) (by kernel_rfl) (Rv.safe (by kernel_rfl) (by kernel_rfl) (Rv.call rd_CompactNullableString (by kernel_rfl))) (Rv.safe (by kernel_rfl) (by kernel_rfl) (Rv.call rd_NullableString (by kernel_rfl)))) (by kernel_rfl) (by kernel_rfl) (by kernel_rfl) (by kernel_rfl) (by kernel_rfl) (by kernel_rfl))) (by simp [F.has, hv])) (by kernel_rfl) (RdTl.cons hft stable_tagRep (RdV.always (RdV.of (FV.int (by decide) (Rv.call rd_Int16 (by kernel_rfl))) (by kernel_rfl) (by kernel_rfl) (by kernel_rfl) (by kernel_rfl) (by kernel_rfl) (by kernel_rfl)) (by simp [F.has, hv])) (by kernel_rfl) (RdTl.tags rfl rfl rfl rfl (by kernel_rfl) (by kernel_rfl) (by kernel_rfl) (by kernel_rfl)))))))) (by kernel_rfl) (by kernel_rfl) (by kernel_rfl))) (elG_strict _ _ _ _) (elR_stable hft stable_tagRep _ _) (elIni_loc _ _ _) (by kernel_rfl) (by kernel_rfl) (by kernel_rfl) (by kernel_rfl) (by kernel_rfl)) (scopy (by kernel_rfl)) (sstore (by kernel_rfl) (by kernel_rfl) (by kernel_rfl) (by kernel_rfl)) (by kernel_rfl) (fun _ => ini_all (by kernel_rfl)) (by kernel_rfl) (by kernel_rfl) (by kernel_rfl)) (by simp [F.has, hv])) (by kernel_rfl) (RdTl.tags rfl rfl rfl rfl (by kernel_rfl) (by kernel_rfl) (by kernel_rfl) (by kernel_rfl)))))) (by kernel_rfl) (by kernel_rfl) (by kernel_rfl))) (elG_strict _ _ _ _) (elR_stable hft stable_tagRep _ _) (elIni_loc _ _ _) (by kernel_rfl) (by kernel_rfl) (by kernel_rfl) (by kernel_rfl) (by kernel_rfl)) (scopy (by kernel_rfl)) (sstore (by kernel_rfl) (by kernel_rfl) (by kernel_rfl) (by kernel_rfl)) (by kernel_rfl) (fun _ => ini_all (by kernel_rfl)) (by kernel_rfl) (by kernel_rfl) (by kernel_rfl)) (by simp [F.has, hv])) (by kernel_rfl) (RdTl.cons hft stable_tagRep (RdV.always (RdV.of (FV.int (by decide) (Rv.call rd_Int16 (by kernel_rfl))) (by kernel_rfl) (by kernel_rfl) (by kernel_rfl) (by kernel_rfl) (by kernel_rfl) (by kernel_rfl)) (by simp [F.has, hv])) (by kernel_rfl) (RdTl.tags rfl rfl rfl rfl (by kernel_rfl) (by kernel_rfl) (by kernel_rfl) (by kernel_rfl)))))) (by kernel_rfl) (by kernel_rfl) (by kernel_rfl))) (elG_strict _ _ _ _) (elR_stable hft stable_tagRep _ _) (elIni_loc _ _ _) (by kernel_rfl) (by kernel_rfl) (by kernel_rfl) (by kernel_rfl) (by kernel_rfl)) (scopy (by kernel_rfl)) (sstore (by kernel_rfl) (by kernel_rfl) (by kernel_rfl) (by kernel_rfl)) (by kernel_rfl) (fun _ => ini_all (by kernel_rfl)) (by kernel_rfl) (by kernel_rfl) (by kernel_rfl)))) (by kernel_rfl) ?_
  exact RdTE.last (RdTl.tags rfl rfl rfl rfl (by kernel_rfl) (by kernel_rfl) (by kernel_rfl) (by kernel_rfl)) (sfail rfl (by kernel_rfl)) (by kernel_rfl)
theorem writes' : WritesMsg TagRep 37 msg true := by
  refine writesMsg_flex (E := ⟨407, 1, 5, some 6⟩) (res := 4) rfl (by decide) rfl Tryz.func37 rfl (by kernel_rfl) (by kernel_rfl) (by kernel_rfl) (by decide) (sconst (by kernel_rfl)) (sload (by kernel_rfl) (by kernel_rfl) (by kernel_rfl)) (smove (by kernel_rfl)) (scmpV (by kernel_rfl)) (smove (by kernel_rfl)) (by kernel_rfl) (by kernel_rfl) (by kernel_rfl) (by kernel_rfl) (fun v hv => ?_)
  have hft : msg.isFlex v = true → true = true := fun _ => rfl
  refine ApTE.part (by kernel_rfl) ?_
  refine ApTE.cons hft stable_tagRep (ApV.guardV (testW_geq (by kernel_rfl) (by kernel_rfl)) (by simp [F.has]) (by decide) (by kernel_rfl) (fun _ => (ApV.of (sload (by kernel_rfl) (by kernel_rfl) (by kernel_rfl)) (FA.int (by kernel_rfl) (Av.call wr_Int32 (by kernel_rfl) (by kernel_rfl))) (by kernel_rfl) (by kernel_rfl)))) (by kernel_rfl) ?_
  refine ApTE.cons hft stable_tagRep (ApV.guardV (testW_range (by kernel_rfl) (by kernel_rfl) (by kernel_rfl)) (by simp [F.has]) (by decide) (by kernel_rfl) (fun _ => (ApV.of (sload (by kernel_rfl) (by kernel_rfl) (by kernel_rfl)) (FA.listG (e := 99) (sz := 3) hft stable_tagRep rfl (by kernel_rfl) (Av.lenF rfl (by kernel_rfl) (by kernel_rfl) (Av.lenC (Av.len (e := 99) wl_CompactArrayLen (by kernel_rfl) (by kernel_rfl) (by kernel_rfl))) (Av.lenC (Av.len (e := 99) wl_ArrayLen (by kernel_rfl) (by kernel_rfl) (by kernel_rfl)))) (ElA.struct (e := 99) (by kernel_rfl) (by kernel_rfl) (by kernel_rfl) (by kernel_rfl) (by kernel_rfl) (ApTl.part (by kernel_rfl) (ApTl.cons hft stable_tagRep (ApV.always (ApV.of (sload (by kernel_rfl) (by kernel_rfl) (by kernel_rfl)) (FA.text (Av.flexV (textB 2) rfl (by kernel_rfl) (by kernel_rfl) (Av.call wr_CompactString (by kernel_rfl) (by kernel_rfl)) (Av.call wr_String (by kernel_rfl) (by kernel_rfl)))) (by kernel_rfl) (by kernel_rfl)) (by simp [F.has, hv])) (by kernel_rfl) (ApTl.cons hft stable_tagRep (ApV.always (ApV.of (sload (by kernel_rfl) (by kernel_rfl) (by kernel_rfl)) (FA.listG (e := 102) (sz := 6) hft stable_tagRep rfl (by kernel_rfl) (Av.lenF rfl (by kernel_rfl) (by kernel_rfl) (Av.lenC (Av.len (e := 102) wl_CompactArrayLen (by kernel_rfl) (by kernel_rfl) (by kernel_rfl))) (Av.lenC (Av.len (e := 102) wl_ArrayLen (by kernel_rfl) (by kernel_rfl) (by kernel_rfl)))) (ElA.struct (e := 102) (by kernel_rfl) (by kernel_rfl) (by kernel_rfl) (by kernel_rfl) (by kernel_rfl) (ApTl.part (by kernel_rfl) (ApTl.cons hft stable_tagRep (ApV.always (ApV.of (sload (by kernel_rfl) (by kernel_rfl) (by kernel_rfl)) (FA.int (by kernel_rfl) (Av.call wr_Int32 (by kernel_rfl) (by kernel_rfl))) (by kernel_rfl) (by kernel_rfl)) (by simp [F.has, hv])) (by kernel_rfl) (ApTl.cons hft stable_tagRep (ApV.always (ApV.of (sload (by kernel_rfl) (by kernel_rfl) (by kernel_rfl)) (FA.int (by kernel_rfl) (Av.call wr_Int64 (by kernel_rfl) (by kernel_rfl))) (by kernel_rfl) (by kernel_rfl)) (by simp [F.has, hv])) (by kernel_rfl) (ApTl.cons hft stable_tagRep (ApV.guardV (testW_geq (by kernel_rfl) (by kernel_rfl)) (by simp [F.has]) (by decide) (by kernel_rfl) (fun _ => (ApV.of (sload (by kernel_rfl) (by kernel_rfl) (by kernel_rfl)) (FA.int (by kernel_rfl) (Av.call wr_Int32 (by kernel_rfl) (by kernel_rfl))) (by kernel_rfl) (by kernel_rfl)))) (by kernel_rfl) (ApTl.cons hft stable_tagRep (ApV.always (ApV.of (sload (by kernel_rfl) (by kernel_rfl) (by kernel_rfl)) (FA.ntext (by kernel_rfl) (by omega) (Av.flexV ntextB rfl (by kernel_rfl) (by kernel_rfl) (Av.call wr_CompactNullableString (by kernel_rfl) (by kernel_rfl)) (Av.call wr_NullableString (by kernel_rfl) (by kernel_rfl)))) (by kernel_rfl) (by kernel_rfl)) (by simp [F.has, hv])) (by kernel_rfl) (ApTl.cons hft stable_tagRep (ApV.always (ApV.of (sload (by kernel_rfl) (by kernel_rfl) (by kernel_rfl)) (FA.int (by kernel_rfl) (Av.call wr_Int16 (by kernel_rfl) (by kernel_rfl))) (by kernel_rfl) (by kernel_rfl)) (by simp [F.has, hv])) (by kernel_rfl) (ApTl.tagsE rfl rfl rfl rfl rfl rfl (by kernel_rfl) (by kernel_rfl) (by kernel_rfl) (by kernel_rfl) (by kernel_rfl) (by kernel_rfl) (by kernel_rfl))))))))) (by kernel_rfl) (fun t hl _ => FA.list_w (by decide) t hl) (by kernel_rfl) (by kernel_rfl) (by kernel_rfl) (by kernel_rfl) (by kernel_rfl) (by kernel_rfl)) (by kernel_rfl) (by kernel_rfl)) (by simp [F.has, hv])) (by kernel_rfl) (ApTl.tagsE rfl rfl rfl rfl rfl rfl (by kernel_rfl) (by kernel_rfl) (by kernel_rfl) (by kernel_rfl) (by kernel_rfl) (by kernel_rfl) (by kernel_rfl)))))) (by kernel_rfl) (fun t hl _ => FA.list_w (by decide) t hl) (by kernel_rfl) (by kernel_rfl) (by kernel_rfl) (by kernel_rfl) (by kernel_rfl) (by kernel_rfl)) (by kernel_rfl) (by kernel_rfl)))) (by kernel_rfl) ?_
  refine ApTE.cons hft stable_tagRep (ApV.guardV (testW_range (by kernel_rfl) (by kernel_rfl) (by kernel_rfl)) (by simp [F.has]) (by decide) (by kernel_rfl) (fun _ => (ApV.of (sload (by kernel_rfl) (by kernel_rfl) (by kernel_rfl)) (FA.int (by kernel_rfl) (Av.call wr_Int16 (by kernel_rfl) (by kernel_rfl))) (by kernel_rfl) (by kernel_rfl)))) (by kernel_rfl) ?_
  refine ApTE.cons hft stable_tagRep (ApV.guardV (testW_geq (by kernel_rfl) (by kernel_rfl)) (by simp [F.has]) (by decide) (by kernel_rfl) (fun _ => (ApV.of (sload (by kernel_rfl) (by kernel_rfl) (by kernel_rfl)) (FA.listG (e := 107) (sz := 4) hft stable_tagRep rfl (by kernel_rfl) (Av.lenF rfl (by kernel_rfl) (by kernel_rfl) (Av.lenC (Av.len (e := 107) wl_CompactArrayLen (by kernel_rfl) (by kernel_rfl) (by kernel_rfl))) (Av.lenC (Av.len (e := 107) wl_ArrayLen (by kernel_rfl) (by kernel_rfl) (by kernel_rfl)))) (ElA.struct (e := 107) (by kernel_rfl) (by kernel_rfl) (by kernel_rfl) (by kernel_rfl) (by kernel_rfl) (ApTl.part (by kernel_rfl) (ApTl.cons hft stable_tagRep (ApV.always (ApV.of (sload (by kernel_rfl) (by kernel_rfl) (by kernel_rfl)) (FA.text (Av.flexV (textB 2) rfl (by kernel_rfl) (by kernel_rfl) (Av.call wr_CompactString (by kernel_rfl) (by kernel_rfl)) (Av.call wr_String (by kernel_rfl) (by kernel_rfl)))) (by kernel_rfl) (by kernel_rfl)) (by simp [F.has, hv])) (by kernel_rfl) (ApTl.cons hft stable_tagRep (ApV.always (ApV.of (sload (by kernel_rfl) (by kernel_rfl) (by kernel_rfl)) (FA.listG (e := 112) (sz := 19) hft stable_tagRep rfl (by kernel_rfl) (Av.lenF rfl (by kernel_rfl) (by kernel_rfl) (Av.lenC (Av.len (e := 112) wl_CompactArrayLen (by kernel_rfl) (by kernel_rfl) (by kernel_rfl))) (Av.lenC (Av.len (e := 112) wl_ArrayLen (by kernel_rfl) (by kernel_rfl) (by kernel_rfl)))) (ElA.struct (e := 112) (by kernel_rfl) (by kernel_rfl) (by kernel_rfl) (by kernel_rfl) (by kernel_rfl) (ApTl.part (by kernel_rfl) (ApTl.cons hft stable_tagRep (ApV.guardV (testW_range (by kernel_rfl) (by kernel_rfl) (by kernel_rfl)) (by simp [F.has]) (by decide) (by kernel_rfl) (fun _ => (ApV.of (sload (by kernel_rfl) (by kernel_rfl) (by kernel_rfl)) (FA.text (Av.flexV (textB 2) rfl (by kernel_rfl) (by kernel_rfl) (Av.call wr_CompactString (by kernel_rfl) (by kernel_rfl)) (Av.call wr_String (by kernel_rfl) (by kernel_rfl)))) (by kernel_rfl) (by kernel_rfl)))) (by kernel_rfl) (ApTl.cons hft stable_tagRep (ApV.guardV (testW_geq (by kernel_rfl) (by kernel_rfl)) (by simp [F.has]) (by decide) (by kernel_rfl) (fun _ => (ApV.sixteen (by kernel_rfl) (by kernel_rfl) (by kernel_rfl)))) (by kernel_rfl) (ApTl.cons hft stable_tagRep (ApV.always (ApV.of (sload (by kernel_rfl) (by kernel_rfl) (by kernel_rfl)) (FA.listG (e := 115) (sz := 6) hft stable_tagRep rfl (by kernel_rfl) (Av.lenF rfl (by kernel_rfl) (by kernel_rfl) (Av.lenC (Av.len (e := 115) wl_CompactArrayLen (by kernel_rfl) (by kernel_rfl) (by kernel_rfl))) (Av.lenC (Av.len (e := 115) wl_ArrayLen (by kernel_rfl) (by kernel_rfl) (by kernel_rfl)))) (ElA.struct (e := 115) (by kernel_rfl) (by kernel_rfl) (by kernel_rfl) (by kernel_rfl) (by kernel_rfl) (ApTl.part (by kernel_rfl) (ApTl.cons hft stable_tagRep (ApV.always (ApV.of (sload (by kernel_rfl) (by kernel_rfl) (by kernel_rfl)) (FA.int (by kernel_rfl) (Av.call wr_Int32 (by kernel_rfl) (by kernel_rfl))) (by kernel_rfl) (by kernel_rfl)) (by simp [F.has, hv])) (by kernel_rfl) (ApTl.cons hft stable_tagRep (ApV.always (ApV.of (sload (by kernel_rfl) (by kernel_rfl) (by kernel_rfl)) (FA.int (by kernel_rfl) (Av.call wr_Int64 (by kernel_rfl) (by kernel_rfl))) (by kernel_rfl) (by kernel_rfl)) (by simp [F.has, hv])) (by kernel_rfl) (ApTl.cons hft stable_tagRep (ApV.always (ApV.of (sload (by kernel_rfl) (by kernel_rfl) (by kernel_rfl)) (FA.int (by kernel_rfl) (Av.call wr_Int32 (by kernel_rfl) (by kernel_rfl))) (by kernel_rfl) (by kernel_rfl)) (by simp [F.has, hv])) (by kernel_rfl) (ApTl.cons hft stable_tagRep (ApV.always (ApV.of (sload (by kernel_rfl) (by kernel_rfl) (by kernel_rfl)) (FA.ntext (by kernel_rfl) (by omega) (Av.flexV ntextB rfl (by kernel_rfl) (by kernel_rfl) (Av.call wr_CompactNullableString (by kernel_rfl) (by kernel_rfl)) (Av.call wr_NullableString (by kernel_rfl) (by kernel_rfl)))) (by kernel_rfl) (by kernel_rfl)) (by simp [F.has, hv])) (by kernel_rfl) (ApTl.cons hft stable_tagRep (ApV.always (ApV.of (sload (by kernel_rfl) (by kernel_rfl) (by kernel_rfl)) (FA.int (by kernel_rfl) (Av.call wr_Int16 (by kernel_rfl) (by kernel_rfl))) (by kernel_rfl) (by kernel_rfl)) (by simp [F.has, hv])) (by kernel_rfl) (ApTl.tagsE rfl rfl rfl rfl rfl rfl (by kernel_rfl) (by kernel_rfl) (by kernel_rfl) (by kernel_rfl) (by kernel_rfl) (by kernel_rfl) (by kernel_rfl))))))))) (by kernel_rfl) (fun t hl _ => FA.list_w (by decide) t hl) (by kernel_rfl) (by kernel_rfl) (by kernel_rfl) (by kernel_rfl) (by kernel_rfl) (by kernel_rfl)) (by kernel_rfl) (by kernel_rfl)) (by simp [F.has, hv])) (by kernel_rfl) (ApTl.tagsE rfl rfl rfl rfl rfl rfl (by kernel_rfl) (by kernel_rfl) (by kernel_rfl) (by kernel_rfl) (by kernel_rfl) (by kernel_rfl) (by kernel_rfl))))))) (by kernel_rfl) (fun t hl _ => FA.list_w (by decide) t hl) (by kernel_rfl) (by kernel_rfl) (by kernel_rfl) (by kernel_rfl) (by kernel_rfl) (by kernel_rfl)) (by kernel_rfl) (by kernel_rfl)) (by simp [F.has, hv])) (by kernel_rfl) (ApTl.cons hft stable_tagRep (ApV.always (ApV.of (sload (by kernel_rfl) (by kernel_rfl) (by kernel_rfl)) (FA.int (by kernel_rfl) (Av.call wr_Int16 (by kernel_rfl) (by kernel_rfl))) (by kernel_rfl) (by kernel_rfl)) (by simp [F.has, hv])) (by kernel_rfl) (ApTl.tagsE rfl rfl rfl rfl rfl rfl (by kernel_rfl) (by kernel_rfl) (by kernel_rfl) (by kernel_rfl) (by kernel_rfl) (by kernel_rfl) (by kernel_rfl))))))) (by kernel_rfl) (fun t hl _ => FA.list_w (by decide) t hl) (by kernel_rfl) (by kernel_rfl) (by kernel_rfl) (by kernel_rfl) (by kernel_rfl) (by kernel_rfl)) (by kernel_rfl) (by kernel_rfl)))) (by kernel_rfl) ?_
  exact ApTE.last (ApTl.tagsE rfl rfl rfl rfl rfl rfl (by kernel_rfl) (by kernel_rfl) (by kernel_rfl) (by kernel_rfl) (by kernel_rfl) (by kernel_rfl) (by kernel_rfl)) (scopy (by kernel_rfl))
theorem news : NewsMsg 31 95 (setArr #[.int .i16 0, .int .i32 0, .slice none 0 0, .int .i16 0, .slice none 0 0, .map none] 0 sets_OffsetFetchResponse) := newsMsg (N := 3) Tryz.func31 rfl rfl rfl (by kernel_rfl) (by kernel_rfl) (by kernel_rfl) (fun _ => by kernel_rfl) def_OffsetFetchResponse
theorem setsV : SetsVersion 35 := setsVersion Tryz.func35 rfl rfl (by kernel_rfl) (by kernel_rfl) (by kernel_rfl) (by kernel_rfl) (by kernel_rfl)
theorem readsF : ReadsFrom 36 81 := readsFrom Tryz.func36 rfl rfl (by kernel_rfl) (by kernel_rfl) (by kernel_rfl) (by kernel_rfl)
theorem again : AgainOk 15 msg := againOk Tryz.func15 rfl rfl rfl (by kernel_rfl) rfl rfl rfl news setsV readsF reads writes' (by kernel_rfl) (nil_all (by kernel_rfl))
theorem maxv (w : World) : Calls Tryz.prog 13 #[] w fun e w' => e = .returned (.int .i64 10) ∧ Below w.heap.size w w' := by
  go_enter Tryz.func13, Tryz.ntmps13
  go_wp2_with (first
    | (go_at_call 31; refine (news.2 _).mono ?_; rintro e w' ⟨rfl, rfl⟩)
    | go_in)
  all_goals go_ret
  exact ⟨rfl, rfl, rfl, rfl, by simp, fun k hk => alloc_old w _ k hk⟩
theorem okv (v : Int) (h0 : 0 ≤ v) (h1 : v < 11) : msg.ok v = true := by
  have h : v = 0 ∨ v = 1 ∨ v = 2 ∨ v = 3 ∨ v = 4 ∨ v = 5 ∨ v = 6 ∨ v = 7 ∨ v = 8 ∨ v = 9 ∨ v = 10 := by omega
  rcases h with rfl | rfl | rfl | rfl | rfl | rfl | rfl | rfl | rfl | rfl | rfl
  all_goals exact of_decide_eq_true (by kernel_rfl)
set_option maxRecDepth 8000 in
set_option maxHeartbeats 1000000 in
theorem sp_fss1s1 : PartsOk 79 fss1s1 := by
  intro w
  go_enter Tryz.func79, Tryz.ntmps79
  go_wp2
  go_ret
  exact ⟨_, rfl, FL.of_row (fs := fss1s1) (alloc_last _ _) (by rfl) (ss := List.replicate 5 (.slice none 0 0)) (by rfl) (by kernel_rfl) (FL.none_within (by kernel_rfl) rfl) (by rfl), below_push _ (Nat.le_refl _) _ rfl⟩
set_option maxRecDepth 8000 in
set_option maxHeartbeats 1000000 in
theorem sp_fss1 : PartsOk 33 fss1 := by
  intro w
  go_enter Tryz.func33, Tryz.ntmps33
  go_wp2_with fail
  refine (sp_fss1s1 _).mono ?_
  rintro e z0 ⟨x0, rfl, hf0, hb0⟩
  obtain ⟨p0, c0, rfl⟩ := hf0.len
  have F0 := Lib.hid hf0
  have B0 := Lib.hid hb0
  clear hf0 hb0
  go_wp2
  go_ret
  have hfl : FLs z0 fss1 [.slice none 0 0, .slice p0 (List.length fss1s1) c0] := (.cons .nil (.cons F0.out .nil))
  exact ⟨_, rfl, FL.of_row (fs := fss1) (alloc_last _ _) (by rfl) (ss := [.slice none 0 0, .slice p0 (List.length fss1s1) c0]) (by rfl) (by kernel_rfl) (FLs.get (hfl.stay (below_push _ (Nat.le_refl _) _ rfl))) (by rfl), below_box B0.out (Nat.le_refl _)⟩
set_option maxRecDepth 8000 in
set_option maxHeartbeats 1000000 in
theorem sp_fss3s1s2 : PartsOk 127 fss3s1s2 := by
  intro w
  go_enter Tryz.func127, Tryz.ntmps127
  go_wp2
  go_ret
  exact ⟨_, rfl, FL.of_row (fs := fss3s1s2) (alloc_last _ _) (by rfl) (ss := List.replicate 5 (.slice none 0 0)) (by rfl) (by kernel_rfl) (FL.none_within (by kernel_rfl) rfl) (by rfl), below_push _ (Nat.le_refl _) _ rfl⟩
set_option maxRecDepth 8000 in
set_option maxHeartbeats 1000000 in
theorem sp_fss3s1 : PartsOk 80 fss3s1 := by
  intro w
  go_enter Tryz.func80, Tryz.ntmps80
  go_wp2_with fail
  refine (sp_fss3s1s2 _).mono ?_
  rintro e z0 ⟨x0, rfl, hf0, hb0⟩
  obtain ⟨p0, c0, rfl⟩ := hf0.len
  have F0 := Lib.hid hf0
  have B0 := Lib.hid hb0
  clear hf0 hb0
  go_wp2
  go_ret
  have hfl : FLs z0 fss3s1 [.slice none 0 0, .slice none 0 0, .slice p0 (List.length fss3s1s2) c0] := (.cons .nil (.cons .nil (.cons F0.out .nil)))
  exact ⟨_, rfl, FL.of_row (fs := fss3s1) (alloc_last _ _) (by rfl) (ss := [.slice none 0 0, .slice none 0 0, .slice p0 (List.length fss3s1s2) c0]) (by rfl) (by kernel_rfl) (FLs.get (hfl.stay (below_push _ (Nat.le_refl _) _ rfl))) (by rfl), below_box B0.out (Nat.le_refl _)⟩
set_option maxRecDepth 8000 in
set_option maxHeartbeats 1000000 in
theorem sp_fss3 : PartsOk 34 fss3 := by
  intro w
  go_enter Tryz.func34, Tryz.ntmps34
  go_wp2_with fail
  refine (sp_fss3s1 _).mono ?_
  rintro e z0 ⟨x0, rfl, hf0, hb0⟩
  obtain ⟨p0, c0, rfl⟩ := hf0.len
  have F0 := Lib.hid hf0
  have B0 := Lib.hid hb0
  clear hf0 hb0
  go_wp2
  go_ret
  have hfl : FLs z0 fss3 [.slice none 0 0, .slice p0 (List.length fss3s1) c0, .slice none 0 0] := (.cons .nil (.cons F0.out (.cons .nil .nil)))
  exact ⟨_, rfl, FL.of_row (fs := fss3) (alloc_last _ _) (by rfl) (ss := [.slice none 0 0, .slice p0 (List.length fss3s1) c0, .slice none 0 0]) (by rfl) (by kernel_rfl) (FLs.get (hfl.stay (below_push _ (Nat.le_refl _) _ rfl))) (by rfl), below_box B0.out (Nat.le_refl _)⟩
set_option maxRecDepth 8000 in
set_option maxHeartbeats 1000000 in
theorem spec : SpecOk 14 msg := by
  intro w
  go_enter Tryz.func14, Tryz.ntmps14
  go_wp2_with fail
  refine (sp_fss1 _).mono ?_
  rintro e z0 ⟨x0, rfl, hf0, hb0⟩
  obtain ⟨p0, c0, rfl⟩ := hf0.len
  have F0 := Lib.hid hf0
  have B0 := Lib.hid ((below_push w.heap.size (Nat.le_refl _) (.cells #[.slice none 0 0, iv 0] 33) rfl).trans (hb0.lower (m := w.heap.size) (by simp)))
  have HX : Hid (z0.heap[w.heap.size]? = some (.cells #[.slice none 0 0, iv 0] 33 (0, 0))) := Lib.hid ((hb0.block _ (by simp)).trans (alloc_last w _))
  clear hf0 hb0
  go_wp2_with fail
  refine (sp_fss3 _).mono ?_
  rintro e z1 ⟨x1, rfl, hf1, hb1⟩
  obtain ⟨p1, c1, rfl⟩ := hf1.len
  have F1 := Lib.hid hf1
  have B1 := Lib.hid (B0.out.trans (hb1.lower (m := w.heap.size) B0.out.size))
  have F0 := Lib.hid (F0.out.stay hb1)
  have HX := Lib.hid ((hb1.block _ (Array.getElem?_eq_some_iff.1 HX.out).1).trans HX.out)
  clear hf1 hb1
  have y0 : z1.cell? ⟨w.heap.size, 0, none⟩ = some (.slice none 0 0) := cell_of_row _ _ _ _ _ _ HX.out
  have y1 : z1.cell? ⟨w.heap.size, 1, none⟩ = some (iv 0) := cell_of_row _ _ _ _ _ _ HX.out
  have g0 : z1.frozen? ⟨w.heap.size, 0, none⟩ = false := frozen_of_row _ _ _ _ _ HX.out
  have g1 : z1.frozen? ⟨w.heap.size, 1, none⟩ = false := frozen_of_row _ _ _ _ _ HX.out
  have hlt : w.heap.size < z1.heap.size := (Array.getElem?_eq_some_iff.1 HX.out).1
  go_wp2
  have hfl : FLs z1 fs [.slice none 0 0, .slice p0 (List.length fss1) c0, .slice none 0 0, .slice p1 (List.length fss3) c1] := (.cons .nil (.cons F0.out (.cons .nil (.cons F1.out .nil))))
  obtain ⟨k1, k2, k3⟩ := msg_end (m := msg) (ty := 48) (n := 4) (x := 6) B1.out HX.out hfl (by kernel_rfl) (by rfl) (by rfl) (by rfl) (by rfl)
  have hl2 : w.heap.size < (z1.setCell ⟨w.heap.size, 0, none⟩ (.slice (some ⟨z1.heap.size, 0, none⟩) 4 4)).heap.size := by simpa [World.setCell] using hlt
  rw [World.setCell_alloc_past _ _ _ _ hlt, World.setCell_alloc_past _ _ _ _ hl2] at k1 k2 k3
  exact ⟨rfl, _, (results_cell1 (p := 0) (ty := 33) (by kernel_rfl) _ _ _).trans k1, _, rfl, k2, k3⟩

set_option maxRecDepth 8000 in
set_option maxHeartbeats 4000000 in
theorem walk (w : World) (n : Int) (h0 : 0 ≤ n) (h1' : n < 256) (tv : Value) (t : T) (ht : TreeV w tv t) (her : ErrOk w) (hz : ∀ v, (write msg v t).length < 4294967296) :
    Calls Tryz.prog 4 #[.int .u8 n, tv] w fun e w' => e = .returned (.bool true) ∧ Below w.heap.size w w' := by
  obtain ⟨s, l, u, rfl, h1, h2, h3⟩ := ht
  obtain ⟨a1, c1, rfl⟩ := h1.len
  obtain ⟨a2, c2, rfl⟩ := h2.len
  obtain ⟨a3, c3, rfl⟩ := h3.len
  have HT : Hid (TreeV w (treV t.n t.null (.slice a1 t.s.length c1) (.slice a2 t.l.length c2) (.slice a3 t.u.length c3)) t) := Lib.hid ⟨_, _, _, rfl, h1, h2, h3⟩
  have HK := Lib.hid HT.out.keys
  have HE := Lib.hid her
  have HZ := Lib.hid hz
  obtain ⟨q1, q3⟩ := last_box (Below.refl _ (w.alloc (.cells #[iv t.n, .slice a1 t.s.length c1, .bool t.null, .slice a2 t.l.length c2, .slice a3 t.u.length c3] 26)))
  have hB := below_push w.heap.size (Nat.le_refl _) (.cells #[iv t.n, .slice a1 t.s.length c1, .bool t.null, .slice a2 t.l.length c2, .slice a3 t.u.length c3] 26) rfl
  generalize hW : w.alloc (.cells #[iv t.n, .slice a1 t.s.length c1, .bool t.null, .slice a2 t.l.length c2, .slice a3 t.u.length c3] 26) = W at *
  have HB := Lib.hid hB
  have hwz : w.heap.size ≤ W.heap.size := hB.size
  have hm0 : 0 ≤ n % 11 := Int.emod_nonneg _ (by decide)
  have hm1 : n % 11 < 11 := Int.emod_lt_of_pos _ (by decide)
  have HOK := Lib.hid (okv _ hm0 hm1)
  clear h1 h2 h3 hB her hz
  go_enter Tryz.func4, Tryz.ntmps4
  go_wp2_with fail
  clear hW
  refine (fits2_any W _ t (HT.out.stay HB.out)).mono ?_
  rintro e w1 ⟨⟨qf, rfl⟩, hb1⟩
  have y1 := fun k => ((bcell hb1).1 w.heap.size k (show w.heap.size < W.heap.size by omega)).trans (q1 k)
  have Z1 := Lib.hid (HB.out.trans (hb1.lower (m := w.heap.size) hwz))
  have s1 : W.heap.size ≤ w1.heap.size := hb1.size
  clear hb1 q1
  cases qf
  · go_wp2
    go_ret
    exact ⟨rfl, Z1.out⟩
  go_wp2_with fail
  refine (maxv w1).mono ?_
  rintro e w2 ⟨rfl, hb2⟩
  have y2 := fun k => ((bcell hb2).1 w.heap.size k (show w.heap.size < w1.heap.size by omega)).trans (y1 k)
  have Z2 := Lib.hid (Z1.out.trans (hb2.lower (m := w.heap.size) Z1.out.size))
  have s2 : w1.heap.size ≤ w2.heap.size := hb2.size
  clear hb2 y1
  go_wp2_with fail
  go_region_held3 (fun w' => ∀ k, w'.cell? ⟨w.heap.size, k, none⟩ = (#[iv t.n, .slice a1 t.s.length c1, .bool t.null, .slice a2 t.l.length c2, .slice a3 t.u.length c3] : Array Value)[k]?) (assumption) (first
    | (go_at_call 14; refine (spec _).mono ?_; rintro e w3 ⟨v3, rfl, hmv, hbel'⟩; have hbel := below_undrew hbel'; clear hbel';
       have y3 := fun k => ((bcell hbel).1 w.heap.size k (show w.heap.size < w2.heap.size by omega)).trans (y2 k);
       have Z3 := Lib.hid (Z2.out.trans (hbel.lower (m := w.heap.size) Z2.out.size)); have HM := Lib.hid hmv; have s3 : w2.heap.size ≤ w3.heap.size := hbel.size; clear hbel hmv)
    | (go_at_call 11; refine (version_any _ n 10 h0 h1' (by decide) (by decide)).mono ?_; rintro e w4 ⟨rfl, hw4⟩; have hw4 := hw4.symm; subst hw4)
    | (go_at_call 9; refine (Write_any _ _ _ msg (n % 11) t HM.out (HT.out.stay Z3.out) (by kernel_rfl) (by have := HZ.out (n % 11); simp only [lim]; omega)).mono ?_; rintro e w5 ⟨v5, rfl, hown, hbel⟩;
       have y4 := fun k => ((bcell hbel).1 w.heap.size k (show w.heap.size < w3.heap.size by omega)).trans (y3 k);
       have Z5 := Lib.hid (Z3.out.trans (hbel.lower (m := w.heap.size) Z3.out.size)); have HO := Lib.hid hown; have s5 : w3.heap.size ≤ w5.heap.size := hbel.size; clear hbel hown))
  obtain ⟨p5, c5, rfl, -⟩ := row_form HO.out
  have HE5 := Lib.hid (HE.out.below Z5.out)
  obtain ⟨t', e1, e2, e3, e4⟩ := again_law msg (n % 11) t HOK.out HK.out (HZ.out _)
  have HZ5 := Lib.hid (HZ.out (n % 11))
  have h63 : (write msg (n % 11) t).length ≤ 9223372036854775807 := by have := HZ5.out; omega
  have hag := again.2 w5 (n % 11) _ _ (write msg (n % 11) t) hm0 (by omega) (own_bytes HO.out) HE5.out (by have := HZ5.out; simp only [lim2]; omega) (fun t'' r'' h => by rw [e1] at h; cases h; exact ⟨e3, by rw [e2]; have := HZ5.out; simp only [lim2]; omega⟩)
  rw [e1, e2] at hag
  have HA := Lib.hid hag
  have HC := Lib.hid e4
  clear hag e1 e2 e3 e4 y2 y3 y4
  clear HC
  go_wp2_with fail
  refine (version_any w5 n 10 h0 h1' (by decide) (by decide)).mono ?_
  rintro e w6 ⟨rfl, rfl⟩
  go_wp2_with fail
  refine HA.out.mono ?_
  rintro e w7 ⟨u7, rfl, hb7, ho7⟩
  have ho7 : OwnB w7 w6.heap.size u7 (write msg (n % 11) t) := ho7
  have Z7 := Lib.hid (Z5.out.trans (hb7.lower (m := w.heap.size) Z5.out.size))
  have hby : BytesAt w7 _ (.slice p5 (write msg (n % 11) t).length c5) (write msg (n % 11) t) := (own_between HO.out).on hb7
  have hsm := Same_any w7 _ _ _ _ (write msg (n % 11) t) (write msg (n % 11) t) (own_bytes ho7) hby (by have := HZ5.out; omega)
  have HS := Lib.hid hsm
  clear hb7 ho7 hby hsm
  go_wp2_with fail
  refine HS.out.mono ?_
  rintro e w8 ⟨rfl, hg8⟩
  simp only [decide_true]
  have Z8 : Hid (Below w.heap.size w w8) := Lib.hid (Z7.out.trans ⟨hg8.os, hg8.tape, hg8.output, hg8.size, fun k hk => hg8.block k (Nat.lt_of_lt_of_le hk Z7.out.size) (by simp)⟩)
  clear hg8
  go_wp2
  go_ret
  exact ⟨rfl, Z8.out⟩

section
open Go.ChangeShapes Go.WideShapes Go.ChangeAt Go.RowKit
set_option maxRecDepth 100000 in
theorem lifted (os : Os) (started : os.Started) (H : Type) (enc : TypeId × Value → H) (F : Stop.Interp) :
    ReturnsInHanded {} Tryz.checked os 4 .any ((Rows.OpenSpec.upto Rows.fnAgainOffsetFetchResponseSpec).preRow enc Tryz.prog Tryz.f4 Rows.fnAgainOffsetFetchResponseUptoRow.domain false Rows.fnAgainOffsetFetchResponseUptoRow.laid) (((Rows.OpenSpec.upto Rows.fnAgainOffsetFetchResponseSpec).at F).post enc Tryz.prog Tryz.f4 false true false false) := by
  have hw : (DataW.whole enc Tryz.prog ((laidWorld os).forCall (fun _ _ => 0) ⟨#[], #[.int .u8 0, .agg #[.int .i64 0, .slice none 0 0, .bool false, .slice none 0 0, .slice none 0 0]], []⟩).memory Tryz.f4.params.toList Rows.fnAgainOffsetFetchResponseSpec.vars false (#[.int .u8 0, .agg #[.int .i64 0, .slice none 0 0, .bool false, .slice none 0 0, .slice none 0 0]] : Array Value).toList 8).map (fun x => (x.1, x.2.1)) = some ([.lit (.int .u8 0), .agg [.lit (.int .i64 0), .nil, .lit (.bool false), .nil, .nil]], []) := by kernel_rfl
  obtain ⟨⟨x1, x2, x3⟩, hx, hx1⟩ := Option.map_eq_some_iff.1 hw
  simp only [Prod.mk.injEq] at hx1
  obtain ⟨rfl, rfl⟩ := hx1
  refine returnsInHanded_of_row (C := Tryz.checked) (s := (Rows.OpenSpec.upto Rows.fnAgainOffsetFetchResponseSpec)) own started (by kernel_rfl) Tryz.func4
    (witness_row_atRef (enc := enc) (C := Tryz.checked) false (laidWorld os) #[.int .u8 0, .agg #[.int .i64 0, .slice none 0 0, .bool false, .slice none 0 0, .slice none 0 0]] rfl (by kernel_rfl) (by kernel_rfl) (by kernel_rfl)
      (OpenSpec.preRow_of_cond 8 hx (by kernel_rfl) (fun k hk => by cases hk; kernel_rfl) (by kernel_rfl) (laidMet_of_run' 8 (by kernel_rfl) (by kernel_rfl)))) ?_
  intro W base args ds gs before hval0 hW _ hcond _ hL _ _
  have her : ErrOk W := err_of_laid hL
  have hW' := hW
  have hltb := hW.lt
  obtain ⟨p, q, hA0, hV, hpq, -, -⟩ := hW
  have hA : DataW.TrodAll enc Tryz.prog W 0 (fun _ => true) true Tryz.f4.params.toList args.toList ds p := hA0
  have hval : ∀ (j : Nat) t v, Tryz.f4.params[j]? = some t → args[j]? = some v → Value.okWide Tryz.prog W .any base t v := hval0
  rw [Tryz.params4] at hA hval
  obtain ⟨v0, vs0, d0, ds0, p0, q0, hargs, rfl, rfl, h0, r0⟩ := trodAll_cons hA
  obtain ⟨v1, vs1, d1, ds1, p1, q1, hargs1, rfl, rfl, h1, r1⟩ := trodAll_cons r0
  obtain ⟨rfl, rfl, rfl⟩ := trodAll_nil r1
  obtain rfl : args = #[v0, v1] := by cases args; simp_all
  obtain ⟨n, rfl, rfl, rfl, hn⟩ := open_int Tryz.underlying5 (hval 0 5 v0 rfl rfl) h0
  obtain ⟨hn0, hn1⟩ := u8_range hn
  obtain ⟨t, ht, hbt⟩ := open_tree (hval 1 26 v1 rfl rfl) h1
  have hsm := small_le (hcond _ rfl)
  have hbd : Rows.uptoBulk d1 ≤ 1048576 := Nat.le_trans (bulk_mem (by simp)) hsm
  refine Calls.mono (walk W n hn0 hn1 v1 t ht her (fun v => write_bulk (m := msg) (by kernel_rfl) v t (Nat.le_trans hbt hbd))) ?_
  rintro e W' ⟨rfl, hb⟩
  refine ⟨_, rfl, ?_⟩
  refine law_post rfl (by kernel_rfl) hW' ?_ (fun t ht => ?_) hb
  · obtain ⟨rfl, rfl⟩ := trodVars_none hV
    rfl
  · rw [Tryz.params4] at ht
    simp only [List.mem_cons, List.not_mem_nil, or_false] at ht
    rcases ht with rfl | rfl
    all_goals exact ⟨by kernel_rfl, of_decide_eq_true (by kernel_rfl)⟩
/-- The row's facts, first half. -/
def jA (P : Program) (f : FuncId) (fn : Func) (s : ChangeSpec) (c : OpenClaim) : Bool :=
  c.wf (OpenSpec.ofChange s) && laidOutB P && mapsRowed P &&
  fn.params.all (P.readableRec ·) && namedTie P c.named s.vars &&
  (c.stops == []) && (P.stops == []) && (c.knobs == []) && (P.stopKnobs == []) &&
  (c.inPlace == P.inPlace f) && (c.unfollowed == P.unfollowed f) && (c.recurses == P.recurses f) && (c.named == P.varsNamed f) &&
  (c.maps == (fn.params.toList ++ s.plain.varTypes P).any (P.mapsRec ·)) && (c.ifaces == (fn.params.toList ++ s.plain.varTypes P).any (P.ifacesRec ·)) && (c.mapsOut == P.mapsAmong fn.resultTypes.toList) &&
  (c.loops == (fn.params.toList ++ s.plain.varTypes P).any (P.loopsFrom ·)) && (c.wideKeys == (fn.params.toList ++ s.plain.varTypes P ++ fn.resultTypes.toList).any (P.wideKeysFrom ·)) &&
  s.vars.all (P.varReadable ·) && fn.resultTypes.all (fun t => P.readableRec t && decide (t < P.types.size)) && (c.ifacesOut == fn.resultTypes.toList.any (P.ifacesRec ·)) && (c.loopsOut == fn.resultTypes.toList.any (P.loopsFrom ·)) && (c.plainKeys == P.plainKeys) && c.shortTexts.isNone
/-- The second half. -/
def jB (P : Program) (fn : Func) (s : ChangeSpec) (c : OpenClaim) : Bool :=
  P.stopsHeard && P.mayEnter && (c.lifted == P.liftsFinal) && (P.make == some c.make) && (c.kinds == (if c.domain.isEmpty then [] else fn.params.toList.map fun t => match P.underlying t with | some (.int k) => some k | _ => none)) && (c.pinned == c.pinnedBy) &&
  (c.veiled == (fn.params.toList ++ s.plain.varTypes P ++ fn.resultTypes.toList).any (P.veiledRec ·)) && c.veiledFits P fn.params.toList (fn.params.toList ++ s.plain.varTypes P ++ fn.resultTypes.toList)
theorem j_two {P : Program} {f : FuncId} {fn : Func} {s : ChangeSpec} {c : OpenClaim} (hA : jA P f fn s c = true) (hB : jB P fn s c = true) : joinedFacts P f fn s c = true := by
  simp only [jA, Bool.and_eq_true] at hA
  simp only [jB, Bool.and_eq_true] at hB
  obtain ⟨⟨⟨⟨⟨⟨⟨b1, b2⟩, b3⟩, b4⟩, b5⟩, b6⟩, b7⟩, b8⟩ := hB
  simp only [joinedFacts, Bool.and_eq_true]
  exact ⟨⟨⟨⟨⟨⟨⟨⟨hA, b1⟩, b2⟩, b3⟩, b4⟩, b5⟩, b6⟩, b7⟩, b8⟩
theorem factsA : jA Tryz.pinned.checked.prog 4 Tryz.f4 ((Rows.OpenSpec.upto Rows.fnAgainOffsetFetchResponseSpec)).bare Rows.fnAgainOffsetFetchResponseUptoRow = true := by kernel_rfl
theorem factsB : jB Tryz.pinned.checked.prog Tryz.f4 ((Rows.OpenSpec.upto Rows.fnAgainOffsetFetchResponseSpec)).bare Rows.fnAgainOffsetFetchResponseUptoRow = true := by kernel_rfl
theorem said : Rows.FnAgainOffsetFetchResponseUptoSaid :=
  OpenClaim.holds_of_cond 4 Tryz.f4 rfl rfl rfl rfl rfl rfl rfl ⟨rfl, rfl, rfl, rfl, rfl⟩ rfl rfl rfl rfl rfl (by kernel_rfl) Tryz.func4 (j_two factsA factsB)
    (of_decide_eq_true (by kernel_rfl)) (by unfold Func.isWrapper; first | (rw [if_pos (by decide +kernel)]; kernel_rfl) | (rw [if_neg (by decide +kernel)]; exact ⟨rfl, rfl⟩))
    (fun os started H enc _ F => by rw [OpenClaim.pre_eq_preRow]; exact lifted os started H enc F)
theorem plain (f : FuncId) (fn : Func) (hf : Tryz.pinned.checked.prog.funcNamed "pub-kmsg/laws.FnAgainOffsetFetchResponse" = some f) (hfn : Tryz.pinned.checked.prog.funcs[f]? = some fn) :
    false = Tryz.pinned.checked.prog.looks [] ∧ ∀ (j : Nat) t, fn.params[j]? = some t → Tryz.pinned.checked.prog.wantsStandIn t = false := by
  obtain rfl : f = 4 := Option.some.inj ((show Tryz.prog.funcNamed "pub-kmsg/laws.FnAgainOffsetFetchResponse" = some 4 by kernel_rfl).symm.trans hf) |>.symm
  obtain rfl : fn = Tryz.f4 := (Option.some.inj (Tryz.func4.symm.trans hfn)).symm
  refine ⟨by kernel_rfl, fun j t ht => ?_⟩
  rw [Tryz.params4] at ht
  have hm := Array.mem_of_getElem? ht
  simp only [List.mem_toArray, List.mem_cons, List.not_mem_nil, or_false] at hm
  rcases hm with rfl | rfl
  all_goals exact of_decide_eq_true (by kernel_rfl)
theorem card : Rows.FnAgainOffsetFetchResponseUptoCardSaid :=
  Claim7.holds_tied_plain_at .later [] _ _ _ _ said (fun _ h => by cases h) (by kernel_rfl) (fun _ h => by cases h) fnAgainOffsetFetchResponseUpto_row_tie rfl ⟨rfl, rfl⟩ (by kernel_rfl) rfl plain (by kernel_rfl)
end
end Go.Proofs.YtoklbgdafnminaaGreatDoor.OffsetFetchResponse

