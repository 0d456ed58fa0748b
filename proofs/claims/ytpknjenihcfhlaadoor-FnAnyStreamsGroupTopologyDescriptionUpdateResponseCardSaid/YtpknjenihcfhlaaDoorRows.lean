/-
  NARROWER THAN 'FOR EVERY INPUT', by the rows' own cells (each row's printed sentence says how): FnAnyControllerRegistrationResponse: laid · FnAnyAddOffsetsToTxnRequest: laid · FnAnyStreamsGroupTopologyDescriptionUpdateResponse: laid · FnAnyHeartbeatRequest: laid · FnAnyLeaveGroupResponse: laid · FnAnyDeleteRecordsRequest: laid.
  DERIVED. THE GIVEN ROWS OF THIS SEAT. 6 by the template 'for every input the law returns true; each argument reads behind the call as it read before'; 0 by the template 'total and deterministic' (their statements: YtpknjenihcfhlaaDoorTotals.lean).
  GIVEN WITH THE SEED: the statements are not yours to turn. If you find one false, say at which input.
  Laid BY PROGRAM, IN A SANDBOX (cutbox-rows.mjs): the forced cells as the released guide's own fill.sh prints them over the translation 69feecc03215363f… (all of the seat's roots in one cut). By AI agents, Wed Nov 11 2026. No macro, syntax, notation, axiom, sorry.
-/
import Derived.Test.YtpknjenihcfhlaaDoorChecked
import GoSem.Claim
import GoSem.ClaimJoined
import GoSem.ClaimMapViews
import Derived.JoinedTies
import Derived.KernelRfl
namespace Go.Proofs.YtpknjenihcfhlaaDoor
/- THE CELL 'sum', in the pinned program and in every row, IS THE sha256 OF THE DUMP (.gsa) THAT YtpknjenihcfhlaaDoorProg.lean LOADS. Nothing in Lean hashes anything: it is a label: what it is worth is what the hold of that sum in a sandbox is worth. -/
noncomputable def Tryd.pinned : Pinned := { name := "ytpknjenihcfhlaadoor", sum := "69feecc03215363f43545ebbd4d62f3f68eeeff1481d4d71c527b7fa91f23368", checked := Tryd.checked }
namespace Rows
def none {H : Type} : Left H := { results := [], args := [] }

/- WHAT THE LISTED PACKAGE-LEVEL VARIABLES READ AS WHEN THE CALL BEGINS. Each datum BY PROGRAM (the guide's laid-datum.mjs) off the statement by which the dump's own 'gosem.cut.vars' lays the variable. In a bare row this is a premise. The card (YtpknjenihcfhlaaDoorCards.lean) ties it to the program's text. -/
def laid_pub_kmsg_pub_kmsg_inner_kbin_ErrNotEnoughData {H : Type} : DataW H := .iface "*errors.errorString" (.ptr (.agg [.lit (.string [114, 101, 115, 112, 111, 110, 115, 101, 32, 100, 105, 100, 32, 110, 111, 116, 32, 99, 111, 110, 116, 97, 105, 110, 32, 101, 110, 111, 117, 103, 104, 32, 100, 97, 116, 97, 32, 116, 111, 32, 98, 101, 32, 118, 97, 108, 105, 100])]))

/-- 'laws.FnAnyControllerRegistrationResponse': WHATEVER THE INPUT: true; the input reads as it did. -/
def fnAnyControllerRegistrationResponseSpec : ChangeSpec := { name := "fnAnyControllerRegistrationResponse", fn := fun _ => fun
  | [d1, d2] => { results := [.lit (.bool true)], args := [d1, d2] }
  | _ => none }
def fnAnyControllerRegistrationResponseRow : OpenClaim := { program := "ytpknjenihcfhlaadoor", sum := "69feecc03215363f43545ebbd4d62f3f68eeeff1481d4d71c527b7fa91f23368", func := "pub-kmsg/laws.FnAnyControllerRegistrationResponse", spec := "fnAnyControllerRegistrationResponse", inPlace := ["internal/reflectlite.ValueOf", "internal/reflectlite.Swapper", "(internal/reflectlite.Value).Len"], unfollowed := true, recurses := true, named := ["encoding/binary.BigEndian", "pub-kmsg/pub/kmsg/inner/kbin.ErrNotEnoughData"], apart := false, laid := [("pub-kmsg/pub/kmsg/inner/kbin.ErrNotEnoughData", laid_pub_kmsg_pub_kmsg_inner_kbin_ErrNotEnoughData)] }
def FnAnyControllerRegistrationResponseSaid : Prop := fnAnyControllerRegistrationResponseRow.holds Tryd.pinned (OpenSpec.ofChange fnAnyControllerRegistrationResponseSpec)

/-- ITS FALSE NEIGHBOUR: 'it returns false'. Refute it at one input. -/
def fnAnyControllerRegistrationResponseWrong : ChangeSpec := { name := "fnAnyControllerRegistrationResponse", fn := fun _ => fun
  | [d1, d2] => { results := [.lit (.bool false)], args := [d1, d2] }
  | _ => none }
def FnAnyControllerRegistrationResponseWrongFalsely : Prop := fnAnyControllerRegistrationResponseRow.holds Tryd.pinned (OpenSpec.ofChange fnAnyControllerRegistrationResponseWrong)

/-- 'laws.FnAnyAddOffsetsToTxnRequest': WHATEVER THE INPUT: true; the input reads as it did. -/
def fnAnyAddOffsetsToTxnRequestSpec : ChangeSpec := { name := "fnAnyAddOffsetsToTxnRequest", fn := fun _ => fun
  | [d1, d2] => { results := [.lit (.bool true)], args := [d1, d2] }
  | _ => none }
def fnAnyAddOffsetsToTxnRequestRow : OpenClaim := { program := "ytpknjenihcfhlaadoor", sum := "69feecc03215363f43545ebbd4d62f3f68eeeff1481d4d71c527b7fa91f23368", func := "pub-kmsg/laws.FnAnyAddOffsetsToTxnRequest", spec := "fnAnyAddOffsetsToTxnRequest", inPlace := ["internal/reflectlite.ValueOf", "internal/reflectlite.Swapper", "(internal/reflectlite.Value).Len"], unfollowed := true, recurses := true, named := ["encoding/binary.BigEndian", "pub-kmsg/pub/kmsg/inner/kbin.ErrNotEnoughData"], apart := false, laid := [("pub-kmsg/pub/kmsg/inner/kbin.ErrNotEnoughData", laid_pub_kmsg_pub_kmsg_inner_kbin_ErrNotEnoughData)] }
def FnAnyAddOffsetsToTxnRequestSaid : Prop := fnAnyAddOffsetsToTxnRequestRow.holds Tryd.pinned (OpenSpec.ofChange fnAnyAddOffsetsToTxnRequestSpec)

/-- ITS FALSE NEIGHBOUR: 'it returns false'. Refute it at one input. -/
def fnAnyAddOffsetsToTxnRequestWrong : ChangeSpec := { name := "fnAnyAddOffsetsToTxnRequest", fn := fun _ => fun
  | [d1, d2] => { results := [.lit (.bool false)], args := [d1, d2] }
  | _ => none }
def FnAnyAddOffsetsToTxnRequestWrongFalsely : Prop := fnAnyAddOffsetsToTxnRequestRow.holds Tryd.pinned (OpenSpec.ofChange fnAnyAddOffsetsToTxnRequestWrong)

/-- 'laws.FnAnyStreamsGroupTopologyDescriptionUpdateResponse': WHATEVER THE INPUT: true; the input reads as it did. -/
def fnAnyStreamsGroupTopologyDescriptionUpdateResponseSpec : ChangeSpec := { name := "fnAnyStreamsGroupTopologyDescriptionUpdateResponse", fn := fun _ => fun
  | [d1, d2] => { results := [.lit (.bool true)], args := [d1, d2] }
  | _ => none }
def fnAnyStreamsGroupTopologyDescriptionUpdateResponseRow : OpenClaim := { program := "ytpknjenihcfhlaadoor", sum := "69feecc03215363f43545ebbd4d62f3f68eeeff1481d4d71c527b7fa91f23368", func := "pub-kmsg/laws.FnAnyStreamsGroupTopologyDescriptionUpdateResponse", spec := "fnAnyStreamsGroupTopologyDescriptionUpdateResponse", inPlace := ["internal/reflectlite.ValueOf", "internal/reflectlite.Swapper", "(internal/reflectlite.Value).Len"], unfollowed := true, recurses := true, named := ["encoding/binary.BigEndian", "pub-kmsg/pub/kmsg/inner/kbin.ErrNotEnoughData"], apart := false, laid := [("pub-kmsg/pub/kmsg/inner/kbin.ErrNotEnoughData", laid_pub_kmsg_pub_kmsg_inner_kbin_ErrNotEnoughData)] }
def FnAnyStreamsGroupTopologyDescriptionUpdateResponseSaid : Prop := fnAnyStreamsGroupTopologyDescriptionUpdateResponseRow.holds Tryd.pinned (OpenSpec.ofChange fnAnyStreamsGroupTopologyDescriptionUpdateResponseSpec)

/-- ITS FALSE NEIGHBOUR: 'it returns false'. Refute it at one input. -/
def fnAnyStreamsGroupTopologyDescriptionUpdateResponseWrong : ChangeSpec := { name := "fnAnyStreamsGroupTopologyDescriptionUpdateResponse", fn := fun _ => fun
  | [d1, d2] => { results := [.lit (.bool false)], args := [d1, d2] }
  | _ => none }
def FnAnyStreamsGroupTopologyDescriptionUpdateResponseWrongFalsely : Prop := fnAnyStreamsGroupTopologyDescriptionUpdateResponseRow.holds Tryd.pinned (OpenSpec.ofChange fnAnyStreamsGroupTopologyDescriptionUpdateResponseWrong)

/-- 'laws.FnAnyHeartbeatRequest': WHATEVER THE INPUT: true; the input reads as it did. -/
def fnAnyHeartbeatRequestSpec : ChangeSpec := { name := "fnAnyHeartbeatRequest", fn := fun _ => fun
  | [d1, d2] => { results := [.lit (.bool true)], args := [d1, d2] }
  | _ => none }
def fnAnyHeartbeatRequestRow : OpenClaim := { program := "ytpknjenihcfhlaadoor", sum := "69feecc03215363f43545ebbd4d62f3f68eeeff1481d4d71c527b7fa91f23368", func := "pub-kmsg/laws.FnAnyHeartbeatRequest", spec := "fnAnyHeartbeatRequest", inPlace := ["internal/reflectlite.ValueOf", "internal/reflectlite.Swapper", "(internal/reflectlite.Value).Len"], unfollowed := true, recurses := true, named := ["encoding/binary.BigEndian", "pub-kmsg/pub/kmsg/inner/kbin.ErrNotEnoughData"], apart := false, laid := [("pub-kmsg/pub/kmsg/inner/kbin.ErrNotEnoughData", laid_pub_kmsg_pub_kmsg_inner_kbin_ErrNotEnoughData)] }
def FnAnyHeartbeatRequestSaid : Prop := fnAnyHeartbeatRequestRow.holds Tryd.pinned (OpenSpec.ofChange fnAnyHeartbeatRequestSpec)

/-- ITS FALSE NEIGHBOUR: 'it returns false'. Refute it at one input. -/
def fnAnyHeartbeatRequestWrong : ChangeSpec := { name := "fnAnyHeartbeatRequest", fn := fun _ => fun
  | [d1, d2] => { results := [.lit (.bool false)], args := [d1, d2] }
  | _ => none }
def FnAnyHeartbeatRequestWrongFalsely : Prop := fnAnyHeartbeatRequestRow.holds Tryd.pinned (OpenSpec.ofChange fnAnyHeartbeatRequestWrong)

/-- 'laws.FnAnyLeaveGroupResponse': WHATEVER THE INPUT: true; the input reads as it did. -/
def fnAnyLeaveGroupResponseSpec : ChangeSpec := { name := "fnAnyLeaveGroupResponse", fn := fun _ => fun
  | [d1, d2] => { results := [.lit (.bool true)], args := [d1, d2] }
  | _ => none }
def fnAnyLeaveGroupResponseRow : OpenClaim := { program := "ytpknjenihcfhlaadoor", sum := "69feecc03215363f43545ebbd4d62f3f68eeeff1481d4d71c527b7fa91f23368", func := "pub-kmsg/laws.FnAnyLeaveGroupResponse", spec := "fnAnyLeaveGroupResponse", inPlace := ["internal/reflectlite.ValueOf", "internal/reflectlite.Swapper", "(internal/reflectlite.Value).Len"], unfollowed := true, recurses := true, named := ["encoding/binary.BigEndian", "pub-kmsg/pub/kmsg/inner/kbin.ErrNotEnoughData"], apart := false, laid := [("pub-kmsg/pub/kmsg/inner/kbin.ErrNotEnoughData", laid_pub_kmsg_pub_kmsg_inner_kbin_ErrNotEnoughData)] }
def FnAnyLeaveGroupResponseSaid : Prop := fnAnyLeaveGroupResponseRow.holds Tryd.pinned (OpenSpec.ofChange fnAnyLeaveGroupResponseSpec)

/-- ITS FALSE NEIGHBOUR: 'it returns false'. Refute it at one input. -/
def fnAnyLeaveGroupResponseWrong : ChangeSpec := { name := "fnAnyLeaveGroupResponse", fn := fun _ => fun
  | [d1, d2] => { results := [.lit (.bool false)], args := [d1, d2] }
  | _ => none }
def FnAnyLeaveGroupResponseWrongFalsely : Prop := fnAnyLeaveGroupResponseRow.holds Tryd.pinned (OpenSpec.ofChange fnAnyLeaveGroupResponseWrong)

/-- 'laws.FnAnyDeleteRecordsRequest': WHATEVER THE INPUT: true; the input reads as it did. -/
def fnAnyDeleteRecordsRequestSpec : ChangeSpec := { name := "fnAnyDeleteRecordsRequest", fn := fun _ => fun
  | [d1, d2] => { results := [.lit (.bool true)], args := [d1, d2] }
  | _ => none }
def fnAnyDeleteRecordsRequestRow : OpenClaim := { program := "ytpknjenihcfhlaadoor", sum := "69feecc03215363f43545ebbd4d62f3f68eeeff1481d4d71c527b7fa91f23368", func := "pub-kmsg/laws.FnAnyDeleteRecordsRequest", spec := "fnAnyDeleteRecordsRequest", inPlace := ["internal/reflectlite.ValueOf", "internal/reflectlite.Swapper", "(internal/reflectlite.Value).Len"], unfollowed := true, recurses := true, named := ["encoding/binary.BigEndian", "pub-kmsg/pub/kmsg/inner/kbin.ErrNotEnoughData"], apart := false, laid := [("pub-kmsg/pub/kmsg/inner/kbin.ErrNotEnoughData", laid_pub_kmsg_pub_kmsg_inner_kbin_ErrNotEnoughData)] }
def FnAnyDeleteRecordsRequestSaid : Prop := fnAnyDeleteRecordsRequestRow.holds Tryd.pinned (OpenSpec.ofChange fnAnyDeleteRecordsRequestSpec)

/-- ITS FALSE NEIGHBOUR: 'it returns false'. Refute it at one input. -/
def fnAnyDeleteRecordsRequestWrong : ChangeSpec := { name := "fnAnyDeleteRecordsRequest", fn := fun _ => fun
  | [d1, d2] => { results := [.lit (.bool false)], args := [d1, d2] }
  | _ => none }
def FnAnyDeleteRecordsRequestWrongFalsely : Prop := fnAnyDeleteRecordsRequestRow.holds Tryd.pinned (OpenSpec.ofChange fnAnyDeleteRecordsRequestWrong)

/- THE SECOND FORM. 'bulk': how many values and letters a reading holds, each counted each time it is reached (what is shared counts as often as it is met; a slice's spare places count too). A statement '..UptoSaid' is the law's where the arguments, and the package variables that the reading takes, are together of bulk at most 1048576: NARROWER than '..Said'. Prove '..Said' where nothing that the law and all that it calls make is longer than what came in: it says more and counts as full. Else prove '..UptoSaid'. A law counts once. -/
mutual
def uptoBulk {H : Type} : DataW H → Nat
  | .lit (.string bytes) => bytes.length + 1
  | .lit _ => 1
  | .nil => 1
  | .ptr d => uptoBulk d + 1
  | .slice elems spare => uptoBulkAll elems + uptoBulkAll spare + 1
  | .agg parts => uptoBulkAll parts + 1
  | .iface _ d => uptoBulk d + 1
  | .map entries => uptoBulkEntries entries + 1
  | .held _ => 1
def uptoBulkAll {H : Type} : List (DataW H) → Nat
  | [] => 0
  | d :: r => uptoBulk d + uptoBulkAll r
def uptoBulkEntries {H : Type} : List (Lit × DataW H) → Nat
  | [] => 0
  | x :: r => uptoBulkEntry x + uptoBulkEntries r
def uptoBulkEntry {H : Type} : Lit × DataW H → Nat
  | (.string bytes, d) => bytes.length + uptoBulk d + 1
  | (_, d) => uptoBulk d + 1
 end
def uptoSmall : (H : Type) → List (DataW H) → Bool := fun _ ds => decide (uptoBulkAll ds ≤ 1048576)
def OpenSpec.upto (s : _root_.Go.ChangeSpec) : _root_.Go.OpenSpec := { _root_.Go.OpenSpec.ofChange s with cond := some uptoSmall }

/-- 'laws.FnAnyControllerRegistrationResponse', WHERE WHAT IT READS IS OF BULK AT MOST 1048576: true; the input reads as it did. -/
def fnAnyControllerRegistrationResponseUptoRow : OpenClaim := { program := "ytpknjenihcfhlaadoor", sum := "69feecc03215363f43545ebbd4d62f3f68eeeff1481d4d71c527b7fa91f23368", func := "pub-kmsg/laws.FnAnyControllerRegistrationResponse", spec := "fnAnyControllerRegistrationResponse", inPlace := ["internal/reflectlite.ValueOf", "internal/reflectlite.Swapper", "(internal/reflectlite.Value).Len"], unfollowed := true, recurses := true, named := ["encoding/binary.BigEndian", "pub-kmsg/pub/kmsg/inner/kbin.ErrNotEnoughData"], apart := false, laid := [("pub-kmsg/pub/kmsg/inner/kbin.ErrNotEnoughData", laid_pub_kmsg_pub_kmsg_inner_kbin_ErrNotEnoughData)], narrowed := true }
def FnAnyControllerRegistrationResponseUptoSaid : Prop := fnAnyControllerRegistrationResponseUptoRow.holds Tryd.pinned (OpenSpec.upto fnAnyControllerRegistrationResponseSpec)

/-- 'laws.FnAnyAddOffsetsToTxnRequest', WHERE WHAT IT READS IS OF BULK AT MOST 1048576: true; the input reads as it did. -/
def fnAnyAddOffsetsToTxnRequestUptoRow : OpenClaim := { program := "ytpknjenihcfhlaadoor", sum := "69feecc03215363f43545ebbd4d62f3f68eeeff1481d4d71c527b7fa91f23368", func := "pub-kmsg/laws.FnAnyAddOffsetsToTxnRequest", spec := "fnAnyAddOffsetsToTxnRequest", inPlace := ["internal/reflectlite.ValueOf", "internal/reflectlite.Swapper", "(internal/reflectlite.Value).Len"], unfollowed := true, recurses := true, named := ["encoding/binary.BigEndian", "pub-kmsg/pub/kmsg/inner/kbin.ErrNotEnoughData"], apart := false, laid := [("pub-kmsg/pub/kmsg/inner/kbin.ErrNotEnoughData", laid_pub_kmsg_pub_kmsg_inner_kbin_ErrNotEnoughData)], narrowed := true }
def FnAnyAddOffsetsToTxnRequestUptoSaid : Prop := fnAnyAddOffsetsToTxnRequestUptoRow.holds Tryd.pinned (OpenSpec.upto fnAnyAddOffsetsToTxnRequestSpec)

/-- 'laws.FnAnyStreamsGroupTopologyDescriptionUpdateResponse', WHERE WHAT IT READS IS OF BULK AT MOST 1048576: true; the input reads as it did. -/
def fnAnyStreamsGroupTopologyDescriptionUpdateResponseUptoRow : OpenClaim := { program := "ytpknjenihcfhlaadoor", sum := "69feecc03215363f43545ebbd4d62f3f68eeeff1481d4d71c527b7fa91f23368", func := "pub-kmsg/laws.FnAnyStreamsGroupTopologyDescriptionUpdateResponse", spec := "fnAnyStreamsGroupTopologyDescriptionUpdateResponse", inPlace := ["internal/reflectlite.ValueOf", "internal/reflectlite.Swapper", "(internal/reflectlite.Value).Len"], unfollowed := true, recurses := true, named := ["encoding/binary.BigEndian", "pub-kmsg/pub/kmsg/inner/kbin.ErrNotEnoughData"], apart := false, laid := [("pub-kmsg/pub/kmsg/inner/kbin.ErrNotEnoughData", laid_pub_kmsg_pub_kmsg_inner_kbin_ErrNotEnoughData)], narrowed := true }
def FnAnyStreamsGroupTopologyDescriptionUpdateResponseUptoSaid : Prop := fnAnyStreamsGroupTopologyDescriptionUpdateResponseUptoRow.holds Tryd.pinned (OpenSpec.upto fnAnyStreamsGroupTopologyDescriptionUpdateResponseSpec)

/-- 'laws.FnAnyHeartbeatRequest', WHERE WHAT IT READS IS OF BULK AT MOST 1048576: true; the input reads as it did. -/
def fnAnyHeartbeatRequestUptoRow : OpenClaim := { program := "ytpknjenihcfhlaadoor", sum := "69feecc03215363f43545ebbd4d62f3f68eeeff1481d4d71c527b7fa91f23368", func := "pub-kmsg/laws.FnAnyHeartbeatRequest", spec := "fnAnyHeartbeatRequest", inPlace := ["internal/reflectlite.ValueOf", "internal/reflectlite.Swapper", "(internal/reflectlite.Value).Len"], unfollowed := true, recurses := true, named := ["encoding/binary.BigEndian", "pub-kmsg/pub/kmsg/inner/kbin.ErrNotEnoughData"], apart := false, laid := [("pub-kmsg/pub/kmsg/inner/kbin.ErrNotEnoughData", laid_pub_kmsg_pub_kmsg_inner_kbin_ErrNotEnoughData)], narrowed := true }
def FnAnyHeartbeatRequestUptoSaid : Prop := fnAnyHeartbeatRequestUptoRow.holds Tryd.pinned (OpenSpec.upto fnAnyHeartbeatRequestSpec)

/-- 'laws.FnAnyLeaveGroupResponse', WHERE WHAT IT READS IS OF BULK AT MOST 1048576: true; the input reads as it did. -/
def fnAnyLeaveGroupResponseUptoRow : OpenClaim := { program := "ytpknjenihcfhlaadoor", sum := "69feecc03215363f43545ebbd4d62f3f68eeeff1481d4d71c527b7fa91f23368", func := "pub-kmsg/laws.FnAnyLeaveGroupResponse", spec := "fnAnyLeaveGroupResponse", inPlace := ["internal/reflectlite.ValueOf", "internal/reflectlite.Swapper", "(internal/reflectlite.Value).Len"], unfollowed := true, recurses := true, named := ["encoding/binary.BigEndian", "pub-kmsg/pub/kmsg/inner/kbin.ErrNotEnoughData"], apart := false, laid := [("pub-kmsg/pub/kmsg/inner/kbin.ErrNotEnoughData", laid_pub_kmsg_pub_kmsg_inner_kbin_ErrNotEnoughData)], narrowed := true }
def FnAnyLeaveGroupResponseUptoSaid : Prop := fnAnyLeaveGroupResponseUptoRow.holds Tryd.pinned (OpenSpec.upto fnAnyLeaveGroupResponseSpec)

/-- 'laws.FnAnyDeleteRecordsRequest', WHERE WHAT IT READS IS OF BULK AT MOST 1048576: true; the input reads as it did. -/
def fnAnyDeleteRecordsRequestUptoRow : OpenClaim := { program := "ytpknjenihcfhlaadoor", sum := "69feecc03215363f43545ebbd4d62f3f68eeeff1481d4d71c527b7fa91f23368", func := "pub-kmsg/laws.FnAnyDeleteRecordsRequest", spec := "fnAnyDeleteRecordsRequest", inPlace := ["internal/reflectlite.ValueOf", "internal/reflectlite.Swapper", "(internal/reflectlite.Value).Len"], unfollowed := true, recurses := true, named := ["encoding/binary.BigEndian", "pub-kmsg/pub/kmsg/inner/kbin.ErrNotEnoughData"], apart := false, laid := [("pub-kmsg/pub/kmsg/inner/kbin.ErrNotEnoughData", laid_pub_kmsg_pub_kmsg_inner_kbin_ErrNotEnoughData)], narrowed := true }
def FnAnyDeleteRecordsRequestUptoSaid : Prop := fnAnyDeleteRecordsRequestUptoRow.holds Tryd.pinned (OpenSpec.upto fnAnyDeleteRecordsRequestSpec)

end Rows
end Go.Proofs.YtpknjenihcfhlaaDoor
