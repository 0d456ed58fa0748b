/-
  NARROWER THAN 'FOR EVERY INPUT', by the rows' own cells (each row's printed sentence says how): FnAgainWriteShareGroupStateResponse: loops, laid · FnAgainAlterShareGroupOffsetsRequest: loops, laid · FnCutListTransactionsRequest: loops, laid · FnAgainCreatePartitionsRequest: loops, laid · FnAgainListOffsetsRequest: loops, laid · FnCutElectLeadersResponse: loops, laid · FnCutAlterClientQuotasResponse: loops, laid · FnCutDeleteACLsRequest: loops, laid · FnAgainShareGroupHeartbeatResponse: loops, laid · FnCutConsumerGroupHeartbeatResponse: loops, laid.
  DERIVED. THE GIVEN ROWS OF THIS SEAT. 10 by the template 'for every input the law returns true; each argument reads behind the call as it read before'; 0 by the template 'total and deterministic' (their statements: YtekmdfodnofldaaGreatDoorTotals.lean).
  GIVEN WITH THE SEED: the statements are not yours to turn. If you find one false, say at which input.
  Laid BY PROGRAM, IN A SANDBOX (cutbox-rows.mjs): the forced cells as the released guide's own fill.sh prints them over the translation d89fb589622069f5… (all of the seat's roots in one cut). By AI agents, Wed Nov 11 2026. No macro, syntax, notation, axiom, sorry.
-/
import Derived.Test.YtekmdfodnofldaaGreatDoorChecked
import GoSem.Claim
import GoSem.ClaimJoined
import GoSem.ClaimMapViews
import Derived.JoinedTies
import Derived.KernelRfl
namespace Go.Proofs.YtekmdfodnofldaaGreatDoor
/- THE CELL 'sum', in the pinned program and in every row, IS THE sha256 OF THE DUMP (.gsa) THAT YtekmdfodnofldaaGreatDoorProg.lean LOADS. Nothing in Lean hashes anything: it is a label: what it is worth is what the hold of that sum in a sandbox is worth. -/
noncomputable def Tryz.pinned : Pinned := { name := "ytekmdfodnofldaagreatdoor", sum := "d89fb589622069f59a43a330a8ae2b1142af89274bf30980b0794060498044b0", checked := Tryz.checked }
namespace Rows
def none {H : Type} : Left H := { results := [], args := [] }

/- WHAT THE LISTED PACKAGE-LEVEL VARIABLES READ AS WHEN THE CALL BEGINS. Each datum BY PROGRAM (the guide's laid-datum.mjs) off the statement by which the dump's own 'gosem.cut.vars' lays the variable. In a bare row this is a premise. The card (YtekmdfodnofldaaGreatDoorCards.lean) ties it to the program's text. -/
def laid_pub_kmsg_pub_kmsg_inner_kbin_ErrNotEnoughData {H : Type} : DataW H := .iface "*errors.errorString" (.ptr (.agg [.lit (.string [114, 101, 115, 112, 111, 110, 115, 101, 32, 100, 105, 100, 32, 110, 111, 116, 32, 99, 111, 110, 116, 97, 105, 110, 32, 101, 110, 111, 117, 103, 104, 32, 100, 97, 116, 97, 32, 116, 111, 32, 98, 101, 32, 118, 97, 108, 105, 100])]))

/-- 'laws.FnAgainWriteShareGroupStateResponse': WHATEVER THE INPUT: true; the input reads as it did. -/
def fnAgainWriteShareGroupStateResponseSpec : ChangeSpec := { name := "fnAgainWriteShareGroupStateResponse", fn := fun _ => fun
  | [d1, d2] => { results := [.lit (.bool true)], args := [d1, d2] }
  | _ => none }
def fnAgainWriteShareGroupStateResponseRow : OpenClaim := { program := "ytekmdfodnofldaagreatdoor", sum := "d89fb589622069f59a43a330a8ae2b1142af89274bf30980b0794060498044b0", func := "pub-kmsg/laws.FnAgainWriteShareGroupStateResponse", spec := "fnAgainWriteShareGroupStateResponse", inPlace := ["internal/reflectlite.ValueOf", "internal/reflectlite.Swapper", "(internal/reflectlite.Value).Len"], unfollowed := true, recurses := true, named := ["encoding/binary.BigEndian", "pub-kmsg/pub/kmsg/inner/kbin.ErrNotEnoughData"], loops := true, apart := false, laid := [("pub-kmsg/pub/kmsg/inner/kbin.ErrNotEnoughData", laid_pub_kmsg_pub_kmsg_inner_kbin_ErrNotEnoughData)] }
def FnAgainWriteShareGroupStateResponseSaid : Prop := fnAgainWriteShareGroupStateResponseRow.holds Tryz.pinned (OpenSpec.ofChange fnAgainWriteShareGroupStateResponseSpec)

/-- ITS FALSE NEIGHBOUR: 'it returns false'. Refute it at one input. -/
def fnAgainWriteShareGroupStateResponseWrong : ChangeSpec := { name := "fnAgainWriteShareGroupStateResponse", fn := fun _ => fun
  | [d1, d2] => { results := [.lit (.bool false)], args := [d1, d2] }
  | _ => none }
def FnAgainWriteShareGroupStateResponseWrongFalsely : Prop := fnAgainWriteShareGroupStateResponseRow.holds Tryz.pinned (OpenSpec.ofChange fnAgainWriteShareGroupStateResponseWrong)

/-- 'laws.FnAgainAlterShareGroupOffsetsRequest': WHATEVER THE INPUT: true; the input reads as it did. -/
def fnAgainAlterShareGroupOffsetsRequestSpec : ChangeSpec := { name := "fnAgainAlterShareGroupOffsetsRequest", fn := fun _ => fun
  | [d1, d2] => { results := [.lit (.bool true)], args := [d1, d2] }
  | _ => none }
def fnAgainAlterShareGroupOffsetsRequestRow : OpenClaim := { program := "ytekmdfodnofldaagreatdoor", sum := "d89fb589622069f59a43a330a8ae2b1142af89274bf30980b0794060498044b0", func := "pub-kmsg/laws.FnAgainAlterShareGroupOffsetsRequest", spec := "fnAgainAlterShareGroupOffsetsRequest", inPlace := ["internal/reflectlite.ValueOf", "internal/reflectlite.Swapper", "(internal/reflectlite.Value).Len"], unfollowed := true, recurses := true, named := ["encoding/binary.BigEndian", "pub-kmsg/pub/kmsg/inner/kbin.ErrNotEnoughData"], loops := true, apart := false, laid := [("pub-kmsg/pub/kmsg/inner/kbin.ErrNotEnoughData", laid_pub_kmsg_pub_kmsg_inner_kbin_ErrNotEnoughData)] }
def FnAgainAlterShareGroupOffsetsRequestSaid : Prop := fnAgainAlterShareGroupOffsetsRequestRow.holds Tryz.pinned (OpenSpec.ofChange fnAgainAlterShareGroupOffsetsRequestSpec)

/-- ITS FALSE NEIGHBOUR: 'it returns false'. Refute it at one input. -/
def fnAgainAlterShareGroupOffsetsRequestWrong : ChangeSpec := { name := "fnAgainAlterShareGroupOffsetsRequest", fn := fun _ => fun
  | [d1, d2] => { results := [.lit (.bool false)], args := [d1, d2] }
  | _ => none }
def FnAgainAlterShareGroupOffsetsRequestWrongFalsely : Prop := fnAgainAlterShareGroupOffsetsRequestRow.holds Tryz.pinned (OpenSpec.ofChange fnAgainAlterShareGroupOffsetsRequestWrong)

/-- 'laws.FnCutListTransactionsRequest': WHATEVER THE INPUT: true; the input reads as it did. -/
def fnCutListTransactionsRequestSpec : ChangeSpec := { name := "fnCutListTransactionsRequest", fn := fun _ => fun
  | [d1, d2, d3] => { results := [.lit (.bool true)], args := [d1, d2, d3] }
  | _ => none }
def fnCutListTransactionsRequestRow : OpenClaim := { program := "ytekmdfodnofldaagreatdoor", sum := "d89fb589622069f59a43a330a8ae2b1142af89274bf30980b0794060498044b0", func := "pub-kmsg/laws.FnCutListTransactionsRequest", spec := "fnCutListTransactionsRequest", inPlace := ["internal/reflectlite.ValueOf", "internal/reflectlite.Swapper", "(internal/reflectlite.Value).Len"], unfollowed := true, recurses := true, named := ["encoding/binary.BigEndian", "pub-kmsg/pub/kmsg/inner/kbin.ErrNotEnoughData"], loops := true, apart := false, laid := [("pub-kmsg/pub/kmsg/inner/kbin.ErrNotEnoughData", laid_pub_kmsg_pub_kmsg_inner_kbin_ErrNotEnoughData)] }
def FnCutListTransactionsRequestSaid : Prop := fnCutListTransactionsRequestRow.holds Tryz.pinned (OpenSpec.ofChange fnCutListTransactionsRequestSpec)

/-- ITS FALSE NEIGHBOUR: 'it returns false'. Refute it at one input. -/
def fnCutListTransactionsRequestWrong : ChangeSpec := { name := "fnCutListTransactionsRequest", fn := fun _ => fun
  | [d1, d2, d3] => { results := [.lit (.bool false)], args := [d1, d2, d3] }
  | _ => none }
def FnCutListTransactionsRequestWrongFalsely : Prop := fnCutListTransactionsRequestRow.holds Tryz.pinned (OpenSpec.ofChange fnCutListTransactionsRequestWrong)

/-- 'laws.FnAgainCreatePartitionsRequest': WHATEVER THE INPUT: true; the input reads as it did. -/
def fnAgainCreatePartitionsRequestSpec : ChangeSpec := { name := "fnAgainCreatePartitionsRequest", fn := fun _ => fun
  | [d1, d2] => { results := [.lit (.bool true)], args := [d1, d2] }
  | _ => none }
def fnAgainCreatePartitionsRequestRow : OpenClaim := { program := "ytekmdfodnofldaagreatdoor", sum := "d89fb589622069f59a43a330a8ae2b1142af89274bf30980b0794060498044b0", func := "pub-kmsg/laws.FnAgainCreatePartitionsRequest", spec := "fnAgainCreatePartitionsRequest", inPlace := ["internal/reflectlite.ValueOf", "internal/reflectlite.Swapper", "(internal/reflectlite.Value).Len"], unfollowed := true, recurses := true, named := ["encoding/binary.BigEndian", "pub-kmsg/pub/kmsg/inner/kbin.ErrNotEnoughData"], loops := true, apart := false, laid := [("pub-kmsg/pub/kmsg/inner/kbin.ErrNotEnoughData", laid_pub_kmsg_pub_kmsg_inner_kbin_ErrNotEnoughData)] }
def FnAgainCreatePartitionsRequestSaid : Prop := fnAgainCreatePartitionsRequestRow.holds Tryz.pinned (OpenSpec.ofChange fnAgainCreatePartitionsRequestSpec)

/-- ITS FALSE NEIGHBOUR: 'it returns false'. Refute it at one input. -/
def fnAgainCreatePartitionsRequestWrong : ChangeSpec := { name := "fnAgainCreatePartitionsRequest", fn := fun _ => fun
  | [d1, d2] => { results := [.lit (.bool false)], args := [d1, d2] }
  | _ => none }
def FnAgainCreatePartitionsRequestWrongFalsely : Prop := fnAgainCreatePartitionsRequestRow.holds Tryz.pinned (OpenSpec.ofChange fnAgainCreatePartitionsRequestWrong)

/-- 'laws.FnAgainListOffsetsRequest': WHATEVER THE INPUT: true; the input reads as it did. -/
def fnAgainListOffsetsRequestSpec : ChangeSpec := { name := "fnAgainListOffsetsRequest", fn := fun _ => fun
  | [d1, d2] => { results := [.lit (.bool true)], args := [d1, d2] }
  | _ => none }
def fnAgainListOffsetsRequestRow : OpenClaim := { program := "ytekmdfodnofldaagreatdoor", sum := "d89fb589622069f59a43a330a8ae2b1142af89274bf30980b0794060498044b0", func := "pub-kmsg/laws.FnAgainListOffsetsRequest", spec := "fnAgainListOffsetsRequest", inPlace := ["internal/reflectlite.ValueOf", "internal/reflectlite.Swapper", "(internal/reflectlite.Value).Len"], unfollowed := true, recurses := true, named := ["encoding/binary.BigEndian", "pub-kmsg/pub/kmsg/inner/kbin.ErrNotEnoughData"], loops := true, apart := false, laid := [("pub-kmsg/pub/kmsg/inner/kbin.ErrNotEnoughData", laid_pub_kmsg_pub_kmsg_inner_kbin_ErrNotEnoughData)] }
def FnAgainListOffsetsRequestSaid : Prop := fnAgainListOffsetsRequestRow.holds Tryz.pinned (OpenSpec.ofChange fnAgainListOffsetsRequestSpec)

/-- ITS FALSE NEIGHBOUR: 'it returns false'. Refute it at one input. -/
def fnAgainListOffsetsRequestWrong : ChangeSpec := { name := "fnAgainListOffsetsRequest", fn := fun _ => fun
  | [d1, d2] => { results := [.lit (.bool false)], args := [d1, d2] }
  | _ => none }
def FnAgainListOffsetsRequestWrongFalsely : Prop := fnAgainListOffsetsRequestRow.holds Tryz.pinned (OpenSpec.ofChange fnAgainListOffsetsRequestWrong)

/-- 'laws.FnCutElectLeadersResponse': WHATEVER THE INPUT: true; the input reads as it did. -/
def fnCutElectLeadersResponseSpec : ChangeSpec := { name := "fnCutElectLeadersResponse", fn := fun _ => fun
  | [d1, d2, d3] => { results := [.lit (.bool true)], args := [d1, d2, d3] }
  | _ => none }
def fnCutElectLeadersResponseRow : OpenClaim := { program := "ytekmdfodnofldaagreatdoor", sum := "d89fb589622069f59a43a330a8ae2b1142af89274bf30980b0794060498044b0", func := "pub-kmsg/laws.FnCutElectLeadersResponse", spec := "fnCutElectLeadersResponse", inPlace := ["internal/reflectlite.ValueOf", "internal/reflectlite.Swapper", "(internal/reflectlite.Value).Len"], unfollowed := true, recurses := true, named := ["encoding/binary.BigEndian", "pub-kmsg/pub/kmsg/inner/kbin.ErrNotEnoughData"], loops := true, apart := false, laid := [("pub-kmsg/pub/kmsg/inner/kbin.ErrNotEnoughData", laid_pub_kmsg_pub_kmsg_inner_kbin_ErrNotEnoughData)] }
def FnCutElectLeadersResponseSaid : Prop := fnCutElectLeadersResponseRow.holds Tryz.pinned (OpenSpec.ofChange fnCutElectLeadersResponseSpec)

/-- ITS FALSE NEIGHBOUR: 'it returns false'. Refute it at one input. -/
def fnCutElectLeadersResponseWrong : ChangeSpec := { name := "fnCutElectLeadersResponse", fn := fun _ => fun
  | [d1, d2, d3] => { results := [.lit (.bool false)], args := [d1, d2, d3] }
  | _ => none }
def FnCutElectLeadersResponseWrongFalsely : Prop := fnCutElectLeadersResponseRow.holds Tryz.pinned (OpenSpec.ofChange fnCutElectLeadersResponseWrong)

/-- 'laws.FnCutAlterClientQuotasResponse': WHATEVER THE INPUT: true; the input reads as it did. -/
def fnCutAlterClientQuotasResponseSpec : ChangeSpec := { name := "fnCutAlterClientQuotasResponse", fn := fun _ => fun
  | [d1, d2, d3] => { results := [.lit (.bool true)], args := [d1, d2, d3] }
  | _ => none }
def fnCutAlterClientQuotasResponseRow : OpenClaim := { program := "ytekmdfodnofldaagreatdoor", sum := "d89fb589622069f59a43a330a8ae2b1142af89274bf30980b0794060498044b0", func := "pub-kmsg/laws.FnCutAlterClientQuotasResponse", spec := "fnCutAlterClientQuotasResponse", inPlace := ["internal/reflectlite.ValueOf", "internal/reflectlite.Swapper", "(internal/reflectlite.Value).Len"], unfollowed := true, recurses := true, named := ["encoding/binary.BigEndian", "pub-kmsg/pub/kmsg/inner/kbin.ErrNotEnoughData"], loops := true, apart := false, laid := [("pub-kmsg/pub/kmsg/inner/kbin.ErrNotEnoughData", laid_pub_kmsg_pub_kmsg_inner_kbin_ErrNotEnoughData)] }
def FnCutAlterClientQuotasResponseSaid : Prop := fnCutAlterClientQuotasResponseRow.holds Tryz.pinned (OpenSpec.ofChange fnCutAlterClientQuotasResponseSpec)

/-- ITS FALSE NEIGHBOUR: 'it returns false'. Refute it at one input. -/
def fnCutAlterClientQuotasResponseWrong : ChangeSpec := { name := "fnCutAlterClientQuotasResponse", fn := fun _ => fun
  | [d1, d2, d3] => { results := [.lit (.bool false)], args := [d1, d2, d3] }
  | _ => none }
def FnCutAlterClientQuotasResponseWrongFalsely : Prop := fnCutAlterClientQuotasResponseRow.holds Tryz.pinned (OpenSpec.ofChange fnCutAlterClientQuotasResponseWrong)

/-- 'laws.FnCutDeleteACLsRequest': WHATEVER THE INPUT: true; the input reads as it did. -/
def fnCutDeleteACLsRequestSpec : ChangeSpec := { name := "fnCutDeleteACLsRequest", fn := fun _ => fun
  | [d1, d2, d3] => { results := [.lit (.bool true)], args := [d1, d2, d3] }
  | _ => none }
def fnCutDeleteACLsRequestRow : OpenClaim := { program := "ytekmdfodnofldaagreatdoor", sum := "d89fb589622069f59a43a330a8ae2b1142af89274bf30980b0794060498044b0", func := "pub-kmsg/laws.FnCutDeleteACLsRequest", spec := "fnCutDeleteACLsRequest", inPlace := ["internal/reflectlite.ValueOf", "internal/reflectlite.Swapper", "(internal/reflectlite.Value).Len"], unfollowed := true, recurses := true, named := ["encoding/binary.BigEndian", "pub-kmsg/pub/kmsg/inner/kbin.ErrNotEnoughData"], loops := true, apart := false, laid := [("pub-kmsg/pub/kmsg/inner/kbin.ErrNotEnoughData", laid_pub_kmsg_pub_kmsg_inner_kbin_ErrNotEnoughData)] }
def FnCutDeleteACLsRequestSaid : Prop := fnCutDeleteACLsRequestRow.holds Tryz.pinned (OpenSpec.ofChange fnCutDeleteACLsRequestSpec)

/-- ITS FALSE NEIGHBOUR: 'it returns false'. Refute it at one input. -/
def fnCutDeleteACLsRequestWrong : ChangeSpec := { name := "fnCutDeleteACLsRequest", fn := fun _ => fun
  | [d1, d2, d3] => { results := [.lit (.bool false)], args := [d1, d2, d3] }
  | _ => none }
def FnCutDeleteACLsRequestWrongFalsely : Prop := fnCutDeleteACLsRequestRow.holds Tryz.pinned (OpenSpec.ofChange fnCutDeleteACLsRequestWrong)

/-- 'laws.FnAgainShareGroupHeartbeatResponse': WHATEVER THE INPUT: true; the input reads as it did. -/
def fnAgainShareGroupHeartbeatResponseSpec : ChangeSpec := { name := "fnAgainShareGroupHeartbeatResponse", fn := fun _ => fun
  | [d1, d2] => { results := [.lit (.bool true)], args := [d1, d2] }
  | _ => none }
def fnAgainShareGroupHeartbeatResponseRow : OpenClaim := { program := "ytekmdfodnofldaagreatdoor", sum := "d89fb589622069f59a43a330a8ae2b1142af89274bf30980b0794060498044b0", func := "pub-kmsg/laws.FnAgainShareGroupHeartbeatResponse", spec := "fnAgainShareGroupHeartbeatResponse", inPlace := ["internal/reflectlite.ValueOf", "internal/reflectlite.Swapper", "(internal/reflectlite.Value).Len"], unfollowed := true, recurses := true, named := ["encoding/binary.BigEndian", "pub-kmsg/pub/kmsg/inner/kbin.ErrNotEnoughData"], loops := true, apart := false, laid := [("pub-kmsg/pub/kmsg/inner/kbin.ErrNotEnoughData", laid_pub_kmsg_pub_kmsg_inner_kbin_ErrNotEnoughData)] }
def FnAgainShareGroupHeartbeatResponseSaid : Prop := fnAgainShareGroupHeartbeatResponseRow.holds Tryz.pinned (OpenSpec.ofChange fnAgainShareGroupHeartbeatResponseSpec)

/-- ITS FALSE NEIGHBOUR: 'it returns false'. Refute it at one input. -/
def fnAgainShareGroupHeartbeatResponseWrong : ChangeSpec := { name := "fnAgainShareGroupHeartbeatResponse", fn := fun _ => fun
  | [d1, d2] => { results := [.lit (.bool false)], args := [d1, d2] }
  | _ => none }
def FnAgainShareGroupHeartbeatResponseWrongFalsely : Prop := fnAgainShareGroupHeartbeatResponseRow.holds Tryz.pinned (OpenSpec.ofChange fnAgainShareGroupHeartbeatResponseWrong)

/-- 'laws.FnCutConsumerGroupHeartbeatResponse': WHATEVER THE INPUT: true; the input reads as it did. -/
def fnCutConsumerGroupHeartbeatResponseSpec : ChangeSpec := { name := "fnCutConsumerGroupHeartbeatResponse", fn := fun _ => fun
  | [d1, d2, d3] => { results := [.lit (.bool true)], args := [d1, d2, d3] }
  | _ => none }
def fnCutConsumerGroupHeartbeatResponseRow : OpenClaim := { program := "ytekmdfodnofldaagreatdoor", sum := "d89fb589622069f59a43a330a8ae2b1142af89274bf30980b0794060498044b0", func := "pub-kmsg/laws.FnCutConsumerGroupHeartbeatResponse", spec := "fnCutConsumerGroupHeartbeatResponse", inPlace := ["internal/reflectlite.ValueOf", "internal/reflectlite.Swapper", "(internal/reflectlite.Value).Len"], unfollowed := true, recurses := true, named := ["encoding/binary.BigEndian", "pub-kmsg/pub/kmsg/inner/kbin.ErrNotEnoughData"], loops := true, apart := false, laid := [("pub-kmsg/pub/kmsg/inner/kbin.ErrNotEnoughData", laid_pub_kmsg_pub_kmsg_inner_kbin_ErrNotEnoughData)] }
def FnCutConsumerGroupHeartbeatResponseSaid : Prop := fnCutConsumerGroupHeartbeatResponseRow.holds Tryz.pinned (OpenSpec.ofChange fnCutConsumerGroupHeartbeatResponseSpec)

/-- ITS FALSE NEIGHBOUR: 'it returns false'. Refute it at one input. -/
def fnCutConsumerGroupHeartbeatResponseWrong : ChangeSpec := { name := "fnCutConsumerGroupHeartbeatResponse", fn := fun _ => fun
  | [d1, d2, d3] => { results := [.lit (.bool false)], args := [d1, d2, d3] }
  | _ => none }
def FnCutConsumerGroupHeartbeatResponseWrongFalsely : Prop := fnCutConsumerGroupHeartbeatResponseRow.holds Tryz.pinned (OpenSpec.ofChange fnCutConsumerGroupHeartbeatResponseWrong)

/- THE SECOND FORM. 'bulk': how many values and letters a reading holds, each counted each time it is reached (what is shared counts as often as it is met; a slice's spare places count too). A statement '..UptoSaid' is the law's where the arguments, and the package variables that the reading takes, are together of bulk at most 1048576: NARROWER than '..Said'. Prove '..Said' where nothing that the law and all that it calls make is longer than what came in: it says more and counts as full. Else prove '..UptoSaid'. A law counts once. -/
mutual
def uptoBulk {H : Type} : DataW H → Nat
  | .lit (.string bytes) => bytes.length + 1
  | .lit _ => 1
  | .nil => 1
  | .ptr d => uptoBulk d + 1
  | .slice elems spare => uptoBulkAll elems + uptoBulkAll spare + 1
  | .agg parts => uptoBulkAll parts + 1
  | .iface _ d => uptoBulk d + 1
  | .map entries => uptoBulkEntries entries + 1
  | .held _ => 1
def uptoBulkAll {H : Type} : List (DataW H) → Nat
  | [] => 0
  | d :: r => uptoBulk d + uptoBulkAll r
def uptoBulkEntries {H : Type} : List (Lit × DataW H) → Nat
  | [] => 0
  | x :: r => uptoBulkEntry x + uptoBulkEntries r
def uptoBulkEntry {H : Type} : Lit × DataW H → Nat
  | (.string bytes, d) => bytes.length + uptoBulk d + 1
  | (_, d) => uptoBulk d + 1
 end
def uptoSmall : (H : Type) → List (DataW H) → Bool := fun _ ds => decide (uptoBulkAll ds ≤ 1048576)
def OpenSpec.upto (s : _root_.Go.ChangeSpec) : _root_.Go.OpenSpec := { _root_.Go.OpenSpec.ofChange s with cond := some uptoSmall }

/-- 'laws.FnAgainWriteShareGroupStateResponse', WHERE WHAT IT READS IS OF BULK AT MOST 1048576: true; the input reads as it did. -/
def fnAgainWriteShareGroupStateResponseUptoRow : OpenClaim := { program := "ytekmdfodnofldaagreatdoor", sum := "d89fb589622069f59a43a330a8ae2b1142af89274bf30980b0794060498044b0", func := "pub-kmsg/laws.FnAgainWriteShareGroupStateResponse", spec := "fnAgainWriteShareGroupStateResponse", inPlace := ["internal/reflectlite.ValueOf", "internal/reflectlite.Swapper", "(internal/reflectlite.Value).Len"], unfollowed := true, recurses := true, named := ["encoding/binary.BigEndian", "pub-kmsg/pub/kmsg/inner/kbin.ErrNotEnoughData"], loops := true, apart := false, laid := [("pub-kmsg/pub/kmsg/inner/kbin.ErrNotEnoughData", laid_pub_kmsg_pub_kmsg_inner_kbin_ErrNotEnoughData)], narrowed := true }
def FnAgainWriteShareGroupStateResponseUptoSaid : Prop := fnAgainWriteShareGroupStateResponseUptoRow.holds Tryz.pinned (OpenSpec.upto fnAgainWriteShareGroupStateResponseSpec)

/-- 'laws.FnAgainAlterShareGroupOffsetsRequest', WHERE WHAT IT READS IS OF BULK AT MOST 1048576: true; the input reads as it did. -/
def fnAgainAlterShareGroupOffsetsRequestUptoRow : OpenClaim := { program := "ytekmdfodnofldaagreatdoor", sum := "d89fb589622069f59a43a330a8ae2b1142af89274bf30980b0794060498044b0", func := "pub-kmsg/laws.FnAgainAlterShareGroupOffsetsRequest", spec := "fnAgainAlterShareGroupOffsetsRequest", inPlace := ["internal/reflectlite.ValueOf", "internal/reflectlite.Swapper", "(internal/reflectlite.Value).Len"], unfollowed := true, recurses := true, named := ["encoding/binary.BigEndian", "pub-kmsg/pub/kmsg/inner/kbin.ErrNotEnoughData"], loops := true, apart := false, laid := [("pub-kmsg/pub/kmsg/inner/kbin.ErrNotEnoughData", laid_pub_kmsg_pub_kmsg_inner_kbin_ErrNotEnoughData)], narrowed := true }
def FnAgainAlterShareGroupOffsetsRequestUptoSaid : Prop := fnAgainAlterShareGroupOffsetsRequestUptoRow.holds Tryz.pinned (OpenSpec.upto fnAgainAlterShareGroupOffsetsRequestSpec)

/-- 'laws.FnCutListTransactionsRequest', WHERE WHAT IT READS IS OF BULK AT MOST 1048576: true; the input reads as it did. -/
def fnCutListTransactionsRequestUptoRow : OpenClaim := { program := "ytekmdfodnofldaagreatdoor", sum := "d89fb589622069f59a43a330a8ae2b1142af89274bf30980b0794060498044b0", func := "pub-kmsg/laws.FnCutListTransactionsRequest", spec := "fnCutListTransactionsRequest", inPlace := ["internal/reflectlite.ValueOf", "internal/reflectlite.Swapper", "(internal/reflectlite.Value).Len"], unfollowed := true, recurses := true, named := ["encoding/binary.BigEndian", "pub-kmsg/pub/kmsg/inner/kbin.ErrNotEnoughData"], loops := true, apart := false, laid := [("pub-kmsg/pub/kmsg/inner/kbin.ErrNotEnoughData", laid_pub_kmsg_pub_kmsg_inner_kbin_ErrNotEnoughData)], narrowed := true }
def FnCutListTransactionsRequestUptoSaid : Prop := fnCutListTransactionsRequestUptoRow.holds Tryz.pinned (OpenSpec.upto fnCutListTransactionsRequestSpec)

/-- 'laws.FnAgainCreatePartitionsRequest', WHERE WHAT IT READS IS OF BULK AT MOST 1048576: true; the input reads as it did. -/
def fnAgainCreatePartitionsRequestUptoRow : OpenClaim := { program := "ytekmdfodnofldaagreatdoor", sum := "d89fb589622069f59a43a330a8ae2b1142af89274bf30980b0794060498044b0", func := "pub-kmsg/laws.FnAgainCreatePartitionsRequest", spec := "fnAgainCreatePartitionsRequest", inPlace := ["internal/reflectlite.ValueOf", "internal/reflectlite.Swapper", "(internal/reflectlite.Value).Len"], unfollowed := true, recurses := true, named := ["encoding/binary.BigEndian", "pub-kmsg/pub/kmsg/inner/kbin.ErrNotEnoughData"], loops := true, apart := false, laid := [("pub-kmsg/pub/kmsg/inner/kbin.ErrNotEnoughData", laid_pub_kmsg_pub_kmsg_inner_kbin_ErrNotEnoughData)], narrowed := true }
def FnAgainCreatePartitionsRequestUptoSaid : Prop := fnAgainCreatePartitionsRequestUptoRow.holds Tryz.pinned (OpenSpec.upto fnAgainCreatePartitionsRequestSpec)

/-- 'laws.FnAgainListOffsetsRequest', WHERE WHAT IT READS IS OF BULK AT MOST 1048576: true; the input reads as it did. -/
def fnAgainListOffsetsRequestUptoRow : OpenClaim := { program := "ytekmdfodnofldaagreatdoor", sum := "d89fb589622069f59a43a330a8ae2b1142af89274bf30980b0794060498044b0", func := "pub-kmsg/laws.FnAgainListOffsetsRequest", spec := "fnAgainListOffsetsRequest", inPlace := ["internal/reflectlite.ValueOf", "internal/reflectlite.Swapper", "(internal/reflectlite.Value).Len"], unfollowed := true, recurses := true, named := ["encoding/binary.BigEndian", "pub-kmsg/pub/kmsg/inner/kbin.ErrNotEnoughData"], loops := true, apart := false, laid := [("pub-kmsg/pub/kmsg/inner/kbin.ErrNotEnoughData", laid_pub_kmsg_pub_kmsg_inner_kbin_ErrNotEnoughData)], narrowed := true }
def FnAgainListOffsetsRequestUptoSaid : Prop := fnAgainListOffsetsRequestUptoRow.holds Tryz.pinned (OpenSpec.upto fnAgainListOffsetsRequestSpec)

/-- 'laws.FnCutElectLeadersResponse', WHERE WHAT IT READS IS OF BULK AT MOST 1048576: true; the input reads as it did. -/
def fnCutElectLeadersResponseUptoRow : OpenClaim := { program := "ytekmdfodnofldaagreatdoor", sum := "d89fb589622069f59a43a330a8ae2b1142af89274bf30980b0794060498044b0", func := "pub-kmsg/laws.FnCutElectLeadersResponse", spec := "fnCutElectLeadersResponse", inPlace := ["internal/reflectlite.ValueOf", "internal/reflectlite.Swapper", "(internal/reflectlite.Value).Len"], unfollowed := true, recurses := true, named := ["encoding/binary.BigEndian", "pub-kmsg/pub/kmsg/inner/kbin.ErrNotEnoughData"], loops := true, apart := false, laid := [("pub-kmsg/pub/kmsg/inner/kbin.ErrNotEnoughData", laid_pub_kmsg_pub_kmsg_inner_kbin_ErrNotEnoughData)], narrowed := true }
def FnCutElectLeadersResponseUptoSaid : Prop := fnCutElectLeadersResponseUptoRow.holds Tryz.pinned (OpenSpec.upto fnCutElectLeadersResponseSpec)

/-- 'laws.FnCutAlterClientQuotasResponse', WHERE WHAT IT READS IS OF BULK AT MOST 1048576: true; the input reads as it did. -/
def fnCutAlterClientQuotasResponseUptoRow : OpenClaim := { program := "ytekmdfodnofldaagreatdoor", sum := "d89fb589622069f59a43a330a8ae2b1142af89274bf30980b0794060498044b0", func := "pub-kmsg/laws.FnCutAlterClientQuotasResponse", spec := "fnCutAlterClientQuotasResponse", inPlace := ["internal/reflectlite.ValueOf", "internal/reflectlite.Swapper", "(internal/reflectlite.Value).Len"], unfollowed := true, recurses := true, named := ["encoding/binary.BigEndian", "pub-kmsg/pub/kmsg/inner/kbin.ErrNotEnoughData"], loops := true, apart := false, laid := [("pub-kmsg/pub/kmsg/inner/kbin.ErrNotEnoughData", laid_pub_kmsg_pub_kmsg_inner_kbin_ErrNotEnoughData)], narrowed := true }
def FnCutAlterClientQuotasResponseUptoSaid : Prop := fnCutAlterClientQuotasResponseUptoRow.holds Tryz.pinned (OpenSpec.upto fnCutAlterClientQuotasResponseSpec)

/-- 'laws.FnCutDeleteACLsRequest', WHERE WHAT IT READS IS OF BULK AT MOST 1048576: true; the input reads as it did. -/
def fnCutDeleteACLsRequestUptoRow : OpenClaim := { program := "ytekmdfodnofldaagreatdoor", sum := "d89fb589622069f59a43a330a8ae2b1142af89274bf30980b0794060498044b0", func := "pub-kmsg/laws.FnCutDeleteACLsRequest", spec := "fnCutDeleteACLsRequest", inPlace := ["internal/reflectlite.ValueOf", "internal/reflectlite.Swapper", "(internal/reflectlite.Value).Len"], unfollowed := true, recurses := true, named := ["encoding/binary.BigEndian", "pub-kmsg/pub/kmsg/inner/kbin.ErrNotEnoughData"], loops := true, apart := false, laid := [("pub-kmsg/pub/kmsg/inner/kbin.ErrNotEnoughData", laid_pub_kmsg_pub_kmsg_inner_kbin_ErrNotEnoughData)], narrowed := true }
def FnCutDeleteACLsRequestUptoSaid : Prop := fnCutDeleteACLsRequestUptoRow.holds Tryz.pinned (OpenSpec.upto fnCutDeleteACLsRequestSpec)

/-- 'laws.FnAgainShareGroupHeartbeatResponse', WHERE WHAT IT READS IS OF BULK AT MOST 1048576: true; the input reads as it did. -/
def fnAgainShareGroupHeartbeatResponseUptoRow : OpenClaim := { program := "ytekmdfodnofldaagreatdoor", sum := "d89fb589622069f59a43a330a8ae2b1142af89274bf30980b0794060498044b0", func := "pub-kmsg/laws.FnAgainShareGroupHeartbeatResponse", spec := "fnAgainShareGroupHeartbeatResponse", inPlace := ["internal/reflectlite.ValueOf", "internal/reflectlite.Swapper", "(internal/reflectlite.Value).Len"], unfollowed := true, recurses := true, named := ["encoding/binary.BigEndian", "pub-kmsg/pub/kmsg/inner/kbin.ErrNotEnoughData"], loops := true, apart := false, laid := [("pub-kmsg/pub/kmsg/inner/kbin.ErrNotEnoughData", laid_pub_kmsg_pub_kmsg_inner_kbin_ErrNotEnoughData)], narrowed := true }
def FnAgainShareGroupHeartbeatResponseUptoSaid : Prop := fnAgainShareGroupHeartbeatResponseUptoRow.holds Tryz.pinned (OpenSpec.upto fnAgainShareGroupHeartbeatResponseSpec)

/-- 'laws.FnCutConsumerGroupHeartbeatResponse', WHERE WHAT IT READS IS OF BULK AT MOST 1048576: true; the input reads as it did. -/
def fnCutConsumerGroupHeartbeatResponseUptoRow : OpenClaim := { program := "ytekmdfodnofldaagreatdoor", sum := "d89fb589622069f59a43a330a8ae2b1142af89274bf30980b0794060498044b0", func := "pub-kmsg/laws.FnCutConsumerGroupHeartbeatResponse", spec := "fnCutConsumerGroupHeartbeatResponse", inPlace := ["internal/reflectlite.ValueOf", "internal/reflectlite.Swapper", "(internal/reflectlite.Value).Len"], unfollowed := true, recurses := true, named := ["encoding/binary.BigEndian", "pub-kmsg/pub/kmsg/inner/kbin.ErrNotEnoughData"], loops := true, apart := false, laid := [("pub-kmsg/pub/kmsg/inner/kbin.ErrNotEnoughData", laid_pub_kmsg_pub_kmsg_inner_kbin_ErrNotEnoughData)], narrowed := true }
def FnCutConsumerGroupHeartbeatResponseUptoSaid : Prop := fnCutConsumerGroupHeartbeatResponseUptoRow.holds Tryz.pinned (OpenSpec.upto fnCutConsumerGroupHeartbeatResponseSpec)

end Rows
end Go.Proofs.YtekmdfodnofldaaGreatDoor
