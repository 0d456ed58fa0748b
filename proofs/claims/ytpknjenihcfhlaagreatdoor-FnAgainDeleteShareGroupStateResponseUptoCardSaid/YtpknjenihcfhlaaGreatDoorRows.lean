/-
  NARROWER THAN 'FOR EVERY INPUT', by the rows' own cells (each row's printed sentence says how): FnAgainDescribeGroupsRequest: loops, laid · FnCutApiVersionsRequest: loops, laid · FnCutFindCoordinatorRequest: loops, laid · FnCutDescribeProducersRequest: loops, laid · FnCutUpdateFeaturesRequest: loops, laid · FnAgainDeleteShareGroupStateResponse: loops, laid.
  DERIVED. THE GIVEN ROWS OF THIS SEAT. 6 by the template 'for every input the law returns true; each argument reads behind the call as it read before'; 0 by the template 'total and deterministic' (their statements: YtpknjenihcfhlaaGreatDoorTotals.lean).
  GIVEN WITH THE SEED: the statements are not yours to turn. If you find one false, say at which input.
  Laid BY PROGRAM, IN A SANDBOX (cutbox-rows.mjs): the forced cells as the released guide's own fill.sh prints them over the translation 31b570c8825f46c4… (all of the seat's roots in one cut). By AI agents, Wed Nov 11 2026. No macro, syntax, notation, axiom, sorry.
-/
import Derived.Test.YtpknjenihcfhlaaGreatDoorChecked
import GoSem.Claim
import GoSem.ClaimJoined
import GoSem.ClaimMapViews
import Derived.JoinedTies
import Derived.KernelRfl
namespace Go.Proofs.YtpknjenihcfhlaaGreatDoor
/- THE CELL 'sum', in the pinned program and in every row, IS THE sha256 OF THE DUMP (.gsa) THAT YtpknjenihcfhlaaGreatDoorProg.lean LOADS. Nothing in Lean hashes anything: it is a label: what it is worth is what the hold of that sum in a sandbox is worth. -/
noncomputable def Tryz.pinned : Pinned := { name := "ytpknjenihcfhlaagreatdoor", sum := "31b570c8825f46c47ed68776e46c81a7ece30cf6b9d6ca7e71982d7e9abdb600", checked := Tryz.checked }
namespace Rows
def none {H : Type} : Left H := { results := [], args := [] }

/- WHAT THE LISTED PACKAGE-LEVEL VARIABLES READ AS WHEN THE CALL BEGINS. Each datum BY PROGRAM (the guide's laid-datum.mjs) off the statement by which the dump's own 'gosem.cut.vars' lays the variable. In a bare row this is a premise. The card (YtpknjenihcfhlaaGreatDoorCards.lean) ties it to the program's text. -/
def laid_pub_kmsg_pub_kmsg_inner_kbin_ErrNotEnoughData {H : Type} : DataW H := .iface "*errors.errorString" (.ptr (.agg [.lit (.string [114, 101, 115, 112, 111, 110, 115, 101, 32, 100, 105, 100, 32, 110, 111, 116, 32, 99, 111, 110, 116, 97, 105, 110, 32, 101, 110, 111, 117, 103, 104, 32, 100, 97, 116, 97, 32, 116, 111, 32, 98, 101, 32, 118, 97, 108, 105, 100])]))

/-- 'laws.FnAgainDescribeGroupsRequest': WHATEVER THE INPUT: true; the input reads as it did. -/
def fnAgainDescribeGroupsRequestSpec : ChangeSpec := { name := "fnAgainDescribeGroupsRequest", fn := fun _ => fun
  | [d1, d2] => { results := [.lit (.bool true)], args := [d1, d2] }
  | _ => none }
def fnAgainDescribeGroupsRequestRow : OpenClaim := { program := "ytpknjenihcfhlaagreatdoor", sum := "31b570c8825f46c47ed68776e46c81a7ece30cf6b9d6ca7e71982d7e9abdb600", func := "pub-kmsg/laws.FnAgainDescribeGroupsRequest", spec := "fnAgainDescribeGroupsRequest", inPlace := ["internal/reflectlite.ValueOf", "internal/reflectlite.Swapper", "(internal/reflectlite.Value).Len"], unfollowed := true, recurses := true, named := ["encoding/binary.BigEndian", "pub-kmsg/pub/kmsg/inner/kbin.ErrNotEnoughData"], loops := true, apart := false, laid := [("pub-kmsg/pub/kmsg/inner/kbin.ErrNotEnoughData", laid_pub_kmsg_pub_kmsg_inner_kbin_ErrNotEnoughData)] }
def FnAgainDescribeGroupsRequestSaid : Prop := fnAgainDescribeGroupsRequestRow.holds Tryz.pinned (OpenSpec.ofChange fnAgainDescribeGroupsRequestSpec)

/-- ITS FALSE NEIGHBOUR: 'it returns false'. Refute it at one input. -/
def fnAgainDescribeGroupsRequestWrong : ChangeSpec := { name := "fnAgainDescribeGroupsRequest", fn := fun _ => fun
  | [d1, d2] => { results := [.lit (.bool false)], args := [d1, d2] }
  | _ => none }
def FnAgainDescribeGroupsRequestWrongFalsely : Prop := fnAgainDescribeGroupsRequestRow.holds Tryz.pinned (OpenSpec.ofChange fnAgainDescribeGroupsRequestWrong)

/-- 'laws.FnCutApiVersionsRequest': WHATEVER THE INPUT: true; the input reads as it did. -/
def fnCutApiVersionsRequestSpec : ChangeSpec := { name := "fnCutApiVersionsRequest", fn := fun _ => fun
  | [d1, d2, d3] => { results := [.lit (.bool true)], args := [d1, d2, d3] }
  | _ => none }
def fnCutApiVersionsRequestRow : OpenClaim := { program := "ytpknjenihcfhlaagreatdoor", sum := "31b570c8825f46c47ed68776e46c81a7ece30cf6b9d6ca7e71982d7e9abdb600", func := "pub-kmsg/laws.FnCutApiVersionsRequest", spec := "fnCutApiVersionsRequest", inPlace := ["internal/reflectlite.ValueOf", "internal/reflectlite.Swapper", "(internal/reflectlite.Value).Len"], unfollowed := true, recurses := true, named := ["encoding/binary.BigEndian", "pub-kmsg/pub/kmsg/inner/kbin.ErrNotEnoughData"], loops := true, apart := false, laid := [("pub-kmsg/pub/kmsg/inner/kbin.ErrNotEnoughData", laid_pub_kmsg_pub_kmsg_inner_kbin_ErrNotEnoughData)] }
def FnCutApiVersionsRequestSaid : Prop := fnCutApiVersionsRequestRow.holds Tryz.pinned (OpenSpec.ofChange fnCutApiVersionsRequestSpec)

/-- ITS FALSE NEIGHBOUR: 'it returns false'. Refute it at one input. -/
def fnCutApiVersionsRequestWrong : ChangeSpec := { name := "fnCutApiVersionsRequest", fn := fun _ => fun
  | [d1, d2, d3] => { results := [.lit (.bool false)], args := [d1, d2, d3] }
  | _ => none }
def FnCutApiVersionsRequestWrongFalsely : Prop := fnCutApiVersionsRequestRow.holds Tryz.pinned (OpenSpec.ofChange fnCutApiVersionsRequestWrong)

/-- 'laws.FnCutFindCoordinatorRequest': WHATEVER THE INPUT: true; the input reads as it did. -/
def fnCutFindCoordinatorRequestSpec : ChangeSpec := { name := "fnCutFindCoordinatorRequest", fn := fun _ => fun
  | [d1, d2, d3] => { results := [.lit (.bool true)], args := [d1, d2, d3] }
  | _ => none }
def fnCutFindCoordinatorRequestRow : OpenClaim := { program := "ytpknjenihcfhlaagreatdoor", sum := "31b570c8825f46c47ed68776e46c81a7ece30cf6b9d6ca7e71982d7e9abdb600", func := "pub-kmsg/laws.FnCutFindCoordinatorRequest", spec := "fnCutFindCoordinatorRequest", inPlace := ["internal/reflectlite.ValueOf", "internal/reflectlite.Swapper", "(internal/reflectlite.Value).Len"], unfollowed := true, recurses := true, named := ["encoding/binary.BigEndian", "pub-kmsg/pub/kmsg/inner/kbin.ErrNotEnoughData"], loops := true, apart := false, laid := [("pub-kmsg/pub/kmsg/inner/kbin.ErrNotEnoughData", laid_pub_kmsg_pub_kmsg_inner_kbin_ErrNotEnoughData)] }
def FnCutFindCoordinatorRequestSaid : Prop := fnCutFindCoordinatorRequestRow.holds Tryz.pinned (OpenSpec.ofChange fnCutFindCoordinatorRequestSpec)

/-- ITS FALSE NEIGHBOUR: 'it returns false'. Refute it at one input. -/
def fnCutFindCoordinatorRequestWrong : ChangeSpec := { name := "fnCutFindCoordinatorRequest", fn := fun _ => fun
  | [d1, d2, d3] => { results := [.lit (.bool false)], args := [d1, d2, d3] }
  | _ => none }
def FnCutFindCoordinatorRequestWrongFalsely : Prop := fnCutFindCoordinatorRequestRow.holds Tryz.pinned (OpenSpec.ofChange fnCutFindCoordinatorRequestWrong)

/-- 'laws.FnCutDescribeProducersRequest': WHATEVER THE INPUT: true; the input reads as it did. -/
def fnCutDescribeProducersRequestSpec : ChangeSpec := { name := "fnCutDescribeProducersRequest", fn := fun _ => fun
  | [d1, d2, d3] => { results := [.lit (.bool true)], args := [d1, d2, d3] }
  | _ => none }
def fnCutDescribeProducersRequestRow : OpenClaim := { program := "ytpknjenihcfhlaagreatdoor", sum := "31b570c8825f46c47ed68776e46c81a7ece30cf6b9d6ca7e71982d7e9abdb600", func := "pub-kmsg/laws.FnCutDescribeProducersRequest", spec := "fnCutDescribeProducersRequest", inPlace := ["internal/reflectlite.ValueOf", "internal/reflectlite.Swapper", "(internal/reflectlite.Value).Len"], unfollowed := true, recurses := true, named := ["encoding/binary.BigEndian", "pub-kmsg/pub/kmsg/inner/kbin.ErrNotEnoughData"], loops := true, apart := false, laid := [("pub-kmsg/pub/kmsg/inner/kbin.ErrNotEnoughData", laid_pub_kmsg_pub_kmsg_inner_kbin_ErrNotEnoughData)] }
def FnCutDescribeProducersRequestSaid : Prop := fnCutDescribeProducersRequestRow.holds Tryz.pinned (OpenSpec.ofChange fnCutDescribeProducersRequestSpec)

/-- ITS FALSE NEIGHBOUR: 'it returns false'. Refute it at one input. -/
def fnCutDescribeProducersRequestWrong : ChangeSpec := { name := "fnCutDescribeProducersRequest", fn := fun _ => fun
  | [d1, d2, d3] => { results := [.lit (.bool false)], args := [d1, d2, d3] }
  | _ => none }
def FnCutDescribeProducersRequestWrongFalsely : Prop := fnCutDescribeProducersRequestRow.holds Tryz.pinned (OpenSpec.ofChange fnCutDescribeProducersRequestWrong)

/-- 'laws.FnCutUpdateFeaturesRequest': WHATEVER THE INPUT: true; the input reads as it did. -/
def fnCutUpdateFeaturesRequestSpec : ChangeSpec := { name := "fnCutUpdateFeaturesRequest", fn := fun _ => fun
  | [d1, d2, d3] => { results := [.lit (.bool true)], args := [d1, d2, d3] }
  | _ => none }
def fnCutUpdateFeaturesRequestRow : OpenClaim := { program := "ytpknjenihcfhlaagreatdoor", sum := "31b570c8825f46c47ed68776e46c81a7ece30cf6b9d6ca7e71982d7e9abdb600", func := "pub-kmsg/laws.FnCutUpdateFeaturesRequest", spec := "fnCutUpdateFeaturesRequest", inPlace := ["internal/reflectlite.ValueOf", "internal/reflectlite.Swapper", "(internal/reflectlite.Value).Len"], unfollowed := true, recurses := true, named := ["encoding/binary.BigEndian", "pub-kmsg/pub/kmsg/inner/kbin.ErrNotEnoughData"], loops := true, apart := false, laid := [("pub-kmsg/pub/kmsg/inner/kbin.ErrNotEnoughData", laid_pub_kmsg_pub_kmsg_inner_kbin_ErrNotEnoughData)] }
def FnCutUpdateFeaturesRequestSaid : Prop := fnCutUpdateFeaturesRequestRow.holds Tryz.pinned (OpenSpec.ofChange fnCutUpdateFeaturesRequestSpec)

/-- ITS FALSE NEIGHBOUR: 'it returns false'. Refute it at one input. -/
def fnCutUpdateFeaturesRequestWrong : ChangeSpec := { name := "fnCutUpdateFeaturesRequest", fn := fun _ => fun
  | [d1, d2, d3] => { results := [.lit (.bool false)], args := [d1, d2, d3] }
  | _ => none }
def FnCutUpdateFeaturesRequestWrongFalsely : Prop := fnCutUpdateFeaturesRequestRow.holds Tryz.pinned (OpenSpec.ofChange fnCutUpdateFeaturesRequestWrong)

/-- 'laws.FnAgainDeleteShareGroupStateResponse': WHATEVER THE INPUT: true; the input reads as it did. -/
def fnAgainDeleteShareGroupStateResponseSpec : ChangeSpec := { name := "fnAgainDeleteShareGroupStateResponse", fn := fun _ => fun
  | [d1, d2] => { results := [.lit (.bool true)], args := [d1, d2] }
  | _ => none }
def fnAgainDeleteShareGroupStateResponseRow : OpenClaim := { program := "ytpknjenihcfhlaagreatdoor", sum := "31b570c8825f46c47ed68776e46c81a7ece30cf6b9d6ca7e71982d7e9abdb600", func := "pub-kmsg/laws.FnAgainDeleteShareGroupStateResponse", spec := "fnAgainDeleteShareGroupStateResponse", inPlace := ["internal/reflectlite.ValueOf", "internal/reflectlite.Swapper", "(internal/reflectlite.Value).Len"], unfollowed := true, recurses := true, named := ["encoding/binary.BigEndian", "pub-kmsg/pub/kmsg/inner/kbin.ErrNotEnoughData"], loops := true, apart := false, laid := [("pub-kmsg/pub/kmsg/inner/kbin.ErrNotEnoughData", laid_pub_kmsg_pub_kmsg_inner_kbin_ErrNotEnoughData)] }
def FnAgainDeleteShareGroupStateResponseSaid : Prop := fnAgainDeleteShareGroupStateResponseRow.holds Tryz.pinned (OpenSpec.ofChange fnAgainDeleteShareGroupStateResponseSpec)

/-- ITS FALSE NEIGHBOUR: 'it returns false'. Refute it at one input. -/
def fnAgainDeleteShareGroupStateResponseWrong : ChangeSpec := { name := "fnAgainDeleteShareGroupStateResponse", fn := fun _ => fun
  | [d1, d2] => { results := [.lit (.bool false)], args := [d1, d2] }
  | _ => none }
def FnAgainDeleteShareGroupStateResponseWrongFalsely : Prop := fnAgainDeleteShareGroupStateResponseRow.holds Tryz.pinned (OpenSpec.ofChange fnAgainDeleteShareGroupStateResponseWrong)

/- THE SECOND FORM. 'bulk': how many values and letters a reading holds, each counted each time it is reached (what is shared counts as often as it is met; a slice's spare places count too). A statement '..UptoSaid' is the law's where the arguments, and the package variables that the reading takes, are together of bulk at most 1048576: NARROWER than '..Said'. Prove '..Said' where nothing that the law and all that it calls make is longer than what came in: it says more and counts as full. Else prove '..UptoSaid'. A law counts once. -/
mutual
def uptoBulk {H : Type} : DataW H → Nat
  | .lit (.string bytes) => bytes.length + 1
  | .lit _ => 1
  | .nil => 1
  | .ptr d => uptoBulk d + 1
  | .slice elems spare => uptoBulkAll elems + uptoBulkAll spare + 1
  | .agg parts => uptoBulkAll parts + 1
  | .iface _ d => uptoBulk d + 1
  | .map entries => uptoBulkEntries entries + 1
  | .held _ => 1
def uptoBulkAll {H : Type} : List (DataW H) → Nat
  | [] => 0
  | d :: r => uptoBulk d + uptoBulkAll r
def uptoBulkEntries {H : Type} : List (Lit × DataW H) → Nat
  | [] => 0
  | x :: r => uptoBulkEntry x + uptoBulkEntries r
def uptoBulkEntry {H : Type} : Lit × DataW H → Nat
  | (.string bytes, d) => bytes.length + uptoBulk d + 1
  | (_, d) => uptoBulk d + 1
 end
def uptoSmall : (H : Type) → List (DataW H) → Bool := fun _ ds => decide (uptoBulkAll ds ≤ 1048576)
def OpenSpec.upto (s : _root_.Go.ChangeSpec) : _root_.Go.OpenSpec := { _root_.Go.OpenSpec.ofChange s with cond := some uptoSmall }

/-- 'laws.FnAgainDescribeGroupsRequest', WHERE WHAT IT READS IS OF BULK AT MOST 1048576: true; the input reads as it did. -/
def fnAgainDescribeGroupsRequestUptoRow : OpenClaim := { program := "ytpknjenihcfhlaagreatdoor", sum := "31b570c8825f46c47ed68776e46c81a7ece30cf6b9d6ca7e71982d7e9abdb600", func := "pub-kmsg/laws.FnAgainDescribeGroupsRequest", spec := "fnAgainDescribeGroupsRequest", inPlace := ["internal/reflectlite.ValueOf", "internal/reflectlite.Swapper", "(internal/reflectlite.Value).Len"], unfollowed := true, recurses := true, named := ["encoding/binary.BigEndian", "pub-kmsg/pub/kmsg/inner/kbin.ErrNotEnoughData"], loops := true, apart := false, laid := [("pub-kmsg/pub/kmsg/inner/kbin.ErrNotEnoughData", laid_pub_kmsg_pub_kmsg_inner_kbin_ErrNotEnoughData)], narrowed := true }
def FnAgainDescribeGroupsRequestUptoSaid : Prop := fnAgainDescribeGroupsRequestUptoRow.holds Tryz.pinned (OpenSpec.upto fnAgainDescribeGroupsRequestSpec)

/-- 'laws.FnCutApiVersionsRequest', WHERE WHAT IT READS IS OF BULK AT MOST 1048576: true; the input reads as it did. -/
def fnCutApiVersionsRequestUptoRow : OpenClaim := { program := "ytpknjenihcfhlaagreatdoor", sum := "31b570c8825f46c47ed68776e46c81a7ece30cf6b9d6ca7e71982d7e9abdb600", func := "pub-kmsg/laws.FnCutApiVersionsRequest", spec := "fnCutApiVersionsRequest", inPlace := ["internal/reflectlite.ValueOf", "internal/reflectlite.Swapper", "(internal/reflectlite.Value).Len"], unfollowed := true, recurses := true, named := ["encoding/binary.BigEndian", "pub-kmsg/pub/kmsg/inner/kbin.ErrNotEnoughData"], loops := true, apart := false, laid := [("pub-kmsg/pub/kmsg/inner/kbin.ErrNotEnoughData", laid_pub_kmsg_pub_kmsg_inner_kbin_ErrNotEnoughData)], narrowed := true }
def FnCutApiVersionsRequestUptoSaid : Prop := fnCutApiVersionsRequestUptoRow.holds Tryz.pinned (OpenSpec.upto fnCutApiVersionsRequestSpec)

/-- 'laws.FnCutFindCoordinatorRequest', WHERE WHAT IT READS IS OF BULK AT MOST 1048576: true; the input reads as it did. -/
def fnCutFindCoordinatorRequestUptoRow : OpenClaim := { program := "ytpknjenihcfhlaagreatdoor", sum := "31b570c8825f46c47ed68776e46c81a7ece30cf6b9d6ca7e71982d7e9abdb600", func := "pub-kmsg/laws.FnCutFindCoordinatorRequest", spec := "fnCutFindCoordinatorRequest", inPlace := ["internal/reflectlite.ValueOf", "internal/reflectlite.Swapper", "(internal/reflectlite.Value).Len"], unfollowed := true, recurses := true, named := ["encoding/binary.BigEndian", "pub-kmsg/pub/kmsg/inner/kbin.ErrNotEnoughData"], loops := true, apart := false, laid := [("pub-kmsg/pub/kmsg/inner/kbin.ErrNotEnoughData", laid_pub_kmsg_pub_kmsg_inner_kbin_ErrNotEnoughData)], narrowed := true }
def FnCutFindCoordinatorRequestUptoSaid : Prop := fnCutFindCoordinatorRequestUptoRow.holds Tryz.pinned (OpenSpec.upto fnCutFindCoordinatorRequestSpec)

/-- 'laws.FnCutDescribeProducersRequest', WHERE WHAT IT READS IS OF BULK AT MOST 1048576: true; the input reads as it did. -/
def fnCutDescribeProducersRequestUptoRow : OpenClaim := { program := "ytpknjenihcfhlaagreatdoor", sum := "31b570c8825f46c47ed68776e46c81a7ece30cf6b9d6ca7e71982d7e9abdb600", func := "pub-kmsg/laws.FnCutDescribeProducersRequest", spec := "fnCutDescribeProducersRequest", inPlace := ["internal/reflectlite.ValueOf", "internal/reflectlite.Swapper", "(internal/reflectlite.Value).Len"], unfollowed := true, recurses := true, named := ["encoding/binary.BigEndian", "pub-kmsg/pub/kmsg/inner/kbin.ErrNotEnoughData"], loops := true, apart := false, laid := [("pub-kmsg/pub/kmsg/inner/kbin.ErrNotEnoughData", laid_pub_kmsg_pub_kmsg_inner_kbin_ErrNotEnoughData)], narrowed := true }
def FnCutDescribeProducersRequestUptoSaid : Prop := fnCutDescribeProducersRequestUptoRow.holds Tryz.pinned (OpenSpec.upto fnCutDescribeProducersRequestSpec)

/-- 'laws.FnCutUpdateFeaturesRequest', WHERE WHAT IT READS IS OF BULK AT MOST 1048576: true; the input reads as it did. -/
def fnCutUpdateFeaturesRequestUptoRow : OpenClaim := { program := "ytpknjenihcfhlaagreatdoor", sum := "31b570c8825f46c47ed68776e46c81a7ece30cf6b9d6ca7e71982d7e9abdb600", func := "pub-kmsg/laws.FnCutUpdateFeaturesRequest", spec := "fnCutUpdateFeaturesRequest", inPlace := ["internal/reflectlite.ValueOf", "internal/reflectlite.Swapper", "(internal/reflectlite.Value).Len"], unfollowed := true, recurses := true, named := ["encoding/binary.BigEndian", "pub-kmsg/pub/kmsg/inner/kbin.ErrNotEnoughData"], loops := true, apart := false, laid := [("pub-kmsg/pub/kmsg/inner/kbin.ErrNotEnoughData", laid_pub_kmsg_pub_kmsg_inner_kbin_ErrNotEnoughData)], narrowed := true }
def FnCutUpdateFeaturesRequestUptoSaid : Prop := fnCutUpdateFeaturesRequestUptoRow.holds Tryz.pinned (OpenSpec.upto fnCutUpdateFeaturesRequestSpec)

/-- 'laws.FnAgainDeleteShareGroupStateResponse', WHERE WHAT IT READS IS OF BULK AT MOST 1048576: true; the input reads as it did. -/
def fnAgainDeleteShareGroupStateResponseUptoRow : OpenClaim := { program := "ytpknjenihcfhlaagreatdoor", sum := "31b570c8825f46c47ed68776e46c81a7ece30cf6b9d6ca7e71982d7e9abdb600", func := "pub-kmsg/laws.FnAgainDeleteShareGroupStateResponse", spec := "fnAgainDeleteShareGroupStateResponse", inPlace := ["internal/reflectlite.ValueOf", "internal/reflectlite.Swapper", "(internal/reflectlite.Value).Len"], unfollowed := true, recurses := true, named := ["encoding/binary.BigEndian", "pub-kmsg/pub/kmsg/inner/kbin.ErrNotEnoughData"], loops := true, apart := false, laid := [("pub-kmsg/pub/kmsg/inner/kbin.ErrNotEnoughData", laid_pub_kmsg_pub_kmsg_inner_kbin_ErrNotEnoughData)], narrowed := true }
def FnAgainDeleteShareGroupStateResponseUptoSaid : Prop := fnAgainDeleteShareGroupStateResponseUptoRow.holds Tryz.pinned (OpenSpec.upto fnAgainDeleteShareGroupStateResponseSpec)

end Rows
end Go.Proofs.YtpknjenihcfhlaaGreatDoor
