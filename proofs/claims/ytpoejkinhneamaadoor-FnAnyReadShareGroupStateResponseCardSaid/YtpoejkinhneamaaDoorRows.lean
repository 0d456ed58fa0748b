/-
  NARROWER THAN 'FOR EVERY INPUT', by the rows' own cells (each row's printed sentence says how): FnAnyAlterPartitionAssignmentsResponse: laid · FnAnyDescribeClusterResponse: laid · FnAnyReadShareGroupStateResponse: laid · FnAnyBeginQuorumEpochRequest: laid · FnAnyOffsetCommitRequest: laid · FnAnyShareFetchRequest: laid.
  DERIVED. THE GIVEN ROWS OF THIS SEAT. 6 by the template 'for every input the law returns true; each argument reads behind the call as it read before'; 0 by the template 'total and deterministic' (their statements: YtpoejkinhneamaaDoorTotals.lean).
  GIVEN WITH THE SEED: the statements are not yours to turn. If you find one false, say at which input.
  Laid BY PROGRAM, IN A SANDBOX (cutbox-rows.mjs): the forced cells as the released guide's own fill.sh prints them over the translation ba61e948cb2d17d9… (all of the seat's roots in one cut). By AI agents, Wed Nov 11 2026. No macro, syntax, notation, axiom, sorry.
-/
import Derived.Test.YtpoejkinhneamaaDoorChecked
import GoSem.Claim
import GoSem.ClaimJoined
import GoSem.ClaimMapViews
import Derived.JoinedTies
import Derived.KernelRfl
namespace Go.Proofs.YtpoejkinhneamaaDoor
/- THE CELL 'sum', in the pinned program and in every row, IS THE sha256 OF THE DUMP (.gsa) THAT YtpoejkinhneamaaDoorProg.lean LOADS. Nothing in Lean hashes anything: it is a label: what it is worth is what the hold of that sum in a sandbox is worth. -/
noncomputable def Tryd.pinned : Pinned := { name := "ytpoejkinhneamaadoor", sum := "ba61e948cb2d17d9260efa035a3c53405048dec4a643af38c669c5b0c186f962", checked := Tryd.checked }
namespace Rows
def none {H : Type} : Left H := { results := [], args := [] }

/- WHAT THE LISTED PACKAGE-LEVEL VARIABLES READ AS WHEN THE CALL BEGINS. Each datum BY PROGRAM (the guide's laid-datum.mjs) off the statement by which the dump's own 'gosem.cut.vars' lays the variable. In a bare row this is a premise. The card (YtpoejkinhneamaaDoorCards.lean) ties it to the program's text. -/
def laid_pub_kmsg_pub_kmsg_inner_kbin_ErrNotEnoughData {H : Type} : DataW H := .iface "*errors.errorString" (.ptr (.agg [.lit (.string [114, 101, 115, 112, 111, 110, 115, 101, 32, 100, 105, 100, 32, 110, 111, 116, 32, 99, 111, 110, 116, 97, 105, 110, 32, 101, 110, 111, 117, 103, 104, 32, 100, 97, 116, 97, 32, 116, 111, 32, 98, 101, 32, 118, 97, 108, 105, 100])]))

/-- 'laws.FnAnyAlterPartitionAssignmentsResponse': WHATEVER THE INPUT: true; the input reads as it did. -/
def fnAnyAlterPartitionAssignmentsResponseSpec : ChangeSpec := { name := "fnAnyAlterPartitionAssignmentsResponse", fn := fun _ => fun
  | [d1, d2] => { results := [.lit (.bool true)], args := [d1, d2] }
  | _ => none }
def fnAnyAlterPartitionAssignmentsResponseRow : OpenClaim := { program := "ytpoejkinhneamaadoor", sum := "ba61e948cb2d17d9260efa035a3c53405048dec4a643af38c669c5b0c186f962", func := "pub-kmsg/laws.FnAnyAlterPartitionAssignmentsResponse", spec := "fnAnyAlterPartitionAssignmentsResponse", inPlace := ["internal/reflectlite.ValueOf", "internal/reflectlite.Swapper", "(internal/reflectlite.Value).Len"], unfollowed := true, recurses := true, named := ["encoding/binary.BigEndian", "pub-kmsg/pub/kmsg/inner/kbin.ErrNotEnoughData"], apart := false, laid := [("pub-kmsg/pub/kmsg/inner/kbin.ErrNotEnoughData", laid_pub_kmsg_pub_kmsg_inner_kbin_ErrNotEnoughData)] }
def FnAnyAlterPartitionAssignmentsResponseSaid : Prop := fnAnyAlterPartitionAssignmentsResponseRow.holds Tryd.pinned (OpenSpec.ofChange fnAnyAlterPartitionAssignmentsResponseSpec)

/-- ITS FALSE NEIGHBOUR: 'it returns false'. Refute it at one input. -/
def fnAnyAlterPartitionAssignmentsResponseWrong : ChangeSpec := { name := "fnAnyAlterPartitionAssignmentsResponse", fn := fun _ => fun
  | [d1, d2] => { results := [.lit (.bool false)], args := [d1, d2] }
  | _ => none }
def FnAnyAlterPartitionAssignmentsResponseWrongFalsely : Prop := fnAnyAlterPartitionAssignmentsResponseRow.holds Tryd.pinned (OpenSpec.ofChange fnAnyAlterPartitionAssignmentsResponseWrong)

/-- 'laws.FnAnyDescribeClusterResponse': WHATEVER THE INPUT: true; the input reads as it did. -/
def fnAnyDescribeClusterResponseSpec : ChangeSpec := { name := "fnAnyDescribeClusterResponse", fn := fun _ => fun
  | [d1, d2] => { results := [.lit (.bool true)], args := [d1, d2] }
  | _ => none }
def fnAnyDescribeClusterResponseRow : OpenClaim := { program := "ytpoejkinhneamaadoor", sum := "ba61e948cb2d17d9260efa035a3c53405048dec4a643af38c669c5b0c186f962", func := "pub-kmsg/laws.FnAnyDescribeClusterResponse", spec := "fnAnyDescribeClusterResponse", inPlace := ["internal/reflectlite.ValueOf", "internal/reflectlite.Swapper", "(internal/reflectlite.Value).Len"], unfollowed := true, recurses := true, named := ["encoding/binary.BigEndian", "pub-kmsg/pub/kmsg/inner/kbin.ErrNotEnoughData"], apart := false, laid := [("pub-kmsg/pub/kmsg/inner/kbin.ErrNotEnoughData", laid_pub_kmsg_pub_kmsg_inner_kbin_ErrNotEnoughData)] }
def FnAnyDescribeClusterResponseSaid : Prop := fnAnyDescribeClusterResponseRow.holds Tryd.pinned (OpenSpec.ofChange fnAnyDescribeClusterResponseSpec)

/-- ITS FALSE NEIGHBOUR: 'it returns false'. Refute it at one input. -/
def fnAnyDescribeClusterResponseWrong : ChangeSpec := { name := "fnAnyDescribeClusterResponse", fn := fun _ => fun
  | [d1, d2] => { results := [.lit (.bool false)], args := [d1, d2] }
  | _ => none }
def FnAnyDescribeClusterResponseWrongFalsely : Prop := fnAnyDescribeClusterResponseRow.holds Tryd.pinned (OpenSpec.ofChange fnAnyDescribeClusterResponseWrong)

/-- 'laws.FnAnyReadShareGroupStateResponse': WHATEVER THE INPUT: true; the input reads as it did. -/
def fnAnyReadShareGroupStateResponseSpec : ChangeSpec := { name := "fnAnyReadShareGroupStateResponse", fn := fun _ => fun
  | [d1, d2] => { results := [.lit (.bool true)], args := [d1, d2] }
  | _ => none }
def fnAnyReadShareGroupStateResponseRow : OpenClaim := { program := "ytpoejkinhneamaadoor", sum := "ba61e948cb2d17d9260efa035a3c53405048dec4a643af38c669c5b0c186f962", func := "pub-kmsg/laws.FnAnyReadShareGroupStateResponse", spec := "fnAnyReadShareGroupStateResponse", inPlace := ["internal/reflectlite.ValueOf", "internal/reflectlite.Swapper", "(internal/reflectlite.Value).Len"], unfollowed := true, recurses := true, named := ["encoding/binary.BigEndian", "pub-kmsg/pub/kmsg/inner/kbin.ErrNotEnoughData"], apart := false, laid := [("pub-kmsg/pub/kmsg/inner/kbin.ErrNotEnoughData", laid_pub_kmsg_pub_kmsg_inner_kbin_ErrNotEnoughData)] }
def FnAnyReadShareGroupStateResponseSaid : Prop := fnAnyReadShareGroupStateResponseRow.holds Tryd.pinned (OpenSpec.ofChange fnAnyReadShareGroupStateResponseSpec)

/-- ITS FALSE NEIGHBOUR: 'it returns false'. Refute it at one input. -/
def fnAnyReadShareGroupStateResponseWrong : ChangeSpec := { name := "fnAnyReadShareGroupStateResponse", fn := fun _ => fun
  | [d1, d2] => { results := [.lit (.bool false)], args := [d1, d2] }
  | _ => none }
def FnAnyReadShareGroupStateResponseWrongFalsely : Prop := fnAnyReadShareGroupStateResponseRow.holds Tryd.pinned (OpenSpec.ofChange fnAnyReadShareGroupStateResponseWrong)

/-- 'laws.FnAnyBeginQuorumEpochRequest': WHATEVER THE INPUT: true; the input reads as it did. -/
def fnAnyBeginQuorumEpochRequestSpec : ChangeSpec := { name := "fnAnyBeginQuorumEpochRequest", fn := fun _ => fun
  | [d1, d2] => { results := [.lit (.bool true)], args := [d1, d2] }
  | _ => none }
def fnAnyBeginQuorumEpochRequestRow : OpenClaim := { program := "ytpoejkinhneamaadoor", sum := "ba61e948cb2d17d9260efa035a3c53405048dec4a643af38c669c5b0c186f962", func := "pub-kmsg/laws.FnAnyBeginQuorumEpochRequest", spec := "fnAnyBeginQuorumEpochRequest", inPlace := ["internal/reflectlite.ValueOf", "internal/reflectlite.Swapper", "(internal/reflectlite.Value).Len"], unfollowed := true, recurses := true, named := ["encoding/binary.BigEndian", "pub-kmsg/pub/kmsg/inner/kbin.ErrNotEnoughData"], apart := false, laid := [("pub-kmsg/pub/kmsg/inner/kbin.ErrNotEnoughData", laid_pub_kmsg_pub_kmsg_inner_kbin_ErrNotEnoughData)] }
def FnAnyBeginQuorumEpochRequestSaid : Prop := fnAnyBeginQuorumEpochRequestRow.holds Tryd.pinned (OpenSpec.ofChange fnAnyBeginQuorumEpochRequestSpec)

/-- ITS FALSE NEIGHBOUR: 'it returns false'. Refute it at one input. -/
def fnAnyBeginQuorumEpochRequestWrong : ChangeSpec := { name := "fnAnyBeginQuorumEpochRequest", fn := fun _ => fun
  | [d1, d2] => { results := [.lit (.bool false)], args := [d1, d2] }
  | _ => none }
def FnAnyBeginQuorumEpochRequestWrongFalsely : Prop := fnAnyBeginQuorumEpochRequestRow.holds Tryd.pinned (OpenSpec.ofChange fnAnyBeginQuorumEpochRequestWrong)

/-- 'laws.FnAnyOffsetCommitRequest': WHATEVER THE INPUT: true; the input reads as it did. -/
def fnAnyOffsetCommitRequestSpec : ChangeSpec := { name := "fnAnyOffsetCommitRequest", fn := fun _ => fun
  | [d1, d2] => { results := [.lit (.bool true)], args := [d1, d2] }
  | _ => none }
def fnAnyOffsetCommitRequestRow : OpenClaim := { program := "ytpoejkinhneamaadoor", sum := "ba61e948cb2d17d9260efa035a3c53405048dec4a643af38c669c5b0c186f962", func := "pub-kmsg/laws.FnAnyOffsetCommitRequest", spec := "fnAnyOffsetCommitRequest", inPlace := ["internal/reflectlite.ValueOf", "internal/reflectlite.Swapper", "(internal/reflectlite.Value).Len"], unfollowed := true, recurses := true, named := ["encoding/binary.BigEndian", "pub-kmsg/pub/kmsg/inner/kbin.ErrNotEnoughData"], apart := false, laid := [("pub-kmsg/pub/kmsg/inner/kbin.ErrNotEnoughData", laid_pub_kmsg_pub_kmsg_inner_kbin_ErrNotEnoughData)] }
def FnAnyOffsetCommitRequestSaid : Prop := fnAnyOffsetCommitRequestRow.holds Tryd.pinned (OpenSpec.ofChange fnAnyOffsetCommitRequestSpec)

/-- ITS FALSE NEIGHBOUR: 'it returns false'. Refute it at one input. -/
def fnAnyOffsetCommitRequestWrong : ChangeSpec := { name := "fnAnyOffsetCommitRequest", fn := fun _ => fun
  | [d1, d2] => { results := [.lit (.bool false)], args := [d1, d2] }
  | _ => none }
def FnAnyOffsetCommitRequestWrongFalsely : Prop := fnAnyOffsetCommitRequestRow.holds Tryd.pinned (OpenSpec.ofChange fnAnyOffsetCommitRequestWrong)

/-- 'laws.FnAnyShareFetchRequest': WHATEVER THE INPUT: true; the input reads as it did. -/
def fnAnyShareFetchRequestSpec : ChangeSpec := { name := "fnAnyShareFetchRequest", fn := fun _ => fun
  | [d1, d2] => { results := [.lit (.bool true)], args := [d1, d2] }
  | _ => none }
def fnAnyShareFetchRequestRow : OpenClaim := { program := "ytpoejkinhneamaadoor", sum := "ba61e948cb2d17d9260efa035a3c53405048dec4a643af38c669c5b0c186f962", func := "pub-kmsg/laws.FnAnyShareFetchRequest", spec := "fnAnyShareFetchRequest", inPlace := ["internal/reflectlite.ValueOf", "internal/reflectlite.Swapper", "(internal/reflectlite.Value).Len"], unfollowed := true, recurses := true, named := ["encoding/binary.BigEndian", "pub-kmsg/pub/kmsg/inner/kbin.ErrNotEnoughData"], apart := false, laid := [("pub-kmsg/pub/kmsg/inner/kbin.ErrNotEnoughData", laid_pub_kmsg_pub_kmsg_inner_kbin_ErrNotEnoughData)] }
def FnAnyShareFetchRequestSaid : Prop := fnAnyShareFetchRequestRow.holds Tryd.pinned (OpenSpec.ofChange fnAnyShareFetchRequestSpec)

/-- ITS FALSE NEIGHBOUR: 'it returns false'. Refute it at one input. -/
def fnAnyShareFetchRequestWrong : ChangeSpec := { name := "fnAnyShareFetchRequest", fn := fun _ => fun
  | [d1, d2] => { results := [.lit (.bool false)], args := [d1, d2] }
  | _ => none }
def FnAnyShareFetchRequestWrongFalsely : Prop := fnAnyShareFetchRequestRow.holds Tryd.pinned (OpenSpec.ofChange fnAnyShareFetchRequestWrong)

/- THE SECOND FORM. 'bulk': how many values and letters a reading holds, each counted each time it is reached (what is shared counts as often as it is met; a slice's spare places count too). A statement '..UptoSaid' is the law's where the arguments, and the package variables that the reading takes, are together of bulk at most 1048576: NARROWER than '..Said'. Prove '..Said' where nothing that the law and all that it calls make is longer than what came in: it says more and counts as full. Else prove '..UptoSaid'. A law counts once. -/
mutual
def uptoBulk {H : Type} : DataW H → Nat
  | .lit (.string bytes) => bytes.length + 1
  | .lit _ => 1
  | .nil => 1
  | .ptr d => uptoBulk d + 1
  | .slice elems spare => uptoBulkAll elems + uptoBulkAll spare + 1
  | .agg parts => uptoBulkAll parts + 1
  | .iface _ d => uptoBulk d + 1
  | .map entries => uptoBulkEntries entries + 1
  | .held _ => 1
def uptoBulkAll {H : Type} : List (DataW H) → Nat
  | [] => 0
  | d :: r => uptoBulk d + uptoBulkAll r
def uptoBulkEntries {H : Type} : List (Lit × DataW H) → Nat
  | [] => 0
  | x :: r => uptoBulkEntry x + uptoBulkEntries r
def uptoBulkEntry {H : Type} : Lit × DataW H → Nat
  | (.string bytes, d) => bytes.length + uptoBulk d + 1
  | (_, d) => uptoBulk d + 1
 end
def uptoSmall : (H : Type) → List (DataW H) → Bool := fun _ ds => decide (uptoBulkAll ds ≤ 1048576)
def OpenSpec.upto (s : _root_.Go.ChangeSpec) : _root_.Go.OpenSpec := { _root_.Go.OpenSpec.ofChange s with cond := some uptoSmall }

/-- 'laws.FnAnyAlterPartitionAssignmentsResponse', WHERE WHAT IT READS IS OF BULK AT MOST 1048576: true; the input reads as it did. -/
def fnAnyAlterPartitionAssignmentsResponseUptoRow : OpenClaim := { program := "ytpoejkinhneamaadoor", sum := "ba61e948cb2d17d9260efa035a3c53405048dec4a643af38c669c5b0c186f962", func := "pub-kmsg/laws.FnAnyAlterPartitionAssignmentsResponse", spec := "fnAnyAlterPartitionAssignmentsResponse", inPlace := ["internal/reflectlite.ValueOf", "internal/reflectlite.Swapper", "(internal/reflectlite.Value).Len"], unfollowed := true, recurses := true, named := ["encoding/binary.BigEndian", "pub-kmsg/pub/kmsg/inner/kbin.ErrNotEnoughData"], apart := false, laid := [("pub-kmsg/pub/kmsg/inner/kbin.ErrNotEnoughData", laid_pub_kmsg_pub_kmsg_inner_kbin_ErrNotEnoughData)], narrowed := true }
def FnAnyAlterPartitionAssignmentsResponseUptoSaid : Prop := fnAnyAlterPartitionAssignmentsResponseUptoRow.holds Tryd.pinned (OpenSpec.upto fnAnyAlterPartitionAssignmentsResponseSpec)

/-- 'laws.FnAnyDescribeClusterResponse', WHERE WHAT IT READS IS OF BULK AT MOST 1048576: true; the input reads as it did. -/
def fnAnyDescribeClusterResponseUptoRow : OpenClaim := { program := "ytpoejkinhneamaadoor", sum := "ba61e948cb2d17d9260efa035a3c53405048dec4a643af38c669c5b0c186f962", func := "pub-kmsg/laws.FnAnyDescribeClusterResponse", spec := "fnAnyDescribeClusterResponse", inPlace := ["internal/reflectlite.ValueOf", "internal/reflectlite.Swapper", "(internal/reflectlite.Value).Len"], unfollowed := true, recurses := true, named := ["encoding/binary.BigEndian", "pub-kmsg/pub/kmsg/inner/kbin.ErrNotEnoughData"], apart := false, laid := [("pub-kmsg/pub/kmsg/inner/kbin.ErrNotEnoughData", laid_pub_kmsg_pub_kmsg_inner_kbin_ErrNotEnoughData)], narrowed := true }
def FnAnyDescribeClusterResponseUptoSaid : Prop := fnAnyDescribeClusterResponseUptoRow.holds Tryd.pinned (OpenSpec.upto fnAnyDescribeClusterResponseSpec)

/-- 'laws.FnAnyReadShareGroupStateResponse', WHERE WHAT IT READS IS OF BULK AT MOST 1048576: true; the input reads as it did. -/
def fnAnyReadShareGroupStateResponseUptoRow : OpenClaim := { program := "ytpoejkinhneamaadoor", sum := "ba61e948cb2d17d9260efa035a3c53405048dec4a643af38c669c5b0c186f962", func := "pub-kmsg/laws.FnAnyReadShareGroupStateResponse", spec := "fnAnyReadShareGroupStateResponse", inPlace := ["internal/reflectlite.ValueOf", "internal/reflectlite.Swapper", "(internal/reflectlite.Value).Len"], unfollowed := true, recurses := true, named := ["encoding/binary.BigEndian", "pub-kmsg/pub/kmsg/inner/kbin.ErrNotEnoughData"], apart := false, laid := [("pub-kmsg/pub/kmsg/inner/kbin.ErrNotEnoughData", laid_pub_kmsg_pub_kmsg_inner_kbin_ErrNotEnoughData)], narrowed := true }
def FnAnyReadShareGroupStateResponseUptoSaid : Prop := fnAnyReadShareGroupStateResponseUptoRow.holds Tryd.pinned (OpenSpec.upto fnAnyReadShareGroupStateResponseSpec)

/-- 'laws.FnAnyBeginQuorumEpochRequest', WHERE WHAT IT READS IS OF BULK AT MOST 1048576: true; the input reads as it did. -/
def fnAnyBeginQuorumEpochRequestUptoRow : OpenClaim := { program := "ytpoejkinhneamaadoor", sum := "ba61e948cb2d17d9260efa035a3c53405048dec4a643af38c669c5b0c186f962", func := "pub-kmsg/laws.FnAnyBeginQuorumEpochRequest", spec := "fnAnyBeginQuorumEpochRequest", inPlace := ["internal/reflectlite.ValueOf", "internal/reflectlite.Swapper", "(internal/reflectlite.Value).Len"], unfollowed := true, recurses := true, named := ["encoding/binary.BigEndian", "pub-kmsg/pub/kmsg/inner/kbin.ErrNotEnoughData"], apart := false, laid := [("pub-kmsg/pub/kmsg/inner/kbin.ErrNotEnoughData", laid_pub_kmsg_pub_kmsg_inner_kbin_ErrNotEnoughData)], narrowed := true }
def FnAnyBeginQuorumEpochRequestUptoSaid : Prop := fnAnyBeginQuorumEpochRequestUptoRow.holds Tryd.pinned (OpenSpec.upto fnAnyBeginQuorumEpochRequestSpec)

/-- 'laws.FnAnyOffsetCommitRequest', WHERE WHAT IT READS IS OF BULK AT MOST 1048576: true; the input reads as it did. -/
def fnAnyOffsetCommitRequestUptoRow : OpenClaim := { program := "ytpoejkinhneamaadoor", sum := "ba61e948cb2d17d9260efa035a3c53405048dec4a643af38c669c5b0c186f962", func := "pub-kmsg/laws.FnAnyOffsetCommitRequest", spec := "fnAnyOffsetCommitRequest", inPlace := ["internal/reflectlite.ValueOf", "internal/reflectlite.Swapper", "(internal/reflectlite.Value).Len"], unfollowed := true, recurses := true, named := ["encoding/binary.BigEndian", "pub-kmsg/pub/kmsg/inner/kbin.ErrNotEnoughData"], apart := false, laid := [("pub-kmsg/pub/kmsg/inner/kbin.ErrNotEnoughData", laid_pub_kmsg_pub_kmsg_inner_kbin_ErrNotEnoughData)], narrowed := true }
def FnAnyOffsetCommitRequestUptoSaid : Prop := fnAnyOffsetCommitRequestUptoRow.holds Tryd.pinned (OpenSpec.upto fnAnyOffsetCommitRequestSpec)

/-- 'laws.FnAnyShareFetchRequest', WHERE WHAT IT READS IS OF BULK AT MOST 1048576: true; the input reads as it did. -/
def fnAnyShareFetchRequestUptoRow : OpenClaim := { program := "ytpoejkinhneamaadoor", sum := "ba61e948cb2d17d9260efa035a3c53405048dec4a643af38c669c5b0c186f962", func := "pub-kmsg/laws.FnAnyShareFetchRequest", spec := "fnAnyShareFetchRequest", inPlace := ["internal/reflectlite.ValueOf", "internal/reflectlite.Swapper", "(internal/reflectlite.Value).Len"], unfollowed := true, recurses := true, named := ["encoding/binary.BigEndian", "pub-kmsg/pub/kmsg/inner/kbin.ErrNotEnoughData"], apart := false, laid := [("pub-kmsg/pub/kmsg/inner/kbin.ErrNotEnoughData", laid_pub_kmsg_pub_kmsg_inner_kbin_ErrNotEnoughData)], narrowed := true }
def FnAnyShareFetchRequestUptoSaid : Prop := fnAnyShareFetchRequestUptoRow.holds Tryd.pinned (OpenSpec.upto fnAnyShareFetchRequestSpec)

end Rows
end Go.Proofs.YtpoejkinhneamaaDoor
