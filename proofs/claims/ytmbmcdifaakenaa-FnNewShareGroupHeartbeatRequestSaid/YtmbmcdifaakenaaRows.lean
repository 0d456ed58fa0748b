/-
  No cell of these rows narrows 'for every input' (looked for: loops, veiled, ifaces, maps, wideKeys, modest, calm, conditions, laid).
  DERIVED. THE GIVEN ROWS OF THIS SEAT. 12 by the template 'for every input the law returns true; each argument reads behind the call as it read before'; 0 by the template 'total and deterministic' (their statements: YtmbmcdifaakenaaTotals.lean).
  GIVEN WITH THE SEED: the statements are not yours to turn. If you find one false, say at which input.
  Laid BY PROGRAM, IN A SANDBOX (cutbox-rows.mjs): the forced cells as the released guide's own fill.sh prints them over the translation f954b7e5bc0371ba… (all of the seat's roots in one cut). By AI agents, Wed Nov 11 2026. No macro, syntax, notation, axiom, sorry.
-/
import Derived.Test.YtmbmcdifaakenaaChecked
import GoSem.Claim
import GoSem.ClaimJoined
import GoSem.ClaimMapViews
import Derived.JoinedTies
import Derived.KernelRfl
namespace Go.Proofs.Ytmbmcdifaakenaa
/- THE CELL 'sum', in the pinned program and in every row, IS THE sha256 OF THE DUMP (.gsa) THAT YtmbmcdifaakenaaProg.lean LOADS. Nothing in Lean hashes anything: it is a label: what it is worth is what the hold of that sum in a sandbox is worth. -/
noncomputable def Try.pinned : Pinned := { name := "ytmbmcdifaakenaa", sum := "f954b7e5bc0371ba5b3d539a28a8b463fdcf554e1038d4ea0a4ff8b3402757df", checked := Try.checked }
namespace Rows
def none {H : Type} : Left H := { results := [], args := [] }

/-- 'laws.FnNewExpireDelegationTokenResponse': WHATEVER THE INPUT: true; the input reads as it did. -/
def fnNewExpireDelegationTokenResponseSpec : ChangeSpec := { name := "fnNewExpireDelegationTokenResponse", fn := fun _ => fun
  | [d] => { results := [.lit (.bool true)], args := [d] }
  | _ => none }
def fnNewExpireDelegationTokenResponseRow : OpenClaim := { program := "ytmbmcdifaakenaa", sum := "f954b7e5bc0371ba5b3d539a28a8b463fdcf554e1038d4ea0a4ff8b3402757df", func := "pub-kmsg/laws.FnNewExpireDelegationTokenResponse", spec := "fnNewExpireDelegationTokenResponse", inPlace := ["internal/reflectlite.ValueOf", "internal/reflectlite.Swapper", "(internal/reflectlite.Value).Len"], unfollowed := true, recurses := true, apart := false }
def FnNewExpireDelegationTokenResponseSaid : Prop := fnNewExpireDelegationTokenResponseRow.holds Try.pinned (OpenSpec.ofChange fnNewExpireDelegationTokenResponseSpec)

/-- ITS FALSE NEIGHBOUR: 'it returns false'. Refute it at one input. -/
def fnNewExpireDelegationTokenResponseWrong : ChangeSpec := { name := "fnNewExpireDelegationTokenResponse", fn := fun _ => fun
  | [d] => { results := [.lit (.bool false)], args := [d] }
  | _ => none }
def FnNewExpireDelegationTokenResponseWrongFalsely : Prop := fnNewExpireDelegationTokenResponseRow.holds Try.pinned (OpenSpec.ofChange fnNewExpireDelegationTokenResponseWrong)

/-- 'laws.FnNewDescribeTransactionsRequest': WHATEVER THE INPUT: true; the input reads as it did. -/
def fnNewDescribeTransactionsRequestSpec : ChangeSpec := { name := "fnNewDescribeTransactionsRequest", fn := fun _ => fun
  | [d] => { results := [.lit (.bool true)], args := [d] }
  | _ => none }
def fnNewDescribeTransactionsRequestRow : OpenClaim := { program := "ytmbmcdifaakenaa", sum := "f954b7e5bc0371ba5b3d539a28a8b463fdcf554e1038d4ea0a4ff8b3402757df", func := "pub-kmsg/laws.FnNewDescribeTransactionsRequest", spec := "fnNewDescribeTransactionsRequest", inPlace := ["internal/reflectlite.ValueOf", "internal/reflectlite.Swapper", "(internal/reflectlite.Value).Len"], unfollowed := true, recurses := true, apart := false }
def FnNewDescribeTransactionsRequestSaid : Prop := fnNewDescribeTransactionsRequestRow.holds Try.pinned (OpenSpec.ofChange fnNewDescribeTransactionsRequestSpec)

/-- ITS FALSE NEIGHBOUR: 'it returns false'. Refute it at one input. -/
def fnNewDescribeTransactionsRequestWrong : ChangeSpec := { name := "fnNewDescribeTransactionsRequest", fn := fun _ => fun
  | [d] => { results := [.lit (.bool false)], args := [d] }
  | _ => none }
def FnNewDescribeTransactionsRequestWrongFalsely : Prop := fnNewDescribeTransactionsRequestRow.holds Try.pinned (OpenSpec.ofChange fnNewDescribeTransactionsRequestWrong)

/-- 'laws.FnNewRemoveRaftVoterResponse': WHATEVER THE INPUT: true; the input reads as it did. -/
def fnNewRemoveRaftVoterResponseSpec : ChangeSpec := { name := "fnNewRemoveRaftVoterResponse", fn := fun _ => fun
  | [d] => { results := [.lit (.bool true)], args := [d] }
  | _ => none }
def fnNewRemoveRaftVoterResponseRow : OpenClaim := { program := "ytmbmcdifaakenaa", sum := "f954b7e5bc0371ba5b3d539a28a8b463fdcf554e1038d4ea0a4ff8b3402757df", func := "pub-kmsg/laws.FnNewRemoveRaftVoterResponse", spec := "fnNewRemoveRaftVoterResponse", inPlace := ["internal/reflectlite.ValueOf", "internal/reflectlite.Swapper", "(internal/reflectlite.Value).Len"], unfollowed := true, recurses := true, apart := false }
def FnNewRemoveRaftVoterResponseSaid : Prop := fnNewRemoveRaftVoterResponseRow.holds Try.pinned (OpenSpec.ofChange fnNewRemoveRaftVoterResponseSpec)

/-- ITS FALSE NEIGHBOUR: 'it returns false'. Refute it at one input. -/
def fnNewRemoveRaftVoterResponseWrong : ChangeSpec := { name := "fnNewRemoveRaftVoterResponse", fn := fun _ => fun
  | [d] => { results := [.lit (.bool false)], args := [d] }
  | _ => none }
def FnNewRemoveRaftVoterResponseWrongFalsely : Prop := fnNewRemoveRaftVoterResponseRow.holds Try.pinned (OpenSpec.ofChange fnNewRemoveRaftVoterResponseWrong)

/-- 'laws.FnNewInitProducerIDRequest': WHATEVER THE INPUT: true; the input reads as it did. -/
def fnNewInitProducerIDRequestSpec : ChangeSpec := { name := "fnNewInitProducerIDRequest", fn := fun _ => fun
  | [d] => { results := [.lit (.bool true)], args := [d] }
  | _ => none }
def fnNewInitProducerIDRequestRow : OpenClaim := { program := "ytmbmcdifaakenaa", sum := "f954b7e5bc0371ba5b3d539a28a8b463fdcf554e1038d4ea0a4ff8b3402757df", func := "pub-kmsg/laws.FnNewInitProducerIDRequest", spec := "fnNewInitProducerIDRequest", inPlace := ["internal/reflectlite.ValueOf", "internal/reflectlite.Swapper", "(internal/reflectlite.Value).Len"], unfollowed := true, recurses := true, apart := false }
def FnNewInitProducerIDRequestSaid : Prop := fnNewInitProducerIDRequestRow.holds Try.pinned (OpenSpec.ofChange fnNewInitProducerIDRequestSpec)

/-- ITS FALSE NEIGHBOUR: 'it returns false'. Refute it at one input. -/
def fnNewInitProducerIDRequestWrong : ChangeSpec := { name := "fnNewInitProducerIDRequest", fn := fun _ => fun
  | [d] => { results := [.lit (.bool false)], args := [d] }
  | _ => none }
def FnNewInitProducerIDRequestWrongFalsely : Prop := fnNewInitProducerIDRequestRow.holds Try.pinned (OpenSpec.ofChange fnNewInitProducerIDRequestWrong)

/-- 'laws.FnNewDeleteShareGroupStateRequest': WHATEVER THE INPUT: true; the input reads as it did. -/
def fnNewDeleteShareGroupStateRequestSpec : ChangeSpec := { name := "fnNewDeleteShareGroupStateRequest", fn := fun _ => fun
  | [d] => { results := [.lit (.bool true)], args := [d] }
  | _ => none }
def fnNewDeleteShareGroupStateRequestRow : OpenClaim := { program := "ytmbmcdifaakenaa", sum := "f954b7e5bc0371ba5b3d539a28a8b463fdcf554e1038d4ea0a4ff8b3402757df", func := "pub-kmsg/laws.FnNewDeleteShareGroupStateRequest", spec := "fnNewDeleteShareGroupStateRequest", inPlace := ["internal/reflectlite.ValueOf", "internal/reflectlite.Swapper", "(internal/reflectlite.Value).Len"], unfollowed := true, recurses := true, apart := false }
def FnNewDeleteShareGroupStateRequestSaid : Prop := fnNewDeleteShareGroupStateRequestRow.holds Try.pinned (OpenSpec.ofChange fnNewDeleteShareGroupStateRequestSpec)

/-- ITS FALSE NEIGHBOUR: 'it returns false'. Refute it at one input. -/
def fnNewDeleteShareGroupStateRequestWrong : ChangeSpec := { name := "fnNewDeleteShareGroupStateRequest", fn := fun _ => fun
  | [d] => { results := [.lit (.bool false)], args := [d] }
  | _ => none }
def FnNewDeleteShareGroupStateRequestWrongFalsely : Prop := fnNewDeleteShareGroupStateRequestRow.holds Try.pinned (OpenSpec.ofChange fnNewDeleteShareGroupStateRequestWrong)

/-- 'laws.FnNewAlterReplicaLogDirsResponse': WHATEVER THE INPUT: true; the input reads as it did. -/
def fnNewAlterReplicaLogDirsResponseSpec : ChangeSpec := { name := "fnNewAlterReplicaLogDirsResponse", fn := fun _ => fun
  | [d] => { results := [.lit (.bool true)], args := [d] }
  | _ => none }
def fnNewAlterReplicaLogDirsResponseRow : OpenClaim := { program := "ytmbmcdifaakenaa", sum := "f954b7e5bc0371ba5b3d539a28a8b463fdcf554e1038d4ea0a4ff8b3402757df", func := "pub-kmsg/laws.FnNewAlterReplicaLogDirsResponse", spec := "fnNewAlterReplicaLogDirsResponse", inPlace := ["internal/reflectlite.ValueOf", "internal/reflectlite.Swapper", "(internal/reflectlite.Value).Len"], unfollowed := true, recurses := true, apart := false }
def FnNewAlterReplicaLogDirsResponseSaid : Prop := fnNewAlterReplicaLogDirsResponseRow.holds Try.pinned (OpenSpec.ofChange fnNewAlterReplicaLogDirsResponseSpec)

/-- ITS FALSE NEIGHBOUR: 'it returns false'. Refute it at one input. -/
def fnNewAlterReplicaLogDirsResponseWrong : ChangeSpec := { name := "fnNewAlterReplicaLogDirsResponse", fn := fun _ => fun
  | [d] => { results := [.lit (.bool false)], args := [d] }
  | _ => none }
def FnNewAlterReplicaLogDirsResponseWrongFalsely : Prop := fnNewAlterReplicaLogDirsResponseRow.holds Try.pinned (OpenSpec.ofChange fnNewAlterReplicaLogDirsResponseWrong)

/-- 'laws.FnNewListGroupsResponse': WHATEVER THE INPUT: true; the input reads as it did. -/
def fnNewListGroupsResponseSpec : ChangeSpec := { name := "fnNewListGroupsResponse", fn := fun _ => fun
  | [d] => { results := [.lit (.bool true)], args := [d] }
  | _ => none }
def fnNewListGroupsResponseRow : OpenClaim := { program := "ytmbmcdifaakenaa", sum := "f954b7e5bc0371ba5b3d539a28a8b463fdcf554e1038d4ea0a4ff8b3402757df", func := "pub-kmsg/laws.FnNewListGroupsResponse", spec := "fnNewListGroupsResponse", inPlace := ["internal/reflectlite.ValueOf", "internal/reflectlite.Swapper", "(internal/reflectlite.Value).Len"], unfollowed := true, recurses := true, apart := false }
def FnNewListGroupsResponseSaid : Prop := fnNewListGroupsResponseRow.holds Try.pinned (OpenSpec.ofChange fnNewListGroupsResponseSpec)

/-- ITS FALSE NEIGHBOUR: 'it returns false'. Refute it at one input. -/
def fnNewListGroupsResponseWrong : ChangeSpec := { name := "fnNewListGroupsResponse", fn := fun _ => fun
  | [d] => { results := [.lit (.bool false)], args := [d] }
  | _ => none }
def FnNewListGroupsResponseWrongFalsely : Prop := fnNewListGroupsResponseRow.holds Try.pinned (OpenSpec.ofChange fnNewListGroupsResponseWrong)

/-- 'laws.FnNewTxnOffsetCommitResponse': WHATEVER THE INPUT: true; the input reads as it did. -/
def fnNewTxnOffsetCommitResponseSpec : ChangeSpec := { name := "fnNewTxnOffsetCommitResponse", fn := fun _ => fun
  | [d] => { results := [.lit (.bool true)], args := [d] }
  | _ => none }
def fnNewTxnOffsetCommitResponseRow : OpenClaim := { program := "ytmbmcdifaakenaa", sum := "f954b7e5bc0371ba5b3d539a28a8b463fdcf554e1038d4ea0a4ff8b3402757df", func := "pub-kmsg/laws.FnNewTxnOffsetCommitResponse", spec := "fnNewTxnOffsetCommitResponse", inPlace := ["internal/reflectlite.ValueOf", "internal/reflectlite.Swapper", "(internal/reflectlite.Value).Len"], unfollowed := true, recurses := true, apart := false }
def FnNewTxnOffsetCommitResponseSaid : Prop := fnNewTxnOffsetCommitResponseRow.holds Try.pinned (OpenSpec.ofChange fnNewTxnOffsetCommitResponseSpec)

/-- ITS FALSE NEIGHBOUR: 'it returns false'. Refute it at one input. -/
def fnNewTxnOffsetCommitResponseWrong : ChangeSpec := { name := "fnNewTxnOffsetCommitResponse", fn := fun _ => fun
  | [d] => { results := [.lit (.bool false)], args := [d] }
  | _ => none }
def FnNewTxnOffsetCommitResponseWrongFalsely : Prop := fnNewTxnOffsetCommitResponseRow.holds Try.pinned (OpenSpec.ofChange fnNewTxnOffsetCommitResponseWrong)

/-- 'laws.FnNewShareGroupHeartbeatRequest': WHATEVER THE INPUT: true; the input reads as it did. -/
def fnNewShareGroupHeartbeatRequestSpec : ChangeSpec := { name := "fnNewShareGroupHeartbeatRequest", fn := fun _ => fun
  | [d] => { results := [.lit (.bool true)], args := [d] }
  | _ => none }
def fnNewShareGroupHeartbeatRequestRow : OpenClaim := { program := "ytmbmcdifaakenaa", sum := "f954b7e5bc0371ba5b3d539a28a8b463fdcf554e1038d4ea0a4ff8b3402757df", func := "pub-kmsg/laws.FnNewShareGroupHeartbeatRequest", spec := "fnNewShareGroupHeartbeatRequest", inPlace := ["internal/reflectlite.ValueOf", "internal/reflectlite.Swapper", "(internal/reflectlite.Value).Len"], unfollowed := true, recurses := true, apart := false }
def FnNewShareGroupHeartbeatRequestSaid : Prop := fnNewShareGroupHeartbeatRequestRow.holds Try.pinned (OpenSpec.ofChange fnNewShareGroupHeartbeatRequestSpec)

/-- ITS FALSE NEIGHBOUR: 'it returns false'. Refute it at one input. -/
def fnNewShareGroupHeartbeatRequestWrong : ChangeSpec := { name := "fnNewShareGroupHeartbeatRequest", fn := fun _ => fun
  | [d] => { results := [.lit (.bool false)], args := [d] }
  | _ => none }
def FnNewShareGroupHeartbeatRequestWrongFalsely : Prop := fnNewShareGroupHeartbeatRequestRow.holds Try.pinned (OpenSpec.ofChange fnNewShareGroupHeartbeatRequestWrong)

/-- 'laws.FnNewCreateDelegationTokenResponse': WHATEVER THE INPUT: true; the input reads as it did. -/
def fnNewCreateDelegationTokenResponseSpec : ChangeSpec := { name := "fnNewCreateDelegationTokenResponse", fn := fun _ => fun
  | [d] => { results := [.lit (.bool true)], args := [d] }
  | _ => none }
def fnNewCreateDelegationTokenResponseRow : OpenClaim := { program := "ytmbmcdifaakenaa", sum := "f954b7e5bc0371ba5b3d539a28a8b463fdcf554e1038d4ea0a4ff8b3402757df", func := "pub-kmsg/laws.FnNewCreateDelegationTokenResponse", spec := "fnNewCreateDelegationTokenResponse", inPlace := ["internal/reflectlite.ValueOf", "internal/reflectlite.Swapper", "(internal/reflectlite.Value).Len"], unfollowed := true, recurses := true, apart := false }
def FnNewCreateDelegationTokenResponseSaid : Prop := fnNewCreateDelegationTokenResponseRow.holds Try.pinned (OpenSpec.ofChange fnNewCreateDelegationTokenResponseSpec)

/-- ITS FALSE NEIGHBOUR: 'it returns false'. Refute it at one input. -/
def fnNewCreateDelegationTokenResponseWrong : ChangeSpec := { name := "fnNewCreateDelegationTokenResponse", fn := fun _ => fun
  | [d] => { results := [.lit (.bool false)], args := [d] }
  | _ => none }
def FnNewCreateDelegationTokenResponseWrongFalsely : Prop := fnNewCreateDelegationTokenResponseRow.holds Try.pinned (OpenSpec.ofChange fnNewCreateDelegationTokenResponseWrong)

/-- 'laws.FnNewAddRaftVoterRequest': WHATEVER THE INPUT: true; the input reads as it did. -/
def fnNewAddRaftVoterRequestSpec : ChangeSpec := { name := "fnNewAddRaftVoterRequest", fn := fun _ => fun
  | [d] => { results := [.lit (.bool true)], args := [d] }
  | _ => none }
def fnNewAddRaftVoterRequestRow : OpenClaim := { program := "ytmbmcdifaakenaa", sum := "f954b7e5bc0371ba5b3d539a28a8b463fdcf554e1038d4ea0a4ff8b3402757df", func := "pub-kmsg/laws.FnNewAddRaftVoterRequest", spec := "fnNewAddRaftVoterRequest", inPlace := ["internal/reflectlite.ValueOf", "internal/reflectlite.Swapper", "(internal/reflectlite.Value).Len"], unfollowed := true, recurses := true, apart := false }
def FnNewAddRaftVoterRequestSaid : Prop := fnNewAddRaftVoterRequestRow.holds Try.pinned (OpenSpec.ofChange fnNewAddRaftVoterRequestSpec)

/-- ITS FALSE NEIGHBOUR: 'it returns false'. Refute it at one input. -/
def fnNewAddRaftVoterRequestWrong : ChangeSpec := { name := "fnNewAddRaftVoterRequest", fn := fun _ => fun
  | [d] => { results := [.lit (.bool false)], args := [d] }
  | _ => none }
def FnNewAddRaftVoterRequestWrongFalsely : Prop := fnNewAddRaftVoterRequestRow.holds Try.pinned (OpenSpec.ofChange fnNewAddRaftVoterRequestWrong)

/-- 'laws.FnNewWriteShareGroupStateRequest': WHATEVER THE INPUT: true; the input reads as it did. -/
def fnNewWriteShareGroupStateRequestSpec : ChangeSpec := { name := "fnNewWriteShareGroupStateRequest", fn := fun _ => fun
  | [d] => { results := [.lit (.bool true)], args := [d] }
  | _ => none }
def fnNewWriteShareGroupStateRequestRow : OpenClaim := { program := "ytmbmcdifaakenaa", sum := "f954b7e5bc0371ba5b3d539a28a8b463fdcf554e1038d4ea0a4ff8b3402757df", func := "pub-kmsg/laws.FnNewWriteShareGroupStateRequest", spec := "fnNewWriteShareGroupStateRequest", inPlace := ["internal/reflectlite.ValueOf", "internal/reflectlite.Swapper", "(internal/reflectlite.Value).Len"], unfollowed := true, recurses := true, apart := false }
def FnNewWriteShareGroupStateRequestSaid : Prop := fnNewWriteShareGroupStateRequestRow.holds Try.pinned (OpenSpec.ofChange fnNewWriteShareGroupStateRequestSpec)

/-- ITS FALSE NEIGHBOUR: 'it returns false'. Refute it at one input. -/
def fnNewWriteShareGroupStateRequestWrong : ChangeSpec := { name := "fnNewWriteShareGroupStateRequest", fn := fun _ => fun
  | [d] => { results := [.lit (.bool false)], args := [d] }
  | _ => none }
def FnNewWriteShareGroupStateRequestWrongFalsely : Prop := fnNewWriteShareGroupStateRequestRow.holds Try.pinned (OpenSpec.ofChange fnNewWriteShareGroupStateRequestWrong)

/- THE SECOND FORM. 'bulk': how many values and letters a reading holds, each counted each time it is reached (what is shared counts as often as it is met; a slice's spare places count too). A statement '..UptoSaid' is the law's where the arguments, and the package variables that the reading takes, are together of bulk at most 1048576: NARROWER than '..Said'. Prove '..Said' where nothing that the law and all that it calls make is longer than what came in: it says more and counts as full. Else prove '..UptoSaid'. A law counts once. -/
mutual
def uptoBulk {H : Type} : DataW H → Nat
  | .lit (.string bytes) => bytes.length + 1
  | .lit _ => 1
  | .nil => 1
  | .ptr d => uptoBulk d + 1
  | .slice elems spare => uptoBulkAll elems + uptoBulkAll spare + 1
  | .agg parts => uptoBulkAll parts + 1
  | .iface _ d => uptoBulk d + 1
  | .map entries => uptoBulkEntries entries + 1
  | .held _ => 1
def uptoBulkAll {H : Type} : List (DataW H) → Nat
  | [] => 0
  | d :: r => uptoBulk d + uptoBulkAll r
def uptoBulkEntries {H : Type} : List (Lit × DataW H) → Nat
  | [] => 0
  | x :: r => uptoBulkEntry x + uptoBulkEntries r
def uptoBulkEntry {H : Type} : Lit × DataW H → Nat
  | (.string bytes, d) => bytes.length + uptoBulk d + 1
  | (_, d) => uptoBulk d + 1
 end
def uptoSmall : (H : Type) → List (DataW H) → Bool := fun _ ds => decide (uptoBulkAll ds ≤ 1048576)
def OpenSpec.upto (s : _root_.Go.ChangeSpec) : _root_.Go.OpenSpec := { _root_.Go.OpenSpec.ofChange s with cond := some uptoSmall }

/-- 'laws.FnNewExpireDelegationTokenResponse', WHERE WHAT IT READS IS OF BULK AT MOST 1048576: true; the input reads as it did. -/
def fnNewExpireDelegationTokenResponseUptoRow : OpenClaim := { program := "ytmbmcdifaakenaa", sum := "f954b7e5bc0371ba5b3d539a28a8b463fdcf554e1038d4ea0a4ff8b3402757df", func := "pub-kmsg/laws.FnNewExpireDelegationTokenResponse", spec := "fnNewExpireDelegationTokenResponse", inPlace := ["internal/reflectlite.ValueOf", "internal/reflectlite.Swapper", "(internal/reflectlite.Value).Len"], unfollowed := true, recurses := true, apart := false, narrowed := true }
def FnNewExpireDelegationTokenResponseUptoSaid : Prop := fnNewExpireDelegationTokenResponseUptoRow.holds Try.pinned (OpenSpec.upto fnNewExpireDelegationTokenResponseSpec)

/-- 'laws.FnNewDescribeTransactionsRequest', WHERE WHAT IT READS IS OF BULK AT MOST 1048576: true; the input reads as it did. -/
def fnNewDescribeTransactionsRequestUptoRow : OpenClaim := { program := "ytmbmcdifaakenaa", sum := "f954b7e5bc0371ba5b3d539a28a8b463fdcf554e1038d4ea0a4ff8b3402757df", func := "pub-kmsg/laws.FnNewDescribeTransactionsRequest", spec := "fnNewDescribeTransactionsRequest", inPlace := ["internal/reflectlite.ValueOf", "internal/reflectlite.Swapper", "(internal/reflectlite.Value).Len"], unfollowed := true, recurses := true, apart := false, narrowed := true }
def FnNewDescribeTransactionsRequestUptoSaid : Prop := fnNewDescribeTransactionsRequestUptoRow.holds Try.pinned (OpenSpec.upto fnNewDescribeTransactionsRequestSpec)

/-- 'laws.FnNewRemoveRaftVoterResponse', WHERE WHAT IT READS IS OF BULK AT MOST 1048576: true; the input reads as it did. -/
def fnNewRemoveRaftVoterResponseUptoRow : OpenClaim := { program := "ytmbmcdifaakenaa", sum := "f954b7e5bc0371ba5b3d539a28a8b463fdcf554e1038d4ea0a4ff8b3402757df", func := "pub-kmsg/laws.FnNewRemoveRaftVoterResponse", spec := "fnNewRemoveRaftVoterResponse", inPlace := ["internal/reflectlite.ValueOf", "internal/reflectlite.Swapper", "(internal/reflectlite.Value).Len"], unfollowed := true, recurses := true, apart := false, narrowed := true }
def FnNewRemoveRaftVoterResponseUptoSaid : Prop := fnNewRemoveRaftVoterResponseUptoRow.holds Try.pinned (OpenSpec.upto fnNewRemoveRaftVoterResponseSpec)

/-- 'laws.FnNewInitProducerIDRequest', WHERE WHAT IT READS IS OF BULK AT MOST 1048576: true; the input reads as it did. -/
def fnNewInitProducerIDRequestUptoRow : OpenClaim := { program := "ytmbmcdifaakenaa", sum := "f954b7e5bc0371ba5b3d539a28a8b463fdcf554e1038d4ea0a4ff8b3402757df", func := "pub-kmsg/laws.FnNewInitProducerIDRequest", spec := "fnNewInitProducerIDRequest", inPlace := ["internal/reflectlite.ValueOf", "internal/reflectlite.Swapper", "(internal/reflectlite.Value).Len"], unfollowed := true, recurses := true, apart := false, narrowed := true }
def FnNewInitProducerIDRequestUptoSaid : Prop := fnNewInitProducerIDRequestUptoRow.holds Try.pinned (OpenSpec.upto fnNewInitProducerIDRequestSpec)

/-- 'laws.FnNewDeleteShareGroupStateRequest', WHERE WHAT IT READS IS OF BULK AT MOST 1048576: true; the input reads as it did. -/
def fnNewDeleteShareGroupStateRequestUptoRow : OpenClaim := { program := "ytmbmcdifaakenaa", sum := "f954b7e5bc0371ba5b3d539a28a8b463fdcf554e1038d4ea0a4ff8b3402757df", func := "pub-kmsg/laws.FnNewDeleteShareGroupStateRequest", spec := "fnNewDeleteShareGroupStateRequest", inPlace := ["internal/reflectlite.ValueOf", "internal/reflectlite.Swapper", "(internal/reflectlite.Value).Len"], unfollowed := true, recurses := true, apart := false, narrowed := true }
def FnNewDeleteShareGroupStateRequestUptoSaid : Prop := fnNewDeleteShareGroupStateRequestUptoRow.holds Try.pinned (OpenSpec.upto fnNewDeleteShareGroupStateRequestSpec)

/-- 'laws.FnNewAlterReplicaLogDirsResponse', WHERE WHAT IT READS IS OF BULK AT MOST 1048576: true; the input reads as it did. -/
def fnNewAlterReplicaLogDirsResponseUptoRow : OpenClaim := { program := "ytmbmcdifaakenaa", sum := "f954b7e5bc0371ba5b3d539a28a8b463fdcf554e1038d4ea0a4ff8b3402757df", func := "pub-kmsg/laws.FnNewAlterReplicaLogDirsResponse", spec := "fnNewAlterReplicaLogDirsResponse", inPlace := ["internal/reflectlite.ValueOf", "internal/reflectlite.Swapper", "(internal/reflectlite.Value).Len"], unfollowed := true, recurses := true, apart := false, narrowed := true }
def FnNewAlterReplicaLogDirsResponseUptoSaid : Prop := fnNewAlterReplicaLogDirsResponseUptoRow.holds Try.pinned (OpenSpec.upto fnNewAlterReplicaLogDirsResponseSpec)

/-- 'laws.FnNewListGroupsResponse', WHERE WHAT IT READS IS OF BULK AT MOST 1048576: true; the input reads as it did. -/
def fnNewListGroupsResponseUptoRow : OpenClaim := { program := "ytmbmcdifaakenaa", sum := "f954b7e5bc0371ba5b3d539a28a8b463fdcf554e1038d4ea0a4ff8b3402757df", func := "pub-kmsg/laws.FnNewListGroupsResponse", spec := "fnNewListGroupsResponse", inPlace := ["internal/reflectlite.ValueOf", "internal/reflectlite.Swapper", "(internal/reflectlite.Value).Len"], unfollowed := true, recurses := true, apart := false, narrowed := true }
def FnNewListGroupsResponseUptoSaid : Prop := fnNewListGroupsResponseUptoRow.holds Try.pinned (OpenSpec.upto fnNewListGroupsResponseSpec)

/-- 'laws.FnNewTxnOffsetCommitResponse', WHERE WHAT IT READS IS OF BULK AT MOST 1048576: true; the input reads as it did. -/
def fnNewTxnOffsetCommitResponseUptoRow : OpenClaim := { program := "ytmbmcdifaakenaa", sum := "f954b7e5bc0371ba5b3d539a28a8b463fdcf554e1038d4ea0a4ff8b3402757df", func := "pub-kmsg/laws.FnNewTxnOffsetCommitResponse", spec := "fnNewTxnOffsetCommitResponse", inPlace := ["internal/reflectlite.ValueOf", "internal/reflectlite.Swapper", "(internal/reflectlite.Value).Len"], unfollowed := true, recurses := true, apart := false, narrowed := true }
def FnNewTxnOffsetCommitResponseUptoSaid : Prop := fnNewTxnOffsetCommitResponseUptoRow.holds Try.pinned (OpenSpec.upto fnNewTxnOffsetCommitResponseSpec)

/-- 'laws.FnNewShareGroupHeartbeatRequest', WHERE WHAT IT READS IS OF BULK AT MOST 1048576: true; the input reads as it did. -/
def fnNewShareGroupHeartbeatRequestUptoRow : OpenClaim := { program := "ytmbmcdifaakenaa", sum := "f954b7e5bc0371ba5b3d539a28a8b463fdcf554e1038d4ea0a4ff8b3402757df", func := "pub-kmsg/laws.FnNewShareGroupHeartbeatRequest", spec := "fnNewShareGroupHeartbeatRequest", inPlace := ["internal/reflectlite.ValueOf", "internal/reflectlite.Swapper", "(internal/reflectlite.Value).Len"], unfollowed := true, recurses := true, apart := false, narrowed := true }
def FnNewShareGroupHeartbeatRequestUptoSaid : Prop := fnNewShareGroupHeartbeatRequestUptoRow.holds Try.pinned (OpenSpec.upto fnNewShareGroupHeartbeatRequestSpec)

/-- 'laws.FnNewCreateDelegationTokenResponse', WHERE WHAT IT READS IS OF BULK AT MOST 1048576: true; the input reads as it did. -/
def fnNewCreateDelegationTokenResponseUptoRow : OpenClaim := { program := "ytmbmcdifaakenaa", sum := "f954b7e5bc0371ba5b3d539a28a8b463fdcf554e1038d4ea0a4ff8b3402757df", func := "pub-kmsg/laws.FnNewCreateDelegationTokenResponse", spec := "fnNewCreateDelegationTokenResponse", inPlace := ["internal/reflectlite.ValueOf", "internal/reflectlite.Swapper", "(internal/reflectlite.Value).Len"], unfollowed := true, recurses := true, apart := false, narrowed := true }
def FnNewCreateDelegationTokenResponseUptoSaid : Prop := fnNewCreateDelegationTokenResponseUptoRow.holds Try.pinned (OpenSpec.upto fnNewCreateDelegationTokenResponseSpec)

/-- 'laws.FnNewAddRaftVoterRequest', WHERE WHAT IT READS IS OF BULK AT MOST 1048576: true; the input reads as it did. -/
def fnNewAddRaftVoterRequestUptoRow : OpenClaim := { program := "ytmbmcdifaakenaa", sum := "f954b7e5bc0371ba5b3d539a28a8b463fdcf554e1038d4ea0a4ff8b3402757df", func := "pub-kmsg/laws.FnNewAddRaftVoterRequest", spec := "fnNewAddRaftVoterRequest", inPlace := ["internal/reflectlite.ValueOf", "internal/reflectlite.Swapper", "(internal/reflectlite.Value).Len"], unfollowed := true, recurses := true, apart := false, narrowed := true }
def FnNewAddRaftVoterRequestUptoSaid : Prop := fnNewAddRaftVoterRequestUptoRow.holds Try.pinned (OpenSpec.upto fnNewAddRaftVoterRequestSpec)

/-- 'laws.FnNewWriteShareGroupStateRequest', WHERE WHAT IT READS IS OF BULK AT MOST 1048576: true; the input reads as it did. -/
def fnNewWriteShareGroupStateRequestUptoRow : OpenClaim := { program := "ytmbmcdifaakenaa", sum := "f954b7e5bc0371ba5b3d539a28a8b463fdcf554e1038d4ea0a4ff8b3402757df", func := "pub-kmsg/laws.FnNewWriteShareGroupStateRequest", spec := "fnNewWriteShareGroupStateRequest", inPlace := ["internal/reflectlite.ValueOf", "internal/reflectlite.Swapper", "(internal/reflectlite.Value).Len"], unfollowed := true, recurses := true, apart := false, narrowed := true }
def FnNewWriteShareGroupStateRequestUptoSaid : Prop := fnNewWriteShareGroupStateRequestUptoRow.holds Try.pinned (OpenSpec.upto fnNewWriteShareGroupStateRequestSpec)

end Rows
end Go.Proofs.Ytmbmcdifaakenaa
