/-
  NARROWER THAN 'FOR EVERY INPUT', by the rows' own cells (each row's printed sentence says how): FnAgainEndTxnMarker: loops, laid · FnCutSASLHandshakeRequest: loops, laid · FnCutOffsetCommitKey: loops, laid · FnAnyConnectMemberMetadata: laid · FnAgainUnregisterBrokerRequest: loops, laid.
  DERIVED. THE GIVEN ROWS OF THIS SEAT. 5 by the template 'for every input the law returns true; each argument reads behind the call as it read before'; 0 by the template 'total and deterministic' (their statements: YtodmlklfjinonaaDoorTotals.lean).
  GIVEN WITH THE SEED: the statements are not yours to turn. If you find one false, say at which input.
  Laid BY PROGRAM, IN A SANDBOX (cutbox-rows.mjs): the forced cells as the released guide's own fill.sh prints them over the translation cc0839250e6a834f… (all of the seat's roots in one cut). By AI agents, Wed Nov 11 2026. No macro, syntax, notation, axiom, sorry.
-/
import Derived.Test.YtodmlklfjinonaaDoorChecked
import GoSem.Claim
import GoSem.ClaimJoined
import GoSem.ClaimMapViews
import Derived.JoinedTies
import Derived.KernelRfl
namespace Go.Proofs.YtodmlklfjinonaaDoor
/- THE CELL 'sum', in the pinned program and in every row, IS THE sha256 OF THE DUMP (.gsa) THAT YtodmlklfjinonaaDoorProg.lean LOADS. Nothing in Lean hashes anything: it is a label: what it is worth is what the hold of that sum in a sandbox is worth. -/
noncomputable def Tryd.pinned : Pinned := { name := "ytodmlklfjinonaadoor", sum := "cc0839250e6a834f4f97b332ee3ce06e957d641f37bcc896818973cf3855cddd", checked := Tryd.checked }
namespace Rows
def none {H : Type} : Left H := { results := [], args := [] }

/- WHAT THE LISTED PACKAGE-LEVEL VARIABLES READ AS WHEN THE CALL BEGINS. Each datum BY PROGRAM (the guide's laid-datum.mjs) off the statement by which the dump's own 'gosem.cut.vars' lays the variable. In a bare row this is a premise. The card (YtodmlklfjinonaaDoorCards.lean) ties it to the program's text. -/
def laid_pub_kmsg_pub_kmsg_inner_kbin_ErrNotEnoughData {H : Type} : DataW H := .iface "*errors.errorString" (.ptr (.agg [.lit (.string [114, 101, 115, 112, 111, 110, 115, 101, 32, 100, 105, 100, 32, 110, 111, 116, 32, 99, 111, 110, 116, 97, 105, 110, 32, 101, 110, 111, 117, 103, 104, 32, 100, 97, 116, 97, 32, 116, 111, 32, 98, 101, 32, 118, 97, 108, 105, 100])]))

/-- 'laws.FnAgainEndTxnMarker': WHATEVER THE INPUT: true; the input reads as it did. -/
def fnAgainEndTxnMarkerSpec : ChangeSpec := { name := "fnAgainEndTxnMarker", fn := fun _ => fun
  | [d1, d2] => { results := [.lit (.bool true)], args := [d1, d2] }
  | _ => none }
def fnAgainEndTxnMarkerRow : OpenClaim := { program := "ytodmlklfjinonaadoor", sum := "cc0839250e6a834f4f97b332ee3ce06e957d641f37bcc896818973cf3855cddd", func := "pub-kmsg/laws.FnAgainEndTxnMarker", spec := "fnAgainEndTxnMarker", recurses := true, named := ["encoding/binary.BigEndian", "pub-kmsg/pub/kmsg/inner/kbin.ErrNotEnoughData"], loops := true, apart := false, laid := [("pub-kmsg/pub/kmsg/inner/kbin.ErrNotEnoughData", laid_pub_kmsg_pub_kmsg_inner_kbin_ErrNotEnoughData)] }
def FnAgainEndTxnMarkerSaid : Prop := fnAgainEndTxnMarkerRow.holds Tryd.pinned (OpenSpec.ofChange fnAgainEndTxnMarkerSpec)

/-- ITS FALSE NEIGHBOUR: 'it returns false'. Refute it at one input. -/
def fnAgainEndTxnMarkerWrong : ChangeSpec := { name := "fnAgainEndTxnMarker", fn := fun _ => fun
  | [d1, d2] => { results := [.lit (.bool false)], args := [d1, d2] }
  | _ => none }
def FnAgainEndTxnMarkerWrongFalsely : Prop := fnAgainEndTxnMarkerRow.holds Tryd.pinned (OpenSpec.ofChange fnAgainEndTxnMarkerWrong)

/-- 'laws.FnCutSASLHandshakeRequest': WHATEVER THE INPUT: true; the input reads as it did. -/
def fnCutSASLHandshakeRequestSpec : ChangeSpec := { name := "fnCutSASLHandshakeRequest", fn := fun _ => fun
  | [d1, d2, d3] => { results := [.lit (.bool true)], args := [d1, d2, d3] }
  | _ => none }
def fnCutSASLHandshakeRequestRow : OpenClaim := { program := "ytodmlklfjinonaadoor", sum := "cc0839250e6a834f4f97b332ee3ce06e957d641f37bcc896818973cf3855cddd", func := "pub-kmsg/laws.FnCutSASLHandshakeRequest", spec := "fnCutSASLHandshakeRequest", recurses := true, named := ["encoding/binary.BigEndian", "pub-kmsg/pub/kmsg/inner/kbin.ErrNotEnoughData"], loops := true, apart := false, laid := [("pub-kmsg/pub/kmsg/inner/kbin.ErrNotEnoughData", laid_pub_kmsg_pub_kmsg_inner_kbin_ErrNotEnoughData)] }
def FnCutSASLHandshakeRequestSaid : Prop := fnCutSASLHandshakeRequestRow.holds Tryd.pinned (OpenSpec.ofChange fnCutSASLHandshakeRequestSpec)

/-- ITS FALSE NEIGHBOUR: 'it returns false'. Refute it at one input. -/
def fnCutSASLHandshakeRequestWrong : ChangeSpec := { name := "fnCutSASLHandshakeRequest", fn := fun _ => fun
  | [d1, d2, d3] => { results := [.lit (.bool false)], args := [d1, d2, d3] }
  | _ => none }
def FnCutSASLHandshakeRequestWrongFalsely : Prop := fnCutSASLHandshakeRequestRow.holds Tryd.pinned (OpenSpec.ofChange fnCutSASLHandshakeRequestWrong)

/-- 'laws.FnCutOffsetCommitKey': WHATEVER THE INPUT: true; the input reads as it did. -/
def fnCutOffsetCommitKeySpec : ChangeSpec := { name := "fnCutOffsetCommitKey", fn := fun _ => fun
  | [d1, d2, d3] => { results := [.lit (.bool true)], args := [d1, d2, d3] }
  | _ => none }
def fnCutOffsetCommitKeyRow : OpenClaim := { program := "ytodmlklfjinonaadoor", sum := "cc0839250e6a834f4f97b332ee3ce06e957d641f37bcc896818973cf3855cddd", func := "pub-kmsg/laws.FnCutOffsetCommitKey", spec := "fnCutOffsetCommitKey", recurses := true, named := ["encoding/binary.BigEndian", "pub-kmsg/pub/kmsg/inner/kbin.ErrNotEnoughData"], loops := true, apart := false, laid := [("pub-kmsg/pub/kmsg/inner/kbin.ErrNotEnoughData", laid_pub_kmsg_pub_kmsg_inner_kbin_ErrNotEnoughData)] }
def FnCutOffsetCommitKeySaid : Prop := fnCutOffsetCommitKeyRow.holds Tryd.pinned (OpenSpec.ofChange fnCutOffsetCommitKeySpec)

/-- ITS FALSE NEIGHBOUR: 'it returns false'. Refute it at one input. -/
def fnCutOffsetCommitKeyWrong : ChangeSpec := { name := "fnCutOffsetCommitKey", fn := fun _ => fun
  | [d1, d2, d3] => { results := [.lit (.bool false)], args := [d1, d2, d3] }
  | _ => none }
def FnCutOffsetCommitKeyWrongFalsely : Prop := fnCutOffsetCommitKeyRow.holds Tryd.pinned (OpenSpec.ofChange fnCutOffsetCommitKeyWrong)

/-- 'laws.FnAnyConnectMemberMetadata': WHATEVER THE INPUT: true; the input reads as it did. -/
def fnAnyConnectMemberMetadataSpec : ChangeSpec := { name := "fnAnyConnectMemberMetadata", fn := fun _ => fun
  | [d] => { results := [.lit (.bool true)], args := [d] }
  | _ => none }
def fnAnyConnectMemberMetadataRow : OpenClaim := { program := "ytodmlklfjinonaadoor", sum := "cc0839250e6a834f4f97b332ee3ce06e957d641f37bcc896818973cf3855cddd", func := "pub-kmsg/laws.FnAnyConnectMemberMetadata", spec := "fnAnyConnectMemberMetadata", recurses := true, named := ["encoding/binary.BigEndian", "pub-kmsg/pub/kmsg/inner/kbin.ErrNotEnoughData"], apart := false, laid := [("pub-kmsg/pub/kmsg/inner/kbin.ErrNotEnoughData", laid_pub_kmsg_pub_kmsg_inner_kbin_ErrNotEnoughData)] }
def FnAnyConnectMemberMetadataSaid : Prop := fnAnyConnectMemberMetadataRow.holds Tryd.pinned (OpenSpec.ofChange fnAnyConnectMemberMetadataSpec)

/-- ITS FALSE NEIGHBOUR: 'it returns false'. Refute it at one input. -/
def fnAnyConnectMemberMetadataWrong : ChangeSpec := { name := "fnAnyConnectMemberMetadata", fn := fun _ => fun
  | [d] => { results := [.lit (.bool false)], args := [d] }
  | _ => none }
def FnAnyConnectMemberMetadataWrongFalsely : Prop := fnAnyConnectMemberMetadataRow.holds Tryd.pinned (OpenSpec.ofChange fnAnyConnectMemberMetadataWrong)

/-- 'laws.FnAgainUnregisterBrokerRequest': WHATEVER THE INPUT: true; the input reads as it did. -/
def fnAgainUnregisterBrokerRequestSpec : ChangeSpec := { name := "fnAgainUnregisterBrokerRequest", fn := fun _ => fun
  | [d1, d2] => { results := [.lit (.bool true)], args := [d1, d2] }
  | _ => none }
def fnAgainUnregisterBrokerRequestRow : OpenClaim := { program := "ytodmlklfjinonaadoor", sum := "cc0839250e6a834f4f97b332ee3ce06e957d641f37bcc896818973cf3855cddd", func := "pub-kmsg/laws.FnAgainUnregisterBrokerRequest", spec := "fnAgainUnregisterBrokerRequest", inPlace := ["internal/reflectlite.ValueOf", "internal/reflectlite.Swapper", "(internal/reflectlite.Value).Len"], unfollowed := true, recurses := true, named := ["encoding/binary.BigEndian", "pub-kmsg/pub/kmsg/inner/kbin.ErrNotEnoughData"], loops := true, apart := false, laid := [("pub-kmsg/pub/kmsg/inner/kbin.ErrNotEnoughData", laid_pub_kmsg_pub_kmsg_inner_kbin_ErrNotEnoughData)] }
def FnAgainUnregisterBrokerRequestSaid : Prop := fnAgainUnregisterBrokerRequestRow.holds Tryd.pinned (OpenSpec.ofChange fnAgainUnregisterBrokerRequestSpec)

/-- ITS FALSE NEIGHBOUR: 'it returns false'. Refute it at one input. -/
def fnAgainUnregisterBrokerRequestWrong : ChangeSpec := { name := "fnAgainUnregisterBrokerRequest", fn := fun _ => fun
  | [d1, d2] => { results := [.lit (.bool false)], args := [d1, d2] }
  | _ => none }
def FnAgainUnregisterBrokerRequestWrongFalsely : Prop := fnAgainUnregisterBrokerRequestRow.holds Tryd.pinned (OpenSpec.ofChange fnAgainUnregisterBrokerRequestWrong)

/- THE SECOND FORM. 'bulk': how many values and letters a reading holds, each counted each time it is reached (what is shared counts as often as it is met; a slice's spare places count too). A statement '..UptoSaid' is the law's where the arguments, and the package variables that the reading takes, are together of bulk at most 1048576: NARROWER than '..Said'. Prove '..Said' where nothing that the law and all that it calls make is longer than what came in: it says more and counts as full. Else prove '..UptoSaid'. A law counts once. -/
mutual
def uptoBulk {H : Type} : DataW H → Nat
  | .lit (.string bytes) => bytes.length + 1
  | .lit _ => 1
  | .nil => 1
  | .ptr d => uptoBulk d + 1
  | .slice elems spare => uptoBulkAll elems + uptoBulkAll spare + 1
  | .agg parts => uptoBulkAll parts + 1
  | .iface _ d => uptoBulk d + 1
  | .map entries => uptoBulkEntries entries + 1
  | .held _ => 1
def uptoBulkAll {H : Type} : List (DataW H) → Nat
  | [] => 0
  | d :: r => uptoBulk d + uptoBulkAll r
def uptoBulkEntries {H : Type} : List (Lit × DataW H) → Nat
  | [] => 0
  | x :: r => uptoBulkEntry x + uptoBulkEntries r
def uptoBulkEntry {H : Type} : Lit × DataW H → Nat
  | (.string bytes, d) => bytes.length + uptoBulk d + 1
  | (_, d) => uptoBulk d + 1
 end
def uptoSmall : (H : Type) → List (DataW H) → Bool := fun _ ds => decide (uptoBulkAll ds ≤ 1048576)
def OpenSpec.upto (s : _root_.Go.ChangeSpec) : _root_.Go.OpenSpec := { _root_.Go.OpenSpec.ofChange s with cond := some uptoSmall }

/-- 'laws.FnAgainEndTxnMarker', WHERE WHAT IT READS IS OF BULK AT MOST 1048576: true; the input reads as it did. -/
def fnAgainEndTxnMarkerUptoRow : OpenClaim := { program := "ytodmlklfjinonaadoor", sum := "cc0839250e6a834f4f97b332ee3ce06e957d641f37bcc896818973cf3855cddd", func := "pub-kmsg/laws.FnAgainEndTxnMarker", spec := "fnAgainEndTxnMarker", recurses := true, named := ["encoding/binary.BigEndian", "pub-kmsg/pub/kmsg/inner/kbin.ErrNotEnoughData"], loops := true, apart := false, laid := [("pub-kmsg/pub/kmsg/inner/kbin.ErrNotEnoughData", laid_pub_kmsg_pub_kmsg_inner_kbin_ErrNotEnoughData)], narrowed := true }
def FnAgainEndTxnMarkerUptoSaid : Prop := fnAgainEndTxnMarkerUptoRow.holds Tryd.pinned (OpenSpec.upto fnAgainEndTxnMarkerSpec)

/-- 'laws.FnCutSASLHandshakeRequest', WHERE WHAT IT READS IS OF BULK AT MOST 1048576: true; the input reads as it did. -/
def fnCutSASLHandshakeRequestUptoRow : OpenClaim := { program := "ytodmlklfjinonaadoor", sum := "cc0839250e6a834f4f97b332ee3ce06e957d641f37bcc896818973cf3855cddd", func := "pub-kmsg/laws.FnCutSASLHandshakeRequest", spec := "fnCutSASLHandshakeRequest", recurses := true, named := ["encoding/binary.BigEndian", "pub-kmsg/pub/kmsg/inner/kbin.ErrNotEnoughData"], loops := true, apart := false, laid := [("pub-kmsg/pub/kmsg/inner/kbin.ErrNotEnoughData", laid_pub_kmsg_pub_kmsg_inner_kbin_ErrNotEnoughData)], narrowed := true }
def FnCutSASLHandshakeRequestUptoSaid : Prop := fnCutSASLHandshakeRequestUptoRow.holds Tryd.pinned (OpenSpec.upto fnCutSASLHandshakeRequestSpec)

/-- 'laws.FnCutOffsetCommitKey', WHERE WHAT IT READS IS OF BULK AT MOST 1048576: true; the input reads as it did. -/
def fnCutOffsetCommitKeyUptoRow : OpenClaim := { program := "ytodmlklfjinonaadoor", sum := "cc0839250e6a834f4f97b332ee3ce06e957d641f37bcc896818973cf3855cddd", func := "pub-kmsg/laws.FnCutOffsetCommitKey", spec := "fnCutOffsetCommitKey", recurses := true, named := ["encoding/binary.BigEndian", "pub-kmsg/pub/kmsg/inner/kbin.ErrNotEnoughData"], loops := true, apart := false, laid := [("pub-kmsg/pub/kmsg/inner/kbin.ErrNotEnoughData", laid_pub_kmsg_pub_kmsg_inner_kbin_ErrNotEnoughData)], narrowed := true }
def FnCutOffsetCommitKeyUptoSaid : Prop := fnCutOffsetCommitKeyUptoRow.holds Tryd.pinned (OpenSpec.upto fnCutOffsetCommitKeySpec)

/-- 'laws.FnAnyConnectMemberMetadata', WHERE WHAT IT READS IS OF BULK AT MOST 1048576: true; the input reads as it did. -/
def fnAnyConnectMemberMetadataUptoRow : OpenClaim := { program := "ytodmlklfjinonaadoor", sum := "cc0839250e6a834f4f97b332ee3ce06e957d641f37bcc896818973cf3855cddd", func := "pub-kmsg/laws.FnAnyConnectMemberMetadata", spec := "fnAnyConnectMemberMetadata", recurses := true, named := ["encoding/binary.BigEndian", "pub-kmsg/pub/kmsg/inner/kbin.ErrNotEnoughData"], apart := false, laid := [("pub-kmsg/pub/kmsg/inner/kbin.ErrNotEnoughData", laid_pub_kmsg_pub_kmsg_inner_kbin_ErrNotEnoughData)], narrowed := true }
def FnAnyConnectMemberMetadataUptoSaid : Prop := fnAnyConnectMemberMetadataUptoRow.holds Tryd.pinned (OpenSpec.upto fnAnyConnectMemberMetadataSpec)

/-- 'laws.FnAgainUnregisterBrokerRequest', WHERE WHAT IT READS IS OF BULK AT MOST 1048576: true; the input reads as it did. -/
def fnAgainUnregisterBrokerRequestUptoRow : OpenClaim := { program := "ytodmlklfjinonaadoor", sum := "cc0839250e6a834f4f97b332ee3ce06e957d641f37bcc896818973cf3855cddd", func := "pub-kmsg/laws.FnAgainUnregisterBrokerRequest", spec := "fnAgainUnregisterBrokerRequest", inPlace := ["internal/reflectlite.ValueOf", "internal/reflectlite.Swapper", "(internal/reflectlite.Value).Len"], unfollowed := true, recurses := true, named := ["encoding/binary.BigEndian", "pub-kmsg/pub/kmsg/inner/kbin.ErrNotEnoughData"], loops := true, apart := false, laid := [("pub-kmsg/pub/kmsg/inner/kbin.ErrNotEnoughData", laid_pub_kmsg_pub_kmsg_inner_kbin_ErrNotEnoughData)], narrowed := true }
def FnAgainUnregisterBrokerRequestUptoSaid : Prop := fnAgainUnregisterBrokerRequestUptoRow.holds Tryd.pinned (OpenSpec.upto fnAgainUnregisterBrokerRequestSpec)

end Rows
end Go.Proofs.YtodmlklfjinonaaDoor
