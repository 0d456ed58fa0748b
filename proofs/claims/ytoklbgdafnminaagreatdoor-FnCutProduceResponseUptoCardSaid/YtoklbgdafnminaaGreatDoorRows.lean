/-
  NARROWER THAN 'FOR EVERY INPUT', by the rows' own cells (each row's printed sentence says how): FnCutJoinGroupResponse: loops, laid · FnAgainOffsetFetchResponse: loops, laid · FnCutProduceResponse: loops, laid · FnAgainFetchRequest: loops, laid.
  DERIVED. THE GIVEN ROWS OF THIS SEAT. 4 by the template 'for every input the law returns true; each argument reads behind the call as it read before'; 0 by the template 'total and deterministic' (their statements: YtoklbgdafnminaaGreatDoorTotals.lean).
  GIVEN WITH THE SEED: the statements are not yours to turn. If you find one false, say at which input.
  Laid BY PROGRAM, IN A SANDBOX (cutbox-rows.mjs): the forced cells as the released guide's own fill.sh prints them over the translation 75bfbd7a4e2fb493… (all of the seat's roots in one cut). By AI agents, Wed Nov 11 2026. No macro, syntax, notation, axiom, sorry.
-/
import Derived.Test.YtoklbgdafnminaaGreatDoorChecked
import GoSem.Claim
import GoSem.ClaimJoined
import GoSem.ClaimMapViews
import Derived.JoinedTies
import Derived.KernelRfl
namespace Go.Proofs.YtoklbgdafnminaaGreatDoor
/- THE CELL 'sum', in the pinned program and in every row, IS THE sha256 OF THE DUMP (.gsa) THAT YtoklbgdafnminaaGreatDoorProg.lean LOADS. Nothing in Lean hashes anything: it is a label: what it is worth is what the hold of that sum in a sandbox is worth. -/
noncomputable def Tryz.pinned : Pinned := { name := "ytoklbgdafnminaagreatdoor", sum := "75bfbd7a4e2fb49363b266a6f8e63b3db8ef767a862e0d2026f345a441512cfc", checked := Tryz.checked }
namespace Rows
def none {H : Type} : Left H := { results := [], args := [] }

/- WHAT THE LISTED PACKAGE-LEVEL VARIABLES READ AS WHEN THE CALL BEGINS. Each datum BY PROGRAM (the guide's laid-datum.mjs) off the statement by which the dump's own 'gosem.cut.vars' lays the variable. In a bare row this is a premise. The card (YtoklbgdafnminaaGreatDoorCards.lean) ties it to the program's text. -/
def laid_pub_kmsg_pub_kmsg_inner_kbin_ErrNotEnoughData {H : Type} : DataW H := .iface "*errors.errorString" (.ptr (.agg [.lit (.string [114, 101, 115, 112, 111, 110, 115, 101, 32, 100, 105, 100, 32, 110, 111, 116, 32, 99, 111, 110, 116, 97, 105, 110, 32, 101, 110, 111, 117, 103, 104, 32, 100, 97, 116, 97, 32, 116, 111, 32, 98, 101, 32, 118, 97, 108, 105, 100])]))

/-- 'laws.FnCutJoinGroupResponse': WHATEVER THE INPUT: true; the input reads as it did. -/
def fnCutJoinGroupResponseSpec : ChangeSpec := { name := "fnCutJoinGroupResponse", fn := fun _ => fun
  | [d1, d2, d3] => { results := [.lit (.bool true)], args := [d1, d2, d3] }
  | _ => none }
def fnCutJoinGroupResponseRow : OpenClaim := { program := "ytoklbgdafnminaagreatdoor", sum := "75bfbd7a4e2fb49363b266a6f8e63b3db8ef767a862e0d2026f345a441512cfc", func := "pub-kmsg/laws.FnCutJoinGroupResponse", spec := "fnCutJoinGroupResponse", inPlace := ["internal/reflectlite.ValueOf", "internal/reflectlite.Swapper", "(internal/reflectlite.Value).Len"], unfollowed := true, recurses := true, named := ["encoding/binary.BigEndian", "pub-kmsg/pub/kmsg/inner/kbin.ErrNotEnoughData"], loops := true, apart := false, laid := [("pub-kmsg/pub/kmsg/inner/kbin.ErrNotEnoughData", laid_pub_kmsg_pub_kmsg_inner_kbin_ErrNotEnoughData)] }
def FnCutJoinGroupResponseSaid : Prop := fnCutJoinGroupResponseRow.holds Tryz.pinned (OpenSpec.ofChange fnCutJoinGroupResponseSpec)

/-- ITS FALSE NEIGHBOUR: 'it returns false'. Refute it at one input. -/
def fnCutJoinGroupResponseWrong : ChangeSpec := { name := "fnCutJoinGroupResponse", fn := fun _ => fun
  | [d1, d2, d3] => { results := [.lit (.bool false)], args := [d1, d2, d3] }
  | _ => none }
def FnCutJoinGroupResponseWrongFalsely : Prop := fnCutJoinGroupResponseRow.holds Tryz.pinned (OpenSpec.ofChange fnCutJoinGroupResponseWrong)

/-- 'laws.FnAgainOffsetFetchResponse': WHATEVER THE INPUT: true; the input reads as it did. -/
def fnAgainOffsetFetchResponseSpec : ChangeSpec := { name := "fnAgainOffsetFetchResponse", fn := fun _ => fun
  | [d1, d2] => { results := [.lit (.bool true)], args := [d1, d2] }
  | _ => none }
def fnAgainOffsetFetchResponseRow : OpenClaim := { program := "ytoklbgdafnminaagreatdoor", sum := "75bfbd7a4e2fb49363b266a6f8e63b3db8ef767a862e0d2026f345a441512cfc", func := "pub-kmsg/laws.FnAgainOffsetFetchResponse", spec := "fnAgainOffsetFetchResponse", inPlace := ["internal/reflectlite.ValueOf", "internal/reflectlite.Swapper", "(internal/reflectlite.Value).Len"], unfollowed := true, recurses := true, named := ["encoding/binary.BigEndian", "pub-kmsg/pub/kmsg/inner/kbin.ErrNotEnoughData"], loops := true, apart := false, laid := [("pub-kmsg/pub/kmsg/inner/kbin.ErrNotEnoughData", laid_pub_kmsg_pub_kmsg_inner_kbin_ErrNotEnoughData)] }
def FnAgainOffsetFetchResponseSaid : Prop := fnAgainOffsetFetchResponseRow.holds Tryz.pinned (OpenSpec.ofChange fnAgainOffsetFetchResponseSpec)

/-- ITS FALSE NEIGHBOUR: 'it returns false'. Refute it at one input. -/
def fnAgainOffsetFetchResponseWrong : ChangeSpec := { name := "fnAgainOffsetFetchResponse", fn := fun _ => fun
  | [d1, d2] => { results := [.lit (.bool false)], args := [d1, d2] }
  | _ => none }
def FnAgainOffsetFetchResponseWrongFalsely : Prop := fnAgainOffsetFetchResponseRow.holds Tryz.pinned (OpenSpec.ofChange fnAgainOffsetFetchResponseWrong)

/-- 'laws.FnCutProduceResponse': WHATEVER THE INPUT: true; the input reads as it did. -/
def fnCutProduceResponseSpec : ChangeSpec := { name := "fnCutProduceResponse", fn := fun _ => fun
  | [d1, d2, d3] => { results := [.lit (.bool true)], args := [d1, d2, d3] }
  | _ => none }
def fnCutProduceResponseRow : OpenClaim := { program := "ytoklbgdafnminaagreatdoor", sum := "75bfbd7a4e2fb49363b266a6f8e63b3db8ef767a862e0d2026f345a441512cfc", func := "pub-kmsg/laws.FnCutProduceResponse", spec := "fnCutProduceResponse", inPlace := ["internal/reflectlite.ValueOf", "internal/reflectlite.Swapper", "(internal/reflectlite.Value).Len"], unfollowed := true, recurses := true, named := ["encoding/binary.BigEndian", "pub-kmsg/pub/kmsg/inner/kbin.ErrNotEnoughData"], loops := true, apart := false, laid := [("pub-kmsg/pub/kmsg/inner/kbin.ErrNotEnoughData", laid_pub_kmsg_pub_kmsg_inner_kbin_ErrNotEnoughData)] }
def FnCutProduceResponseSaid : Prop := fnCutProduceResponseRow.holds Tryz.pinned (OpenSpec.ofChange fnCutProduceResponseSpec)

/-- ITS FALSE NEIGHBOUR: 'it returns false'. Refute it at one input. -/
def fnCutProduceResponseWrong : ChangeSpec := { name := "fnCutProduceResponse", fn := fun _ => fun
  | [d1, d2, d3] => { results := [.lit (.bool false)], args := [d1, d2, d3] }
  | _ => none }
def FnCutProduceResponseWrongFalsely : Prop := fnCutProduceResponseRow.holds Tryz.pinned (OpenSpec.ofChange fnCutProduceResponseWrong)

/-- 'laws.FnAgainFetchRequest': WHATEVER THE INPUT: true; the input reads as it did. -/
def fnAgainFetchRequestSpec : ChangeSpec := { name := "fnAgainFetchRequest", fn := fun _ => fun
  | [d1, d2] => { results := [.lit (.bool true)], args := [d1, d2] }
  | _ => none }
def fnAgainFetchRequestRow : OpenClaim := { program := "ytoklbgdafnminaagreatdoor", sum := "75bfbd7a4e2fb49363b266a6f8e63b3db8ef767a862e0d2026f345a441512cfc", func := "pub-kmsg/laws.FnAgainFetchRequest", spec := "fnAgainFetchRequest", inPlace := ["internal/reflectlite.ValueOf", "internal/reflectlite.Swapper", "(internal/reflectlite.Value).Len"], unfollowed := true, recurses := true, named := ["encoding/binary.BigEndian", "pub-kmsg/pub/kmsg/inner/kbin.ErrNotEnoughData"], loops := true, apart := false, laid := [("pub-kmsg/pub/kmsg/inner/kbin.ErrNotEnoughData", laid_pub_kmsg_pub_kmsg_inner_kbin_ErrNotEnoughData)] }
def FnAgainFetchRequestSaid : Prop := fnAgainFetchRequestRow.holds Tryz.pinned (OpenSpec.ofChange fnAgainFetchRequestSpec)

/-- ITS FALSE NEIGHBOUR: 'it returns false'. Refute it at one input. -/
def fnAgainFetchRequestWrong : ChangeSpec := { name := "fnAgainFetchRequest", fn := fun _ => fun
  | [d1, d2] => { results := [.lit (.bool false)], args := [d1, d2] }
  | _ => none }
def FnAgainFetchRequestWrongFalsely : Prop := fnAgainFetchRequestRow.holds Tryz.pinned (OpenSpec.ofChange fnAgainFetchRequestWrong)

/- THE SECOND FORM. 'bulk': how many values and letters a reading holds, each counted each time it is reached (what is shared counts as often as it is met; a slice's spare places count too). A statement '..UptoSaid' is the law's where the arguments, and the package variables that the reading takes, are together of bulk at most 1048576: NARROWER than '..Said'. Prove '..Said' where nothing that the law and all that it calls make is longer than what came in: it says more and counts as full. Else prove '..UptoSaid'. A law counts once. -/
mutual
def uptoBulk {H : Type} : DataW H → Nat
  | .lit (.string bytes) => bytes.length + 1
  | .lit _ => 1
  | .nil => 1
  | .ptr d => uptoBulk d + 1
  | .slice elems spare => uptoBulkAll elems + uptoBulkAll spare + 1
  | .agg parts => uptoBulkAll parts + 1
  | .iface _ d => uptoBulk d + 1
  | .map entries => uptoBulkEntries entries + 1
  | .held _ => 1
def uptoBulkAll {H : Type} : List (DataW H) → Nat
  | [] => 0
  | d :: r => uptoBulk d + uptoBulkAll r
def uptoBulkEntries {H : Type} : List (Lit × DataW H) → Nat
  | [] => 0
  | x :: r => uptoBulkEntry x + uptoBulkEntries r
def uptoBulkEntry {H : Type} : Lit × DataW H → Nat
  | (.string bytes, d) => bytes.length + uptoBulk d + 1
  | (_, d) => uptoBulk d + 1
 end
def uptoSmall : (H : Type) → List (DataW H) → Bool := fun _ ds => decide (uptoBulkAll ds ≤ 1048576)
def OpenSpec.upto (s : _root_.Go.ChangeSpec) : _root_.Go.OpenSpec := { _root_.Go.OpenSpec.ofChange s with cond := some uptoSmall }

/-- 'laws.FnCutJoinGroupResponse', WHERE WHAT IT READS IS OF BULK AT MOST 1048576: true; the input reads as it did. -/
def fnCutJoinGroupResponseUptoRow : OpenClaim := { program := "ytoklbgdafnminaagreatdoor", sum := "75bfbd7a4e2fb49363b266a6f8e63b3db8ef767a862e0d2026f345a441512cfc", func := "pub-kmsg/laws.FnCutJoinGroupResponse", spec := "fnCutJoinGroupResponse", inPlace := ["internal/reflectlite.ValueOf", "internal/reflectlite.Swapper", "(internal/reflectlite.Value).Len"], unfollowed := true, recurses := true, named := ["encoding/binary.BigEndian", "pub-kmsg/pub/kmsg/inner/kbin.ErrNotEnoughData"], loops := true, apart := false, laid := [("pub-kmsg/pub/kmsg/inner/kbin.ErrNotEnoughData", laid_pub_kmsg_pub_kmsg_inner_kbin_ErrNotEnoughData)], narrowed := true }
def FnCutJoinGroupResponseUptoSaid : Prop := fnCutJoinGroupResponseUptoRow.holds Tryz.pinned (OpenSpec.upto fnCutJoinGroupResponseSpec)

/-- 'laws.FnAgainOffsetFetchResponse', WHERE WHAT IT READS IS OF BULK AT MOST 1048576: true; the input reads as it did. -/
def fnAgainOffsetFetchResponseUptoRow : OpenClaim := { program := "ytoklbgdafnminaagreatdoor", sum := "75bfbd7a4e2fb49363b266a6f8e63b3db8ef767a862e0d2026f345a441512cfc", func := "pub-kmsg/laws.FnAgainOffsetFetchResponse", spec := "fnAgainOffsetFetchResponse", inPlace := ["internal/reflectlite.ValueOf", "internal/reflectlite.Swapper", "(internal/reflectlite.Value).Len"], unfollowed := true, recurses := true, named := ["encoding/binary.BigEndian", "pub-kmsg/pub/kmsg/inner/kbin.ErrNotEnoughData"], loops := true, apart := false, laid := [("pub-kmsg/pub/kmsg/inner/kbin.ErrNotEnoughData", laid_pub_kmsg_pub_kmsg_inner_kbin_ErrNotEnoughData)], narrowed := true }
def FnAgainOffsetFetchResponseUptoSaid : Prop := fnAgainOffsetFetchResponseUptoRow.holds Tryz.pinned (OpenSpec.upto fnAgainOffsetFetchResponseSpec)

/-- 'laws.FnCutProduceResponse', WHERE WHAT IT READS IS OF BULK AT MOST 1048576: true; the input reads as it did. -/
def fnCutProduceResponseUptoRow : OpenClaim := { program := "ytoklbgdafnminaagreatdoor", sum := "75bfbd7a4e2fb49363b266a6f8e63b3db8ef767a862e0d2026f345a441512cfc", func := "pub-kmsg/laws.FnCutProduceResponse", spec := "fnCutProduceResponse", inPlace := ["internal/reflectlite.ValueOf", "internal/reflectlite.Swapper", "(internal/reflectlite.Value).Len"], unfollowed := true, recurses := true, named := ["encoding/binary.BigEndian", "pub-kmsg/pub/kmsg/inner/kbin.ErrNotEnoughData"], loops := true, apart := false, laid := [("pub-kmsg/pub/kmsg/inner/kbin.ErrNotEnoughData", laid_pub_kmsg_pub_kmsg_inner_kbin_ErrNotEnoughData)], narrowed := true }
def FnCutProduceResponseUptoSaid : Prop := fnCutProduceResponseUptoRow.holds Tryz.pinned (OpenSpec.upto fnCutProduceResponseSpec)

/-- 'laws.FnAgainFetchRequest', WHERE WHAT IT READS IS OF BULK AT MOST 1048576: true; the input reads as it did. -/
def fnAgainFetchRequestUptoRow : OpenClaim := { program := "ytoklbgdafnminaagreatdoor", sum := "75bfbd7a4e2fb49363b266a6f8e63b3db8ef767a862e0d2026f345a441512cfc", func := "pub-kmsg/laws.FnAgainFetchRequest", spec := "fnAgainFetchRequest", inPlace := ["internal/reflectlite.ValueOf", "internal/reflectlite.Swapper", "(internal/reflectlite.Value).Len"], unfollowed := true, recurses := true, named := ["encoding/binary.BigEndian", "pub-kmsg/pub/kmsg/inner/kbin.ErrNotEnoughData"], loops := true, apart := false, laid := [("pub-kmsg/pub/kmsg/inner/kbin.ErrNotEnoughData", laid_pub_kmsg_pub_kmsg_inner_kbin_ErrNotEnoughData)], narrowed := true }
def FnAgainFetchRequestUptoSaid : Prop := fnAgainFetchRequestUptoRow.holds Tryz.pinned (OpenSpec.upto fnAgainFetchRequestSpec)

end Rows
end Go.Proofs.YtoklbgdafnminaaGreatDoor
