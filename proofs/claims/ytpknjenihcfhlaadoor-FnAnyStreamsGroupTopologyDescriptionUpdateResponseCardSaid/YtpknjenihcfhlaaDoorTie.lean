/-
  DERIVED. GIVEN WITH THE SEED: THE PROGRAM's TIES (one call each: nine closed facts by the kernel) AND EACH ROW's TIE, after the 31st guide's Derived/Test/Toyas{Tie, Card}.lean. No idea stands in it: it is a product of the set-up. Laid BY PROGRAM, IN A SANDBOX (cutbox-door.mjs). By AI agents, Wed Nov 11 2026. No macro, syntax, notation, axiom, sorry.
-/
import Derived.Test.YtpknjenihcfhlaaDoorRows
import Derived.LaidByTextLater
import Derived.SevenTiedAt
import Derived.LaidSub
import Derived.LaidOnce
namespace Go.Proofs.YtpknjenihcfhlaaDoor
open Go
set_option maxRecDepth 100000
theorem seatTie1 : Tryd.prog.laidByTextLater [("pub-kmsg/pub/kmsg/inner/kbin.ErrNotEnoughData", Rows.laid_pub_kmsg_pub_kmsg_inner_kbin_ErrNotEnoughData)] [.sentinel] true :=
  Program.laidByTextLater_by_one 28 8 2 (by kernel_rfl) (by kernel_rfl) (by kernel_rfl) (by kernel_rfl) (by kernel_rfl) (by kernel_rfl) (fun _ _ => by kernel_rfl)
theorem noOwnUnsafe : Tryd.pinned.checked.prog.headLifts.contains "ownunsafe" = false := by kernel_rfl
theorem tie : Tryd.prog.laidByTextLater [("pub-kmsg/pub/kmsg/inner/kbin.ErrNotEnoughData", Rows.laid_pub_kmsg_pub_kmsg_inner_kbin_ErrNotEnoughData)] [.sentinel] true :=
  Program.laidByTextLater.sub seatTie1 ["pub-kmsg/pub/kmsg/inner/kbin.ErrNotEnoughData"] (by kernel_rfl) (by kernel_rfl)
theorem fnAnyControllerRegistrationResponse_row_tie : Rows.fnAnyControllerRegistrationResponseRow.laidByTextAt .later Tryd.pinned [.sentinel] true :=
  OpenClaim.laidByTextAt_later rfl rfl tie noOwnUnsafe
theorem fnAnyAddOffsetsToTxnRequest_row_tie : Rows.fnAnyAddOffsetsToTxnRequestRow.laidByTextAt .later Tryd.pinned [.sentinel] true :=
  OpenClaim.laidByTextAt_later rfl rfl tie noOwnUnsafe
theorem fnAnyStreamsGroupTopologyDescriptionUpdateResponse_row_tie : Rows.fnAnyStreamsGroupTopologyDescriptionUpdateResponseRow.laidByTextAt .later Tryd.pinned [.sentinel] true :=
  OpenClaim.laidByTextAt_later rfl rfl tie noOwnUnsafe
theorem fnAnyHeartbeatRequest_row_tie : Rows.fnAnyHeartbeatRequestRow.laidByTextAt .later Tryd.pinned [.sentinel] true :=
  OpenClaim.laidByTextAt_later rfl rfl tie noOwnUnsafe
theorem fnAnyLeaveGroupResponse_row_tie : Rows.fnAnyLeaveGroupResponseRow.laidByTextAt .later Tryd.pinned [.sentinel] true :=
  OpenClaim.laidByTextAt_later rfl rfl tie noOwnUnsafe
theorem fnAnyDeleteRecordsRequest_row_tie : Rows.fnAnyDeleteRecordsRequestRow.laidByTextAt .later Tryd.pinned [.sentinel] true :=
  OpenClaim.laidByTextAt_later rfl rfl tie noOwnUnsafe
theorem fnAnyControllerRegistrationResponseUpto_row_tie : Rows.fnAnyControllerRegistrationResponseUptoRow.laidByTextAt .later Tryd.pinned [.sentinel] true :=
  OpenClaim.laidByTextAt_later rfl rfl tie noOwnUnsafe
theorem fnAnyAddOffsetsToTxnRequestUpto_row_tie : Rows.fnAnyAddOffsetsToTxnRequestUptoRow.laidByTextAt .later Tryd.pinned [.sentinel] true :=
  OpenClaim.laidByTextAt_later rfl rfl tie noOwnUnsafe
theorem fnAnyStreamsGroupTopologyDescriptionUpdateResponseUpto_row_tie : Rows.fnAnyStreamsGroupTopologyDescriptionUpdateResponseUptoRow.laidByTextAt .later Tryd.pinned [.sentinel] true :=
  OpenClaim.laidByTextAt_later rfl rfl tie noOwnUnsafe
theorem fnAnyHeartbeatRequestUpto_row_tie : Rows.fnAnyHeartbeatRequestUptoRow.laidByTextAt .later Tryd.pinned [.sentinel] true :=
  OpenClaim.laidByTextAt_later rfl rfl tie noOwnUnsafe
theorem fnAnyLeaveGroupResponseUpto_row_tie : Rows.fnAnyLeaveGroupResponseUptoRow.laidByTextAt .later Tryd.pinned [.sentinel] true :=
  OpenClaim.laidByTextAt_later rfl rfl tie noOwnUnsafe
theorem fnAnyDeleteRecordsRequestUpto_row_tie : Rows.fnAnyDeleteRecordsRequestUptoRow.laidByTextAt .later Tryd.pinned [.sentinel] true :=
  OpenClaim.laidByTextAt_later rfl rfl tie noOwnUnsafe
end Go.Proofs.YtpknjenihcfhlaaDoor
