/-
  kbin, writing: what may be null; lengths. Conditions: none.
-/
import Derived.Test.YtgipgallmpojmaaDoorKa5
namespace Go.Proofs.YtgipgallmpojmaaDoor
open Go.RowKit (Below)
open Kz

set_option maxRecDepth 8000 in
set_option maxHeartbeats 400000 in
theorem AppendNullableBytes_nil (w : World) (base : Nat) (v : Value) (bs : List UInt8) (h : OwnB w base v bs) (hb : base ≤ w.heap.size) (hl : bs.length + 5 ≤ lim) :
    Calls Tryd.prog 103 #[v, .slice none 0 0] w fun e w' => ∃ v', e = .returned v' ∧ OwnB w' base v' (bs ++ fixed (-1) 4) ∧ Below base w w' := by
  have hc := AppendInt32_any w base v bs (-1) h hb (by omega)
  have HC := Lib.hid hc
  have qS : ∀ (w : World) (a : Option Addr) (n c : Nat), (binOp .eql 22 (.slice a n c) (.slice none 0 0)).run Tryd.prog w = .ok (.bool a.isNone) w := fun w a n c => Go.Lib.run_eql_slice_nil w _ _ a n c 0 0 Tryd.underlying22
  clear hc h hl hb
  go_enter Tryd.func103, Tryd.ntmps103
  go_wp2_with fail
  refine HC.out.mono ?_
  rintro e w1 ⟨v1, rfl, hown, hbel⟩
  have H1 := Lib.hid hown
  have H2 := Lib.hid hbel
  clear hown hbel HC
  go_wp2
  go_ret
  exact ⟨v1, rfl, H1.out, H2.out⟩
set_option maxRecDepth 8000 in
set_option maxHeartbeats 400000 in
theorem AppendNullableBytes_some (w : World) (base : Nat) (v : Value) (bs s : List UInt8) (p : Addr) (n c : Nat) (K : Nat → Prop) (hx : BytesAt w K (.slice (some p) n c) s) (hK : ∀ g, K g → g < base) (h : OwnB w base v bs) (hb : base ≤ w.heap.size) (hs : s.length < 2147483648) (hl : bs.length + (fixed (s.length : Int) 4 ++ s).length ≤ lim2) :
    Calls Tryd.prog 103 #[v, .slice (some p) n c] w fun e w' => ∃ v', e = .returned v' ∧ OwnB w' base v' (bs ++ (fixed (s.length : Int) 4 ++ s)) ∧ Below base w w' := by
  have hcall := AppendBytes_any w base v bs _ s K hx hK h hb hs hl
  have HC := Lib.hid hcall
  have qS : ∀ (w : World) (a : Option Addr) (n c : Nat), (binOp .eql 22 (.slice a n c) (.slice none 0 0)).run Tryd.prog w = .ok (.bool a.isNone) w := fun w a n c => Go.Lib.run_eql_slice_nil w _ _ a n c 0 0 Tryd.underlying22
  clear hcall h hl hb hs hx hK
  go_enter Tryd.func103, Tryd.ntmps103
  go_wp2_with fail
  refine HC.out.mono ?_
  rintro e w1 ⟨v1, rfl, hown, hbel⟩
  have H1 := Lib.hid hown
  have H2 := Lib.hid hbel
  clear hown hbel HC
  go_wp2
  go_ret
  exact ⟨v1, rfl, H1.out, H2.out⟩
end Go.Proofs.YtgipgallmpojmaaDoor
