/-
  kbin, writing: what may be null; lengths. Conditions: none.
-/
import Derived.Test.YtpknjenihcfhlaaDoorKa5
namespace Go.Proofs.YtpknjenihcfhlaaDoor
open Go.RowKit (Below)
open Kz

set_option maxRecDepth 8000 in
set_option maxHeartbeats 400000 in
theorem AppendNullableString_nil (w : World) (base : Nat) (v : Value) (bs : List UInt8) (h : OwnB w base v bs) (hb : base ≤ w.heap.size) (hl : bs.length + 5 ≤ lim) :
    Calls Tryd.prog 58 #[v, .pointer none] w fun e w' => ∃ v', e = .returned v' ∧ OwnB w' base v' (bs ++ fixed (-1) 2) ∧ Below base w w' := by
  have hc := AppendInt16_any w base v bs (-1) h hb (by omega)
  have HC := Lib.hid hc
  clear hc h hl hb
  go_enter Tryd.func58, Tryd.ntmps58
  go_wp2_with fail
  refine HC.out.mono ?_
  rintro e w1 ⟨v1, rfl, hown, hbel⟩
  have H1 := Lib.hid hown
  have H2 := Lib.hid hbel
  clear hown hbel HC
  go_wp2
  go_ret
  exact ⟨v1, rfl, H1.out, H2.out⟩
set_option maxRecDepth 8000 in
set_option maxHeartbeats 400000 in
theorem AppendNullableString_some (w : World) (base : Nat) (v : Value) (bs s : List UInt8) (g o : Nat) (hc : w.cell? ⟨g, o, none⟩ = some (strV s)) (h : OwnB w base v bs) (hb : base ≤ w.heap.size) (hs : s.length < 32768) (hl : bs.length + (fixed (s.length : Int) 2 ++ s).length ≤ lim2) :
    Calls Tryd.prog 58 #[v, .pointer (some ⟨g, o, none⟩)] w fun e w' => ∃ v', e = .returned v' ∧ OwnB w' base v' (bs ++ (fixed (s.length : Int) 2 ++ s)) ∧ Below base w w' := by
  have hcall := AppendString_any w base v bs s h hb hs hl
  have HC := Lib.hid hcall
  clear hcall h hl hb hs
  go_enter Tryd.func58, Tryd.ntmps58
  go_wp2_with fail
  refine HC.out.mono ?_
  rintro e w1 ⟨v1, rfl, hown, hbel⟩
  have H1 := Lib.hid hown
  have H2 := Lib.hid hbel
  clear hown hbel HC
  go_wp2
  go_ret
  exact ⟨v1, rfl, H1.out, H2.out⟩
set_option maxRecDepth 8000 in
set_option maxHeartbeats 400000 in
theorem AppendCompactNullableString_nil (w : World) (base : Nat) (v : Value) (bs : List UInt8) (h : OwnB w base v bs) (hb : base ≤ w.heap.size) (hl : bs.length + 5 ≤ lim) :
    Calls Tryd.prog 57 #[v, .pointer none] w fun e w' => ∃ v', e = .returned v' ∧ OwnB w' base v' (bs ++ uv 0) ∧ Below base w w' := by
  have hc := AppendUvarint_any w base v bs 0 h hb (by decide) hl
  have HC := Lib.hid hc
  clear hc h hl hb
  go_enter Tryd.func57, Tryd.ntmps57
  go_wp2_with fail
  refine HC.out.mono ?_
  rintro e w1 ⟨v1, rfl, hown, hbel⟩
  have H1 := Lib.hid hown
  have H2 := Lib.hid hbel
  clear hown hbel HC
  go_wp2
  go_ret
  exact ⟨v1, rfl, H1.out, H2.out⟩
set_option maxRecDepth 8000 in
set_option maxHeartbeats 400000 in
theorem AppendCompactNullableString_some (w : World) (base : Nat) (v : Value) (bs s : List UInt8) (g o : Nat) (hc : w.cell? ⟨g, o, none⟩ = some (strV s)) (h : OwnB w base v bs) (hb : base ≤ w.heap.size) (hs : s.length < 4294967295) (hl : bs.length + (uv (s.length + 1) ++ s).length ≤ lim2) :
    Calls Tryd.prog 57 #[v, .pointer (some ⟨g, o, none⟩)] w fun e w' => ∃ v', e = .returned v' ∧ OwnB w' base v' (bs ++ (uv (s.length + 1) ++ s)) ∧ Below base w w' := by
  have hcall := AppendCompactString_any w base v bs s h hb hs hl
  have HC := Lib.hid hcall
  clear hcall h hl hb hs
  go_enter Tryd.func57, Tryd.ntmps57
  go_wp2_with fail
  refine HC.out.mono ?_
  rintro e w1 ⟨v1, rfl, hown, hbel⟩
  have H1 := Lib.hid hown
  have H2 := Lib.hid hbel
  clear hown hbel HC
  go_wp2
  go_ret
  exact ⟨v1, rfl, H1.out, H2.out⟩
set_option maxRecDepth 8000 in
set_option maxHeartbeats 400000 in
theorem AppendArrayLen_any (w : World) (base : Nat) (v : Value) (bs : List UInt8) (n : Nat) (h : OwnB w base v bs) (hb : base ≤ w.heap.size) (hn : n < 2147483647) (hl : bs.length + 5 ≤ lim) :
    Calls Tryd.prog 64 #[v, .int .i64 (n : Int)] w fun e w' => ∃ v', e = .returned v' ∧ OwnB w' base v' (bs ++ fixed (n : Int) 4) ∧ Below base w w' := by
  have hc := AppendInt32_any w base v bs (n : Int) h hb (by omega)
  have HC := Lib.hid hc
  have e1 : IntKind.i32.wrap (n : Int) = (n : Int) := by rw [IntKind.wrap_i32]; omega
  have e2 : IntKind.u32.wrap (n : Int) = (n : Int) := by rw [IntKind.wrap_u32]; omega
  have e3 : IntKind.u32.wrap (1 + (n : Int)) = ((n + 1 : Nat) : Int) := by rw [IntKind.wrap_u32]; omega
  clear hc h hl hb hn
  go_enter Tryd.func64, Tryd.ntmps64
  go_wp2_with fail
  refine HC.out.mono ?_
  rintro e w1 ⟨v1, rfl, hown, hbel⟩
  have H1 := Lib.hid hown
  have H2 := Lib.hid hbel
  clear hown hbel HC
  go_wp2
  go_ret
  exact ⟨v1, rfl, H1.out, H2.out⟩
set_option maxRecDepth 8000 in
set_option maxHeartbeats 400000 in
theorem AppendCompactArrayLen_any (w : World) (base : Nat) (v : Value) (bs : List UInt8) (n : Nat) (h : OwnB w base v bs) (hb : base ≤ w.heap.size) (hn : n < 2147483647) (hl : bs.length + 5 ≤ lim) :
    Calls Tryd.prog 63 #[v, .int .i64 (n : Int)] w fun e w' => ∃ v', e = .returned v' ∧ OwnB w' base v' (bs ++ uv (n + 1)) ∧ Below base w w' := by
  have hc := AppendUvarint_any w base v bs (n + 1) h hb (by omega) hl
  have HC := Lib.hid hc
  have e1 : IntKind.i32.wrap (n : Int) = (n : Int) := by rw [IntKind.wrap_i32]; omega
  have e2 : IntKind.u32.wrap (n : Int) = (n : Int) := by rw [IntKind.wrap_u32]; omega
  have e3 : IntKind.u32.wrap (1 + (n : Int)) = ((n + 1 : Nat) : Int) := by rw [IntKind.wrap_u32]; omega
  clear hc h hl hb hn
  go_enter Tryd.func63, Tryd.ntmps63
  go_wp2_with fail
  refine HC.out.mono ?_
  rintro e w1 ⟨v1, rfl, hown, hbel⟩
  have H1 := Lib.hid hown
  have H2 := Lib.hid hbel
  clear hown hbel HC
  go_wp2
  go_ret
  exact ⟨v1, rfl, H1.out, H2.out⟩
end Go.Proofs.YtpknjenihcfhlaaDoor
