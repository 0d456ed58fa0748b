/-
  kbin, writing: numbers. Conditions: none.
-/
import Derived.Test.YtpknjenihcfhlaaDoorKa1
namespace Go.Proofs.YtpknjenihcfhlaaDoor
open Go.RowKit (Below)
open Kz

theorem bv_byteAt (u : Int) (i : Nat) : bv (byteAt u i) = Value.int .u8 (u / (2 : Int) ^ (8 * i) % 256) := (byteAt_u8 u i _ rfl).symm

set_option maxRecDepth 8000 in
set_option maxHeartbeats 1000000 in
theorem AppendUint32_any (w : World) (base : Nat) (v : Value) (bs : List UInt8) (u : Int) (h : OwnB w base v bs) (hb : base ≤ w.heap.size) (h0 : 0 ≤ u) (h1 : u < 4294967296) (hl : bs.length + 4 ≤ lim) :
    Calls Tryd.prog 85 #[v, .int .u32 u] w fun e w' => ∃ v', e = .returned v' ∧ OwnB w' base v' (bs ++ fixed u 4) ∧ Below base w w' := by
  have H := Lib.hid h
  have HL := Lib.hid hl
  clear h hl
  go_enter Tryd.func85, Tryd.ntmps85
  go_wp2_with (at_builtin; refine wpList_append_bytes rfl _ _ rfl base v bs (fixed u 4) w.heap.size 0 4 4 rfl rfl ?_ rfl ?_ HL.out ?_ ?_)
  · exact H.out.grown fun k hk => alloc_old w _ k hk
  · refine row_new ?_
    simp only [fixed, List.map_cons, List.map_nil, bv_byteAt]
    simp
    try omega
  · simp; omega
  · intro v' w' hown hg
    have H1 := Lib.hid hown
    have H2 := Lib.hid hg
    clear hown hg
    go_wp2
    go_ret
    exact ⟨v', rfl, H1.out, below_alloc H.out hb H2.out⟩
set_option maxRecDepth 8000 in
set_option maxHeartbeats 1000000 in
theorem appendUint64_any (w : World) (base : Nat) (v : Value) (bs : List UInt8) (u : Int) (h : OwnB w base v bs) (hb : base ≤ w.heap.size) (h0 : 0 ≤ u) (h1 : u < 18446744073709551616) (hl : bs.length + 8 ≤ lim) :
    Calls Tryd.prog 75 #[v, .int .u64 u] w fun e w' => ∃ v', e = .returned v' ∧ OwnB w' base v' (bs ++ fixed u 8) ∧ Below base w w' := by
  have H := Lib.hid h
  have HL := Lib.hid hl
  clear h hl
  go_enter Tryd.func75, Tryd.ntmps75
  go_wp2_with (at_builtin; refine wpList_append_bytes rfl _ _ rfl base v bs (fixed u 8) w.heap.size 0 8 8 rfl rfl ?_ rfl ?_ HL.out ?_ ?_)
  · exact H.out.grown fun k hk => alloc_old w _ k hk
  · refine row_new ?_
    simp only [fixed, List.map_cons, List.map_nil, bv_byteAt]
    simp
    try omega
  · simp; omega
  · intro v' w' hown hg
    have H1 := Lib.hid hown
    have H2 := Lib.hid hg
    clear hown hg
    go_wp2
    go_ret
    exact ⟨v', rfl, H1.out, below_alloc H.out hb H2.out⟩
theorem fixed_AppendInt16 (u : Int) : fixed (u % 65536) 2 = fixed u 2 := by
  simp only [fixed, List.cons.injEq, and_true]
  refine ⟨?_, ?_⟩ <;> (simp only [byteAt]; congr 2; simp; try omega)
set_option maxRecDepth 8000 in
set_option maxHeartbeats 1000000 in
theorem AppendInt16_any (w : World) (base : Nat) (v : Value) (bs : List UInt8) (u : Int) (h : OwnB w base v bs) (hb : base ≤ w.heap.size) (hl : bs.length + 2 ≤ lim) :
    Calls Tryd.prog 50 #[v, .int .i16 u] w fun e w' => ∃ v', e = .returned v' ∧ OwnB w' base v' (bs ++ fixed u 2) ∧ Below base w w' := by
  have H := Lib.hid h
  have HL := Lib.hid hl
  clear h hl
  go_enter Tryd.func50, Tryd.ntmps50
  go_wp2_with fail
  refine (AppendUint16_any w base v bs (u % 65536) H.out hb (by omega) (by omega) HL.out).mono ?_
  rintro e w' ⟨v', rfl, hown, hbel⟩
  rw [fixed_AppendInt16] at hown
  have H1 := Lib.hid hown
  have H2 := Lib.hid hbel
  clear hown hbel
  go_wp2
  go_ret
  exact ⟨v', rfl, H1.out, H2.out⟩
theorem fixed_AppendInt32 (u : Int) : fixed (u % 4294967296) 4 = fixed u 4 := by
  simp only [fixed, List.cons.injEq, and_true]
  refine ⟨?_, ?_, ?_, ?_⟩ <;> (simp only [byteAt]; congr 2; simp; try omega)
set_option maxRecDepth 8000 in
set_option maxHeartbeats 1000000 in
theorem AppendInt32_any (w : World) (base : Nat) (v : Value) (bs : List UInt8) (u : Int) (h : OwnB w base v bs) (hb : base ≤ w.heap.size) (hl : bs.length + 4 ≤ lim) :
    Calls Tryd.prog 56 #[v, .int .i32 u] w fun e w' => ∃ v', e = .returned v' ∧ OwnB w' base v' (bs ++ fixed u 4) ∧ Below base w w' := by
  have H := Lib.hid h
  have HL := Lib.hid hl
  clear h hl
  go_enter Tryd.func56, Tryd.ntmps56
  go_wp2_with fail
  refine (AppendUint32_any w base v bs (u % 4294967296) H.out hb (by omega) (by omega) HL.out).mono ?_
  rintro e w' ⟨v', rfl, hown, hbel⟩
  rw [fixed_AppendInt32] at hown
  have H1 := Lib.hid hown
  have H2 := Lib.hid hbel
  clear hown hbel
  go_wp2
  go_ret
  exact ⟨v', rfl, H1.out, H2.out⟩
theorem fixed_AppendInt64 (u : Int) : fixed (u % 18446744073709551616) 8 = fixed u 8 := by
  simp only [fixed, List.cons.injEq, and_true]
  refine ⟨?_, ?_, ?_, ?_, ?_, ?_, ?_, ?_⟩ <;> (simp only [byteAt]; congr 2; simp; try omega)
set_option maxRecDepth 8000 in
set_option maxHeartbeats 1000000 in
theorem AppendInt64_any (w : World) (base : Nat) (v : Value) (bs : List UInt8) (u : Int) (h : OwnB w base v bs) (hb : base ≤ w.heap.size) (hl : bs.length + 8 ≤ lim) :
    Calls Tryd.prog 49 #[v, .int .i64 u] w fun e w' => ∃ v', e = .returned v' ∧ OwnB w' base v' (bs ++ fixed u 8) ∧ Below base w w' := by
  have H := Lib.hid h
  have HL := Lib.hid hl
  clear h hl
  go_enter Tryd.func49, Tryd.ntmps49
  go_wp2_with fail
  refine (appendUint64_any w base v bs (u % 18446744073709551616) H.out hb (by omega) (by omega) HL.out).mono ?_
  rintro e w' ⟨v', rfl, hown, hbel⟩
  rw [fixed_AppendInt64] at hown
  have H1 := Lib.hid hown
  have H2 := Lib.hid hbel
  clear hown hbel
  go_wp2
  go_ret
  exact ⟨v', rfl, H1.out, H2.out⟩
end Go.Proofs.YtpknjenihcfhlaaDoor
