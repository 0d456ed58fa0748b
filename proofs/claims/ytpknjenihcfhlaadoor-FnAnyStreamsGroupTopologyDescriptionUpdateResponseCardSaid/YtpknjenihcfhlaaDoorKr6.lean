/-
  The package's reader: texts, octets, lengths of lists: what each call answers, and what is left, for every state of the reader. Conditions: none.
-/
import Derived.Test.YtpknjenihcfhlaaDoorKr5
import Derived.Laws.BytesString
namespace Go.Proofs.YtpknjenihcfhlaaDoor
open Go.RowKit (Below Hid Hid.out)
open Kz

/-- A text as a value. -/
abbrev strV (s : List UInt8) : Value := .string ⟨s.toArray⟩
theorem push_fold : ∀ (l : List UInt8) (r : ByteArray), (l.map fun b => (b.toNat : Int)).foldl (fun r n => r.push (UInt8.ofNat n.toNat)) r = ⟨r.data ++ l.toArray⟩ := by
  intro l
  induction l with
  | nil => intro r; simp
  | cons b l ih =>
    intro r
    rw [List.map_cons, List.foldl_cons, ih]
    congr 1
    have : UInt8.ofNat (b.toNat : Int).toNat = b := by simp
    rw [this]
    simp [ByteArray.push]
/-- Octets as a text. -/
theorem conv_string {w : World} {S : Nat → Prop} {v : Value} {bs : List UInt8} (h : BytesAt w S v bs) (src dst : TypeId) (hs : src = 22) (hd : dst = 9) : (convert src dst v).run Tryd.prog w = .ok (strV bs) w := by
  subst hs; subst hd
  rcases h with ⟨rfl, rfl⟩ | ⟨g, o, c, rfl, h2, h3, h4, h5, h6⟩
  · kernel_rfl
  · rw [run_convert_bytes_string w _ _ 5 _ _ _ Tryd.underlying22 Tryd.underlying5 Tryd.underlying9]
    have hl := run_loadCells_list (P := Tryd.prog) (w := w) ⟨g, o, none⟩ ((bs.map fun b => (b.toNat : Int)).map (Value.int .u8)) (fun j x hj => by
      rw [List.map_map, List.getElem?_map, Option.map_eq_some_iff] at hj
      obtain ⟨b, hb, rfl⟩ := hj
      rw [Addr.add_lit]
      exact h6 j b hb)
    rw [List.length_map, List.length_map] at hl
    rw [run_bytesToString w _ _ _ _ hl, push_fold]
    simp [strV, ByteArray.empty, ByteArray.emptyWithCapacity]
    rfl

theorem rdI_bounds (k : Nat) (st : St) (hk : 0 < k) : -(2 : Int) ^ (8 * k - 1) ≤ (rdI k st).1 ∧ (rdI k st).1 < 2 ^ (8 * k - 1) := by
  have hp : (0 : Int) < 2 ^ (8 * k - 1) := Int.pow_pos (by decide)
  have hz : -(2 : Int) ^ (8 * k - 1) ≤ 0 ∧ (0 : Int) < 2 ^ (8 * k - 1) := by omega
  cases st with
  | none => exact hz
  | some bs =>
    by_cases h : k ≤ bs.length
    · unfold rdI
      rw [rdN_some _ _ _ _ h]
      have hl := beNat_lt (bs.take k)
      rw [List.length_take, Nat.min_eq_left h] at hl
      have e : 256 ^ k = 2 ^ (8 * k) := by rw [Nat.pow_mul]
      have e2 : 2 ^ (8 * k) = 2 * 2 ^ (8 * k - 1) := by rw [← Nat.pow_succ']; congr 1; omega
      have c1 : ((2 ^ (8 * k - 1) : Nat) : Int) = (2 : Int) ^ (8 * k - 1) := by rw [Int.natCast_pow]; rfl
      have c2 : ((2 ^ (8 * k) : Nat) : Int) = (2 : Int) ^ (8 * k) := by rw [Int.natCast_pow]; rfl
      show -(2 : Int) ^ (8 * k - 1) ≤ sgn k _ ∧ sgn k _ < _
      unfold sgn
      split <;> omega
    · unfold rdI
      rw [rdN_less _ _ _ _ h]
      exact hz
theorem rdV_bounds (st : St) : (rdV st).1 < 4294967296 := by
  cases st with
  | none => decide
  | some bs =>
    cases h : uvA 4 bs with
    | none => simp only [rdV, h]; decide
    | some x =>
      obtain ⟨n, r⟩ := x
      simp only [rdV, h]
      exact (uvA_spec 4 bs n r h).2
theorem rdI2_b (st : St) : -32768 ≤ (rdI 2 st).1 ∧ (rdI 2 st).1 ≤ 32767 := by
  have h := rdI_bounds 2 st (by decide)
  have e : (2 : Int) ^ (8 * 2 - 1) = 32768 := rfl
  rw [e] at h
  omega
theorem rdI4_b (st : St) : -2147483648 ≤ (rdI 4 st).1 ∧ (rdI 4 st).1 ≤ 2147483647 := by
  have h := rdI_bounds 4 st (by decide)
  have e : (2 : Int) ^ (8 * 4 - 1) = 2147483648 := rfl
  rw [e] at h
  omega

/-- A text that may be null, as a value: behind a pointer, in a block of K. -/
def NstrV (w : World) (K : Nat → Prop) (v : Value) (t : T) : Prop :=
  (t.null = true ∧ v = .pointer none) ∨ (t.null = false ∧ ∃ g, v = .pointer (some ⟨g, 0, none⟩) ∧ K g ∧ g < w.heap.size ∧ w.cell? ⟨g, 0, none⟩ = some (strV t.s))

theorem rdText_str (st : St) : rdText false false 2 st = (Ts (rdSpan (rdI 2 st).1 (rdI 2 st).2).1, (rdSpan (rdI 2 st).1 (rdI 2 st).2).2) := by
  simp only [rdText, rdCount, Bool.false_eq_true, if_false, false_and]
set_option maxHeartbeats 400000 in
theorem String_any (w : World) (S : Nat → Prop) (rb : Nat) (st : St) (h : RdIs w S rb st) : Calls Tryd.prog 70 #[.pointer (some ⟨rb, 0, none⟩)] w fun e w' =>
    e = .returned (strV (rdText false false 2 st).1.s) ∧ RdIs w' S rb (rdText false false 2 st).2 ∧ w.grownBy w' (some rb) := by
  have hb := rdI2_b st
  rw [rdText_str]
  go_enter Tryd.func70, Tryd.ntmps70
  go_wp2_with fail
  refine (Int16_any w S rb st h).mono ?_
  rintro e w1 ⟨rfl, h1, g1⟩
  have b1 := hb.1
  have b2 := hb.2
  go_wp2_with fail
  refine (Span_any w1 S rb _ (rdI 2 st).1 h1 (by omega) (by omega)).mono ?_
  rintro e w2 ⟨v, rfl, hv, h2, g2⟩
  have hc := conv_string hv 22 9 rfl rfl
  have H1 := Lib.hid h1
  have H2 := Lib.hid h2
  have HV := Lib.hid hv
  clear h1 h2 hv
  go_wp2
  go_ret
  exact ⟨rfl, H2.out, grownBy_trans g1 g2⟩

theorem rdText_cstr (st : St) : rdText true false 2 st = (Ts (rdSpan ((rdV st).1 - 1 : Int) (rdV st).2).1, (rdSpan ((rdV st).1 - 1 : Int) (rdV st).2).2) := by
  simp only [rdText, rdCount, if_true, Bool.false_eq_true, false_and, if_false]
set_option maxHeartbeats 400000 in
theorem CompactString_any (w : World) (S : Nat → Prop) (rb : Nat) (st : St) (h : RdIs w S rb st) : Calls Tryd.prog 69 #[.pointer (some ⟨rb, 0, none⟩)] w fun e w' =>
    e = .returned (strV (rdText true false 2 st).1.s) ∧ RdIs w' S rb (rdText true false 2 st).2 ∧ w.grownBy w' (some rb) := by
  have hb := rdV_bounds st
  rw [rdText_cstr]
  go_enter Tryd.func69, Tryd.ntmps69
  go_wp2_with fail
  refine (RUvarint_any w S rb st h).mono ?_
  rintro e w1 ⟨rfl, h1, g1⟩
  have b1 : ((rdV st).1 : Int) < 4294967296 := by omega
  have H1 := Lib.hid h1
  clear h1
  go_wp2_with fail
  refine (Span_any w1 S rb _ ((rdV st).1 - 1 : Int) H1.out (by omega) (by omega)).mono ?_
  rintro e w2 ⟨v, rfl, hv, h2, g2⟩
  have hc := conv_string hv 22 9 rfl rfl
  have H2 := Lib.hid h2
  have HV := Lib.hid hv
  clear h2 hv
  go_wp2
  go_ret
  exact ⟨rfl, H2.out, grownBy_trans g1 g2⟩

theorem rdText_NullableString (st : St) : rdText false true 2 st = if (rdI 2 st).1 < 0 then (Tnull, (rdI 2 st).2) else (Ts (rdSpan (rdI 2 st).1 (rdI 2 st).2).1, (rdSpan (rdI 2 st).1 (rdI 2 st).2).2) := by
  simp only [rdText, rdCount, Bool.false_eq_true, if_false, true_and]
set_option maxHeartbeats 400000 in
theorem NullableString_any (w : World) (S : Nat → Prop) (rb : Nat) (st : St) (h : RdIs w S rb st) : Calls Tryd.prog 84 #[.pointer (some ⟨rb, 0, none⟩)] w fun e w' =>
    ∃ v, e = .returned v ∧ NstrV w' (fun g => w.heap.size ≤ g) v (rdText false true 2 st).1 ∧ RdIs w' S rb (rdText false true 2 st).2 ∧ w.grownBy w' (some rb) := by
  rw [rdText_NullableString]
  obtain ⟨u, hu⟩ : ∃ u, u = (rdI 2 st).1 := ⟨_, rfl⟩
  obtain ⟨s1, hs1⟩ : ∃ s, s = (rdI 2 st).2 := ⟨_, rfl⟩
  have u1 : -32768 ≤ u := by rw [hu]; exact (rdI2_b st).1
  have u2 : u ≤ 32767 := by rw [hu]; exact (rdI2_b st).2
  have hcall : Calls Tryd.prog 72 #[.pointer (some ⟨rb, 0, none⟩)] w fun e w' => e = .returned (.int .i16 u) ∧ RdIs w' S rb s1 ∧ w.grownBy w' (some rb) := by
    rw [hu, hs1]; exact Int16_any w S rb st h
  rw [← hu, ← hs1]
  clear hu hs1 h
  have H := Lib.hid hcall
  clear hcall
  by_cases hn : u < 0
  · rw [if_pos hn]
    have t0 : decide (u < 0) = true := by simpa using hn
    clear hn
    go_enter Tryd.func84, Tryd.ntmps84
    go_wp2_with fail
    refine H.out.mono ?_
    rintro e w1 ⟨rfl, h1, g1⟩
    have H1 := Lib.hid h1
    clear h1 H
    go_wp2
    go_ret
    exact ⟨_, rfl, .inl ⟨rfl, rfl⟩, H1.out, g1⟩
  · rw [if_neg hn]
    have t0 : decide (u < 0) = false := by simpa using hn
    clear hn
    go_enter Tryd.func84, Tryd.ntmps84
    go_wp2_with fail
    refine H.out.mono ?_
    rintro e w1 ⟨rfl, h1, g1⟩
    have H1 := Lib.hid h1
    clear h1 H
    go_wp2_with fail
    refine (Span_any w1 S rb _ u H1.out (by omega) (by omega)).mono ?_
    rintro e w2 ⟨v, rfl, hv, h2, g2⟩
    have hc := conv_string hv 22 9 rfl rfl
    have H2 := Lib.hid h2
    have HV := Lib.hid hv
    clear h2 hv
    go_wp2
    go_ret
    have g3 := grownBy_trans g1 g2
    have ga : w2.grownBy (w2.alloc (.cells #[strV (rdSpan u s1).1] 9)) (some rb) := World.grownBy_alloc _ _ _
    refine ⟨_, rfl, .inr ⟨rfl, w2.heap.size, rfl, g3.size, by simp, by rw [cell_of_row _ _ 0 _ _ _ (heap_alloc_new w2 _)]; rfl⟩, ?_, grownBy_trans g3 ga⟩
    refine H2.out.kept (row := none) (World.grownBy_alloc _ _ _) (fun g _ e => by cases e) (fun e => by cases e)

theorem rdText_CompactNullableString (st : St) : rdText true true 2 st = if ((rdV st).1 - 1 : Int) < 0 then (Tnull, (rdV st).2) else (Ts (rdSpan ((rdV st).1 - 1 : Int) (rdV st).2).1, (rdSpan ((rdV st).1 - 1 : Int) (rdV st).2).2) := by
  simp only [rdText, rdCount, if_true, true_and]
set_option maxHeartbeats 400000 in
theorem CompactNullableString_any (w : World) (S : Nat → Prop) (rb : Nat) (st : St) (h : RdIs w S rb st) : Calls Tryd.prog 82 #[.pointer (some ⟨rb, 0, none⟩)] w fun e w' =>
    ∃ v, e = .returned v ∧ NstrV w' (fun g => w.heap.size ≤ g) v (rdText true true 2 st).1 ∧ RdIs w' S rb (rdText true true 2 st).2 ∧ w.grownBy w' (some rb) := by
  rw [rdText_CompactNullableString]
  obtain ⟨u, hu⟩ : ∃ u, u = (rdV st).1 := ⟨_, rfl⟩
  obtain ⟨s1, hs1⟩ : ∃ s, s = (rdV st).2 := ⟨_, rfl⟩
  have u2 : u < 4294967296 := by rw [hu]; exact rdV_bounds st
  have hcall : Calls Tryd.prog 92 #[.pointer (some ⟨rb, 0, none⟩)] w fun e w' => e = .returned (.int .u32 (u : Int)) ∧ RdIs w' S rb s1 ∧ w.grownBy w' (some rb) := by
    rw [hu, hs1]; exact RUvarint_any w S rb st h
  rw [← hu, ← hs1]
  clear hu hs1 h
  have H := Lib.hid hcall
  clear hcall
  by_cases hn : ((u : Int) - 1) < 0
  · rw [if_pos hn]
    have t0 : decide (((u : Int) - 1) < 0) = true := by simpa using hn
    clear hn
    go_enter Tryd.func82, Tryd.ntmps82
    go_wp2_with fail
    refine H.out.mono ?_
    rintro e w1 ⟨rfl, h1, g1⟩
    have H1 := Lib.hid h1
    clear h1 H
    go_wp2
    go_ret
    exact ⟨_, rfl, .inl ⟨rfl, rfl⟩, H1.out, g1⟩
  · rw [if_neg hn]
    have t0 : decide (((u : Int) - 1) < 0) = false := by simpa using hn
    clear hn
    go_enter Tryd.func82, Tryd.ntmps82
    go_wp2_with fail
    refine H.out.mono ?_
    rintro e w1 ⟨rfl, h1, g1⟩
    have H1 := Lib.hid h1
    clear h1 H
    go_wp2_with fail
    refine (Span_any w1 S rb _ ((u : Int) - 1) H1.out (by omega) (by omega)).mono ?_
    rintro e w2 ⟨v, rfl, hv, h2, g2⟩
    have hc := conv_string hv 22 9 rfl rfl
    have H2 := Lib.hid h2
    have HV := Lib.hid hv
    clear h2 hv
    go_wp2
    go_ret
    have g3 := grownBy_trans g1 g2
    have ga : w2.grownBy (w2.alloc (.cells #[strV (rdSpan ((u : Int) - 1) s1).1] 9)) (some rb) := World.grownBy_alloc _ _ _
    refine ⟨_, rfl, .inr ⟨rfl, w2.heap.size, rfl, g3.size, by simp, by rw [cell_of_row _ _ 0 _ _ _ (heap_alloc_new w2 _)]; rfl⟩, ?_, grownBy_trans g3 ga⟩
    refine H2.out.kept (row := none) (World.grownBy_alloc _ _ _) (fun g _ e => by cases e) (fun e => by cases e)



theorem rdLen_ArrayLen (st : St) : rdLen false st = chkLen ((rdI 4 st).1) (rdI 4 st).2 := by
  simp only [rdLen, rdLen0, Bool.false_eq_true, if_false]
theorem ArrayLen_zero (st : St) (h : (rdI 4 st).2 = none) : (rdI 4 st).1 = 0 := by
  cases st with
  | none => rfl
  | some bs =>
    by_cases hk : 4 ≤ bs.length
    · unfold rdI at h; rw [rdN_some _ _ _ _ hk] at h; cases h
    · unfold rdI; rw [rdN_less _ _ _ _ hk]
set_option maxHeartbeats 400000 in
theorem ArrayLen_any (w : World) (S : Nat → Prop) (rb : Nat) (st : St) (h : RdIs w S rb st) : Calls Tryd.prog 87 #[.pointer (some ⟨rb, 0, none⟩)] w fun e w' =>
    e = .returned (.int .i32 (rdLen false st).1) ∧ RdIs w' S rb (rdLen false st).2 ∧ w.grownBy w' (some rb) := by
  rw [rdLen_ArrayLen]
  have hz := ArrayLen_zero st
  obtain ⟨u, hu⟩ : ∃ u, u = (rdI 4 st).1 := ⟨_, rfl⟩
  obtain ⟨s1, hs1⟩ : ∃ s, s = (rdI 4 st).2 := ⟨_, rfl⟩
  have u1 : -2147483648 ≤ u := by rw [hu]; exact (rdI4_b st).1
  have u2 : u ≤ 2147483647 := by rw [hu]; exact (rdI4_b st).2
  have hcall : Calls Tryd.prog 80 #[.pointer (some ⟨rb, 0, none⟩)] w fun e w' => e = .returned (.int .i32 u) ∧ RdIs w' S rb s1 ∧ w.grownBy w' (some rb) := by
    rw [hu, hs1]; exact Int32_any w S rb st h
  rw [← hu, ← hs1]
  rw [← hu, ← hs1] at hz
  clear hu hs1 h
  have H := Lib.hid hcall
  clear hcall
  cases s1 with
  | none =>
    obtain rfl := hz rfl
    have t0 : decide ((0 : Int) < 0) = false := by decide
    clear hz
    go_enter Tryd.func87, Tryd.ntmps87
    go_wp2_with fail
    refine H.out.mono ?_
    rintro e w1 ⟨rfl, h1, g1⟩
    obtain ⟨hv, h0, c0, c1, f0, f1⟩ := rd_parts_none h1
    have H1 := Lib.hid h1
    clear h1 hv H
    go_wp2
    go_ret
    exact ⟨rfl, H1.out, g1⟩
  | some bs =>
    clear hz
    by_cases hl : ((bs.length : Nat) : Int) < u
    · have e1 : chkLen (u) (some bs) = (0, none) := if_pos hl
      rw [e1]
      have t0 : decide (((bs.length : Nat) : Int) < u) = true := by simpa using hl
      clear e1 hl
      go_enter Tryd.func87, Tryd.ntmps87
      go_wp2_with fail
      refine H.out.mono ?_
      rintro e w1 ⟨rfl, h1, g1⟩
      obtain ⟨v, hv, hb, h0, c0, c1, f0, f1⟩ := rd_parts h1
      obtain ⟨ad, c, rfl⟩ := bytes_len hb
      have HV := Lib.hid hv
      clear h1 H hv hb
      go_wp2
      go_ret
      exact ⟨rfl, rd_fail h0 g1 HV.out⟩
    · have e1 : chkLen (u) (some bs) = (u, some bs) := if_neg hl
      rw [e1]
      have t0 : decide (((bs.length : Nat) : Int) < u) = false := by simpa using hl
      clear e1 hl
      go_enter Tryd.func87, Tryd.ntmps87
      go_wp2_with fail
      refine H.out.mono ?_
      rintro e w1 ⟨rfl, h1, g1⟩
      obtain ⟨v, hv, hb, h0, c0, c1, f0, f1⟩ := rd_parts h1
      obtain ⟨ad, c, rfl⟩ := bytes_len hb
      have H1 := Lib.hid h1
      clear h1 H hv hb
      go_wp2
      go_ret
      exact ⟨rfl, H1.out, g1⟩

theorem wrap32_same (n : Int) : Kz.wrap32 n = RowKit.wrap32 n := by unfold Kz.wrap32 RowKit.wrap32; omega
theorem rdLen_CompactArrayLen (st : St) : rdLen true st = chkLen (Kz.wrap32 (Kz.wrap32 (rdV st).1 - 1)) (rdV st).2 := by
  simp only [rdLen, rdLen0, if_true]
theorem CompactArrayLen_zero (st : St) (h : (rdV st).2 = none) : (rdV st).1 = 0 := by
  cases st with
  | none => rfl
  | some bs =>
    cases hu : uvA 4 bs with
    | none => rw [rdV_less bs hu]
    | some x => rw [rdV_some bs x.1 x.2 hu] at h; cases h
set_option maxHeartbeats 400000 in
theorem CompactArrayLen_any (w : World) (S : Nat → Prop) (rb : Nat) (st : St) (h : RdIs w S rb st) : Calls Tryd.prog 86 #[.pointer (some ⟨rb, 0, none⟩)] w fun e w' =>
    e = .returned (.int .i32 (rdLen true st).1) ∧ RdIs w' S rb (rdLen true st).2 ∧ w.grownBy w' (some rb) := by
  rw [rdLen_CompactArrayLen]
  have hz := CompactArrayLen_zero st
  obtain ⟨u, hu⟩ : ∃ u, u = (rdV st).1 := ⟨_, rfl⟩
  obtain ⟨s1, hs1⟩ : ∃ s, s = (rdV st).2 := ⟨_, rfl⟩
  have u2 : u < 4294967296 := by rw [hu]; exact rdV_bounds st
  have hcall : Calls Tryd.prog 92 #[.pointer (some ⟨rb, 0, none⟩)] w fun e w' => e = .returned (.int .u32 (u : Int)) ∧ RdIs w' S rb s1 ∧ w.grownBy w' (some rb) := by
    rw [hu, hs1]; exact RUvarint_any w S rb st h
  rw [← hu, ← hs1]
  rw [← hu, ← hs1] at hz
  clear hu hs1 h
  have H := Lib.hid hcall
  clear hcall
  rw [wrap32_same, wrap32_same]
  obtain ⟨L, hL⟩ : ∃ L, RowKit.wrap32 (RowKit.wrap32 u - 1) = L := ⟨_, rfl⟩
  have hL1 : -2147483648 ≤ L := by rw [← hL]; unfold RowKit.wrap32; omega
  have hL2 : L ≤ 2147483647 := by rw [← hL]; unfold RowKit.wrap32; omega
  have hz : (none : St) = s1.map (fun _ => []) → L = -1 := by
    intro h
    rw [← hL, hz (by cases s1 with | none => rfl | some x => cases h)]
    unfold RowKit.wrap32
    omega
  rw [hL]
  clear u2
  cases s1 with
  | none =>
    obtain rfl : L = -1 := hz rfl
    have t0 : decide ((0 : Int) < -1) = false := by decide
    clear hz
    go_enter Tryd.func86, Tryd.ntmps86
    go_wp2_with fail
    refine H.out.mono ?_
    rintro e w1 ⟨rfl, h1, g1⟩
    obtain ⟨hv, h0, c0, c1, f0, f1⟩ := rd_parts_none h1
    have H1 := Lib.hid h1
    clear h1 hv H
    go_wp2
    go_ret
    exact ⟨rfl, H1.out, g1⟩
  | some bs =>
    clear hz
    by_cases hl : ((bs.length : Nat) : Int) < L
    · have e1 : chkLen (L) (some bs) = (0, none) := if_pos hl
      rw [e1]
      have t0 : decide (((bs.length : Nat) : Int) < L) = true := by simpa using hl
      clear e1 hl
      go_enter Tryd.func86, Tryd.ntmps86
      go_wp2_with fail
      refine H.out.mono ?_
      rintro e w1 ⟨rfl, h1, g1⟩
      obtain ⟨v, hv, hb, h0, c0, c1, f0, f1⟩ := rd_parts h1
      obtain ⟨ad, c, rfl⟩ := bytes_len hb
      have HV := Lib.hid hv
      clear h1 H hv hb
      go_wp2
      go_ret
      exact ⟨rfl, rd_fail h0 g1 HV.out⟩
    · have e1 : chkLen (L) (some bs) = (L, some bs) := if_neg hl
      rw [e1]
      have t0 : decide (((bs.length : Nat) : Int) < L) = false := by simpa using hl
      clear e1 hl
      go_enter Tryd.func86, Tryd.ntmps86
      go_wp2_with fail
      refine H.out.mono ?_
      rintro e w1 ⟨rfl, h1, g1⟩
      obtain ⟨v, hv, hb, h0, c0, c1, f0, f1⟩ := rd_parts h1
      obtain ⟨ad, c, rfl⟩ := bytes_len hb
      have H1 := Lib.hid h1
      clear h1 H hv hb
      go_wp2
      go_ret
      exact ⟨by rw [← hL]; rfl, H1.out, g1⟩

end Go.Proofs.YtpknjenihcfhlaaDoor
