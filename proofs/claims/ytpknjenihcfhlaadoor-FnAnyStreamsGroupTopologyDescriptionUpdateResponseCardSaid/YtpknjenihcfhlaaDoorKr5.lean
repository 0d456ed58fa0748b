/-
  The package's reader: a number in groups, some octets, single octets, whether it has failed: what each call answers, and what is left, for every state of the reader. Conditions: none.
-/
import Derived.Test.YtpknjenihcfhlaaDoorKr4
namespace Go.Proofs.YtpknjenihcfhlaaDoor
open Go.RowKit (Below Hid Hid.out)
open Kz

theorem rdV_some (bs : List UInt8) (n : Nat) (r : List UInt8) (h : uvA 4 bs = some (n, r)) : rdV (some bs) = (n, some r) := by simp only [rdV, h]
theorem rdV_less (bs : List UInt8) (h : uvA 4 bs = none) : rdV (some bs) = (0, none) := by simp only [rdV, h]
set_option maxHeartbeats 400000 in
theorem RUvarint_yes (w : World) (rb n c g o k m : Nat) (hc : n ≤ c) (hc2 : c ≤ 9223372036854775807) (hk : k ≤ n) (hk1 : 1 ≤ k)
    (c0 : w.cell? ⟨rb, 0, none⟩ = some (.slice (some ⟨g, o, none⟩) n c)) (f0 : w.frozen? ⟨rb, 0, none⟩ = false)
    (hcall : Calls Tryd.prog 102 #[.slice (some ⟨g, o, none⟩) n c] w fun e w' => e = .returned (.tuple #[.int .u32 m, .int .i64 k]) ∧ w = w') :
    Calls Tryd.prog 92 #[.pointer (some ⟨rb, 0, none⟩)] w fun e w' =>
      e = .returned (.int .u32 m) ∧ ∃ ad, (ad = ⟨g, o + k, none⟩ ∨ (c = k ∧ ad = ⟨g, o, none⟩)) ∧ w' = w.setCell ⟨rb, 0, none⟩ (.slice (some ad) (n - k) (c - k)) := by
  have H := Lib.hid hcall
  clear hcall
  by_cases hne : c = k
  · subst hne
    obtain rfl : n = c := by omega
    have t0 : decide ((n : Int) ≤ 0) = false := by simp; omega
    go_enter Tryd.func92, Tryd.ntmps92
    go_wp2_with fail
    refine H.out.mono ?_
    rintro e w' ⟨rfl, rfl⟩
    go_wp2
    go_ret
    refine ⟨rfl, _, .inr ⟨by trivial, rfl⟩, ?_⟩
    simp
  · have t0 : decide ((k : Int) ≤ 0) = false := by simp; omega
    go_enter Tryd.func92, Tryd.ntmps92
    go_wp2_with fail
    refine H.out.mono ?_
    rintro e w' ⟨rfl, rfl⟩
    go_wp2
    go_ret
    exact ⟨rfl, _, .inl rfl, rfl⟩
set_option maxHeartbeats 400000 in
theorem RUvarint_no (w : World) (rb : Nat) (v : Value) (q : Bool) (z : Int) (hz : z ≤ 0)
    (c0 : w.cell? ⟨rb, 0, none⟩ = some v) (c1 : w.cell? ⟨rb, 1, none⟩ = some (.bool q)) (f0 : w.frozen? ⟨rb, 0, none⟩ = false) (f1 : w.frozen? ⟨rb, 1, none⟩ = false)
    (hcall : Calls Tryd.prog 102 #[v] w fun e w' => e = .returned (.tuple #[.int .u32 0, .int .i64 z]) ∧ w = w') :
    Calls Tryd.prog 92 #[.pointer (some ⟨rb, 0, none⟩)] w fun e w' =>
      e = .returned (.int .u32 0) ∧ w' = (w.setCell ⟨rb, 1, none⟩ (.bool true)).setCell ⟨rb, 0, none⟩ (.slice none 0 0) := by
  have H := Lib.hid hcall
  clear hcall
  have t0 : decide (z ≤ 0) = true := by simpa using hz
  go_enter Tryd.func92, Tryd.ntmps92
  go_wp2_with fail
  refine H.out.mono ?_
  rintro e w' ⟨rfl, rfl⟩
  go_wp2
  go_ret
  exact ⟨rfl, rfl⟩

theorem RUvarint_any (w : World) (S : Nat → Prop) (rb : Nat) (st : St) (h : RdIs w S rb st) : Calls Tryd.prog 92 #[.pointer (some ⟨rb, 0, none⟩)] w fun e w' =>
    e = .returned (.int .u32 (rdV st).1) ∧ RdIs w' S rb (rdV st).2 ∧ w.grownBy w' (some rb) := by
  cases st with
  | none =>
    obtain ⟨hv, h0, c0, c1, f0, f1⟩ := rd_parts_none h
    refine (RUvarint_no w rb _ true 0 (by decide) c0 c1 f0 f1 (Uvarint_f0 w 0 none)).mono ?_
    rintro e w' ⟨rfl, rfl⟩
    exact ⟨rfl, rd_fail h0 (grownBy_refl _ _) hv⟩
  | some bs =>
    obtain ⟨v, hv, hb, h0, c0, c1, f0, f1⟩ := rd_parts h
    rcases Uvarint_any w S v bs hb with ⟨m, r, hu, k, hk1, hk, hr, hc⟩ | ⟨hu, z, hz, hc⟩
    · rw [rdV_some bs m r hu]
      rcases hb with ⟨rfl, rfl⟩ | ⟨g, o, c, rfl, h2, h3, h4, h5, h6⟩
      · simp [uvA] at hu
      refine (RUvarint_yes w rb bs.length c g o k m h2 h3 hk hk1 c0 f0 hc).mono ?_
      rintro e w' ⟨rfl, ad, had, rfl⟩
      have hd := BytesAt.drop (S := S) k hk rfl h2 h3 h4 h5 h6 ad had
      rw [hr]
      exact ⟨rfl, rd_on h0 (grownBy_refl _ _) hv hd⟩
    · rw [rdV_less bs hu]
      refine (RUvarint_no w rb v false z hz c0 c1 f0 f1 hc).mono ?_
      rintro e w' ⟨rfl, rfl⟩
      exact ⟨rfl, rd_fail h0 (grownBy_refl _ _) hv⟩

theorem rdSpan_yes (l : Int) (bs : List UInt8) (h : 0 ≤ l ∧ l ≤ bs.length) : rdSpan l (some bs) = (bs.take l.toNat, some (bs.drop l.toNat)) := if_pos h
theorem rdSpan_not (l : Int) (bs : List UInt8) (h : ¬ (0 ≤ l ∧ l ≤ bs.length)) : rdSpan l (some bs) = ([], none) := if_neg h
set_option maxHeartbeats 400000 in
theorem Span_no (w : World) (rb n c : Nat) (ad : Option Addr) (q : Bool) (l : Int) (hl : (n : Int) < l ∨ l < 0) (hb1 : -9223372036854775808 ≤ l) (hb2 : l ≤ 9223372036854775807)
    (c0 : w.cell? ⟨rb, 0, none⟩ = some (.slice ad n c)) (c1 : w.cell? ⟨rb, 1, none⟩ = some (.bool q)) (f0 : w.frozen? ⟨rb, 0, none⟩ = false) (f1 : w.frozen? ⟨rb, 1, none⟩ = false) :
    Calls Tryd.prog 94 #[.pointer (some ⟨rb, 0, none⟩), .int .i64 l] w fun e w' =>
      e = .returned (.slice none 0 0) ∧ w' = (w.setCell ⟨rb, 1, none⟩ (.bool true)).setCell ⟨rb, 0, none⟩ (.slice none 0 0) := by
  rcases hl with hl | hl
  · have t0 : decide ((n : Int) < l) = true := by simpa using hl
    go_enter Tryd.func94, Tryd.ntmps94
    go_wp2
    go_ret
    exact ⟨rfl, rfl⟩
  · have t0 : decide ((n : Int) < l) = false := by simp; omega
    have t1 : decide (l < 0) = true := by simpa using hl
    go_enter Tryd.func94, Tryd.ntmps94
    go_wp2
    go_ret
    exact ⟨rfl, rfl⟩
set_option maxHeartbeats 400000 in
theorem Span_yes (w : World) (rb n c g o l : Nat) (hl : l ≤ n) (hc : n ≤ c) (hc2 : c ≤ 9223372036854775807)
    (c0 : w.cell? ⟨rb, 0, none⟩ = some (.slice (some ⟨g, o, none⟩) n c)) (f0 : w.frozen? ⟨rb, 0, none⟩ = false) :
    Calls Tryd.prog 94 #[.pointer (some ⟨rb, 0, none⟩), .int .i64 (l : Int)] w fun e w' =>
      e = .returned (.slice (some ⟨g, o, none⟩) l l) ∧ ∃ ad, (ad = ⟨g, o + l, none⟩ ∨ (c = l ∧ ad = ⟨g, o, none⟩)) ∧ w' = w.setCell ⟨rb, 0, none⟩ (.slice (some ad) (n - l) (c - l)) := by
  have t0 : decide ((n : Int) < (l : Int)) = false := by simp; omega
  have t1 : decide ((l : Int) < 0) = false := by simp
  by_cases hne : c = l
  · subst hne
    obtain rfl : n = c := by omega
    go_enter Tryd.func94, Tryd.ntmps94
    go_wp2
    go_ret
    exact ⟨rfl, _, .inr ⟨by trivial, rfl⟩, by simp⟩
  · go_enter Tryd.func94, Tryd.ntmps94
    go_wp2
    go_ret
    exact ⟨rfl, _, .inl rfl, rfl⟩
set_option maxHeartbeats 400000 in
theorem Span_nil (w : World) (rb : Nat) (c0 : w.cell? ⟨rb, 0, none⟩ = some (.slice none 0 0)) (f0 : w.frozen? ⟨rb, 0, none⟩ = false) :
    Calls Tryd.prog 94 #[.pointer (some ⟨rb, 0, none⟩), .int .i64 0] w fun e w' => e = .returned (.slice none 0 0) ∧ w' = w.setCell ⟨rb, 0, none⟩ (.slice none 0 0) := by
  go_enter Tryd.func94, Tryd.ntmps94
  go_wp2
  go_ret
  exact ⟨rfl, rfl⟩
theorem BytesAt.take {w : World} {S : Nat → Prop} {g o c : Nat} {bs : List UInt8} (l : Nat) (hl : l ≤ bs.length) (h2 : bs.length ≤ c) (h2' : c ≤ 9223372036854775807) (h3 : S g) (h4 : g < w.heap.size)
    (h5 : ∀ (i : Nat) (b : UInt8), bs[i]? = some b → w.cell? ⟨g, o + i, none⟩ = some (bv b)) : BytesAt w S (.slice (some ⟨g, o, none⟩) l l) (bs.take l) := by
  refine .inr ⟨g, o, l, by rw [List.length_take, Nat.min_eq_left hl], by rw [List.length_take]; omega, by omega, h3, h4, fun i b hi => h5 i b ?_⟩
  rw [List.getElem?_take] at hi
  split at hi
  · exact hi
  · cases hi
theorem Span_any (w : World) (S : Nat → Prop) (rb : Nat) (st : St) (l : Int) (h : RdIs w S rb st) (hb1 : -9223372036854775808 ≤ l) (hb2 : l ≤ 9223372036854775807) :
    Calls Tryd.prog 94 #[.pointer (some ⟨rb, 0, none⟩), .int .i64 l] w fun e w' =>
    ∃ v, e = .returned v ∧ BytesAt w' S v (rdSpan l st).1 ∧ RdIs w' S rb (rdSpan l st).2 ∧ w.grownBy w' (some rb) := by
  cases st with
  | none =>
    obtain ⟨hv, h0, c0, c1, f0, f1⟩ := rd_parts_none h
    by_cases hl : l = 0
    · subst hl
      refine (Span_nil w rb c0 f0).mono ?_
      rintro e w' ⟨rfl, rfl⟩
      exact ⟨_, rfl, .inl ⟨rfl, rfl⟩, ⟨h0, heap_setCell_row hv⟩, grown_setCell (grownBy_refl _ _) 0 _⟩
    · refine (Span_no w rb 0 0 none true l (by omega) hb1 hb2 c0 c1 f0 f1).mono ?_
      rintro e w' ⟨rfl, rfl⟩
      exact ⟨_, rfl, .inl ⟨rfl, rfl⟩, rd_fail h0 (grownBy_refl _ _) hv⟩
  | some bs =>
    obtain ⟨v, hv, hb, h0, c0, c1, f0, f1⟩ := rd_parts h
    by_cases hl : 0 ≤ l ∧ l ≤ bs.length
    · rw [rdSpan_yes l bs hl]
      obtain ⟨k, rfl⟩ : ∃ k : Nat, l = k := ⟨l.toNat, by omega⟩
      rw [Int.toNat_natCast]
      rcases hb with ⟨rfl, rfl⟩ | ⟨g, o, c, rfl, h2, h3, h4, h5, h6⟩
      · obtain rfl : k = 0 := by simp at hl; omega
        refine (Span_nil w rb c0 f0).mono ?_
        rintro e w' ⟨rfl, rfl⟩
        exact ⟨_, rfl, .inl ⟨rfl, rfl⟩, rd_on h0 (grownBy_refl _ _) hv (.inl ⟨rfl, rfl⟩)⟩
      · refine (Span_yes w rb bs.length c g o k (by omega) h2 h3 c0 f0).mono ?_
        rintro e w' ⟨rfl, ad, had, rfl⟩
        have hd := BytesAt.drop (S := S) k (by omega) rfl h2 h3 h4 h5 h6 ad had
        have ho := rd_on h0 (grownBy_refl _ _) hv hd
        exact ⟨_, rfl, (BytesAt.take (S := S) k (by omega) h2 h3 h4 h5 h6).kept ho.2 (fun g hg e => h0 (by rw [← Option.some.inj e]; exact hg)), ho⟩
    · rw [rdSpan_not l bs hl]
      obtain ⟨ad, c, rfl⟩ := bytes_len hb
      refine (Span_no w rb bs.length c ad false l (by omega) hb1 hb2 c0 c1 f0 f1).mono ?_
      rintro e w' ⟨rfl, rfl⟩
      exact ⟨_, rfl, .inl ⟨rfl, rfl⟩, rd_fail h0 (grownBy_refl _ _) hv⟩



theorem wrap64_sgn (n : Nat) (h : n < 18446744073709551616) : RowKit.wrap64 (n : Int) = sgn 8 n := by
  unfold RowKit.wrap64 sgn
  by_cases hn : n < 2 ^ (8 * 8 - 1)
  · rw [if_pos hn]; simp only [show (8 * 8 - 1 : Nat) = 63 from rfl] at hn; omega
  · rw [if_neg hn]; simp only [show (8 * 8 - 1 : Nat) = 63 from rfl, show (8 * 8 : Nat) = 64 from rfl] at hn ⊢; omega
theorem wrap64_zero : RowKit.wrap64 ((0 : Nat) : Int) = 0 := by unfold RowKit.wrap64; omega
theorem rdU8_rdI8 (st : St) : RowKit.wrap64 ((rdU 8 st).1 : Int) = (rdI 8 st).1 ∧ (rdU 8 st).2 = (rdI 8 st).2 := by
  cases st with
  | none => exact ⟨wrap64_zero, rfl⟩
  | some bs =>
    by_cases h : 8 ≤ bs.length
    · unfold rdU rdI
      rw [rdN_some _ _ _ _ h, rdN_some _ _ _ _ h]
      refine ⟨wrap64_sgn _ ?_, rfl⟩
      have := beNat_lt (bs.take 8)
      rw [List.length_take, Nat.min_eq_left h] at this
      exact this
    · unfold rdU rdI
      rw [rdN_less _ _ _ _ h, rdN_less _ _ _ _ h]
      exact ⟨wrap64_zero, rfl⟩
set_option maxHeartbeats 400000 in
theorem Int64_any (w : World) (S : Nat → Prop) (rb : Nat) (st : St) (h : RdIs w S rb st) : Calls Tryd.prog 71 #[.pointer (some ⟨rb, 0, none⟩)] w fun e w' =>
    e = .returned (.int .i64 (rdI 8 st).1) ∧ RdIs w' S rb (rdI 8 st).2 ∧ w.grownBy w' (some rb) := by
  go_enter Tryd.func71, Tryd.ntmps71
  go_wp2_with fail
  refine (readUint64_any w S rb st h).mono ?_
  rintro e w' ⟨rfl, h1, g1⟩
  go_wp2
  go_ret
  have hx := rdU8_rdI8 st
  rw [hx.2] at h1
  refine ⟨?_, h1, g1⟩
  rw [← hx.1]
  rfl

/-- The package's error is there. -/
def ErrOk (w : World) : Prop := ∃ t v, w.cell? ⟨1, 0, none⟩ = some (.iface t v)
/-- No error, or the package's. -/
def ErrV (st : St) (v : Value) : Prop := if st.isSome then v = .nilIface else ∃ t x, v = .iface t x
theorem ErrOk.kept {w w' : World} {row : Option Nat} (h : ErrOk w) (hg : w.grownBy w' row) (hr : row ≠ some 1) : ErrOk w' := by
  obtain ⟨t, v, h⟩ := h
  exact ⟨t, v, hg.cell h (fun e => hr e.symm)⟩
set_option maxHeartbeats 400000 in
theorem Complete_any (w : World) (S : Nat → Prop) (rb : Nat) (st : St) (h : RdIs w S rb st) (he : ErrOk w) : Calls Tryd.prog 74 #[.pointer (some ⟨rb, 0, none⟩)] w fun e w' =>
    ∃ v, e = .returned v ∧ ErrV st v ∧ w = w' := by
  cases st with
  | none =>
    obtain ⟨hv, h0, c0, c1, f0, f1⟩ := rd_parts_none h
    obtain ⟨t, x, hc⟩ := he
    go_enter Tryd.func74, Tryd.ntmps74
    go_wp2
    go_ret
    exact ⟨_, rfl, ⟨t, x, rfl⟩, rfl⟩
  | some bs =>
    obtain ⟨v, hv, hb, h0, c0, c1, f0, f1⟩ := rd_parts h
    go_enter Tryd.func74, Tryd.ntmps74
    go_wp2
    go_ret
    exact ⟨_, rfl, rfl, rfl⟩

set_option maxHeartbeats 400000 in
theorem Ok_any (w : World) (S : Nat → Prop) (rb : Nat) (st : St) (h : RdIs w S rb st) : Calls Tryd.prog 88 #[.pointer (some ⟨rb, 0, none⟩)] w fun e w' =>
    e = .returned (.bool st.isSome) ∧ w = w' := by
  cases st with
  | none =>
    obtain ⟨hv, h0, c0, c1, f0, f1⟩ := rd_parts_none h
    go_enter Tryd.func88, Tryd.ntmps88
    go_wp2
    go_ret
    exact ⟨rfl, rfl⟩
  | some bs =>
    obtain ⟨v, hv, hb, h0, c0, c1, f0, f1⟩ := rd_parts h
    go_enter Tryd.func88, Tryd.ntmps88
    go_wp2
    go_ret
    exact ⟨rfl, rfl⟩

end Go.Proofs.YtpknjenihcfhlaaDoor
