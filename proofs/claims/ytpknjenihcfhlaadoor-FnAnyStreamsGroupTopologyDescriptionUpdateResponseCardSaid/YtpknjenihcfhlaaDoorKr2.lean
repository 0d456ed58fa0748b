/-
  The package's reader, numbers: what each call answers and what is left, for every state of the reader. Conditions: none.
-/
import Derived.Test.YtpknjenihcfhlaaDoorKr1
namespace Go.Proofs.YtpknjenihcfhlaaDoor
open Go.RowKit (Below)
open Kz

theorem beNat_lib (l : List UInt8) : Lib.beNat l = Kz.beNat l := by
  have key : ∀ (l : List UInt8) (a : Nat), Lib.beFrom a l = l.foldl (fun a b => a * 256 + b.toNat) a := by
    intro l
    induction l with
    | nil => intro a; rfl
    | cons b l ih => intro a; simp only [Lib.beFrom, List.foldl_cons, ih]
  exact key l 0
theorem beNat_lt (l : List UInt8) : Kz.beNat l < 256 ^ l.length := by
  induction l with
  | nil => simp [Kz.beNat]
  | cons b l ih =>
    rw [beNat_cons, List.length_cons, Nat.pow_succ]
    have := b.toNat_lt
    have : b.toNat * 256 ^ l.length ≤ 255 * 256 ^ l.length := Nat.mul_le_mul_right _ (by omega)
    omega
theorem wrap16_eq (n : Int) : IntKind.i16.wrap n = if 32768 ≤ n % 65536 then n % 65536 - 65536 else n % 65536 := by
  show (if (true && decide (n % 65536 ≥ 32768)) = true then n % 65536 - 65536 else n % 65536) = _
  by_cases h : 32768 ≤ n % 65536
  · rw [if_pos h, if_pos (by simpa using h)]
  · rw [if_neg h, if_neg (by simpa using h)]
theorem wrap16_sgn (n : Nat) (h : n < 65536) : IntKind.i16.wrap (n : Int) = sgn 2 n := by
  rw [wrap16_eq]
  unfold sgn
  by_cases hn : n < 2 ^ (8 * 2 - 1)
  · rw [if_pos hn, if_neg (by omega)]; omega
  · rw [if_neg hn, if_pos (by omega)]; simp only [show (8 * 2 : Nat) = 16 from rfl]; omega
theorem wrap32_sgn (n : Nat) (h : n < 4294967296) : RowKit.wrap32 (n : Int) = sgn 4 n := by
  unfold RowKit.wrap32 sgn
  by_cases hn : n < 2 ^ (8 * 4 - 1)
  · rw [if_pos hn]; omega
  · rw [if_neg hn]; simp only [show (8 * 4 : Nat) = 32 from rfl] at hn ⊢; omega

theorem rdN_some {α : Type} (k : Nat) (g : List UInt8 → α) (z : α) (bs : List UInt8) (h : k ≤ bs.length) : rdN k g z (some bs) = (g (bs.take k), some (bs.drop k)) := if_pos h
theorem rdN_less {α : Type} (k : Nat) (g : List UInt8 → α) (z : α) (bs : List UInt8) (h : ¬ k ≤ bs.length) : rdN k g z (some bs) = (z, none) := if_neg h
/-- Octets that are there, one by one. -/
theorem bytes_some {w : World} {S : Nat → Prop} {v : Value} {b : UInt8} {bs : List UInt8} (h : BytesAt w S v (b :: bs)) : ∃ g o c, v = .slice (some ⟨g, o, none⟩) (bs.length + 1) c ∧ bs.length + 1 ≤ c ∧ c ≤ 9223372036854775807 ∧ S g ∧ g < w.heap.size ∧
    ∀ (i : Nat) (x : UInt8), (b :: bs)[i]? = some x → w.cell? ⟨g, o + i, none⟩ = some (bv x) := by
  rcases h with ⟨-, h⟩ | ⟨g, o, c, h1, h2, h3, h4, h5, h6⟩
  · cases h
  · exact ⟨g, o, c, h1, h2, h3, h4, h5, h6⟩

theorem Int16_any (w : World) (S : Nat → Prop) (rb : Nat) (st : St) (h : RdIs w S rb st) : Calls Tryd.prog 72 #[.pointer (some ⟨rb, 0, none⟩)] w fun e w' =>
    e = .returned (.int .i16 (rdI 2 st).1) ∧ RdIs w' S rb (rdI 2 st).2 ∧ w.grownBy w' (some rb) := by
  have hlt := h.lt
  cases st with
  | none =>
    obtain ⟨hv, h0, c0, c1, f0, f1⟩ := rd_parts_none h
    refine (Int16_short w rb 0 0 none true (by decide) c0 c1 f0 f1).mono ?_
    rintro e w' ⟨rfl, rfl⟩
    exact ⟨rfl, rd_fail h0 (grownBy_refl _ _) hv⟩
  | some bs =>
    obtain ⟨v, hv, hb, h0, c0, c1, f0, f1⟩ := rd_parts h
    by_cases hl : bs.length < 2
    · obtain ⟨ad, c, rfl⟩ := bytes_len hb
      refine (Int16_short w rb bs.length c ad false hl c0 c1 f0 f1).mono ?_
      rintro e w' ⟨rfl, rfl⟩
      have e1 : rdI 2 (some bs) = (0, none) := rdN_less _ _ _ _ (by omega)
      rw [e1]
      exact ⟨rfl, rd_fail h0 (grownBy_refl _ _) hv⟩
    · clear h
      obtain ⟨b0, r0, rfl⟩ : ∃ b l, bs = b :: l := by cases bs with | nil => simp at hl | cons b l => exact ⟨b, l, rfl⟩
      obtain ⟨b1, r1, rfl⟩ : ∃ b l, r0 = b :: l := by cases r0 with | nil => simp at hl | cons b l => exact ⟨b, l, rfl⟩
      obtain ⟨g, o, c, rfl, h2, h3, h4, h5, h6⟩ := bytes_some hb
      simp only [List.length_cons] at h2 hl c0 hv
      have e1 : rdI 2 (some (b0 :: b1 :: r1)) = (sgn 2 (Kz.beNat [b0, b1]), some r1) := by
        unfold rdI
        rw [rdN_some _ _ _ _ (by simp only [List.length_cons]; omega)]
        simp only [List.take_succ_cons, List.take_zero, List.drop_succ_cons, List.drop_zero]
      refine (Int16_good w rb (r1.length + 2) c g o b0 b1 (by omega) (by omega) h3 hlt (by rw [c0]) f0 (h6 0 b0 rfl) (h6 1 b1 rfl)).mono ?_
      rintro e w' ⟨rfl, w1, ad, hw1, had, rfl⟩
      have hg := below_grown hw1 (some rb)
      have hv1 : w1.heap[rb]? = some (.cells #[_, .bool false] 82 (0, 0)) := (hw1.block rb hlt).trans hv
      have hb1 := hb.kept hg (fun g hg e => h0 (by rw [← Option.some.inj e]; exact hg))
      rcases hb1 with ⟨hbad, -⟩ | ⟨g', o', c', k1, k2, k3, k4, k5, k6⟩
      · cases hbad
      simp only [Value.slice.injEq, Option.some.injEq, Addr.mk.injEq, and_true] at k1
      obtain ⟨⟨rfl, rfl⟩, -, rfl⟩ := k1
      have hd := BytesAt.drop (S := S) 2 (by simp only [List.length_cons]; omega) (show r1.length + 2 = (b0 :: b1 :: r1).length by simp only [List.length_cons]) k2 k3 k4 k5 k6 ad had
      rw [e1]
      refine ⟨?_, rd_on h0 hg hv1 hd⟩
      rw [show IntKind.i16.wrap (Lib.beNat [b0, b1]) = sgn 2 (Kz.beNat [b0, b1]) by rw [beNat_lib]; exact wrap16_sgn _ (by have := beNat_lt [b0, b1]; simpa using this)]


theorem Int32_any (w : World) (S : Nat → Prop) (rb : Nat) (st : St) (h : RdIs w S rb st) : Calls Tryd.prog 80 #[.pointer (some ⟨rb, 0, none⟩)] w fun e w' =>
    e = .returned (.int .i32 (rdI 4 st).1) ∧ RdIs w' S rb (rdI 4 st).2 ∧ w.grownBy w' (some rb) := by
  have hlt := h.lt
  cases st with
  | none =>
    obtain ⟨hv, h0, c0, c1, f0, f1⟩ := rd_parts_none h
    refine (Int32_short w rb 0 0 none true (by decide) c0 c1 f0 f1).mono ?_
    rintro e w' ⟨rfl, rfl⟩
    exact ⟨rfl, rd_fail h0 (grownBy_refl _ _) hv⟩
  | some bs =>
    obtain ⟨v, hv, hb, h0, c0, c1, f0, f1⟩ := rd_parts h
    by_cases hl : bs.length < 4
    · obtain ⟨ad, c, rfl⟩ := bytes_len hb
      refine (Int32_short w rb bs.length c ad false hl c0 c1 f0 f1).mono ?_
      rintro e w' ⟨rfl, rfl⟩
      have e1 : rdI 4 (some bs) = (0, none) := rdN_less _ _ _ _ (by omega)
      rw [e1]
      exact ⟨rfl, rd_fail h0 (grownBy_refl _ _) hv⟩
    · clear h
      obtain ⟨b0, r0, rfl⟩ : ∃ b l, bs = b :: l := by cases bs with | nil => simp at hl | cons b l => exact ⟨b, l, rfl⟩
      obtain ⟨b1, r1, rfl⟩ : ∃ b l, r0 = b :: l := by cases r0 with | nil => simp at hl | cons b l => exact ⟨b, l, rfl⟩
      obtain ⟨b2, r2, rfl⟩ : ∃ b l, r1 = b :: l := by cases r1 with | nil => simp at hl | cons b l => exact ⟨b, l, rfl⟩
      obtain ⟨b3, r3, rfl⟩ : ∃ b l, r2 = b :: l := by cases r2 with | nil => simp at hl | cons b l => exact ⟨b, l, rfl⟩
      obtain ⟨g, o, c, rfl, h2, h3, h4, h5, h6⟩ := bytes_some hb
      simp only [List.length_cons] at h2 hl c0 hv
      have e1 : rdI 4 (some (b0 :: b1 :: b2 :: b3 :: r3)) = (sgn 4 (Kz.beNat [b0, b1, b2, b3]), some r3) := by
        unfold rdI
        rw [rdN_some _ _ _ _ (by simp only [List.length_cons]; omega)]
        simp only [List.take_succ_cons, List.take_zero, List.drop_succ_cons, List.drop_zero]
      refine (Int32_good w rb (r3.length + 4) c g o b0 b1 b2 b3 (by omega) (by omega) h3 hlt (by rw [c0]) f0 (h6 0 b0 rfl) (h6 1 b1 rfl) (h6 2 b2 rfl) (h6 3 b3 rfl)).mono ?_
      rintro e w' ⟨rfl, w1, ad, hw1, had, rfl⟩
      have hg := below_grown hw1 (some rb)
      have hv1 : w1.heap[rb]? = some (.cells #[_, .bool false] 82 (0, 0)) := (hw1.block rb hlt).trans hv
      have hb1 := hb.kept hg (fun g hg e => h0 (by rw [← Option.some.inj e]; exact hg))
      rcases hb1 with ⟨hbad, -⟩ | ⟨g', o', c', k1, k2, k3, k4, k5, k6⟩
      · cases hbad
      simp only [Value.slice.injEq, Option.some.injEq, Addr.mk.injEq, and_true] at k1
      obtain ⟨⟨rfl, rfl⟩, -, rfl⟩ := k1
      have hd := BytesAt.drop (S := S) 4 (by simp only [List.length_cons]; omega) (show r3.length + 4 = (b0 :: b1 :: b2 :: b3 :: r3).length by simp only [List.length_cons]) k2 k3 k4 k5 k6 ad had
      rw [e1]
      refine ⟨?_, rd_on h0 hg hv1 hd⟩
      rw [show RowKit.wrap32 (Lib.beNat [b0, b1, b2, b3]) = sgn 4 (Kz.beNat [b0, b1, b2, b3]) by rw [beNat_lib]; exact wrap32_sgn _ (by have := beNat_lt [b0, b1, b2, b3]; simpa using this)]

theorem readUint64_any (w : World) (S : Nat → Prop) (rb : Nat) (st : St) (h : RdIs w S rb st) : Calls Tryd.prog 95 #[.pointer (some ⟨rb, 0, none⟩)] w fun e w' =>
    e = .returned (.int .u64 (rdU 8 st).1) ∧ RdIs w' S rb (rdU 8 st).2 ∧ w.grownBy w' (some rb) := by
  have hlt := h.lt
  cases st with
  | none =>
    obtain ⟨hv, h0, c0, c1, f0, f1⟩ := rd_parts_none h
    refine (readUint64_short w rb 0 0 none true (by decide) c0 c1 f0 f1).mono ?_
    rintro e w' ⟨rfl, rfl⟩
    exact ⟨rfl, rd_fail h0 (grownBy_refl _ _) hv⟩
  | some bs =>
    obtain ⟨v, hv, hb, h0, c0, c1, f0, f1⟩ := rd_parts h
    by_cases hl : bs.length < 8
    · obtain ⟨ad, c, rfl⟩ := bytes_len hb
      refine (readUint64_short w rb bs.length c ad false hl c0 c1 f0 f1).mono ?_
      rintro e w' ⟨rfl, rfl⟩
      have e1 : rdU 8 (some bs) = (0, none) := rdN_less _ _ _ _ (by omega)
      rw [e1]
      exact ⟨rfl, rd_fail h0 (grownBy_refl _ _) hv⟩
    · clear h
      obtain ⟨b0, r0, rfl⟩ : ∃ b l, bs = b :: l := by cases bs with | nil => simp at hl | cons b l => exact ⟨b, l, rfl⟩
      obtain ⟨b1, r1, rfl⟩ : ∃ b l, r0 = b :: l := by cases r0 with | nil => simp at hl | cons b l => exact ⟨b, l, rfl⟩
      obtain ⟨b2, r2, rfl⟩ : ∃ b l, r1 = b :: l := by cases r1 with | nil => simp at hl | cons b l => exact ⟨b, l, rfl⟩
      obtain ⟨b3, r3, rfl⟩ : ∃ b l, r2 = b :: l := by cases r2 with | nil => simp at hl | cons b l => exact ⟨b, l, rfl⟩
      obtain ⟨b4, r4, rfl⟩ : ∃ b l, r3 = b :: l := by cases r3 with | nil => simp at hl | cons b l => exact ⟨b, l, rfl⟩
      obtain ⟨b5, r5, rfl⟩ : ∃ b l, r4 = b :: l := by cases r4 with | nil => simp at hl | cons b l => exact ⟨b, l, rfl⟩
      obtain ⟨b6, r6, rfl⟩ : ∃ b l, r5 = b :: l := by cases r5 with | nil => simp at hl | cons b l => exact ⟨b, l, rfl⟩
      obtain ⟨b7, r7, rfl⟩ : ∃ b l, r6 = b :: l := by cases r6 with | nil => simp at hl | cons b l => exact ⟨b, l, rfl⟩
      obtain ⟨g, o, c, rfl, h2, h3, h4, h5, h6⟩ := bytes_some hb
      simp only [List.length_cons] at h2 hl c0 hv
      have e1 : rdU 8 (some (b0 :: b1 :: b2 :: b3 :: b4 :: b5 :: b6 :: b7 :: r7)) = ((Kz.beNat [b0, b1, b2, b3, b4, b5, b6, b7]), some r7) := by
        unfold rdU
        rw [rdN_some _ _ _ _ (by simp only [List.length_cons]; omega)]
        simp only [List.take_succ_cons, List.take_zero, List.drop_succ_cons, List.drop_zero]
      refine (readUint64_good w rb (r7.length + 8) c g o b0 b1 b2 b3 b4 b5 b6 b7 (by omega) (by omega) h3 hlt (by rw [c0]) f0 (h6 0 b0 rfl) (h6 1 b1 rfl) (h6 2 b2 rfl) (h6 3 b3 rfl) (h6 4 b4 rfl) (h6 5 b5 rfl) (h6 6 b6 rfl) (h6 7 b7 rfl)).mono ?_
      rintro e w' ⟨rfl, w1, ad, hw1, had, rfl⟩
      have hg := below_grown hw1 (some rb)
      have hv1 : w1.heap[rb]? = some (.cells #[_, .bool false] 82 (0, 0)) := (hw1.block rb hlt).trans hv
      have hb1 := hb.kept hg (fun g hg e => h0 (by rw [← Option.some.inj e]; exact hg))
      rcases hb1 with ⟨hbad, -⟩ | ⟨g', o', c', k1, k2, k3, k4, k5, k6⟩
      · cases hbad
      simp only [Value.slice.injEq, Option.some.injEq, Addr.mk.injEq, and_true] at k1
      obtain ⟨⟨rfl, rfl⟩, -, rfl⟩ := k1
      have hd := BytesAt.drop (S := S) 8 (by simp only [List.length_cons]; omega) (show r7.length + 8 = (b0 :: b1 :: b2 :: b3 :: b4 :: b5 :: b6 :: b7 :: r7).length by simp only [List.length_cons]) k2 k3 k4 k5 k6 ad had
      rw [e1]
      refine ⟨?_, rd_on h0 hg hv1 hd⟩
      rw [show (Lib.beNat [b0, b1, b2, b3, b4, b5, b6, b7] : Int) = (Kz.beNat [b0, b1, b2, b3, b4, b5, b6, b7] : Int) by rw [beNat_lib]]

end Go.Proofs.YtpknjenihcfhlaaDoor
