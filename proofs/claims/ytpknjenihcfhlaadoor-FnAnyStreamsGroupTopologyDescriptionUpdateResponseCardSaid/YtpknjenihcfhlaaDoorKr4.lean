/-
  The package's reader: numbers in groups of seven bits. What the call answers, and what is left, for every state of the reader. Conditions: none.
-/
import Derived.Test.YtpknjenihcfhlaaDoorKr3
namespace Go.Proofs.YtpknjenihcfhlaaDoor
open Go.RowKit (Below)
open Kz

theorem and127 (b : UInt8) : bits BinOp.and IntKind.u8 (b.toNat : Int) 127 = ((b.toNat % 128 : Nat) : Int) := by
  have h := u8_and_nat b.toNat 127 b.toNat_lt (by decide)
  have e : b.toNat &&& 127 = b.toNat % 128 := Nat.and_two_pow_sub_one_eq_mod b.toNat 7
  rw [e] at h
  exact h
theorem and128 (b : UInt8) : (bits BinOp.and IntKind.u8 (b.toNat : Int) 128 == 0) = decide (b.toNat < 128) := by
  have h := u8_and_nat b.toNat 128 b.toNat_lt (by decide)
  have e : b.toNat &&& 128 = b.toNat / 128 % 2 * 128 := nat_bit 7 b.toNat
  have hb := b.toNat_lt
  rw [e] at h
  have h' : bits BinOp.and IntKind.u8 (b.toNat : Int) 128 = ((b.toNat / 128 % 2 * 128 : Nat) : Int) := h
  rw [h', Bool.eq_iff_iff]
  simp only [beq_iff_eq, decide_eq_true_eq]
  omega
theorem or_join (i x y : Nat) (hy : y % 2 ^ i = 0) (hx : x < 2 ^ i) (h1 : x < 4294967296) (h2 : y < 4294967296) : bits BinOp.or IntKind.u32 (x : Int) (y : Int) = ((x + y : Nat) : Int) := by
  rw [u32_or_nat x y h1 h2, Nat.or_comm, nat_join i y x hy hx, Nat.add_comm]
theorem cast_mod (x m : Nat) : (x : Int) % (m : Int) = ((x % m : Nat) : Int) := by omega

theorem uv_raw1 (b0 : UInt8) : bits BinOp.and IntKind.u8 (↑b0.toNat) 127 % 4294967296 = ((b0.toNat % 128 : Nat) : Int) := by
  rw [and127]; omega
theorem uv_part (b : UInt8) (k : Nat) (hk : k ≤ 33554431) : bits BinOp.and IntKind.u8 (↑b.toNat) 127 % 4294967296 * (k : Int) % 4294967296 = ((b.toNat % 128 * k : Nat) : Int) := by
  rw [and127]
  have h1 : ((b.toNat % 128 : Nat) : Int) % 4294967296 = ((b.toNat % 128 : Nat) : Int) := by omega
  rw [h1, ← Int.natCast_mul]
  have h2 : b.toNat % 128 * k ≤ 127 * 33554431 := Nat.mul_le_mul (by omega) hk
  omega
theorem uv_raw2 (b0 b1 : UInt8) : bits BinOp.or IntKind.u32 (bits BinOp.and IntKind.u8 (↑b0.toNat) 127 % 4294967296) (bits BinOp.and IntKind.u8 (↑b1.toNat) 127 % 4294967296 * 128 % 4294967296) = ((b0.toNat % 128 + 128 * (b1.toNat % 128) : Nat) : Int) := by
  have h := uv_part b1 128 (by decide)
  rw [show ((128 : Nat) : Int) = 128 from rfl] at h
  rw [h, and127, show ((b0.toNat % 128 : Nat) : Int) % 4294967296 = ((b0.toNat % 128 : Nat) : Int) by omega, or_join 7 _ _ (by omega) (by omega) (by omega) (by omega)]
  congr 1; omega
theorem uv_raw3 (b0 b1 b2 : UInt8) : bits BinOp.or IntKind.u32 (bits BinOp.or IntKind.u32 (bits BinOp.and IntKind.u8 (↑b0.toNat) 127 % 4294967296) (bits BinOp.and IntKind.u8 (↑b1.toNat) 127 % 4294967296 * 128 % 4294967296))
    (bits BinOp.and IntKind.u8 (↑b2.toNat) 127 % 4294967296 * 16384 % 4294967296) = ((b0.toNat % 128 + 128 * (b1.toNat % 128 + 128 * (b2.toNat % 128)) : Nat) : Int) := by
  have h := uv_part b2 16384 (by decide)
  rw [show ((16384 : Nat) : Int) = 16384 from rfl] at h
  rw [h, uv_raw2, or_join 14 _ _ (by omega) (by omega) (by omega) (by omega)]
  congr 1; omega
theorem uv_raw4 (b0 b1 b2 b3 : UInt8) : bits BinOp.or IntKind.u32 (bits BinOp.or IntKind.u32 (bits BinOp.or IntKind.u32 (bits BinOp.and IntKind.u8 (↑b0.toNat) 127 % 4294967296) (bits BinOp.and IntKind.u8 (↑b1.toNat) 127 % 4294967296 * 128 % 4294967296))
    (bits BinOp.and IntKind.u8 (↑b2.toNat) 127 % 4294967296 * 16384 % 4294967296)) (bits BinOp.and IntKind.u8 (↑b3.toNat) 127 % 4294967296 * 2097152 % 4294967296) =
    ((b0.toNat % 128 + 128 * (b1.toNat % 128 + 128 * (b2.toNat % 128 + 128 * (b3.toNat % 128))) : Nat) : Int) := by
  have h := uv_part b3 2097152 (by decide)
  rw [show ((2097152 : Nat) : Int) = 2097152 from rfl] at h
  rw [h, uv_raw3, or_join 21 _ _ (by omega) (by omega) (by omega) (by omega)]
  congr 1; omega
theorem uv_raw5 (b0 b1 b2 b3 b4 : UInt8) (hb : b4.toNat ≤ 15) : bits BinOp.or IntKind.u32 (bits BinOp.or IntKind.u32 (bits BinOp.or IntKind.u32 (bits BinOp.or IntKind.u32 (bits BinOp.and IntKind.u8 (↑b0.toNat) 127 % 4294967296) (bits BinOp.and IntKind.u8 (↑b1.toNat) 127 % 4294967296 * 128 % 4294967296))
    (bits BinOp.and IntKind.u8 (↑b2.toNat) 127 % 4294967296 * 16384 % 4294967296)) (bits BinOp.and IntKind.u8 (↑b3.toNat) 127 % 4294967296 * 2097152 % 4294967296)) (↑b4.toNat % 4294967296 * 268435456 % 4294967296) =
    ((b0.toNat % 128 + 128 * (b1.toNat % 128 + 128 * (b2.toNat % 128 + 128 * (b3.toNat % 128 + 128 * b4.toNat))) : Nat) : Int) := by
  have h : (↑b4.toNat % 4294967296 * 268435456 % 4294967296 : Int) = ((b4.toNat * 268435456 : Nat) : Int) := by omega
  rw [h, uv_raw4, or_join 28 _ _ (by omega) (by omega) (by omega) (by omega)]
  congr 1; omega

/-- What Uvarint answers: the number and how many octets it took, or none. -/
def UvAns (P : Program) (f : FuncId) (w : World) (v : Value) (bs : List UInt8) : Prop :=
  (∃ n r, uvA 4 bs = some (n, r) ∧ ∃ k : Nat, 1 ≤ k ∧ k ≤ bs.length ∧ r = bs.drop k ∧ Calls P f #[v] w fun e w' => e = .returned (.tuple #[.int .u32 (n : Int), .int .i64 (k : Int)]) ∧ w = w') ∨
  (uvA 4 bs = none ∧ ∃ z : Int, z ≤ 0 ∧ Calls P f #[v] w fun e w' => e = .returned (.tuple #[.int .u32 0, .int .i64 z]) ∧ w = w')

theorem uvA_less (k : Nat) (b : UInt8) (r : List UInt8) (h : b.toNat < 128) : uvA (k + 1) (b :: r) = some (b.toNat, r) := by simp only [uvA, if_pos h]
theorem uvA_more (k : Nat) (b : UInt8) (r : List UInt8) (h : ¬ b.toNat < 128) : uvA (k + 1) (b :: r) = (uvA k r).map fun x => (b.toNat - 128 + 128 * x.1, x.2) := by simp only [uvA, if_neg h]

theorem Uvarint_any (w : World) (S : Nat → Prop) (v : Value) (bs : List UInt8) (h : BytesAt w S v bs) :
    UvAns Tryd.prog 102 w v bs := by
  have f : ∀ (b : UInt8), b.toNat < 128 → (bits BinOp.and IntKind.u8 (b.toNat : Int) 128 == 0) = true := fun b hb => by rw [and128]; simpa using hb
  have t : ∀ (b : UInt8), ¬ b.toNat < 128 → (bits BinOp.and IntKind.u8 (b.toNat : Int) 128 == 0) = false := fun b hb => by rw [and128]; simpa using hb
  cases bs with
  | nil =>
    obtain ⟨ad, c, rfl⟩ := bytes_len h
    exact .inr ⟨rfl, 0, by decide, Uvarint_f0 w c ad⟩
  | cons b0 r0 =>
  obtain ⟨g, o, c, rfl, h2, h3, h4, h5, h6⟩ := bytes_some h
  have d0 := h6 0 b0 rfl
  by_cases c0 : b0.toNat < 128
  · exact .inl ⟨_, _, uvA_less 3 b0 r0 c0, 1, by omega, by simp, by simp, (Uvarint_r1 w g o (r0.length + 1) c b0 (by omega) d0 (f b0 c0)).mono fun e w' ⟨he, hw⟩ => ⟨by rw [he, uv_raw1, Nat.mod_eq_of_lt c0]; rfl, hw⟩⟩
  cases r0 with
  | nil => exact .inr ⟨by rw [uvA_more 3 b0 [] c0]; rfl, 0, by decide, Uvarint_f1 w g o c b0 d0 (t b0 c0)⟩
  | cons b1 r1 =>
  have d1 := h6 1 b1 rfl
  have m0 : b0.toNat % 128 = b0.toNat - 128 := by have := b0.toNat_lt; omega
  by_cases c1 : b1.toNat < 128
  · exact .inl ⟨_, _, by rw [uvA_more 3 b0 _ c0, uvA_less 2 b1 r1 c1]; rfl, 2, by omega, by simp, by simp, (Uvarint_r2 w g o ((b1 :: r1).length + 1) c b0 b1 (by simp only [List.length_cons]; omega) d0 d1 (t b0 c0) (f b1 c1)).mono fun e w' ⟨he, hw⟩ => ⟨by rw [he, uv_raw2, m0, Nat.mod_eq_of_lt c1]; rfl, hw⟩⟩
  cases r1 with
  | nil => exact .inr ⟨by rw [uvA_more 3 b0 _ c0, uvA_more 2 b1 _ c1]; rfl, 0, by decide, Uvarint_f2 w g o c b0 b1 d0 d1 (t b0 c0) (t b1 c1)⟩
  | cons b2 r2 =>
  have d2 := h6 2 b2 rfl
  have m1 : b1.toNat % 128 = b1.toNat - 128 := by have := b1.toNat_lt; omega
  by_cases c2 : b2.toNat < 128
  · exact .inl ⟨_, _, by rw [uvA_more 3 b0 _ c0, uvA_more 2 b1 _ c1, uvA_less 1 b2 r2 c2]; rfl, 3, by omega, by simp, by simp, (Uvarint_r3 w g o ((b1 :: b2 :: r2).length + 1) c b0 b1 b2 (by simp only [List.length_cons]; omega) d0 d1 d2 (t b0 c0) (t b1 c1) (f b2 c2)).mono fun e w' ⟨he, hw⟩ => ⟨by rw [he, uv_raw3, m0, m1, Nat.mod_eq_of_lt c2]; rfl, hw⟩⟩
  cases r2 with
  | nil => exact .inr ⟨by rw [uvA_more 3 b0 _ c0, uvA_more 2 b1 _ c1, uvA_more 1 b2 _ c2]; rfl, 0, by decide, Uvarint_f3 w g o c b0 b1 b2 d0 d1 d2 (t b0 c0) (t b1 c1) (t b2 c2)⟩
  | cons b3 r3 =>
  have d3 := h6 3 b3 rfl
  have m2 : b2.toNat % 128 = b2.toNat - 128 := by have := b2.toNat_lt; omega
  by_cases c3 : b3.toNat < 128
  · exact .inl ⟨_, _, by rw [uvA_more 3 b0 _ c0, uvA_more 2 b1 _ c1, uvA_more 1 b2 _ c2, uvA_less 0 b3 r3 c3]; rfl, 4, by omega, by simp, by simp, (Uvarint_r4 w g o ((b1 :: b2 :: b3 :: r3).length + 1) c b0 b1 b2 b3 (by simp only [List.length_cons]; omega) d0 d1 d2 d3 (t b0 c0) (t b1 c1) (t b2 c2) (f b3 c3)).mono fun e w' ⟨he, hw⟩ => ⟨by rw [he, uv_raw4, m0, m1, m2, Nat.mod_eq_of_lt c3]; rfl, hw⟩⟩
  cases r3 with
  | nil => exact .inr ⟨by rw [uvA_more 3 b0 _ c0, uvA_more 2 b1 _ c1, uvA_more 1 b2 _ c2, uvA_more 0 b3 _ c3]; rfl, 0, by decide, Uvarint_f4 w g o c b0 b1 b2 b3 d0 d1 d2 d3 (t b0 c0) (t b1 c1) (t b2 c2) (t b3 c3)⟩
  | cons b4 r4 =>
  have d4 := h6 4 b4 rfl
  have m3 : b3.toNat % 128 = b3.toNat - 128 := by have := b3.toNat_lt; omega
  by_cases c4 : b4.toNat ≤ 15
  · exact .inl ⟨_, _, by rw [uvA_more 3 b0 _ c0, uvA_more 2 b1 _ c1, uvA_more 1 b2 _ c2, uvA_more 0 b3 _ c3]; simp only [uvA, if_pos c4]; rfl, 5, by omega, by simp, by simp, (Uvarint_r5 w g o ((b1 :: b2 :: b3 :: b4 :: r4).length + 1) c b0 b1 b2 b3 b4 (by simp only [List.length_cons]; omega) d0 d1 d2 d3 d4 (t b0 c0) (t b1 c1) (t b2 c2) (t b3 c3) (by simp; omega)).mono fun e w' ⟨he, hw⟩ => ⟨by rw [he, uv_raw5 _ _ _ _ _ c4, m0, m1, m2, m3]; rfl, hw⟩⟩
  · exact .inr ⟨by rw [uvA_more 3 b0 _ c0, uvA_more 2 b1 _ c1, uvA_more 1 b2 _ c2, uvA_more 0 b3 _ c3]; simp only [uvA, if_neg c4]; rfl, -5, by decide, Uvarint_over w g o ((b1 :: b2 :: b3 :: b4 :: r4).length + 1) c b0 b1 b2 b3 b4 (by simp only [List.length_cons]; omega) d0 d1 d2 d3 d4 (t b0 c0) (t b1 c1) (t b2 c2) (t b3 c3) (by simp; omega)⟩
end Go.Proofs.YtpknjenihcfhlaaDoor
