/-
  kbin, writing: numbers in groups of seven bits. Conditions: none.
-/
import Derived.Test.YtpknjenihcfhlaaDoorKa2
import Derived.Lib.BitFns
import Derived.Lib.ItoaNum
namespace Go.Proofs.YtpknjenihcfhlaaDoor
open Go.RowKit (Below)
open Kz

/-- How many octets a number takes. -/
def uvLen (u : Nat) : Nat := if u < 128 then 1 else if u < 16384 then 2 else if u < 2097152 then 3 else if u < 268435456 then 4 else 5

def lensF (k : Nat) : Nat := if k ≤ 7 then 1 else if k ≤ 14 then 2 else if k ≤ 21 then 3 else if k ≤ 28 then 4 else 5
theorem bitLen_ge (u k : Nat) (hu : u < 4294967296) (h : 2 ^ k ≤ u) : k < Lib.bitLen u := by
  have hz : u ≠ 0 := by have := Nat.two_pow_pos k; omega
  have hb := Lib.bitLenAux_bounds 64 u (by omega) hz
  have h2 : 2 ^ k < 2 ^ Lib.bitLen u := Nat.lt_of_le_of_lt h hb.2.2
  exact (Nat.pow_lt_pow_iff_right (by decide)).1 h2
theorem uvLen_bits (u : Nat) (hu : u < 4294967296) : uvLen u = lensF (Lib.bitLen u) := by
  unfold uvLen lensF
  by_cases h1 : u < 128
  · have := Lib.bitLen_le u 7 (by decide) (by omega)
    simp [h1, this]
  · have g1 := bitLen_ge u 7 hu (by omega)
    by_cases h2 : u < 16384
    · have := Lib.bitLen_le u 14 (by decide) (by omega)
      have n1 : ¬ Lib.bitLen u ≤ 7 := by omega
      simp [h1, h2, this, n1]
    · have g2 := bitLen_ge u 14 hu (by omega)
      by_cases h3 : u < 2097152
      · have := Lib.bitLen_le u 21 (by decide) (by omega)
        have n1 : ¬ Lib.bitLen u ≤ 7 := by omega
        have n2 : ¬ Lib.bitLen u ≤ 14 := by omega
        simp [h1, h2, h3, this, n1, n2]
      · have g3 := bitLen_ge u 21 hu (by omega)
        by_cases h4 : u < 268435456
        · have := Lib.bitLen_le u 28 (by decide) (by omega)
          have n1 : ¬ Lib.bitLen u ≤ 7 := by omega
          have n2 : ¬ Lib.bitLen u ≤ 14 := by omega
          have n3 : ¬ Lib.bitLen u ≤ 21 := by omega
          simp [h1, h2, h3, h4, this, n1, n2, n3]
        · have g4 := bitLen_ge u 28 hu (by omega)
          have n1 : ¬ Lib.bitLen u ≤ 7 := by omega
          have n2 : ¬ Lib.bitLen u ≤ 14 := by omega
          have n3 : ¬ Lib.bitLen u ≤ 21 := by omega
          have n4 : ¬ Lib.bitLen u ≤ 28 := by omega
          simp [h1, h2, h3, h4, n1, n2, n3, n4]

set_option maxRecDepth 8000 in
set_option maxHeartbeats 1000000 in
theorem UvarintLen_any (w : World) (u : Nat) (hu : u < 4294967296) : Calls Tryd.prog 77 #[.int .u32 (u : Int)] w fun e w' => e = .returned (.int .i64 (uvLen u : Int)) ∧ w = w' := by
  go_enter Tryd.func77, Tryd.ntmps77
  go_wp2_with fail
  refine (Tryd.bits_Len32 (u : Int) w (by omega) (by omega)).mono ?_
  rintro e w' ⟨rfl, rfl⟩
  simp only [Int.toNat_natCast]
  have hb : Lib.bitLen u ≤ 32 := Lib.bitLen_le u 32 (by decide) (by omega)
  obtain ⟨k, hk⟩ : ∃ k, k = Lib.bitLen u := ⟨_, rfl⟩
  rw [← hk] at hb ⊢
  have HK := Lib.hid hk
  clear hk
  go_wp2_with fail
  go_ret
  refine ⟨?_, rfl⟩
  rw [uvLen_bits u hu, ← HK.out]
  clear HK
  obtain ⟨i, rfl⟩ : ∃ i : Fin 33, k = i.val := ⟨⟨k, by omega⟩, rfl⟩
  refine congrArg (fun z => Ending.returned (Value.int .i64 z)) (?_ : _ = ((lensF i.val : Nat) : Int))
  clear hu
  revert i
  decide +kernel
end Go.Proofs.YtpknjenihcfhlaaDoor
