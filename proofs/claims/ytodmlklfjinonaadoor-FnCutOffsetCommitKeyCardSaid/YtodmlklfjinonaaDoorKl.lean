/-
  What is kept within: the plain laws. Conditions: none.
-/
import Derived.Test.YtodmlklfjinonaaDoorKq
namespace Go.Proofs.YtodmlklfjinonaaDoor
open Kz

theorem cn2 (v : Int) (h : -32768 ≤ v ∧ v < 32768) : cn 2 v = v := by
  unfold cn sgn
  have e : (2 : Int) ^ (8 * 2) = 65536 := rfl
  have e2 : (2 : Nat) ^ (8 * 2 - 1) = 32768 := rfl
  rw [e, e2]
  split <;> omega
theorem readK_of (m : M) (v : Int) (b : List UInt8) (h : -32768 ≤ v ∧ v < 32768) (hfl : m.flex < 0) : m.readK (some (fixed v 2 ++ b)) = (v, m.read v (some b)) := by
  have e := (exact_rdI 2 v).all b
  have hf : m.isFlex v = false := by
    have : ¬ (0 ≤ m.flex) := by omega
    simp [M.isFlex, this]
  simp only [M.readK, e, cn2 v h, M.read, hf]
theorem part_none (v : Int) (fs : List F) : (rdPart v false fs none).2 = none := by
  have h := strict_plainF v false fs (dfltOf fs)
  unfold Strict at h
  simp only [rdPart, asmR, Bool.false_eq_true, if_false]
  exact h
theorem writeK_eq (m : M) (v : Int) (t : T) (hfl : m.flex < 0) : writeK m v t = fixed v 2 ++ write m v t := by
  have hf : m.isFlex v = false := by
    have : ¬ (0 ≤ m.flex) := by omega
    simp [M.isFlex, this]
  simp only [writeK, write, hf]
theorem kept_law (m : M) (v : Int) (t : T) (hv : -32768 ≤ v ∧ v < 32768) (hfl : m.flex < 0) (hok : m.ok v = true) (hk : KeysOk t) (hz : (write m v t).length < 4294967296) :
    ∃ t', m.readK (some (writeK m v t)) = (v, t', some []) ∧ writeK m v t' = writeK m v t ∧ Fit t' ∧ ∀ k, k < (writeK m v t).length → (m.readK (some ((writeK m v t).take k))).2.2 = none := by
  obtain ⟨t', e1, e2, e3, e4⟩ := again_law m v t hok hk hz
  rw [writeK_eq m v t hfl]
  refine ⟨t', by rw [readK_of m v _ hv hfl, e1], by rw [writeK_eq m v t' hfl, e2], e3, fun k hlt => ?_⟩
  rw [List.length_append, fixed_length] at hlt
  by_cases h2 : k < 2
  · have e : rdI 2 (some ((fixed v 2 ++ write m v t).take k)) = (0, none) := by
      unfold rdI
      rw [rdN_less]
      rw [List.length_take, List.length_append, fixed_length]
      omega
    simp only [M.readK, e]
    exact part_none _ _
  · have e : (fixed v 2 ++ write m v t).take k = fixed v 2 ++ (write m v t).take (k - 2) := by
      rw [List.take_append, fixed_length, List.take_of_length_le (by rw [fixed_length]; omega)]
    rw [e, readK_of m v _ hv hfl]
    exact e4 (k - 2) (by omega)
theorem keptAny_law (m : M) (bs r : List UInt8) (v : Int) (t : T) (hfl : m.flex < 0) (hok : ∀ v, -32768 ≤ v → m.ok v = true) (hn : noTags m.fields = true) (hb : bs.length ≤ most) (h : m.readK (some bs) = (v, t, some r)) :
    -32768 ≤ v ∧ Fit t ∧ (writeK m v t).length ≤ bs.length ∧ ∃ t', m.readK (some (writeK m v t)) = (v, t', some []) ∧ writeK m v t' = writeK m v t ∧ Fit t' := by
  have hb2 := rdI2_b (some bs)
  simp only [M.readK, Prod.mk.injEq] at h
  obtain ⟨h1, h2⟩ := h
  rw [h1] at hb2 h2
  have hf : m.isFlex v = false := by
    have : ¬ (0 ≤ m.flex) := by omega
    simp [M.isFlex, this]
  cases hst : (rdI 2 (some bs)).2 with
  | none =>
    rw [hst] at h2
    have := part_none v m.fields
    rw [h2] at this
    cases this
  | some bs1 =>
    rw [hst] at h2
    obtain ⟨bs0, e0, l0⟩ := rdN_spec (k := 2) (g := fun l => sgn 2 (beNat l)) (z := (0 : Int)) (x := v) (st := some bs) (r := bs1) (by rw [← h1, ← hst]; rfl)
    simp only [Option.some.injEq] at e0
    subst e0
    have h2' : m.read v (some bs1) = (t, some r) := by simp only [M.read, hf]; exact h2
    obtain ⟨f1, l1, t', e1, e2, e3⟩ := any_law m v bs1 r t (hok v hb2.1) hn (by omega) h2'
    have hv : -32768 ≤ v ∧ v < 32768 := by omega
    rw [writeK_eq m v t hfl]
    refine ⟨hb2.1, f1, by rw [List.length_append, fixed_length]; omega, t', by rw [readK_of m v _ hv hfl, e1], by rw [writeK_eq m v t' hfl, e2], e3⟩
end Go.Proofs.YtodmlklfjinonaaDoor
