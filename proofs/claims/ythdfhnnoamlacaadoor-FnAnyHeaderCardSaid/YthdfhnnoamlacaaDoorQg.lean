/-
  Records, plain: the reference and the package read a header alike. Conditions: none.
-/
import Derived.Test.YthdfhnnoamlacaaDoorQf
namespace Go.Proofs.YthdfhnnoamlacaaDoor.Rec
open Go.Proofs.YthdfhnnoamlacaaDoor
open Kz

/-- The reference's reader stands where the package's does. -/
structure Sim (bs : List UInt8) (s : Nat × Nat) (st : St) : Prop where
  le : s.1 ≤ bs.length
  fine : s.2 = 0 → st = some (bs.drop s.1)
  short : s.2 = 1 → st = none
  two : s.2 ≠ 2
  four : s.2 < 4
theorem rv_uvA : ∀ (k i m : Nat) (l : List UInt8), k + i = 4 →
    ((rv (k + 1) i m l).2.2 = 0 ∧ ∃ x r, uvA k l = some (x, r) ∧ (rv (k + 1) i m l).1 = zig (m + x * 128 ^ i) ∧ (rv (k + 1) i m l).2.1 ≤ i + l.length ∧ i ≤ (rv (k + 1) i m l).2.1 ∧ r = l.drop ((rv (k + 1) i m l).2.1 - i)) ∨
    ((rv (k + 1) i m l).2.2 = 1 ∧ (rv (k + 1) i m l).2.1 = 0 ∧ uvA k l = none) ∨ ((rv (k + 1) i m l).2.2 = 3 ∧ (rv (k + 1) i m l).2.1 = 0)
  | k, i, m, [], hi => .inr (.inl ⟨rfl, rfl, by cases k <;> simp [uvA]⟩)
  | 0, i, m, b :: r, hi => by
    have hb := b.toNat_lt
    have hr : rv (0 + 1) i m (b :: r) = if (0 : Nat) = 0 ∧ 16 ≤ b.toNat % 128 then (0, 0, 3) else if b.toNat < 128 then (zig (m + b.toNat % 128 * 128 ^ i), i + 1, 0) else rv 0 (i + 1) (m + b.toNat % 128 * 128 ^ i) r := rfl
    rw [hr]
    by_cases h1 : 16 ≤ b.toNat % 128
    · have hc : (0 : Nat) = 0 ∧ 16 ≤ b.toNat % 128 := ⟨rfl, h1⟩
      rw [if_pos hc]
      exact .inr (.inr ⟨rfl, rfl⟩)
    · have hc : ¬ ((0 : Nat) = 0 ∧ 16 ≤ b.toNat % 128) := fun h => h1 h.2
      rw [if_neg hc]
      by_cases h2 : b.toNat < 128
      · rw [if_pos h2]
        refine .inl ⟨rfl, b.toNat, r, by simp only [uvA]; rw [if_pos (by omega)], by rw [Nat.mod_eq_of_lt h2], by simp, Nat.le_succ _, ?_⟩
        show r = List.drop (i + 1 - i) (b :: r)
        rw [show i + 1 - i = 1 by omega]
        rfl
      · rw [if_neg h2]
        exact .inr (.inr ⟨rfl, rfl⟩)
  | k + 1, i, m, b :: r, hi => by
    have hb := b.toNat_lt
    have hr : rv (k + 1 + 1) i m (b :: r) = if k + 1 = 0 ∧ 16 ≤ b.toNat % 128 then (0, 0, 3) else if b.toNat < 128 then (zig (m + b.toNat % 128 * 128 ^ i), i + 1, 0) else rv (k + 1) (i + 1) (m + b.toNat % 128 * 128 ^ i) r := rfl
    have hc : ¬ (k + 1 = 0 ∧ 16 ≤ b.toNat % 128) := fun h => by omega
    rw [hr, if_neg hc]
    by_cases h2 : b.toNat < 128
    · rw [if_pos h2]
      refine .inl ⟨rfl, b.toNat, r, by simp only [uvA, if_pos h2], by rw [Nat.mod_eq_of_lt h2], by simp, Nat.le_succ _, ?_⟩
      show r = List.drop (i + 1 - i) (b :: r)
      rw [show i + 1 - i = 1 by omega]
      rfl
    · rw [if_neg h2]
      rcases rv_uvA k (i + 1) (m + b.toNat % 128 * 128 ^ i) r (by omega) with ⟨h, x, r', e1, e2, e3, e4, e5⟩ | ⟨h, hz, e⟩ | h
      · refine .inl ⟨h, b.toNat - 128 + 128 * x, r', by simp only [uvA, if_neg h2, e1, Option.map_some], ?_, by simp; omega, by omega, ?_⟩
        · rw [e2, show b.toNat % 128 = b.toNat - 128 by omega, Nat.add_mul, Nat.add_assoc, Nat.pow_succ]
          congr 3
          rw [Nat.mul_comm 128 x, Nat.mul_assoc, Nat.mul_comm 128 (128 ^ i)]
        · rw [e5]
          generalize (rv (k + 1) (i + 1) (m + b.toNat % 128 * 128 ^ i) r).2.1 = z at e4 ⊢
          rw [show z - i = (z - (i + 1)) + 1 by omega]
          rfl
      · exact .inr (.inl ⟨h, hz, by simp only [uvA, if_neg h2, e, Option.map_none]⟩)
      · exact .inr (.inr h)
theorem sVar_sim {bs : List UInt8} {s : Nat × Nat} {st : St} (h : Sim bs s st) : Sim bs (sVar bs s).2 (rdV st).2 ∧ ((sVar bs s).2.2 = 0 → zig (rdV st).1 = (sVar bs s).1) := by
  obtain ⟨p, q⟩ := s
  obtain ⟨h1, h2, h3, h4, h5⟩ := h
  simp only at h1 h2 h3 h4 h5
  unfold sVar
  by_cases hq : q = 0
  · subst hq
    rw [if_neg (show ¬ (((p, 0) : Nat × Nat).2 ≠ 0) by simp)]
    rw [h2 rfl]
    have ih := rv_uvA 4 0 0 (bs.drop p) rfl
    rw [List.length_drop] at ih
    show Sim bs (p + (rv (4 + 1) 0 0 (bs.drop p)).2.1, (rv (4 + 1) 0 0 (bs.drop p)).2.2) _ ∧ ((rv (4 + 1) 0 0 (bs.drop p)).2.2 = 0 → _ = (rv (4 + 1) 0 0 (bs.drop p)).1)
    generalize rv (4 + 1) 0 0 (bs.drop p) = y at *
    obtain ⟨n, z, h⟩ := y
    simp only at ih ⊢
    rcases ih with ⟨rfl, x, r, e1, e2, e3, e4, e5⟩ | ⟨rfl, rfl, e⟩ | ⟨rfl, rfl⟩
    · rw [rdV_some _ x r e1]
      refine ⟨⟨by simp only; omega, fun _ => ?_, fun h => (by cases h), by simp, by simp⟩, fun _ => ?_⟩
      · rw [e5, List.drop_drop]; rfl
      · rw [e2]; simp
    · rw [rdV_less _ e]
      exact ⟨⟨by simpa using h1, fun h => (by cases h), fun _ => rfl, by simp, by simp⟩, fun h => (by cases h)⟩
    · exact ⟨⟨by simpa using h1, fun h => (by cases h), fun h => (by cases h), by simp, by simp⟩, fun h => (by cases h)⟩
  · rw [if_pos hq]
    refine ⟨⟨h1, fun h => absurd h hq, fun h => ?_, h4, h5⟩, fun h => absurd h hq⟩
    rw [h3 h]
    rfl
theorem sOct_sim {bs : List UInt8} {s : Nat × Nat} {st : St} (n : Int) (h : Sim bs s st) : Sim bs (sOct n bs s).2 (if n < 0 then st else (rdSpan n st).2) ∧ ((sOct n bs s).2.2 = 0 → (sOct n bs s).1.1 = decide (n < 0) ∧ (sOct n bs s).1.2 = if n < 0 then [] else (rdSpan n st).1) := by
  obtain ⟨p, q⟩ := s
  obtain ⟨h1, h2, h3, h4, h5⟩ := h
  simp only at h1 h2 h3 h4 h5
  unfold sOct
  by_cases hq : q = 0
  · subst hq
    rw [if_neg (show ¬ (((p, 0) : Nat × Nat).2 ≠ 0) by simp)]
    rw [h2 rfl]
    by_cases hn : n = -1
    · subst hn
      rw [if_pos rfl, if_pos (by decide)]
      exact ⟨⟨h1, fun _ => rfl, fun h => (by cases h), by simp, by simp⟩, fun _ => ⟨rfl, rfl⟩⟩
    · rw [if_neg hn]
      by_cases hm : n < 0
      · rw [if_pos hm, if_pos hm]
        exact ⟨⟨h1, fun h => (by cases h), fun h => (by cases h), by simp, by simp⟩, fun h => (by cases h)⟩
      · rw [if_neg hm, if_neg hm, if_neg hm]
        by_cases hx : (bs.length : Int) < n
        · rw [if_pos hx]
          have e : rdSpan n (some (bs.drop p)) = ([], none) := if_neg (by rw [List.length_drop]; omega)
          rw [e]
          exact ⟨⟨h1, fun h => (by cases h), fun _ => rfl, by simp, by simp⟩, fun h => (by cases h)⟩
        · rw [if_neg hx]
          unfold sTake
          rw [if_neg (show ¬ (((p, 0) : Nat × Nat).2 ≠ 0) by simp)]
          by_cases hz : bs.length - p < n.toNat
          · rw [if_pos hz]
            have e : rdSpan n (some (bs.drop p)) = ([], none) := if_neg (by rw [List.length_drop]; omega)
            rw [e]
            exact ⟨⟨h1, fun h => (by cases h), fun _ => rfl, by simp, by simp⟩, fun h => (by cases h)⟩
          · rw [if_neg hz]
            have e : rdSpan n (some (bs.drop p)) = ((bs.drop p).take n.toNat, some ((bs.drop p).drop n.toNat)) := if_pos (by rw [List.length_drop]; omega)
            rw [e]
            exact ⟨⟨by simp only; omega, fun _ => by rw [List.drop_drop], fun h => (by cases h), by simp, by simp⟩, fun _ => ⟨by simpa using hm, rfl⟩⟩
  · rw [if_pos hq]
    refine ⟨⟨h1, fun h => absurd h hq, fun h => ?_, h4, h5⟩, fun h => absurd h hq⟩
    rw [h3 h]
    split <;> rfl
theorem rdVB_eq (st : St) : (rdVB st).2 = (if zig (rdV st).1 < 0 then (rdV st).2 else (rdSpan (zig (rdV st).1) (rdV st).2).2) ∧ (rdVB st).1.isNone = decide (zig (rdV st).1 < 0) ∧ (rdVB st).1.getD [] = if zig (rdV st).1 < 0 then [] else (rdSpan (zig (rdV st).1) (rdV st).2).1 := by
  unfold rdVB
  by_cases h : zig (rdV st).1 < 0
  · rw [if_pos h, if_pos h, if_pos h]; simp [h]
  · rw [if_neg h, if_neg h, if_neg h]; simp [h]
/-- What a state that has ended says. -/
theorem Sim.ended {bs : List UInt8} {s s' : Nat × Nat} {st st' : St} (h : Sim bs s st) (hs : s.2 ≠ 0) (he : s' = s) (hst : st = none → st' = none) : Sim bs s' st' := by
  subst he
  exact ⟨h.le, fun h0 => absurd h0 hs, fun h1 => hst (h.short h1), h.two, h.four⟩
theorem vb_sim {bs : List UInt8} {s : Nat × Nat} {st : St} (h : Sim bs s st) :
    Sim bs (sOct (sVar bs s).1 bs (sVar bs s).2).2 (rdVB st).2 ∧ ((sOct (sVar bs s).1 bs (sVar bs s).2).2.2 = 0 → (sOct (sVar bs s).1 bs (sVar bs s).2).1.1 = (rdVB st).1.isNone ∧ (sOct (sVar bs s).1 bs (sVar bs s).2).1.2 = (rdVB st).1.getD []) := by
  obtain ⟨v1, v2⟩ := sVar_sim h
  obtain ⟨e1, e2, e3⟩ := rdVB_eq st
  rw [e1, e2, e3]
  by_cases hs : (sVar bs s).2.2 = 0
  · rw [v2 hs]
    exact sOct_sim _ v1
  · have e : sOct (sVar bs s).1 bs (sVar bs s).2 = ((false, []), (sVar bs s).2) := if_pos hs
    rw [e]
    refine ⟨v1.ended hs rfl (fun hn => ?_), fun h => absurd h hs⟩
    rw [hn]
    split <;> rfl
theorem text_sim {bs : List UInt8} {s : Nat × Nat} {st : St} (h : Sim bs s st) : Sim bs (sText bs s).2 (rdVB st).2 ∧ ((sText bs s).2.2 = 0 → (sText bs s).1 = (rdVB st).1.getD []) := by
  unfold sText
  by_cases hn : (sVar bs s).1 < 0
  · obtain ⟨v1, v2⟩ := sVar_sim h
    rw [if_pos hn]
    simp only
    by_cases hs : (sVar bs s).2.2 = 0
    · have e0 : sFail 3 (sVar bs s).2 = ((sVar bs s).2.1, 3) := if_pos hs
      have e : sOct (sVar bs s).1 bs ((sVar bs s).2.1, 3) = ((false, []), ((sVar bs s).2.1, 3)) := if_pos (by simp)
      rw [e0, e]
      exact ⟨⟨v1.le, fun h => (by cases h), fun h => (by cases h), by simp, by simp⟩, fun h => (by cases h)⟩
    · have e0 : sFail 3 (sVar bs s).2 = (sVar bs s).2 := if_neg hs
      have e : sOct (sVar bs s).1 bs (sVar bs s).2 = ((false, []), (sVar bs s).2) := if_pos hs
      rw [e0, e]
      refine ⟨v1.ended hs rfl (fun hx => ?_), fun h => absurd h hs⟩
      rw [(rdVB_eq st).1, hx]
      split <;> rfl
  · rw [if_neg hn]
    have := vb_sim h
    exact ⟨this.1, fun h => (this.2 h).2⟩
theorem head_sim (bs : List UInt8) : Sim bs (sHead bs (0, 0)).2 (pHead bs).2 ∧ ((sHead bs (0, 0)).2.2 = 0 → (sHead bs (0, 0)).1.1 = (pHead bs).1.1 ∧ (sHead bs (0, 0)).1.2.1 = (pHead bs).1.2.isNone ∧ (sHead bs (0, 0)).1.2.2 = (pHead bs).1.2.getD []) := by
  have h0 : Sim bs (0, 0) (some bs) := ⟨Nat.zero_le _, fun _ => rfl, fun h => (by cases h), by simp, by simp⟩
  obtain ⟨t1, t2⟩ := text_sim h0
  obtain ⟨u1, u2⟩ := vb_sim t1
  refine ⟨u1, fun h => ⟨?_, u2 h⟩⟩
  refine t2 ?_
  refine Classical.byContradiction fun hq => ?_
  have e1 : sVar bs (sText bs (0, 0)).2 = (0, (sText bs (0, 0)).2) := if_pos hq
  have e2 : sOct (sVar bs (sText bs (0, 0)).2).1 bs (sVar bs (sText bs (0, 0)).2).2 = ((false, []), (sText bs (0, 0)).2) := by rw [e1]; exact if_pos hq
  have h : (sOct (sVar bs (sText bs (0, 0)).2).1 bs (sVar bs (sText bs (0, 0)).2).2).2.2 = 0 := h
  rw [e2] at h
  exact hq h
end Go.Proofs.YthdfhnnoamlacaaDoor.Rec
