/-
  Records, plain: the reference and the package read what a member says alike. Conditions: none.
  Records: what the package's reading of what a member says lays into memory. Conditions: none.
  Records: the package reads what a member says. Conditions: none.
-/
import Derived.Test.YthdfhnnoamlacaaDoorME
import Derived.Test.YthdfhnnoamlacaaDoorMB
import Derived.Lib.AppendZeros
import Derived.Deep.DeepCutAuto
import Derived.Deep.RegionHeld3
namespace Go.Proofs.YthdfhnnoamlacaaDoor.Rec
open Go.Proofs.YthdfhnnoamlacaaDoor
open Kz

/-- The package reads so many partitions, topics, what a member says. -/
def pParts : Nat → St → List Int × St
  | 0, st => ([], st)
  | m + 1, st => ((rdI 4 st).1 :: (pParts m (rdI 4 st).2).1, (pParts m (rdI 4 st).2).2)
def pOne (st : St) : Ow × St :=
  let t := rdText false false 2 st
  let n := rdLen false t.2
  let l := pParts n.1.toNat n.2
  ((t.1.s, l.1), l.2)
def pTopics : Nat → St → List Ow × St
  | 0, st => ([], st)
  | m + 1, st => ((pOne st).1 :: (pTopics m (pOne st).2).1, (pTopics m (pOne st).2).2)
def pFin (l : List Ow × St) : (List Ow × Int) × St :=
  if 0 < left l.2 then ((l.1, (rdI 4 l.2).1), (rdI 4 l.2).2) else ((l.1, -1), l.2)
def pSticky (bs : List UInt8) : (List Ow × Int) × St := pFin (pTopics (rdLen false (some bs)).1.toNat (rdLen false (some bs)).2)

/-! ## What has failed stays so -/
theorem pParts_none : ∀ m, (pParts m none).2 = none
  | 0 => rfl
  | m + 1 => pParts_none m
theorem pOne_none : (pOne none).2 = none := pParts_none _
theorem pTopics_none : ∀ m, (pTopics m none).2 = none
  | 0 => rfl
  | m + 1 => by
    show (pTopics m (pOne none).2).2 = none
    rw [pOne_none]
    exact pTopics_none m

/-! ## The reference's state -/
/-- A state of the reference's reader. -/
structure Shp (bs : List UInt8) (s : Nat × Nat) : Prop where
  le : s.1 ≤ bs.length
  two : s.2 ≠ 2
  four : s.2 < 4
/-- From one state to another: what is behind an end stays there. -/
structure Nxt (bs : List UInt8) (k : Nat) (s s' : Nat × Nat) : Prop where
  shp : Shp bs s → Shp bs s'
  zero : s'.2 = 0 → s.2 = 0 ∧ s.1 + k ≤ s'.1
  stay : s.2 ≠ 0 → s' = s
theorem Nxt.refl (bs : List UInt8) (s : Nat × Nat) : Nxt bs 0 s s := ⟨id, fun h => ⟨h, Nat.le_refl _⟩, fun _ => rfl⟩
theorem Nxt.trans {bs : List UInt8} {k j : Nat} {a b c : Nat × Nat} (h : Nxt bs k a b) (g : Nxt bs j b c) : Nxt bs (k + j) a c :=
  ⟨fun x => g.shp (h.shp x), fun x => by have y := g.zero x; have z := h.zero y.1; exact ⟨z.1, by have := z.2; have := y.2; omega⟩, fun x => by have e := h.stay x; rw [← e] at x ⊢; exact g.stay x⟩
theorem Nxt.low {bs : List UInt8} {k j : Nat} {a b : Nat × Nat} (h : Nxt bs k a b) (hj : j ≤ k) : Nxt bs j a b := ⟨h.shp, fun x => ⟨(h.zero x).1, by have := (h.zero x).2; omega⟩, h.stay⟩
theorem sFix_nxt (k : Nat) (bs : List UInt8) (s : Nat × Nat) : Nxt bs k s (sFix k bs s).2 := by
  obtain ⟨p, q⟩ := s
  unfold sFix
  by_cases hq : q = 0
  · subst hq
    rw [if_neg (by simp)]
    by_cases hl : bs.length - p < k
    · simp only [if_pos hl]
      exact ⟨fun h => ⟨h.le, by simp, by simp⟩, fun h => (by cases h), fun h => absurd rfl h⟩
    · simp only [if_neg hl]
      exact ⟨fun h => ⟨by have := h.le; simp only at this ⊢; omega, by simp, by simp⟩, fun _ => ⟨rfl, Nat.le_refl _⟩, fun h => absurd rfl h⟩
  · rw [if_pos hq]
    exact ⟨id, fun h => absurd h hq, fun _ => rfl⟩
theorem sFail_nxt (bs : List UInt8) (s : Nat × Nat) : Nxt bs 0 s (sFail 3 s) := by
  obtain ⟨p, q⟩ := s
  unfold sFail
  by_cases hq : q = 0
  · subst hq
    rw [if_pos rfl]
    exact ⟨fun h => ⟨h.le, by simp, by simp⟩, fun h => (by cases h), fun h => absurd rfl h⟩
  · rw [if_neg hq]
    exact Nxt.refl _ _
theorem sMany_nxt (k : Nat) (bs : List UInt8) (s : Nat × Nat) : Nxt bs k s (sMany k bs s).2 := by
  unfold sMany
  by_cases h : (sFix k bs s).1 < 0
  · simp only [if_pos h]
    exact (sFix_nxt k bs s).trans (sFail_nxt bs _)
  · simp only [if_neg h]
    exact sFix_nxt k bs s
theorem sTake_nxt (k : Nat) (bs : List UInt8) (s : Nat × Nat) : Nxt bs k s (sTake k bs s).2 := by
  rcases sTake_cases k bs s with ⟨-, -, e⟩ | ⟨-, -, e⟩ <;> rw [← e] <;> exact sFix_nxt k bs s
theorem sOct_nxt (n : Int) (bs : List UInt8) (s : Nat × Nat) : Nxt bs 0 s (sOct n bs s).2 := by
  unfold sOct
  by_cases hq : s.2 ≠ 0
  · rw [if_pos hq]; exact Nxt.refl _ _
  · have hz : s.2 = 0 := by omega
    obtain ⟨p, q⟩ := s
    simp only at hz
    subst hz
    rw [if_neg hq]
    split
    · exact Nxt.refl _ _
    split
    · exact ⟨fun h => ⟨h.le, by simp, by simp⟩, fun h => (by cases h), fun h => absurd rfl h⟩
    split
    · exact ⟨fun h => ⟨h.le, by simp, by simp⟩, fun h => (by cases h), fun h => absurd rfl h⟩
    · exact (sTake_nxt _ bs _).low (Nat.zero_le _)
theorem sParts_nxt (bs : List UInt8) : ∀ (m : Nat) (s : Nat × Nat), Nxt bs (4 * m) s (sParts m bs s).2
  | 0, s => Nxt.refl _ _
  | m + 1, s => by
    unfold sParts
    by_cases hq : s.2 ≠ 0
    · rw [if_pos hq]
      exact ⟨id, fun h => absurd h hq, fun _ => rfl⟩
    · rw [if_neg hq]
      exact ((sFix_nxt 4 bs s).trans (sParts_nxt bs m _)).low (by omega)
theorem sOne_nxt (bs : List UInt8) (s : Nat × Nat) : Nxt bs 2 s (sOne bs s).2 :=
  ((((sMany_nxt 2 bs s).trans (sOct_nxt _ bs _)).trans (sMany_nxt 4 bs _)).trans (sParts_nxt bs _ _)).low (by omega)
theorem sTopics_nxt (bs : List UInt8) : ∀ (m : Nat) (s : Nat × Nat), Nxt bs (2 * m) s (sTopics m bs s).2
  | 0, s => Nxt.refl _ _
  | m + 1, s => by
    unfold sTopics
    by_cases hq : s.2 ≠ 0
    · rw [if_pos hq]
      exact ⟨id, fun h => absurd h hq, fun _ => rfl⟩
    · rw [if_neg hq]
      exact ((sOne_nxt bs s).trans (sTopics_nxt bs m _)).low (by omega)

/-! ## Side by side -/
theorem Sim.shp {bs : List UInt8} {s : Nat × Nat} {st : St} (h : Sim bs s st) : Shp bs s := ⟨h.le, h.two, h.four⟩
theorem Sim.off {bs : List UInt8} {s : Nat × Nat} (h : Shp bs s) (hs : s.2 ≠ 0) : Sim bs s none := ⟨h.le, fun h0 => absurd h0 hs, fun _ => rfl, h.two, h.four⟩
theorem Sim.stop {bs : List UInt8} {s s' : Nat × Nat} {st st' : St} {k : Nat} (h : Sim bs s st) (hs : s.2 ≠ 0) (hn : Nxt bs k s s') (hst : st = none → st' = none) : Sim bs s' st' := h.ended hs (hn.stay hs) hst
theorem fix_sim {bs : List UInt8} {s : Nat × Nat} {st : St} (k : Nat) (h : Sim bs s st) : Sim bs (sFix k bs s).2 (rdI k st).2 ∧ ((sFix k bs s).2.2 = 0 → (rdI k st).1 = (sFix k bs s).1) := by
  by_cases hq : s.2 = 0
  · obtain ⟨p, q⟩ := s
    simp only at hq
    subst hq
    have hle := h.le
    simp only at hle
    rw [h.fine rfl]
    unfold sFix
    rw [if_neg (by simp)]
    by_cases hl : bs.length - p < k
    · simp only [if_pos hl]
      have e : rdI k (some (bs.drop p)) = (0, none) := if_neg (by rw [List.length_drop]; omega)
      rw [e]
      exact ⟨Sim.off ⟨hle, by simp, by simp⟩ (by simp), fun h => (by cases h)⟩
    · simp only [if_neg hl]
      have e : rdI k (some (bs.drop p)) = (sgn k (beNat ((bs.drop p).take k)), some ((bs.drop p).drop k)) := if_pos (by rw [List.length_drop]; omega)
      rw [e]
      exact ⟨⟨by simp only; omega, fun _ => by rw [List.drop_drop], fun h => (by cases h), by simp, by simp⟩, fun _ => rfl⟩
  · exact ⟨h.stop hq (sFix_nxt k bs s) (fun e => by rw [e]; rfl), fun e => absurd ((sFix_nxt k bs s).zero e).1 hq⟩
theorem text2_sim {bs : List UInt8} {s : Nat × Nat} {st : St} (h : Sim bs s st) :
    Sim bs (sOct (sMany 2 bs s).1 bs (sMany 2 bs s).2).2 (rdText false false 2 st).2 ∧ ((sOct (sMany 2 bs s).1 bs (sMany 2 bs s).2).2.2 = 0 → (sOct (sMany 2 bs s).1 bs (sMany 2 bs s).2).1.2 = (rdText false false 2 st).1.s) := by
  have e0 : rdText false false 2 st = (Ts (rdSpan (rdI 2 st).1 (rdI 2 st).2).1, (rdSpan (rdI 2 st).1 (rdI 2 st).2).2) := by
    simp [rdText, rdCount]
  rw [e0]
  obtain ⟨f1, f2⟩ := fix_sim 2 h
  unfold sMany
  by_cases hn : (sFix 2 bs s).1 < 0
  · simp only [if_pos hn]
    have hz : (sFix 2 bs s).2.2 = 0 := by
      rcases sTake_cases 2 bs s with ⟨-, e, -⟩ | ⟨e1, -, e⟩
      · omega
      · unfold sFix at hn ⊢
        by_cases hq : s.2 ≠ 0
        · rw [if_pos hq] at hn; simp at hn
        · rw [if_neg hq] at hn ⊢
          by_cases hl : bs.length - s.1 < 2
          · rw [if_pos hl] at hn; simp at hn
          · rw [if_neg hl]
    have e1 : sFail 3 (sFix 2 bs s).2 = ((sFix 2 bs s).2.1, 3) := if_pos hz
    have e2 : sOct (sFix 2 bs s).1 bs ((sFix 2 bs s).2.1, 3) = ((false, []), ((sFix 2 bs s).2.1, 3)) := if_pos (by simp)
    rw [e1, e2]
    exact ⟨⟨f1.le, fun h => (by cases h), fun h => (by cases h), by simp, by simp⟩, fun h => (by cases h)⟩
  · simp only [if_neg hn]
    obtain ⟨g1, g2⟩ := sOct_sim (sFix 2 bs s).1 f1
    by_cases hz : (sFix 2 bs s).2.2 = 0
    · have e := f2 hz
      rw [if_neg hn] at g1
      rw [e]
      exact ⟨g1, fun h => by have := (g2 h).2; rw [if_neg hn] at this; exact this⟩
    · refine ⟨f1.stop hz (sOct_nxt _ bs _) (fun e => by rw [e]; rfl), fun h => absurd ((sOct_nxt _ bs _).zero h).1 hz⟩
/-- A count: it is the same, or it is more than all that is left. -/
theorem many_sim {bs : List UInt8} {s : Nat × Nat} {st : St} (h : Sim bs s st) :
    (Sim bs (sMany 4 bs s).2 (rdLen false st).2 ∧ ((sMany 4 bs s).2.2 = 0 → (rdLen false st).1 = (sMany 4 bs s).1)) ∨
    ((sMany 4 bs s).2.2 = 0 ∧ (rdLen false st).2 = none ∧ bs.length - (sMany 4 bs s).2.1 < (sMany 4 bs s).1.toNat) := by
  obtain ⟨f1, f2⟩ := fix_sim 4 h
  have hn := sMany_nxt 4 bs s
  have e0 : rdLen false st = chkLen (rdI 4 st).1 (rdI 4 st).2 := rfl
  by_cases hz : (sMany 4 bs s).2.2 = 0
  · have hneg : ¬ (sFix 4 bs s).1 < 0 := by
      intro hn
      unfold sMany at hz
      simp only [if_pos hn] at hz
      unfold sFail at hz
      split at hz
      · cases hz
      · exact absurd hz ‹_›
    have e1 : (sMany 4 bs s) = sFix 4 bs s := by unfold sMany; simp only [if_neg hneg]
    rw [e1] at hz ⊢
    have ev := f2 hz
    have es := f1.fine hz
    rw [e0, ev, es]
    by_cases hl : ((bs.drop (sFix 4 bs s).2.1).length : Int) < (sFix 4 bs s).1
    · refine .inr ⟨hz, by simp only [chkLen, if_pos hl], ?_⟩
      rw [List.length_drop] at hl
      omega
    · have e2 : chkLen (sFix 4 bs s).1 (some (bs.drop (sFix 4 bs s).2.1)) = ((sFix 4 bs s).1, some (bs.drop (sFix 4 bs s).2.1)) := if_neg hl
      rw [e2]
      rw [es] at f1
      exact .inl ⟨f1, fun _ => rfl⟩
  · refine .inl ⟨?_, fun h => absurd h hz⟩
    refine ⟨(hn.shp h.shp).le, fun h0 => absurd h0 hz, fun h1 => ?_, (hn.shp h.shp).two, (hn.shp h.shp).four⟩
    have hx : (sFix 4 bs s).2.2 = 1 := by
      unfold sMany at h1
      by_cases hneg : (sFix 4 bs s).1 < 0
      · simp only [if_pos hneg] at h1
        unfold sFail at h1
        split at h1
        · cases h1
        · exact h1
      · simp only [if_neg hneg] at h1
        exact h1
    rw [e0, f1.short hx]
    rfl
theorem parts_sim {bs : List UInt8} : ∀ (m : Nat) (s : Nat × Nat) (st : St), Sim bs s st → Sim bs (sParts m bs s).2 (pParts m st).2 ∧ ((sParts m bs s).2.2 = 0 → (sParts m bs s).1 = (pParts m st).1)
  | 0, s, st, h => ⟨h, fun _ => rfl⟩
  | m + 1, s, st, h => by
    by_cases hq : s.2 = 0
    · have e : sParts (m + 1) bs s = ((sFix 4 bs s).1 :: (sParts m bs (sFix 4 bs s).2).1, (sParts m bs (sFix 4 bs s).2).2) := if_neg (by simpa using hq)
      rw [e]
      obtain ⟨f1, f2⟩ := fix_sim 4 h
      obtain ⟨g1, g2⟩ := parts_sim m _ _ f1
      refine ⟨g1, fun hz => ?_⟩
      show _ = (rdI 4 st).1 :: _
      rw [g2 hz, f2 ((sParts_nxt bs m _).zero hz).1]
    · exact ⟨h.stop hq (sParts_nxt bs _ _) (fun e => by rw [e]; exact pParts_none _), fun hz => absurd ((sParts_nxt bs (m + 1) s).zero hz).1 hq⟩
theorem one_sim {bs : List UInt8} {s : Nat × Nat} {st : St} (h : Sim bs s st) : Sim bs (sOne bs s).2 (pOne st).2 ∧ ((sOne bs s).2.2 = 0 → (sOne bs s).1 = (pOne st).1) := by
  obtain ⟨t1, t2⟩ := text2_sim h
  unfold sOne pOne
  simp only
  generalize sOct (sMany 2 bs s).1 bs (sMany 2 bs s).2 = o at *
  generalize rdText false false 2 st = t at *
  have hs := (sMany_nxt 4 bs o.2).shp t1.shp
  rcases many_sim t1 with ⟨m1, m2⟩ | ⟨m1, m2, m3⟩
  · by_cases hz : (sMany 4 bs o.2).2.2 = 0
    · rw [m2 hz]
      obtain ⟨p1, p2⟩ := parts_sim (sMany 4 bs o.2).1.toNat _ _ m1
      exact ⟨p1, fun h0 => by rw [p2 h0, t2 ((sMany_nxt 4 bs o.2).zero hz).1]⟩
    · exact ⟨m1.stop hz (sParts_nxt bs _ _) (fun e => by rw [e]; exact pParts_none _), fun h0 => absurd ((sParts_nxt bs _ _).zero h0).1 hz⟩
  · have hne : (sParts (sMany 4 bs o.2).1.toNat bs (sMany 4 bs o.2).2).2.2 ≠ 0 := fun h0 => by
      have h1 := ((sParts_nxt bs _ _).zero h0).2
      have h2 := ((sParts_nxt bs (sMany 4 bs o.2).1.toNat _).shp hs).le
      omega
    rw [m2, pParts_none]
    exact ⟨Sim.off ((sParts_nxt bs _ _).shp hs) hne, fun h0 => absurd h0 hne⟩
theorem topics_sim {bs : List UInt8} : ∀ (m : Nat) (s : Nat × Nat) (st : St), Sim bs s st → Sim bs (sTopics m bs s).2 (pTopics m st).2 ∧ ((sTopics m bs s).2.2 = 0 → (sTopics m bs s).1 = (pTopics m st).1)
  | 0, s, st, h => ⟨h, fun _ => rfl⟩
  | m + 1, s, st, h => by
    by_cases hq : s.2 = 0
    · have e : sTopics (m + 1) bs s = ((sOne bs s).1 :: (sTopics m bs (sOne bs s).2).1, (sTopics m bs (sOne bs s).2).2) := if_neg (by simpa using hq)
      rw [e]
      obtain ⟨f1, f2⟩ := one_sim h
      obtain ⟨g1, g2⟩ := topics_sim m _ _ f1
      refine ⟨g1, fun hz => ?_⟩
      show _ = (pOne st).1 :: _
      rw [g2 hz, f2 ((sTopics_nxt bs m _).zero hz).1]
    · exact ⟨h.stop hq (sTopics_nxt bs _ _) (fun e => by rw [e]; exact pTopics_none _), fun hz => absurd ((sTopics_nxt bs (m + 1) s).zero hz).1 hq⟩
theorem sticky_sim (bs : List UInt8) : Shp bs (sSticky bs).2 ∧ ((sSticky bs).2.2 = 1 → (pSticky bs).2 = none) ∧ ((sSticky bs).2.2 = 0 ∧ (sSticky bs).2.1 = bs.length → (pSticky bs).2.isSome = true ∧ (pSticky bs).1 = (sSticky bs).1) := by
  have h0 : Sim bs (0, 0) (some bs) := ⟨Nat.zero_le _, fun _ => rfl, fun h => (by cases h), by simp, by simp⟩
  have key : Sim bs (sTopics (sMany 4 bs (0, 0)).1.toNat bs (sMany 4 bs (0, 0)).2).2 (pTopics (rdLen false (some bs)).1.toNat (rdLen false (some bs)).2).2 ∧
      ((sTopics (sMany 4 bs (0, 0)).1.toNat bs (sMany 4 bs (0, 0)).2).2.2 = 0 → (sTopics (sMany 4 bs (0, 0)).1.toNat bs (sMany 4 bs (0, 0)).2).1 = (pTopics (rdLen false (some bs)).1.toNat (rdLen false (some bs)).2).1) := by
    have hs := (sMany_nxt 4 bs (0, 0)).shp h0.shp
    rcases many_sim h0 with ⟨m1, m2⟩ | ⟨m1, m2, m3⟩
    · by_cases hz : (sMany 4 bs (0, 0)).2.2 = 0
      · rw [m2 hz]
        exact topics_sim _ _ _ m1
      · exact ⟨m1.stop hz (sTopics_nxt bs _ _) (fun e => by rw [e]; exact pTopics_none _), fun h0 => absurd ((sTopics_nxt bs _ _).zero h0).1 hz⟩
    · have hne : (sTopics (sMany 4 bs (0, 0)).1.toNat bs (sMany 4 bs (0, 0)).2).2.2 ≠ 0 := fun h0 => by
        have h1 := ((sTopics_nxt bs _ _).zero h0).2
        have h2 := ((sTopics_nxt bs (sMany 4 bs (0, 0)).1.toNat _).shp hs).le
        omega
      rw [m2, pTopics_none]
      exact ⟨Sim.off ((sTopics_nxt bs _ _).shp hs) hne, fun h0 => absurd h0 hne⟩
  unfold sSticky pSticky
  generalize sTopics (sMany 4 bs (0, 0)).1.toNat bs (sMany 4 bs (0, 0)).2 = t at *
  generalize pTopics (rdLen false (some bs)).1.toNat (rdLen false (some bs)).2 = u at *
  obtain ⟨k1, k2⟩ := key
  unfold sFin pFin
  by_cases hc : t.2.2 = 0 ∧ 4 ≤ bs.length - t.2.1
  · rw [if_pos hc]
    have hu := k1.fine hc.1
    have hl : 0 < left u.2 := by rw [hu]; show 0 < (bs.drop t.2.1).length; rw [List.length_drop]; omega
    rw [if_pos hl]
    obtain ⟨f1, f2⟩ := fix_sim 4 k1
    refine ⟨f1.shp, f1.short, fun ⟨h1, h2⟩ => ⟨by rw [f1.fine h1]; rfl, by rw [f2 h1, k2 hc.1]⟩⟩
  · rw [if_neg hc]
    refine ⟨k1.shp, fun h1 => ?_, fun ⟨h1, h2⟩ => ?_⟩
    · have hu := k1.short h1
      rw [hu]
      rfl
    · have hu := k1.fine h1
      simp only at h2
      have hn : ¬ 0 < left u.2 := by rw [hu]; show ¬ 0 < (bs.drop t.2.1).length; rw [List.length_drop]; omega
      rw [if_neg hn]
      exact ⟨by simp only; rw [hu]; rfl, by rw [k2 h1]⟩

/-! ## Sizes -/
theorem sOct_len (n : Int) (bs : List UInt8) (s : Nat × Nat) : (sOct n bs s).1.2.length ≤ bs.length := by
  unfold sOct
  split
  · simp
  split
  · simp
  split
  · simp
  split
  · simp
  · unfold sTake
    split
    · simp
    split
    · simp
    · simp only [List.length_take, List.length_drop]; omega
theorem sParts_off (m : Nat) (bs : List UInt8) (s : Nat × Nat) (h : s.2 ≠ 0) : (sParts m bs s).1 = [] := by
  cases m with
  | zero => rfl
  | succ m => show (if s.2 ≠ 0 then _ else _ : List Int × (Nat × Nat)).1 = []; rw [if_pos h]
theorem sTopics_off (m : Nat) (bs : List UInt8) (s : Nat × Nat) (h : s.2 ≠ 0) : (sTopics m bs s).1 = [] := by
  cases m with
  | zero => rfl
  | succ m => show (if s.2 ≠ 0 then _ else _ : List Ow × (Nat × Nat)).1 = []; rw [if_pos h]
theorem sParts_len (bs : List UInt8) : ∀ (m : Nat) (s : Nat × Nat), Shp bs s → 4 * (sParts m bs s).1.length ≤ bs.length - s.1 + 4 ∧ ∀ n ∈ (sParts m bs s).1, -2147483648 ≤ n ∧ n ≤ 2147483647
  | 0, s, _ => ⟨by simp [sParts], fun n hn => by simp [sParts] at hn⟩
  | m + 1, s, h => by
    by_cases hq : s.2 = 0
    · have e : sParts (m + 1) bs s = ((sFix 4 bs s).1 :: (sParts m bs (sFix 4 bs s).2).1, (sParts m bs (sFix 4 bs s).2).2) := if_neg (by simpa using hq)
      rw [e]
      have hn := sFix_nxt 4 bs s
      obtain ⟨i1, i2⟩ := sParts_len bs m _ (hn.shp h)
      refine ⟨?_, fun n hm => ?_⟩
      · simp only [List.length_cons]
        by_cases hz : (sFix 4 bs s).2.2 = 0
        · have := (hn.zero hz).2
          have := (hn.shp h).le
          omega
        · rw [sParts_off m bs _ hz]
          simp
      · simp only [List.mem_cons] at hm
        rcases hm with rfl | hm
        · exact sFix_bound 4 (.inr rfl) bs s
        · exact i2 n hm
    · have := sParts_off (m + 1) bs s hq
      rw [this]
      exact ⟨by simp, fun n hn => by simp at hn⟩
/-- What is small enough to be written. -/
def OwOk (x : Ow) : Prop := x.1.length ≤ 4096 ∧ x.2.length ≤ 4096 ∧ ∀ n ∈ x.2, -2147483648 ≤ n ∧ n ≤ 2147483647
theorem sOne_ok (bs : List UInt8) (hb : bs.length ≤ 4096) (s : Nat × Nat) (h : Shp bs s) : OwOk (sOne bs s).1 := by
  unfold sOne
  simp only
  have h1 := (sMany_nxt 4 bs _).shp ((sOct_nxt (sMany 2 bs s).1 bs _).shp ((sMany_nxt 2 bs s).shp h))
  have h2 := sParts_len bs (sMany 4 bs (sOct (sMany 2 bs s).1 bs (sMany 2 bs s).2).2).1.toNat _ h1
  exact ⟨Nat.le_trans (sOct_len _ _ _) hb, by have := h2.1; simp only; omega, h2.2⟩
theorem sTopics_ok (bs : List UInt8) (hb : bs.length ≤ 4096) : ∀ (m : Nat) (s : Nat × Nat), Shp bs s → 2 * (sTopics m bs s).1.length ≤ bs.length - s.1 + 2 ∧ ∀ x ∈ (sTopics m bs s).1, OwOk x
  | 0, s, _ => ⟨by simp [sTopics], fun n hn => by simp [sTopics] at hn⟩
  | m + 1, s, h => by
    by_cases hq : s.2 = 0
    · have e : sTopics (m + 1) bs s = ((sOne bs s).1 :: (sTopics m bs (sOne bs s).2).1, (sTopics m bs (sOne bs s).2).2) := if_neg (by simpa using hq)
      rw [e]
      have hn := sOne_nxt bs s
      obtain ⟨i1, i2⟩ := sTopics_ok bs hb m _ (hn.shp h)
      refine ⟨?_, fun n hm => ?_⟩
      · simp only [List.length_cons]
        by_cases hz : (sOne bs s).2.2 = 0
        · have := (hn.zero hz).2
          have := (hn.shp h).le
          omega
        · rw [sTopics_off m bs _ hz]
          simp
      · simp only [List.mem_cons] at hm
        rcases hm with rfl | hm
        · exact sOne_ok bs hb s h
        · exact i2 n hm
    · have := sTopics_off (m + 1) bs s hq
      rw [this]
      exact ⟨by simp, fun n hn => by simp at hn⟩
theorem sSticky_ok (bs : List UInt8) (hb : bs.length ≤ 4096) : (sSticky bs).1.1.length ≤ 4096 ∧ (∀ x ∈ (sSticky bs).1.1, OwOk x) ∧ -2147483648 ≤ (sSticky bs).1.2 ∧ (sSticky bs).1.2 ≤ 2147483647 := by
  have h0 : Shp bs (0, 0) := ⟨Nat.zero_le _, by simp, by simp⟩
  have h := sTopics_ok bs hb (sMany 4 bs (0, 0)).1.toNat _ ((sMany_nxt 4 bs (0, 0)).shp h0)
  unfold sSticky
  generalize sTopics (sMany 4 bs (0, 0)).1.toNat bs (sMany 4 bs (0, 0)).2 = t at *
  obtain ⟨h1, h2⟩ := h
  have h1 : t.1.length ≤ 4096 := by omega
  unfold sFin
  split
  · exact ⟨h1, h2, sFix_bound 4 (.inr rfl) bs _⟩
  · exact ⟨h1, h2, by show (-2147483648 : Int) ≤ -1; decide, by show (-1 : Int) ≤ 2147483647; decide⟩
theorem rdI_left (k : Nat) (st : St) : left (rdI k st).2 ≤ left st := by
  cases st with
  | none => exact Nat.le_refl _
  | some bs =>
    unfold rdI rdN
    simp only
    split <;> simp [left]
theorem rdLen_left (st : St) : (rdLen false st).1.toNat ≤ left st ∧ left (rdLen false st).2 ≤ left st := by
  have e0 : rdLen false st = chkLen (rdI 4 st).1 (rdI 4 st).2 := rfl
  have h := rdI_left 4 st
  rw [e0]
  cases st with
  | none => exact ⟨by decide, Nat.le_refl _⟩
  | some bs =>
    cases hs : (rdI 4 (some bs)).2 with
    | none =>
      have : (rdI 4 (some bs)).1 = 0 := by
        unfold rdI rdN at hs ⊢
        simp only at hs ⊢
        split at hs
        · cases hs
        · rw [if_neg ‹_›]
      rw [this]
      exact ⟨by simp [chkLen], by simp [chkLen, left]⟩
    | some r =>
      rw [hs] at h
      unfold chkLen
      simp only [left, Option.getD_some] at h ⊢
      split
      · simp
      · simp only [Option.getD_some]; omega
theorem rdText_left (st : St) : (rdText false false 2 st).1.s.length ≤ left st ∧ left (rdText false false 2 st).2 ≤ left st := by
  have e0 : rdText false false 2 st = (Ts (rdSpan (rdI 2 st).1 (rdI 2 st).2).1, (rdSpan (rdI 2 st).1 (rdI 2 st).2).2) := by
    simp [rdText, rdCount]
  have h1 := rdI_left 2 st
  have h2 := rdSpan_left (rdI 2 st).1 (rdI 2 st).2
  rw [e0]
  simp only [Ts]
  omega
theorem pParts_ok : ∀ (m : Nat) (st : St), (pParts m st).1.length = m ∧ left (pParts m st).2 ≤ left st ∧ ∀ n ∈ (pParts m st).1, -2147483648 ≤ n ∧ n ≤ 2147483647
  | 0, st => ⟨rfl, Nat.le_refl _, fun n hn => by simp [pParts] at hn⟩
  | m + 1, st => by
    obtain ⟨h1, h2, h3⟩ := pParts_ok m (rdI 4 st).2
    have := rdI_left 4 st
    refine ⟨by simp [pParts, h1], by show left (pParts m (rdI 4 st).2).2 ≤ _; omega, fun n hn => ?_⟩
    simp only [pParts, List.mem_cons] at hn
    rcases hn with rfl | hn
    · exact rdI4_b st
    · exact h3 n hn
theorem pOne_ok (st : St) (hl : left st ≤ 4096) : OwOk (pOne st).1 ∧ left (pOne st).2 ≤ left st := by
  have h1 := rdText_left st
  have h2 := rdLen_left (rdText false false 2 st).2
  have h3 := pParts_ok (rdLen false (rdText false false 2 st).2).1.toNat (rdLen false (rdText false false 2 st).2).2
  unfold pOne
  simp only
  refine ⟨⟨by simp only; omega, by simp only; omega, h3.2.2⟩, by omega⟩
theorem pTopics_ok : ∀ (m : Nat) (st : St), left st ≤ 4096 → (pTopics m st).1.length = m ∧ (∀ x ∈ (pTopics m st).1, OwOk x) ∧ left (pTopics m st).2 ≤ left st
  | 0, st, _ => ⟨rfl, fun n hn => by simp [pTopics] at hn, Nat.le_refl _⟩
  | m + 1, st, hl => by
    have h0 := pOne_ok st hl
    obtain ⟨h1, h2, h3⟩ := pTopics_ok m (pOne st).2 (by omega)
    refine ⟨by simp [pTopics, h1], fun n hn => ?_, by show left (pTopics m (pOne st).2).2 ≤ _; omega⟩
    simp only [pTopics, List.mem_cons] at hn
    rcases hn with rfl | hn
    · exact h0.1
    · exact h2 n hn
theorem pSticky_ok (bs : List UInt8) (hb : bs.length ≤ 4096) : (pSticky bs).1.1.length ≤ 4096 ∧ (∀ x ∈ (pSticky bs).1.1, OwOk x) ∧ -2147483648 ≤ (pSticky bs).1.2 ∧ (pSticky bs).1.2 ≤ 2147483647 := by
  have h0 := rdLen_left (some bs)
  have hl : left (some bs) = bs.length := rfl
  have h := pTopics_ok (rdLen false (some bs)).1.toNat (rdLen false (some bs)).2 (by omega)
  unfold pSticky pFin
  split
  · exact ⟨by simp only; omega, h.2.1, rdI4_b _⟩
  · exact ⟨by simp only; omega, h.2.1, by show (-2147483648 : Int) ≤ -1; decide, by show (-1 : Int) ≤ 2147483647; decide⟩
end Go.Proofs.YthdfhnnoamlacaaDoor.Rec

namespace Go.Proofs.YthdfhnnoamlacaaDoor.Rec
open Go.Proofs.YthdfhnnoamlacaaDoor
open Go.RowKit (Below)
open Kz

/-- A row of numbers that is being filled: so many are there. -/
def Prow (w : World) (P cap m : Nat) (ps : List Int) : Prop :=
  ∃ cur, w.heap[P]? = some (.cells cur 21 (0, 0)) ∧ m ≤ cap ∧ cap ≤ maxLen ∧ cur.size = cap * 1 ∧ cur.toList.take ps.length = ps.map fun n => Value.int .i32 n
theorem take_set_snoc {α : Type} (l : List α) (k : Nat) (x : α) (h : k < l.length) : (l.set k x).take (k + 1) = l.take k ++ [x] := by
  apply List.ext_getElem?
  intro i
  rw [List.getElem?_take, List.getElem?_set]
  by_cases h1 : i < k
  · rw [if_pos (by omega), if_neg (by omega), List.getElem?_append_left (by rw [List.length_take]; omega), List.getElem?_take, if_pos h1]
  · by_cases h2 : i = k
    · subst h2
      rw [if_pos (by omega), if_pos rfl, if_pos h, List.getElem?_append_right (by rw [List.length_take]; omega)]
      simp [List.length_take, Nat.min_eq_left (Nat.le_of_lt h)]
    · rw [if_neg (by omega), List.getElem?_eq_none]
      rw [List.length_append, List.length_take]
      simp
      omega
theorem Prow.set {w : World} {P cap m : Nat} {ps : List Int} (h : Prow w P cap m ps) (hk : ps.length < m) (n : Int) : Prow (w.setCell ⟨P, ps.length, none⟩ (.int .i32 n)) P cap m (ps ++ [n]) := by
  obtain ⟨cur, h1, h2, h3, h4, h5⟩ := h
  refine ⟨_, heap_setCell_row h1, h2, h3, by simpa using h4, ?_⟩
  rw [Array.toList_setIfInBounds, List.length_append, List.length_singleton, take_set_snoc _ _ _ (by have : cur.toList.length = cur.size := Array.length_toList; omega), h5, List.map_append]
  rfl
theorem Prow.kept {w w' : World} {P cap m : Nat} {ps : List Int} (h : Prow w P cap m ps) (e : w'.heap[P]? = w.heap[P]?) : Prow w' P cap m ps := by
  obtain ⟨cur, h1, h2⟩ := h
  exact ⟨cur, by rw [e]; exact h1, h2⟩
theorem Prow.lt {w : World} {P cap m : Nat} {ps : List Int} (h : Prow w P cap m ps) : P < w.heap.size := by
  obtain ⟨cur, h1, -⟩ := h
  exact (Array.getElem?_eq_some_iff.1 h1).1
theorem Prow.own {w : World} {P cap base : Nat} {ps : List Int} (h : Prow w P cap ps.length ps) (hb : base ≤ P) : PaO w base (.slice (some ⟨P, 0, none⟩) ps.length cap) ps := by
  obtain ⟨cur, h1, h2, h3, h4, h5⟩ := h
  exact ⟨by simp, .inr ⟨P, cap, cur, rfl, hb, h1, h2, h3, h4, by rw [Nat.mul_one]; exact h5⟩⟩
theorem Prow.cell {w : World} {P cap m : Nat} {ps : List Int} (h : Prow w P cap m ps) (k : Nat) (hk : k < m) : ∃ u, w.cell? ⟨P, k, none⟩ = some u := by
  obtain ⟨cur, h1, h2, h3, h4, h5⟩ := h
  rw [cell_of_row w P k _ _ _ h1]
  exact ⟨cur[k]'(by omega), Array.getElem?_eq_getElem _⟩
theorem Prow.frozen {w : World} {P cap m : Nat} {ps : List Int} (h : Prow w P cap m ps) (k : Nat) : w.frozen? ⟨P, k, none⟩ = false := by
  obtain ⟨cur, h1, -⟩ := h
  simp [World.frozen?, h1]

/-- A row of topics that is being filled: so many are there, the next one holds t0 and u0, and the others nothing. -/
def Grow (w : World) (G cap N base hi : Nat) (D : List Ow) (t0 : List UInt8) (u0 : Value) : Prop :=
  ∃ cur, ∃ us : List Value, w.heap[G]? = some (.cells cur 66 (0, 0)) ∧ N ≤ cap ∧ cur.size = cap * 2 ∧ us.length = D.length ∧
    (∀ (i : Nat) (x : Ow) (u : Value), D[i]? = some x → us[i]? = some u → cur[i * 2]? = some (strV x.1) ∧ cur[i * 2 + 1]? = some u ∧ PaO w base u x.2 ∧ ∀ k, u.ownBlock = some k → k < hi) ∧
    (D.length < N → cur[D.length * 2]? = some (strV t0) ∧ cur[D.length * 2 + 1]? = some u0) ∧
    ∀ i, D.length < i → i < N → cur[i * 2]? = some (strV []) ∧ cur[i * 2 + 1]? = some (.slice none 0 0)
theorem Grow.lt {w : World} {G cap N base hi : Nat} {D : List Ow} {t0 : List UInt8} {u0 : Value} (h : Grow w G cap N base hi D t0 u0) : G < w.heap.size := by
  obtain ⟨cur, us, h1, -⟩ := h
  exact (Array.getElem?_eq_some_iff.1 h1).1
theorem Grow.at {w : World} {G cap N base hi : Nat} {D : List Ow} {t0 : List UInt8} {u0 : Value} (h : Grow w G cap N base hi D t0 u0) (hD : D.length < N) : w.cell? ⟨G, D.length * 2, none⟩ = some (strV t0) ∧ w.cell? ⟨G, D.length * 2 + 1, none⟩ = some u0 := by
  obtain ⟨cur, us, h1, -, -, -, -, h6, -⟩ := h
  rw [cell_of_row w G _ _ _ _ h1, cell_of_row w G _ _ _ _ h1]
  exact h6 hD
theorem Grow.frozen {w : World} {G cap N base hi : Nat} {D : List Ow} {t0 : List UInt8} {u0 : Value} (h : Grow w G cap N base hi D t0 u0) (k : Nat) : w.frozen? ⟨G, k, none⟩ = false := by
  obtain ⟨cur, us, h1, -⟩ := h
  simp [World.frozen?, h1]
/-- What is kept: the row itself, and what its slices hold. -/
theorem Grow.kept {w w' : World} {G cap N base hi hi' : Nat} {D : List Ow} {t0 : List UInt8} {u0 : Value} {row : Option Nat} (h : Grow w G cap N base hi D t0 u0) (hg : w.grownBy w' row) (hG : some G ≠ row) (hr : ∀ k, row = some k → k < base ∨ hi ≤ k) (hh : hi ≤ hi') : Grow w' G cap N base hi' D t0 u0 := by
  have hlt := h.lt
  obtain ⟨cur, us, h1, h2, h3, h4, h5, h6, h7⟩ := h
  refine ⟨cur, us, by rw [hg.block G hlt hG]; exact h1, h2, h3, h4, fun i x u hx hu => ?_, h6, h7⟩
  obtain ⟨a, b, c, d⟩ := h5 i x u hx hu
  refine ⟨a, b, World.ownsRow.kept c hg ?_, fun k hk => Nat.lt_of_lt_of_le (d k hk) hh⟩
  cases hu' : u.ownBlock with
  | none => exact .inl rfl
  | some k =>
    refine .inr fun e => ?_
    have h8 := (World.ownsRow.lt c k hu').1
    have h9 := d k hu'
    rcases hr k e.symm with h | h <;> omega
theorem Grow.top {w : World} {G cap N base hi : Nat} {D : List Ow} {t0 : List UInt8} {u0 : Value} (h : Grow w G cap N base hi D t0 u0) : Grow w G cap N base w.heap.size D t0 u0 := by
  obtain ⟨cur, us, h1, h2, h3, h4, h5, h6, h7⟩ := h
  refine ⟨cur, us, h1, h2, h3, h4, fun i x u hx hu => ?_, h6, h7⟩
  obtain ⟨a, b, c, d⟩ := h5 i x u hx hu
  exact ⟨a, b, c, fun k hk => (World.ownsRow.lt c k hk).2⟩
theorem pa_ne {w : World} {base G : Nat} {u : Value} {ps : List Int} {cur : Array Value} {T : TypeId} (h : PaO w base u ps) (hG : w.heap[G]? = some (.cells cur T (0, 0))) (hT : T ≠ 21) : u.ownBlock = none ∨ u.ownBlock ≠ some G := by
  rcases h.2 with ⟨rfl, _⟩ | ⟨g, cap, c, rfl, _, hg, _⟩
  · exact .inl rfl
  · refine .inr fun e => ?_
    simp only [Value.ownBlock, Option.some.injEq] at e
    subst e
    rw [hG] at hg
    simp only [Option.some.injEq, Obj.cells.injEq] at hg
    exact hT hg.2.1
theorem Grow.set0 {w : World} {G cap N base hi : Nat} {D : List Ow} {t0 : List UInt8} {u0 : Value} (h : Grow w G cap N base hi D t0 u0) (t : List UInt8) : Grow (w.setCell ⟨G, D.length * 2, none⟩ (strV t)) G cap N base hi D t u0 := by
  obtain ⟨cur, us, h1, h2, h3, h4, h5, h6, h7⟩ := h
  have hg : w.grownBy (w.setCell ⟨G, D.length * 2, none⟩ (strV t)) (some G) := grown_setCell (grownBy_refl _ _) _ _
  refine ⟨_, us, heap_setCell_row h1, h2, by simpa using h3, h4, fun i x u hx hu => ?_, fun hD => ?_, fun i hi hN => ?_⟩
  · obtain ⟨a, b, c, d⟩ := h5 i x u hx hu
    have := (List.getElem?_eq_some_iff.1 hx).1
    exact ⟨by rw [Array.getElem?_setIfInBounds_ne (by omega)]; exact a, by rw [Array.getElem?_setIfInBounds_ne (by omega)]; exact b, World.ownsRow.kept c hg (pa_ne c h1 (by decide)), d⟩
  · obtain ⟨a, b⟩ := h6 hD
    refine ⟨?_, by rw [Array.getElem?_setIfInBounds_ne (by omega)]; exact b⟩
    rw [Array.getElem?_setIfInBounds, if_pos rfl, if_pos (Array.getElem?_eq_some_iff.1 a).1]
  · rw [Array.getElem?_setIfInBounds_ne (by omega), Array.getElem?_setIfInBounds_ne (by omega)]
    exact h7 i hi hN
theorem Grow.set1 {w : World} {G cap N base hi : Nat} {D : List Ow} {t0 : List UInt8} {u0 : Value} (h : Grow w G cap N base hi D t0 u0) (u' : Value) : Grow (w.setCell ⟨G, D.length * 2 + 1, none⟩ u') G cap N base hi D t0 u' := by
  obtain ⟨cur, us, h1, h2, h3, h4, h5, h6, h7⟩ := h
  have hg : w.grownBy (w.setCell ⟨G, D.length * 2 + 1, none⟩ u') (some G) := grown_setCell (grownBy_refl _ _) _ _
  refine ⟨_, us, heap_setCell_row h1, h2, by simpa using h3, h4, fun i x u hx hu => ?_, fun hD => ?_, fun i hi hN => ?_⟩
  · obtain ⟨a, b, c, d⟩ := h5 i x u hx hu
    have := (List.getElem?_eq_some_iff.1 hx).1
    exact ⟨by rw [Array.getElem?_setIfInBounds_ne (by omega)]; exact a, by rw [Array.getElem?_setIfInBounds_ne (by omega)]; exact b, World.ownsRow.kept c hg (pa_ne c h1 (by decide)), d⟩
  · obtain ⟨a, b⟩ := h6 hD
    refine ⟨by rw [Array.getElem?_setIfInBounds_ne (by omega)]; exact a, ?_⟩
    rw [Array.getElem?_setIfInBounds, if_pos rfl, if_pos (Array.getElem?_eq_some_iff.1 b).1]
  · rw [Array.getElem?_setIfInBounds_ne (by omega), Array.getElem?_setIfInBounds_ne (by omega)]
    exact h7 i hi hN
/-- A topic is there. -/
theorem Grow.snoc {w : World} {G cap N base hi : Nat} {D : List Ow} {t : List UInt8} {u : Value} {ps : List Int} (h : Grow w G cap N base hi D t u) (hD : D.length < N) (hu : PaO w base u ps) : Grow w G cap N base w.heap.size (D ++ [(t, ps)]) [] (.slice none 0 0) := by
  obtain ⟨cur, us, h1, h2, h3, h4, h5, h6, h7⟩ := h.top
  refine ⟨cur, us ++ [u], h1, h2, h3, by simp [h4], fun i x v hx hv => ?_, fun hN => ?_, fun i hi hN => ?_⟩
  · by_cases hi : i < D.length
    · rw [List.getElem?_append_left hi] at hx
      rw [List.getElem?_append_left (by omega)] at hv
      exact h5 i x v hx hv
    · rw [List.getElem?_append_right (by omega)] at hx
      rw [List.getElem?_append_right (by omega), h4] at hv
      have hz : i - D.length = 0 := by
        have := (List.getElem?_eq_some_iff.1 hx).1
        simp at this
        omega
      rw [hz] at hx hv
      simp only [List.getElem?_cons_zero, Option.some.injEq] at hx hv
      subst hx
      subst hv
      obtain rfl : i = D.length := by omega
      exact ⟨(h6 hD).1, (h6 hD).2, hu, fun k hk => (World.ownsRow.lt hu k hk).2⟩
  · have e : (D ++ [(t, ps)]).length = D.length + 1 := by simp
    rw [e] at hN ⊢
    exact h7 (D.length + 1) (by omega) hN
  · have e : (D ++ [(t, ps)]).length = D.length + 1 := by simp
    rw [e] at hi
    exact h7 i (by omega) hN
/-- What is told of the blocks from a place on. -/
def Keeps (base : Nat) (w w' : World) : Prop := w.heap.size ≤ w'.heap.size ∧ ∀ k, base ≤ k → k < w.heap.size → w'.heap[k]? = w.heap[k]?
theorem PaO.keeps {w w' : World} {base : Nat} {u : Value} {ps : List Int} (h : PaO w base u ps) (hk : Keeps base w w') : PaAt w' u ps := by
  rcases h.at with h' | ⟨g, c, rfl, h2, h3⟩
  · exact .inl h'
  · have hb := (World.ownsRow.lt h g rfl).1
    exact .inr ⟨g, c, rfl, Nat.lt_of_lt_of_le h2 hk.1, fun i n hi => by rw [World.cell?_of_block (w := w) (w' := w') (a := ⟨g, i, none⟩) (hk.2 g hb h2)]; exact h3 i n hi⟩
theorem Grow.done {w w' : World} {G cap N base hi : Nat} {D : List Ow} {t0 : List UInt8} {u0 : Value} (h : Grow w G cap N base hi D t0 u0) (hN : D.length = N) (hb : base ≤ G) (hk : Keeps base w w') : OwAt w' (.slice (some ⟨G, 0, none⟩) N cap) D := by
  have hlt := h.lt
  obtain ⟨cur, us, h1, h2, h3, h4, h5, h6, h7⟩ := h
  subst hN
  have hG : w'.heap[G]? = some (.cells cur 66 (0, 0)) := by rw [hk.2 G hb hlt]; exact h1
  refine .inr ⟨G, cap, rfl, Nat.lt_of_lt_of_le hlt hk.1, fun i x hx => ?_⟩
  have hl := (List.getElem?_eq_some_iff.1 hx).1
  obtain ⟨u, hu⟩ : ∃ u, us[i]? = some u := ⟨us[i]'(by omega), List.getElem?_eq_getElem _⟩
  obtain ⟨a, b, c, d⟩ := h5 i x u hx hu
  exact ⟨by rw [cell_of_row w' G _ _ _ _ hG]; exact a, u, by rw [cell_of_row w' G _ _ _ _ hG]; exact b, c.keeps hk⟩
/-- The row as it is made. -/
theorem Grow.made {w : World} {G cap N base : Nat} {cur : Array Value} (h : w.heap[G]? = some (.cells cur 66 (0, 0))) (hN : N ≤ cap) (hs : cur.size = cap * 2) (hz : ∀ i, i < N → cur[i * 2]? = some (strV []) ∧ cur[i * 2 + 1]? = some (.slice none 0 0)) :
    Grow w G cap N base w.heap.size [] [] (.slice none 0 0) :=
  ⟨cur, [], h, hN, hs, rfl, fun i x u hx => by simp at hx, fun h0 => hz 0 h0, fun i _ hi => hz i hi⟩
end Go.Proofs.YthdfhnnoamlacaaDoor.Rec

namespace Go.Proofs.YthdfhnnoamlacaaDoor.Rec
open Go.Proofs.YthdfhnnoamlacaaDoor
open Go.RowKit
open Kz

/-- The world while the topics are read: the variable B, the reader behind w, the row G. -/
structure RS (w wx : World) (S : Nat → Prop) (B G cap N hi : Nat) (D : List Ow) (t0 : List UInt8) (u0 : Value) (st : St) : Prop where
  rd : RdIs wx S w.heap.size st
  row : wx.heap[B]? = some (.cells #[.slice (some ⟨G, 0, none⟩) N cap, .int .i32 0] 64 (0, 0))
  gr : w.grownBy wx (some B)
  g : Grow wx G cap N (w.heap.size + 1) hi D t0 u0
  low : w.heap.size < G
  top : hi ≤ wx.heap.size
  old : ∀ g, S g → g < w.heap.size
  hB : B < w.heap.size
  hSB : ¬ S B
section
variable {w wx w' : World} {S : Nat → Prop} {B G cap N hi : Nat} {D : List Ow} {t0 : List UInt8} {u0 : Value} {st st' : St}
theorem RS.read (h : RS w wx S B G cap N hi D t0 u0 st) (g : wx.grownBy w' (some w.heap.size)) (r : RdIs w' S w.heap.size st') : RS w w' S B G cap N hi D t0 u0 st' := by
  have h1 := h.hB
  have h2 := h.low
  have h3 := h.gr.size
  refine ⟨r, ?_, ?_, h.g.kept g (by simp; omega) (fun k e => by have := Option.some.inj e; omega) (Nat.le_refl _), h.low, Nat.le_trans h.top g.size, h.old, h.hB, h.hSB⟩
  · rw [g.block B (by omega) (by simp; omega)]; exact h.row
  · exact ⟨g.os.trans h.gr.os, g.tape.trans h.gr.tape, g.output.trans h.gr.output, Nat.le_trans h.gr.size g.size, fun j hj hr => by rw [g.block j (by omega) (by simp; omega)]; exact h.gr.block j hj hr⟩
theorem RS.on (h : RS w wx S B G cap N hi D t0 u0 st) (hb : Below wx.heap.size wx w') : RS w w' S B G cap N hi D t0 u0 st := by
  have h3 := h.gr.size
  have h1 := h.hB
  have g := below_grown hb none
  exact ⟨h.rd.kept g (by simp) (by simp), by rw [hb.block B (by omega)]; exact h.row, grownBy_trans h.gr (below_grown hb _), h.g.kept g (by simp) (by simp) (Nat.le_refl _), h.low, Nat.le_trans h.top hb.size, h.old, h.hB, h.hSB⟩
theorem RS.max (h : RS w wx S B G cap N hi D t0 u0 st) : RS w wx S B G cap N wx.heap.size D t0 u0 st :=
  ⟨h.rd, h.row, h.gr, h.g.top, h.low, Nat.le_refl _, h.old, h.hB, h.hSB⟩
/-- A store into a new block that none of what is held names. -/
theorem RS.over {t0' : List UInt8} {u0' : Value} (h : RS w wx S B G cap N hi D t0 u0 st) {P : Nat} (hP : w.heap.size < P) (hr : wx.grownBy w' (some P)) (hg : Grow w' G cap N (w.heap.size + 1) hi D t0' u0') : RS w w' S B G cap N hi D t0' u0' st := by
  have h1 := h.hB
  have h3 := h.gr.size
  refine ⟨h.rd.kept hr (fun g hg e => by have := h.old g hg; have := Option.some.inj e; omega) (fun e => by have := Option.some.inj e; omega), ?_, ?_, hg, h.low, Nat.le_trans h.top hr.size, h.old, h.hB, h.hSB⟩
  · rw [hr.block B (by omega) (by simp; omega)]; exact h.row
  · exact ⟨hr.os.trans h.gr.os, hr.tape.trans h.gr.tape, hr.output.trans h.gr.output, Nat.le_trans h.gr.size hr.size, fun j hj hq => by rw [hr.block j (by omega) (by simp; omega)]; exact h.gr.block j hj hq⟩
theorem RS.set0 (h : RS w wx S B G cap N hi D t0 u0 st) (t : List UInt8) : RS w (wx.setCell ⟨G, D.length * 2, none⟩ (strV t)) S B G cap N hi D t u0 st :=
  h.over h.low (grown_setCell (grownBy_refl _ _) _ _) (h.g.set0 t)
theorem RS.set1 (h : RS w wx S B G cap N hi D t0 u0 st) (u : Value) : RS w (wx.setCell ⟨G, D.length * 2 + 1, none⟩ u) S B G cap N hi D t0 u st :=
  h.over h.low (grown_setCell (grownBy_refl _ _) _ _) (h.g.set1 u)
theorem RS.setP (h : RS w wx S B G cap N hi D t0 u0 st) {P : Nat} (hP : hi ≤ P) (hG : G < P) (k : Nat) (v : Value) : RS w (wx.setCell ⟨P, k, none⟩ v) S B G cap N hi D t0 u0 st :=
  have hg : wx.grownBy (wx.setCell ⟨P, k, none⟩ v) (some P) := grown_setCell (grownBy_refl _ _) _ _
  h.over (by have := h.low; omega) hg (h.g.kept hg (by simp; omega) (fun j e => .inr (by have := Option.some.inj e; omega)) (Nat.le_refl _))
theorem RS.snoc {ps : List Int} {u : Value} (h : RS w wx S B G cap N hi D t0 u st) (hD : D.length < N) (hu : PaO wx (w.heap.size + 1) u ps) : RS w wx S B G cap N wx.heap.size (D ++ [(t0, ps)]) [] (.slice none 0 0) st :=
  ⟨h.rd, h.row, h.gr, h.g.snoc hD hu, h.low, Nat.le_refl _, h.old, h.hB, h.hSB⟩
end
/-- Behind the topics. -/
structure RT (w wx : World) (S : Nat → Prop) (B : Nat) (v : Value) (D : List Ow) (st : St) : Prop where
  rd : RdIs wx S w.heap.size st
  row : wx.heap[B]? = some (.cells #[v, .int .i32 0] 64 (0, 0))
  gr : w.grownBy wx (some B)
  ow : ∀ w', Keeps (w.heap.size + 1) wx w' → OwAt w' v D
  frm : ∃ a n c, v = .slice a n c
theorem RS.fin {w wx : World} {S : Nat → Prop} {B G cap N hi : Nat} {D : List Ow} {t0 : List UInt8} {u0 : Value} {st : St} (h : RS w wx S B G cap N hi D t0 u0 st) (hN : D.length = N) : RT w wx S B (.slice (some ⟨G, 0, none⟩) N cap) D st :=
  ⟨h.rd, h.row, h.gr, fun w' hk => h.g.done hN h.low hk, _, _, _, rfl⟩
theorem Keeps.trans {b : Nat} {w w1 w2 : World} (h : Keeps b w w1) (g : Keeps b w1 w2) : Keeps b w w2 := ⟨Nat.le_trans h.1 g.1, fun k hk hl => (g.2 k hk (Nat.lt_of_lt_of_le hl h.1)).trans (h.2 k hk hl)⟩
theorem Keeps.of {b r : Nat} {w w1 : World} (g : w.grownBy w1 (some r)) (hr : r < b) : Keeps b w w1 := ⟨g.size, fun k hk hl => g.block k hl (by simp; omega)⟩
theorem RT.read {w wx w' : World} {S : Nat → Prop} {B : Nat} {v : Value} {D : List Ow} {st st' : St} (h : RT w wx S B v D st) (hB : B < w.heap.size) (g : wx.grownBy w' (some w.heap.size)) (r : RdIs w' S w.heap.size st') : RT w w' S B v D st' := by
  have h3 := h.gr.size
  refine ⟨r, ?_, ?_, fun w'' hk => h.ow w'' ((Keeps.of g (by omega)).trans hk), h.frm⟩
  · rw [g.block B (by omega) (by simp; omega)]; exact h.row
  · exact ⟨g.os.trans h.gr.os, g.tape.trans h.gr.tape, g.output.trans h.gr.output, Nat.le_trans h.gr.size g.size, fun j hj hr => by rw [g.block j (by omega) (by simp; omega)]; exact h.gr.block j hj hr⟩
theorem RT.gen {w wx : World} {S : Nat → Prop} {B : Nat} {v : Value} {D : List Ow} {st : St} (h : RT w wx S B v D st) (hB : B < w.heap.size) (hSB : ¬ S B) (gn : Int) :
    RdIs (wx.setCell ⟨B, 1, none⟩ (.int .i32 gn)) S w.heap.size st ∧ w.grownBy (wx.setCell ⟨B, 1, none⟩ (.int .i32 gn)) (some B) ∧ (wx.setCell ⟨B, 1, none⟩ (.int .i32 gn)).heap[B]? = some (.cells #[v, .int .i32 gn] 64 (0, 0)) ∧ OwAt (wx.setCell ⟨B, 1, none⟩ (.int .i32 gn)) v D := by
  have hg : wx.grownBy (wx.setCell ⟨B, 1, none⟩ (.int .i32 gn)) (some B) := grown_setCell (grownBy_refl _ _) _ _
  refine ⟨h.rd.kept hg (fun g hg e => hSB (by rw [← Option.some.inj e]; exact hg)) (fun e => by have := Option.some.inj e; omega), grownBy_trans h.gr hg, ?_, h.ow _ (Keeps.of hg (by omega))⟩
  have := heap_setCell_row (o := 1) (u := .int .i32 gn) h.row
  exact this
theorem rdLen_b (st : St) : -2147483648 ≤ (rdLen false st).1 ∧ (rdLen false st).1 ≤ 2147483647 := by
  refine ⟨?_, rdLen_le false st⟩
  have e0 : rdLen false st = chkLen (rdI 4 st).1 (rdI 4 st).2 := rfl
  have := (rdI4_b st).1
  rw [e0]
  unfold chkLen
  split
  · split
    · decide
    · exact this
  · exact this
theorem rStr {w : World} {S : Nat → Prop} {rb : Nat} {st : St} (h : RdIs w S rb st) : Calls Tryd.prog 56 #[.pointer (some ⟨rb, 0, none⟩)] w fun e w' => e = .returned (strV (rdText false false 2 st).1.s) ∧ RdIs w' S rb (rdText false false 2 st).2 ∧ w.grownBy w' (some rb) := String_any w S rb st h
theorem rLen {w : World} {S : Nat → Prop} {rb : Nat} {st : St} (h : RdIs w S rb st) : Calls Tryd.prog 54 #[.pointer (some ⟨rb, 0, none⟩)] w fun e w' => e = .returned (.int .i32 (rdLen false st).1) ∧ RdIs w' S rb (rdLen false st).2 ∧ w.grownBy w' (some rb) := ArrayLen_any w S rb st h
theorem rNum {w : World} {S : Nat → Prop} {rb : Nat} {st : St} (h : RdIs w S rb st) : Calls Tryd.prog 57 #[.pointer (some ⟨rb, 0, none⟩)] w fun e w' => e = .returned (.int .i32 (rdI 4 st).1) ∧ RdIs w' S rb (rdI 4 st).2 ∧ w.grownBy w' (some rb) := Int32_any w S rb st h
/-- A new row of so many zeros is made by an append, in a region that draws its order. -/
theorem step_zeros {ops : Array Oper} {o : Oper} {a : Act} {w : World} {K : Act → World → Prop} {Q : Exit → Act → World → Prop} {E : Prop} (hgd : o.guard = none) (s x : Operand) (t tn e : TypeId)
    (ho : o.op = .call { callee := .builtin .append, args := #[s, x], argTypes := #[t, tn] }) (kn : IntKind) (ht : Tryd.prog.underlying t = some (.slice e)) (htn : Tryd.prog.underlying tn = some (.int kn)) (z : Value) (sz bytes : Nat)
    (hi : (Tryd.prog.info? e).map (fun i => (i.zero, i.size, i.bytes)) = some (some z, sz, bytes)) (hsz : z.cells.size = sz) (h0s : 0 < sz) (k : IntKind) (n : Nat) (hs : a.eval s = .slice none 0 0) (hx : a.eval x = .int k (n : Int)) (h0 : 0 < n) (h63 : n ≤ maxLen) (h48 : n * bytes ≤ 281474976710656)
    (h31 : (n : Int) ≤ 9223372036854775807)
    (hk : ∀ w' cap cur, Below w.heap.size w w' → w'.heap[w.heap.size]? = some (.cells cur e (0, 0)) → n ≤ cap → cap ≤ maxLen → cur.size = cap * sz → (∀ i j, i < n → j < sz → cur[i * sz + j]? = z.cells[j]?) → K (a.put o.dst (.slice (some ⟨w.heap.size, 0, none⟩) n cap)) w') :
    if Region.wanted o (yielded ops a.tmps) = true then Oper.wp Tryd.prog o a w K Q else E := by
  have hw : Region.wanted o (yielded ops a.tmps) = true := by simp [Region.wanted, hgd]
  rw [if_pos hw]
  obtain ⟨i, hi, hz, hsz', hby⟩ := info_parts hi
  have hr := Lib.run_append_nil_zeros (P := Tryd.prog) w t tn o.type e i z k kn ht htn hi hz n h0 (by omega) h31 (by rw [hby]; exact h48)
  have hc := grownCap_ge w n 0 e
  refine Lib.wp_append_run w s x _ _ ho _ _ hs hx _ _ hr (hk _ _ _ ((Below.refl w.heap.size w.drew).alloc (Nat.le_refl _) _ |> fun h => ⟨h.os, h.tape, h.output, h.size, h.block⟩) (heap_alloc_new w.drew _) hc (grownCap_le_maxLen w n 0 e h63) ?_ (fun i j hi hj => ?_))
  · rw [Array.size_append, size_zeroCells, size_zeroCells, hsz, ← Nat.add_mul, Nat.add_sub_cancel' hc]
  · rw [← hsz] at hj ⊢
    exact zeroCells_at hi hj
theorem i66 : (Tryd.prog.info? 66).map (fun i => (i.zero, i.size, i.bytes)) = some (some (.agg #[.string ⟨#[]⟩, .slice none 0 0]), 2, 40) := by kernel_rfl
/-- The row of the topics is made. -/
theorem RS.start {w w1 w2 : World} {S : Nat → Prop} {B N cap : Nat} {st : St} {cur : Array Value} (h : Rs w w1 S B 64 #[.slice none 0 0, .int .i32 0] st) (hS : ∀ g, S g → g < w.heap.size) (hB : B < w.heap.size) (hSB : ¬ S B) (hb : Below w1.heap.size w1 w2) (hr : w2.heap[w1.heap.size]? = some (.cells cur 66 (0, 0)))
    (hN : N ≤ cap) (hs : cur.size = cap * 2) (hz : ∀ i j, i < N → j < 2 → cur[i * 2 + j]? = (#[.string ⟨#[]⟩, .slice none 0 0] : Array Value)[j]?) :
    RS w (w2.setCell ⟨B, 0, none⟩ (.slice (some ⟨w1.heap.size, 0, none⟩) N cap)) S B w1.heap.size cap N (w2.setCell ⟨B, 0, none⟩ (.slice (some ⟨w1.heap.size, 0, none⟩) N cap)).heap.size [] [] (.slice none 0 0) st := by
  have hl := h.rd.lt
  have hg : w2.grownBy (w2.setCell ⟨B, 0, none⟩ (.slice (some ⟨w1.heap.size, 0, none⟩) N cap)) (some B) := grown_setCell (grownBy_refl _ _) _ _
  have hl2 := (Array.getElem?_eq_some_iff.1 hr).1
  have hgs := h.grown.size
  refine ⟨(h.rd.kept (below_grown hb none) (by simp) (by simp)).kept hg (fun g hg e => hSB (by rw [← Option.some.inj e]; exact hg)) (fun e => by have := Option.some.inj e; omega), ?_, grownBy_trans (grownBy_trans h.grown (below_grown hb _)) hg, ?_, by omega, Nat.le_refl _, hS, hB, hSB⟩
  · have := heap_setCell_row (o := 0) (u := .slice (some ⟨w1.heap.size, 0, none⟩) N cap) ((hb.block B (by omega)).trans h.row)
    exact this
  · exact Grow.made (by rw [hg.block _ hl2 (by simp; omega)]; exact hr) hN hs (fun i hi => ⟨by have := hz i 0 hi (by decide); exact this, by have := hz i 1 hi (by decide); exact this⟩)
/-- Ahead of the topics. -/
def Prep (w wx : World) (S : Nat → Prop) (B N : Nat) (st : St) : Prop :=
  (N = 0 ∧ RT w wx S B (.slice none 0 0) [] st) ∨ (0 < N ∧ ∃ G cap, RS w wx S B G cap N wx.heap.size [] [] (.slice none 0 0) st)
set_option maxRecDepth 8000 in
set_option maxHeartbeats 4000000 in
theorem sreadFrom_any (w : World) (S : Nat → Prop) (B : Nat) (p : Option Addr) (c : Nat) (bs : List UInt8) (hB : w.heap[B]? = some (.cells #[.slice none 0 0, .int .i32 0] 64 (0, 0))) (h : BytesAt w S (.slice p bs.length c) bs) (hSB : ¬ S B) (hS : ∀ g, S g → g < w.heap.size) (he : ErrOk w) (hBe : B ≠ 0) (hl : bs.length ≤ 4096) :
    Calls Tryd.prog 38 #[.pointer (some ⟨B, 0, none⟩), .slice p bs.length c, .bool false] w fun e w' => ∃ u v, e = .returned u ∧ ErrV (pSticky bs).2 u ∧ w.grownBy w' (some B) ∧ w'.heap[B]? = some (.cells #[v, .int .i32 (pSticky bs).1.2] 64 (0, 0)) ∧ OwAt w' v (pSticky bs).1.1 := by
  have hBl : B < w.heap.size := (Array.getElem?_eq_some_iff.1 hB).1
  have HE := Lib.hid he
  have HR := Lib.hid (Rs.start hB h hS)
  have HO := Lib.hid hS
  have HL := Lib.hid (rLen HR.out.rd)
  have hn1 := rdLen_left (some bs)
  have hn3 : left (some bs) = bs.length := rfl
  have hn2 := (rdLen_b (some bs)).1
  unfold pSticky
  generalize rdLen false (some bs) = r at *
  obtain ⟨n0, st1⟩ := r
  simp only at hn1 hn2 HL ⊢
  obtain ⟨hn1, hn4⟩ := hn1
  obtain ⟨N, hNN⟩ : ∃ N, n0.toNat = N := ⟨_, rfl⟩
  rw [hNN]
  obtain ⟨R, hR⟩ : ∃ R, R = pFin (pTopics N st1) := ⟨_, rfl⟩
  rw [← hR]
  have HRR := Lib.hid hR
  clear h hB he hS hR
  go_enter Tryd.func38, Tryd.ntmps38
  go_wp2_with fail
  refine HL.out.mono ?_
  rintro e w1 ⟨rfl, hr, g⟩
  have HR1 := Lib.hid (HR.out.read hBl g hr)
  clear hr g HL HR
  go_upto_if 20 with (fail)
  go_cut [8] (fun s8 wx => s8 = .int .i32 (N : Int) ∧ wx = w1)
  case first =>
    by_cases hn : n0 < 0
    · have e : N = 0 := by omega
      go_wp2
      go_meet
      exact ⟨by rw [e]; rfl, rfl⟩
    · have e : (N : Int) = n0 := by omega
      go_wp2
      go_meet
      exact ⟨by rw [e], rfl⟩
  case rest =>
    obtain ⟨rfl, rfl⟩ := hcut
    have hN : N ≤ 4096 := by omega
    clear hn1 hn2 hn3 hn4 hNN
    have c0 : wc.cell? ⟨B, 0, none⟩ = some (.slice none 0 0) := HR1.out.cell 0
    have f0 : wc.frozen? ⟨B, 0, none⟩ = false := HR1.out.frozen 0
    have wN : IntKind.i32.wrap (N : Int) = N := by rw [IntKind.wrap_i32]; omega
    go_upto_if 30 with (fail)
    go_cut [] (fun wx => Prep w wx S B N st1)
    case first =>
      by_cases h0 : 0 < N
      · have h0' : (0 : Int) < (N : Int) := by omega
        go_wp2_with fail
        go_region_law (first
          | (refine step_zeros rfl (.tmp 41) (.tmp 42) 62 21 66 rfl .i32 Tryd.underlying62 Tryd.underlying21 _ 2 40 i66 rfl (by decide) .i32 N rfl rfl h0 (by simp only [maxLen]; omega) (by omega) (by omega) (fun w2 cap cur hb hr h1 h2 h3 h4 => ?_);
             have hb' : Below wc.heap.size wc w2 := below_undrew hb; have hrow : w2.heap[B]? = _ := (hb'.block B (Nat.lt_of_lt_of_le hBl HR1.out.grown.size)).trans HR1.out.row;
             have c2 : w2.cell? ⟨B, 0, none⟩ = some (.slice none 0 0) := (by rw [cell_of_row w2 _ _ _ _ _ hrow]; rfl); have f2 : w2.frozen? ⟨B, 0, none⟩ = false := (by simp [World.frozen?, hrow]);
             have M1 := Lib.hid (RS.start HR1.out HO.out hBl hSB hb' hr h1 h3 h4); clear hb hr h1 h2 h3 h4 hb' hrow))
        all_goals (go_wp2_with fail; go_meet; exact .inr ⟨h0, _, _, M1.out⟩)
      · obtain rfl : N = 0 := by omega
        have M1 := Lib.hid (HR1.out.store hSB hBl 0 (.slice none 0 0))
        go_wp2_with fail
        go_meet
        exact .inl ⟨rfl, M1.out.rd, M1.out.row, M1.out.grown, fun _ _ => .inl ⟨rfl, rfl⟩, _, _, _, rfl⟩
    case rest =>
      have HP := Lib.hid hcut
      clear hcut c0 f0
      go_upto_block 0 with fail
      go_cut [10] (fun s10 wx => ∃ v D st, RT w wx S B v D st ∧ pTopics N st1 = (D, st))
      case first =>
        rcases HP.out with ⟨rfl, hT⟩ | ⟨h0, G, cap, hS⟩
        · have HT := Lib.hid hT
          clear hT
          go_wp2_with fail
          refine wp_loop_rounds 1 ?_
          rw [rounds_succ]
          go_wp2_with fail
          go_meet
          exact ⟨_, _, _, HT.out, rfl⟩
        · have HS := Lib.hid hS
          clear hS
          go_wp2_with fail
          go_loopw [10] (fun i wx => ∃ (m : Nat) (D : List Ow) (hi : Nat) (st : St), i = .int .i32 (m : Int) ∧ m ≤ N ∧ D.length = m ∧ RS w wx S B G cap N hi D [] (.slice none 0 0) st ∧ pTopics N st1 = (D ++ (pTopics (N - m) st).1, (pTopics (N - m) st).2)) (fun i _ => N - (intOf i).toNat)
          case atStart => exact ⟨0, [], _, st1, rfl, Nat.zero_le _, rfl, HS.out, rfl⟩
          case round =>
            obtain ⟨m, D, hi, st, rfl, hm, hD, hst, htop⟩ := hrel
            have K1 := Lib.hid hst
            have K2 := Lib.hid htop
            have K3 := Lib.hid hD
            clear hst htop hD
            by_cases hml : m < N
            · have hmi : (m : Int) < (N : Int) := by omega
              go_upto_block 1 with fail
              go_cut [] (fun wx => ∃ x hi2 st4, RS w wx S B G cap N hi2 (D ++ [x]) [] (.slice none 0 0) st4 ∧ pOne st = (x, st4))
              case first =>
                obtain ⟨⟨tx, st2⟩, e1⟩ : ∃ r, rdText false false 2 st = r := ⟨_, rfl⟩
                have HS1 := rStr K1.out.rd
                rw [e1] at HS1
                obtain ⟨⟨n1, st3⟩, e2⟩ : ∃ r, rdLen false st2 = r := ⟨_, rfl⟩
                have nb := rdLen_b st2
                rw [e2] at nb
                have nb1 := nb.1
                have nb2 := nb.2
                simp only at HS1 nb1 nb2
                have HS2 := Lib.hid HS1
                have E1 := Lib.hid e1
                have E2 := Lib.hid e2
                clear e1 e2 nb HS1
                go_wp2_with fail
                refine HS2.out.mono ?_
                unfold strV
                rintro e w2 ⟨rfl, h2, g2⟩
                have K4 := Lib.hid (K1.out.read g2 h2)
                have HL1 := rLen h2
                rw [E2.out] at HL1
                simp only at HL1
                have HL2 := Lib.hid HL1
                clear h2 g2 HS2 K1 HL1
                go_wp2_with fail
                refine HL2.out.mono ?_
                rintro e w3 ⟨rfl, h3, g3⟩
                have K5 := Lib.hid (K4.out.read g3 h3)
                clear h3 g3 HL2 K4
                obtain ⟨N1, hN1⟩ : ∃ N1, n1.toNat = N1 := ⟨_, rfl⟩
                go_upto_if 65 with (fail)
                go_cut [12] (fun s12 wx => s12 = .int .i32 (N1 : Int) ∧ wx = w3)
                case first =>
                  by_cases hn : n1 < 0
                  · have e : N1 = 0 := by omega
                    go_wp2
                    go_meet
                    exact ⟨by rw [e]; rfl, rfl⟩
                  · have e : (N1 : Int) = n1 := by omega
                    go_wp2
                    go_meet
                    exact ⟨by rw [e], rfl⟩
                case rest =>
                  obtain ⟨rfl, rfl⟩ := hcut
                  have hN1' : N1 ≤ 2147483647 := by omega
                  have HN1 := Lib.hid hN1
                  clear hN1 nb1 nb2
                  have b0 : wc.cell? ⟨B, 0, none⟩ = some (.slice (some ⟨G, 0, none⟩) N cap) := by rw [cell_of_row wc _ _ _ _ _ K5.out.row]; rfl
                  have d0 : wc.cell? ⟨G, m * 2, none⟩ = some (.string ⟨#[]⟩) := by have := (K5.out.g.at (by rw [K3.out]; exact hml)).1; rw [K3.out] at this; exact this
                  have d1 : wc.cell? ⟨G, m * 2 + 1, none⟩ = some (.slice none 0 0) := by have := (K5.out.g.at (by rw [K3.out]; exact hml)).2; rw [K3.out] at this; exact this
                  have fz : ∀ k, wc.frozen? ⟨G, k, none⟩ = false := K5.out.g.frozen
                  have fz0 := fz (m * 2)
                  have wN1 : IntKind.i32.wrap (N1 : Int) = N1 := by rw [IntKind.wrap_i32]; omega
                  clear fz
                  go_upto_if 85 with (fail)
                  have K6 := K5.out.set0 tx.s
                  rw [K3.out] at K6
                  change RS w (wc.setCell ⟨G, m * 2, none⟩ (.string ⟨tx.s.toArray⟩)) S B G cap N hi D tx.s (.slice none 0 0) st3 at K6
                  generalize wc.setCell ⟨G, m * 2, none⟩ (.string ⟨tx.s.toArray⟩) = V at *
                  have HK6 := Lib.hid K6
                  have at1 : ∀ (w9 : World) (h9 : Nat) (u9 : Value) (s9 : St), RS w w9 S B G cap N h9 D tx.s u9 s9 → w9.cell? ⟨G, m * 2 + 1, none⟩ = some u9 := fun w9 h9 u9 s9 h => by have := (h.g.at (by rw [K3.out]; exact hml)).2; rw [K3.out] at this; exact this
                  have HAT := Lib.hid at1
                  have d2 : V.cell? ⟨G, m * 2 + 1, none⟩ = some (.slice none 0 0) := at1 _ _ _ _ K6
                  have f2 : V.frozen? ⟨G, m * 2 + 1, none⟩ = false := K6.g.frozen _
                  have hGV := K6.g.lt
                  clear K6 at1 b0 d0 d1 fz0 K5
                  go_cut [] (fun wx => ∃ hi' u, RS w wx S B G cap N hi' D tx.s u st3 ∧ ((N1 = 0 ∧ u = .slice none 0 0) ∨ (0 < N1 ∧ ∃ P c, u = .slice (some ⟨P, 0, none⟩) N1 c ∧ Prow wx P c N1 [] ∧ hi' ≤ P ∧ G < P)))
                  case first =>
                    by_cases hz : 0 < N1
                    · have hz' : (0 : Int) < (N1 : Int) := by omega
                      go_wp2_with fail
                      go_region_law (first
                        | (refine step_zeros rfl (.tmp 96) (.tmp 97) 59 21 21 rfl .i32 Tryd.underlying59 Tryd.underlying21 _ 1 4 i21 rfl (by decide) .i32 N1 rfl rfl hz (by simp only [maxLen]; omega) (by omega) (by omega) (fun w4 cp cur hb hr h1 h2 h3 h4 => ?_);
                           have hb' : Below V.heap.size V w4 := below_undrew hb; have K7 := Lib.hid (HK6.out.max.on hb');
                           have c4 := HAT.out _ _ _ _ K7.out; have f4 : w4.frozen? ⟨G, m * 2 + 1, none⟩ = false := K7.out.g.frozen _;
                           have K8 := K7.out.set1 (.slice (some ⟨V.heap.size, 0, none⟩) N1 cp); rw [K3.out] at K8; have M1 := Lib.hid K8; 
                           have M2 := Lib.hid (show Prow (w4.setCell ⟨G, m * 2 + 1, none⟩ (.slice (some ⟨V.heap.size, 0, none⟩) N1 cp)) V.heap.size cp N1 [] from ⟨cur, ((grown_setCell (grownBy_refl w4 (some G)) _ _).block _ (Array.getElem?_eq_some_iff.1 hr).1 (by simp; omega)).trans hr, h1, h2, h3, rfl⟩);
                           clear hb hr h1 h2 h3 h4 hb' K8))
                      all_goals (go_wp2_with fail; go_meet; exact ⟨_, _, M1.out, .inr ⟨hz, _, _, rfl, M2.out, Nat.le_refl _, hGV⟩⟩)
                    · obtain rfl : N1 = 0 := by omega
                      have K8 := HK6.out.set1 (.slice none 0 0)
                      rw [K3.out] at K8
                      have M1 := Lib.hid K8
                      clear K8
                      go_wp2_with fail
                      go_meet
                      exact ⟨_, _, M1.out, .inl ⟨by first | trivial | rfl, rfl⟩⟩
                  case rest =>
                    obtain ⟨hi', u, hst, hu⟩ := hcut
                    have HU := Lib.hid hu
                    obtain ⟨a0, c0, rfl⟩ : ∃ a c, u = .slice a N1 c := by
                      rcases hu with ⟨rfl, rfl⟩ | ⟨-, P, c, rfl, -⟩
                      · exact ⟨_, _, rfl⟩
                      · exact ⟨_, _, rfl⟩
                    have d3 := HAT.out _ _ _ _ hst
                    have L1 := Lib.hid hst
                    clear hu hst d2 f2 hGV HK6
                    go_upto_block 2 with fail
                    rcases HU.out with ⟨rfl, hu0⟩ | ⟨hz, P, cp, hu0, hpr, hhi, hGP⟩
                    · have e0 := Lib.hid hu0
                      clear hu0
                      go_wp2_with fail
                      refine wp_loop_rounds 1 ?_
                      rw [rounds_succ]
                      go_wp2_with fail
                      go_meet
                      have hpa : PaO wc (w.heap.size + 1) (.slice a0 0 c0) [] := by rw [e0.out]; exact World.ownsRow_nil _ _ _ _
                      exact ⟨(tx.s, []), _, st3, L1.out.snoc (by rw [K3.out]; exact hml) hpa, by unfold pOne; simp only [E1.out, E2.out, HN1.out]; rfl⟩
                    · simp only [Value.slice.injEq, true_and] at hu0
                      obtain ⟨rfl, rfl⟩ := hu0
                      have L2 := Lib.hid hpr
                      clear hpr
                      go_wp2_with fail
                      go_loopw [115] (fun i wx => ∃ (k : Nat) (ps : List Int) (st : St), i = .int .i64 (k : Int) ∧ k ≤ N1 ∧ ps.length = k ∧ RS w wx S B G cap N hi' D tx.s (.slice (some ⟨P, 0, none⟩) N1 c0) st ∧ Prow wx P c0 N1 ps ∧ pParts N1 st3 = (ps ++ (pParts (N1 - k) st).1, (pParts (N1 - k) st).2)) (fun i _ => N1 - (intOf i).toNat)
                      case atStart => exact ⟨0, [], st3, rfl, Nat.zero_le _, rfl, L1.out, L2.out, rfl⟩
                      case round =>
                        obtain ⟨k, ps, st4, rfl, hk, hps, hrs, hpr, hpp⟩ := hrel
                        have M1 := Lib.hid hrs
                        have M2 := Lib.hid hpr
                        have M3 := Lib.hid hps
                        have M4 := Lib.hid hpp
                        have d4 : wr.cell? ⟨G, m * 2 + 1, none⟩ = some (.slice (some ⟨P, 0, none⟩) N1 c0) := HAT.out _ _ _ _ hrs
                        clear hrs hpr hps hpp d3
                        by_cases hkl : k < N1
                        · have hki : (k : Int) < (N1 : Int) := by omega
                          have d5 : wr.drew.cell? ⟨G, m * 2 + 1, none⟩ = some (.slice (some ⟨P, 0, none⟩) N1 c0) := d4
                          have HC := Lib.hid (rNum (w := wr.drew) (show RdIs wr.drew S w.heap.size st4 from M1.out.rd))
                          have hGP' := hGP
                          have hlow := M1.out.low
                          go_wp2_with fail
                          go_region_held3 (fun w' => w'.cell? ⟨G, m * 2 + 1, none⟩ = some (.slice (some ⟨P, 0, none⟩) N1 c0)) (first | exact d4 | exact d5 | exact d6 | exact d7) (first
                            | (go_at_call 57; (with_reducible refine HC.out.mono ?_); rintro e w5 ⟨rfl, h5, g5⟩;
                               have K9 := Lib.hid (M1.out.read (show wr.grownBy w5 (some w.heap.size) from ⟨g5.os, g5.tape, g5.output, g5.size, g5.block⟩) h5); have d6 := HAT.out _ _ _ _ K9.out; have d7 := HAT.out _ _ _ _ (K9.out.setP hhi hGP' k (.int .i32 (rdI 4 st4).1));
                               have P9 := Lib.hid (M2.out.kept (g5.block P M2.out.lt (by simp; omega))); obtain ⟨u9, q9⟩ := P9.out.cell k hkl; have f9 := P9.out.frozen k; clear h5 g5))
                          go_wp2
                          go_roundw
                          case rel =>
                            obtain ⟨j, hj⟩ : ∃ j, N1 - k = j + 1 := ⟨N1 - k - 1, by omega⟩
                            have q := P9.out.set (by rw [M3.out]; exact hkl) (rdI 4 st4).1
                            rw [M3.out] at q
                            refine ⟨k + 1, ps ++ [(rdI 4 st4).1], (rdI 4 st4).2, by first | rfl | (congr 1; omega), by omega, by rw [List.length_append, M3.out]; rfl, K9.out.setP hhi hGP' k _, q, ?_⟩
                            rw [M4.out, hj, show N1 - (k + 1) = j by omega, List.append_assoc]
                            rfl
                          case measure => simp only [intOf]; omega
                        · have hki : ¬ ((k : Int) < (N1 : Int)) := by omega
                          go_wp2_with fail
                          go_meet
                          have e : pParts (N1 - k) st4 = ([], st4) := by rw [show N1 - k = 0 by omega]; rfl
                          obtain rfl : ps.length = N1 := by rw [M3.out]; omega
                          exact ⟨(tx.s, ps), _, st4, M1.out.snoc (by rw [K3.out]; exact hml) (M2.out.own (by have := M1.out.low; omega)), by unfold pOne; simp only [E1.out, E2.out, HN1.out, M4.out, e, List.append_nil]⟩
              case rest =>
                obtain ⟨x, hi2, st4, hrs, e1⟩ := hcut
                have M1 := Lib.hid hrs
                have E4 := Lib.hid e1
                clear hrs e1
                have ws : IntKind.i32.wrap ((m : Int) + 1) = (m : Int) + 1 := by rw [IntKind.wrap_i32]; omega
                go_wp2
                go_roundw
                case rel =>
                  obtain ⟨k, hk⟩ : ∃ k, N - m = k + 1 := ⟨N - m - 1, by omega⟩
                  refine ⟨m + 1, D ++ [x], _, st4, by first | rfl | (congr 1; omega), by omega, by rw [List.length_append, K3.out]; rfl, M1.out, ?_⟩
                  have e2 : pTopics (k + 1) st = (x :: (pTopics k st4).1, (pTopics k st4).2) := by
                    show ((pOne st).1 :: (pTopics k (pOne st).2).1, (pTopics k (pOne st).2).2) = _
                    rw [E4.out]
                  rw [K2.out, hk, e2, show N - (m + 1) = k by omega, List.append_assoc]
                  rfl
                case measure => simp only [intOf]; omega
            · have hmi : ¬ ((m : Int) < (N : Int)) := by omega
              go_wp2_with fail
              go_meet
              have e : pTopics (N - m) st = ([], st) := by rw [show N - m = 0 by omega]; rfl
              exact ⟨_, _, _, K1.out.fin (by rw [K3.out]; omega), by rw [K2.out, e, List.append_nil]⟩
      case rest =>
        obtain ⟨v, D, st, hT, hp⟩ := hcut
        have hR := HRR.out
        rw [hp] at hR
        have HR2 := Lib.hid hR
        clear hp hR HRR HP
        have hx := hT.rd
        have c1 : wc.cell? ⟨B, 1, none⟩ = some (.int .i32 0) := by rw [cell_of_row wc _ _ _ _ _ hT.row]; rfl
        have f1 : wc.frozen? ⟨B, 1, none⟩ = false := by simp [World.frozen?, hT.row]
        have HTG := Lib.hid (hT.gen hBl hSB (-1))
        cases st with
        | none =>
          obtain ⟨-, -, c0, -, -, -⟩ := rd_parts_none hx
          have HT := Lib.hid hT
          clear hT hx
          have eR := Lib.hid (show R = ((D, -1), none) by rw [HR2.out]; exact if_neg (by simp [left]))
          clear HR2
          go_wp2_with fail
          refine (Complete_any _ S w.heap.size _ HTG.out.1 (HE.out.kept HTG.out.2.1 (fun e => hBe (Option.some.inj e)))).mono ?_
          rintro e w99 ⟨u, rfl, hu, hw99⟩
          subst hw99
          have HU := Lib.hid hu
          clear hu
          go_wp2
          go_ret
          rw [eR.out]
          exact ⟨_, _, rfl, HU.out, HTG.out.2⟩
        | some r =>
          obtain ⟨v0, -, hb, -, c0, -, -, -⟩ := rd_parts hx
          obtain ⟨ad, k, rfl⟩ := bytes_len hb
          have HT := Lib.hid hT
          clear hT hx hb
          by_cases hr : 0 < r.length
          · have hr' : (0 : Int) < (r.length : Int) := by omega
            have HC := Lib.hid (rNum HT.out.rd)
            have eR := Lib.hid (show R = ((D, (rdI 4 (some r)).1), (rdI 4 (some r)).2) by rw [HR2.out]; exact if_pos hr)
            generalize rdI 4 (some r) = y at *
            obtain ⟨gn, st2⟩ := y
            clear HR2 HTG c1 f1
            go_wp2_with fail
            refine HC.out.mono ?_
            rintro e w2 ⟨rfl, h2, g2⟩
            have hT2 := HT.out.read hBl g2 h2
            have c1 : w2.cell? ⟨B, 1, none⟩ = some (.int .i32 0) := by rw [cell_of_row w2 _ _ _ _ _ hT2.row]; rfl
            have f1 : w2.frozen? ⟨B, 1, none⟩ = false := by simp [World.frozen?, hT2.row]
            have HTG := Lib.hid (hT2.gen hBl hSB gn)
            clear hT2 h2 g2 HC
            go_wp2_with fail
            refine (Complete_any _ S w.heap.size _ HTG.out.1 (HE.out.kept HTG.out.2.1 (fun e => hBe (Option.some.inj e)))).mono ?_
            rintro e w99 ⟨u, rfl, hu, hw99⟩
            subst hw99
            have HU := Lib.hid hu
            clear hu
            go_wp2
            go_ret
            rw [eR.out]
            exact ⟨_, _, rfl, HU.out, HTG.out.2⟩
          · have hr' : ¬ ((0 : Int) < (r.length : Int)) := by omega
            have eR := Lib.hid (show R = ((D, -1), some r) by rw [HR2.out]; exact if_neg hr)
            clear HR2
            go_wp2_with fail
            refine (Complete_any _ S w.heap.size _ HTG.out.1 (HE.out.kept HTG.out.2.1 (fun e => hBe (Option.some.inj e)))).mono ?_
            rintro e w99 ⟨u, rfl, hu, hw99⟩
            subst hw99
            have HU := Lib.hid hu
            clear hu
            go_wp2
            go_ret
            rw [eR.out]
            exact ⟨_, _, rfl, HU.out, HTG.out.2⟩
end Go.Proofs.YthdfhnnoamlacaaDoor.Rec
