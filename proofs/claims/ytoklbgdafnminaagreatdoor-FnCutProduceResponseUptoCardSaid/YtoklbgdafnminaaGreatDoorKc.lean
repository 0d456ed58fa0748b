/-
  A message that ends early: fields that may be read but once are read but once. Conditions: none.
-/
import Derived.Test.YtoklbgdafnminaaGreatDoorKw1
namespace Go.Proofs.YtoklbgdafnminaaGreatDoor
open Kz

theorem onceOk_none (needs : List Nat) : ∀ (n : Nat) (seen : List Nat), onceOk needs n seen none
  | 0, _ => trivial
  | n + 1, _ => ⟨fun _ _ => rfl, onceOk_none needs n _⟩
theorem take_app {α : Type} (a b : List α) (j : Nat) : (a ++ b).take j = if j < a.length then a.take j else a ++ b.take (j - a.length) := by
  by_cases h : j < a.length
  · rw [if_pos h, List.take_append_of_le_length (by omega)]
  · rw [if_neg h, List.take_append, List.take_of_length_le (by omega)]
/-- The number 0 stands but once. -/
def Zok : List (Nat × List UInt8) → Prop
  | [] => True
  | x :: l => (x.1 = 0 → ∀ y ∈ l, y.1 ≠ 0) ∧ Zok l
theorem once_rise : ∀ (l : List (Nat × List UInt8)) (seen : List Nat) (j : Nat), Zok l → (∀ x ∈ l, x.1 < 4294967296 ∧ x.2.length < 4294967296) → (0 ∈ seen → ∀ x ∈ l, x.1 ≠ 0) → onceOk [0] l.length seen (some ((l.flatMap tagB).take j))
  | [], _, _, _, _, _ => trivial
  | x :: l, seen, j, hz, hb, hs => by
    have e : (x :: l).flatMap tagB = uv x.1 ++ (uv x.2.length ++ (x.2 ++ l.flatMap tagB)) := by simp only [List.flatMap_cons, tagB, List.append_assoc]
    have hx := hb x (by simp)
    rw [e, take_app]
    by_cases h1 : j < (uv x.1).length
    · rw [if_pos h1]
      have hc := (exact_rdV x.1 hx.1).cut j h1
      refine ⟨fun _ _ => ?_, ?_⟩
      · rw [hc]; rfl
      · rw [hc]; exact onceOk_none _ _ _
    rw [if_neg h1]
    have hv := (exact_rdV x.1 hx.1).all ((uv x.2.length ++ (x.2 ++ l.flatMap tagB)).take (j - (uv x.1).length))
    refine ⟨fun h0 hse => ?_, ?_⟩
    · rw [hv] at h0 hse
      have h0 : x.1 = 0 := by simpa using h0
      have hse : x.1 ∈ seen := hse
      rw [h0] at hse
      exact absurd h0 (hs hse x (by simp))
    rw [hv]
    show onceOk [0] l.length (x.1 :: seen) (spanOf (some ((uv x.2.length ++ (x.2 ++ l.flatMap tagB)).take (j - (uv x.1).length)))).2
    have hs' : 0 ∈ x.1 :: seen → ∀ y ∈ l, y.1 ≠ 0 := fun h y hy => by
      rcases List.mem_cons.1 h with h | h
      · exact hz.1 h.symm y hy
      · exact hs h y (by simp [hy])
    rw [take_app]
    generalize j - (uv x.1).length = j1
    by_cases h2 : j1 < (uv x.2.length).length
    · rw [if_pos h2]
      have hc := (exact_rdV x.2.length hx.2).cut j1 h2
      have : (spanOf (some ((uv x.2.length).take j1))).2 = none := by
        unfold spanOf
        rw [hc]
        rfl
      rw [this]; exact onceOk_none _ _ _
    rw [if_neg h2]
    have hv2 := (exact_rdV x.2.length hx.2).all ((x.2 ++ l.flatMap tagB).take (j1 - (uv x.2.length).length))
    have e2 : spanOf (some (uv x.2.length ++ (x.2 ++ l.flatMap tagB).take (j1 - (uv x.2.length).length))) = rdSpan x.2.length (some ((x.2 ++ l.flatMap tagB).take (j1 - (uv x.2.length).length))) := by
      unfold spanOf
      rw [hv2]
    rw [e2, take_app]
    generalize j1 - (uv x.2.length).length = j2
    by_cases h3 : j2 < x.2.length
    · rw [if_pos h3, (exact_rdSpan x.2).cut j2 h3]
      exact onceOk_none _ _ _
    rw [if_neg h3, (exact_rdSpan x.2).all]
    exact once_rise l (x.1 :: seen) _ hz.2 (fun y hy => hb y (by simp [hy])) hs'
theorem zok_ne : ∀ (l : List (Nat × List UInt8)), (∀ x ∈ l, x.1 ≠ 0) → Zok l
  | [], _ => trivial
  | x :: l, h => ⟨fun h0 => absurd h0 (h x (by simp)), zok_ne l (fun y hy => h y (by simp [hy]))⟩
theorem zok_app : ∀ (a b : List (Nat × List UInt8)), a.length ≤ 1 → (∀ x ∈ b, x.1 ≠ 0) → Zok (a ++ b)
  | [], b, _, h => zok_ne b h
  | [x], b, _, h => ⟨fun _ => h, zok_ne b h⟩
  | _ :: _ :: _, _, h, _ => by simp at h
theorem tagW_one {tag : Nat} : ∀ (fs : List F) (gs : List (T → List UInt8)) (qs : List (T → Bool)) (ts : List T), uniqTags fs = true → (tagW tag fs gs qs ts).length ≤ 1 ∧ ∀ x ∈ tagW tag fs gs qs ts, x.1 = tag
  | [], _, _, _, _ => ⟨by simp [tagW], fun x h => by simp [tagW] at h⟩
  | f :: fs, [], _, _, _ => ⟨by simp [tagW], fun x h => by simp [tagW] at h⟩
  | f :: fs, _ :: _, [], _, _ => ⟨by simp [tagW], fun x h => by simp [tagW] at h⟩
  | f :: fs, g :: gs, q :: qs, ts, h => by
    simp only [uniqTags, Bool.and_eq_true, Bool.or_eq_true, decide_eq_true_eq] at h
    have ih := tagW_one (tag := tag) fs gs qs ts.tail h.2
    simp only [tagW]
    by_cases hk : f.tag = (tag : Int)
    · have hn : ∀ g ∈ fs, g.tag ≠ (tag : Int) := fun g hg => by
        have h1 := h.1.resolve_left (by omega)
        have := List.all_eq_true.1 h1 g hg
        simp only [decide_eq_true_eq] at this
        rw [← hk]; exact this
      rw [Go.Proofs.YtoklbgdafnminaaGreatDoor.tagW_none fs gs qs _ hn, List.append_nil]
      split
      · exact ⟨by simp, fun x hx => by simp at hx; rw [hx]⟩
      · exact ⟨by simp, fun x hx => by simp at hx⟩
    · rw [if_neg (fun e => hk e.1), List.nil_append]
      exact ih
theorem once_law (m : M) (v : Int) (t : T) (k : Nat) (hok : m.ok v = true) (hu : uniqTags m.fields = true) (hkn : decide (1 ≤ known m.fields) = true) (hk : KeysOk t) (hz : (write m v t).length < 4294967296) : onceM [0] m v ((write m v t).take k) := by
  intro hfl
  have hkn := of_decide_eq_true hkn
  simp only [M.ok, Bool.and_eq_true, decide_eq_true_eq] at hok
  obtain ⟨hA, hK⟩ := exact_rds v (m.isFlex v) m.fields hok.1
  rw [hfl] at hA ⊢
  have hw : write m v t = plainW v m.fields (wrs v true m.fields) t.l ++ tagsB (knownW m.fields (wrs v true m.fields) (usuals m.fields) t.l ++ (unknown (known m.fields) t.u).map whole2) := by
    show Kz.part v (m.isFlex v) m.fields t = _
    rw [hfl]
    rfl
  obtain ⟨-, -, um, uk⟩ := unknown_spec (known m.fields) t.u
  rw [hw] at hz ⊢
  have hKr : knownW m.fields (wrs v true m.fields) (usuals m.fields) t.l = (List.range (known m.fields)).flatMap fun tag => tagW tag m.fields (wrs v true m.fields) (usuals m.fields) t.l := rfl
  have hkz : ∀ x ∈ knownW m.fields (wrs v true m.fields) (usuals m.fields) t.l, x.1 < known m.fields := fun x hx => by
    rw [hKr] at hx
    obtain ⟨tag, ht, hx⟩ := List.mem_flatMap.1 hx
    rw [(tagW_one m.fields _ _ t.l hu).2 x hx]
    exact List.mem_range.1 ht
  have huz : ∀ x ∈ (unknown (known m.fields) t.u).map whole2, known m.fields ≤ x.1 ∧ x.1 < 4294967296 := fun x hx => by
    obtain ⟨y, hy, rfl⟩ := List.mem_map.1 hx
    exact ⟨uk y hy, hk.u y (um y hy)⟩
  have hzok : Zok (knownW m.fields (wrs v true m.fields) (usuals m.fields) t.l ++ (unknown (known m.fields) t.u).map whole2) := by
    rw [hKr]
    obtain ⟨n, hn⟩ : ∃ n, known m.fields = n + 1 := ⟨known m.fields - 1, by omega⟩
    rw [hn, List.range_succ_eq_map, List.flatMap_cons, List.append_assoc]
    refine zok_app _ _ (tagW_one m.fields _ _ t.l hu).1 fun x hx => ?_
    rcases List.mem_append.1 hx with h | h
    · obtain ⟨tag, ht, h⟩ := List.mem_flatMap.1 h
      obtain ⟨i, -, rfl⟩ := List.mem_map.1 ht
      rw [(tagW_one m.fields _ _ t.l hu).2 x h]
      omega
    · rw [← hn] at h
      have := (huz x h).1
      omega
  generalize hL : knownW m.fields (wrs v true m.fields) (usuals m.fields) t.l ++ (unknown (known m.fields) t.u).map whole2 = L at hz hzok ⊢
  rw [List.length_append] at hz
  have hlb : (tagsB L).length = (uv L.length).length + (L.flatMap tagB).length := by simp [tagsB]
  obtain ⟨l1, l2⟩ := tags_length L
  have hb : ∀ x ∈ L, x.1 < 4294967296 ∧ x.2.length < 4294967296 := fun x hx => by
    refine ⟨?_, by have := l2 x hx; omega⟩
    rw [← hL] at hx
    rcases List.mem_append.1 hx with h | h
    · have := hkz x h; omega
    · exact (huz x h).2
  have e1 := exact_plainR v hA (dfltOf m.fields) t.l hk.l (by omega)
  rw [take_app]
  by_cases c1 : k < (plainW v m.fields (wrs v true m.fields) t.l).length
  · rw [if_pos c1, e1.cut k c1]
    exact onceOk_none _ _ _
  rw [if_neg c1, e1.all]
  generalize k - (plainW v m.fields (wrs v true m.fields) t.l).length = k1
  show onceOk [0] (rdV (some ((uv L.length ++ L.flatMap tagB).take k1))).1 [] (rdV (some ((uv L.length ++ L.flatMap tagB).take k1))).2
  rw [take_app]
  by_cases c2 : k1 < (uv L.length).length
  · rw [if_pos c2, (exact_rdV L.length (by omega)).cut k1 c2]
    exact onceOk_none _ _ _
  rw [if_neg c2, (exact_rdV L.length (by omega)).all]
  exact once_rise L [] _ hzok hb (fun h => absurd h (by simp))
end Go.Proofs.YtoklbgdafnminaaGreatDoor
