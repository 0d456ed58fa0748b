/-
  Texts of the names: searching one letter. Conditions: none.
-/
import Derived.Test.YtbogepbfbplndaaDoorChecked
import Derived.Test.YtbogepbfbplndaaDoorY4
import Derived.WalkKit
import Derived.WalkSpells
import Derived.Below
import Derived.Lib.Hide
import Derived.Outline
import Derived.LoopTactic
import Derived.BigQuiet
namespace Go.Proofs.YtbogepbfbplndaaDoor.Nm
open Go.RowKit (Below)
open Kz

/-- The first place of a letter, below zero where there is none. -/
def ixOf (c : UInt8) : List UInt8 → Int
  | [] => -1
  | x :: r => if x = c then 0 else if ixOf c r < 0 then -1 else ixOf c r + 1
theorem ixOf_none {c : UInt8} {l : List UInt8} (h : ∀ (j : Nat), j < l.length → l[j]? ≠ some c) : ixOf c l = -1 := by
  induction l with
  | nil => rfl
  | cons x r ih =>
    have h0 : x ≠ c := by
      intro e
      exact h 0 (by simp) (by simp [e])
    have := ih (fun j hj => by
      have := h (j + 1) (by simp; omega)
      simpa using this)
    simp [ixOf, h0, this]
theorem ixOf_some {c : UInt8} {l : List UInt8} {k : Nat} (h : ∀ (j : Nat), j < k → l[j]? ≠ some c) (hk : l[k]? = some c) : ixOf c l = (k : Int) := by
  induction l generalizing k with
  | nil => simp at hk
  | cons x r ih =>
    cases k with
    | zero => simp at hk; simp [ixOf, hk]
    | succ k =>
      have h0 : x ≠ c := by
        intro e
        exact h 0 (by omega) (by simp [e])
      have := ih (k := k) (fun j hj => by
        have := h (j + 1) (by omega)
        simpa using this) (by simpa using hk)
      rw [ixOf, if_neg h0, this, if_neg (by omega)]
      push_cast
      rfl
theorem str_slice (m : List UInt8) (i j : Nat) : (({ data := m.toArray } : ByteArray).extract i j) = ⟨((m.take j).drop i).toArray⟩ := by
  apply ByteArray.ext
  rw [ByteArray.data_extract]
  apply Array.toList_inj.1
  simp [List.extract_eq_take_drop, List.drop_take]
theorem one_eq {l : List UInt8} {c : UInt8} {k : Nat} (h : k < l.length) : ((({ data := l.toArray } : ByteArray).extract k (k + 1)).toList == [c]) = decide (l[k]? = some c) := by
  rw [str_slice l k (k + 1)]
  have e : (l.take (k + 1)).drop k = [l[k]] := by
    rw [List.take_add_one, List.drop_append_of_le_length (by simp; omega)]
    simp [List.getElem?_eq_getElem h]
  rw [e]
  have e2 : (({ data := [l[k]].toArray } : ByteArray).toList == [c]) = ([l[k]] == [c]) := by
    rw [ByteArray.toList_eq]
  rw [e2, List.getElem?_eq_getElem h]
  by_cases hc : l[k] = c
  · simp [hc]
  · simp [hc]
theorem ix_cases (c : UInt8) (l : List UInt8) : (ixOf c l = -1 ∧ l.filter (· != c) = l) ∨ ∃ i : Nat, i < l.length ∧ ixOf c l = (i : Int) ∧ l.filter (· != c) = l.take i ++ (l.drop (i + 1)).filter (· != c) := by
  induction l with
  | nil => exact .inl ⟨rfl, rfl⟩
  | cons x r ih =>
    by_cases hx : x = c
    · subst hx
      exact .inr ⟨0, by simp, by simp [ixOf], by simp⟩
    · rcases ih with ⟨h1, h2⟩ | ⟨i, h1, h2, h3⟩
      · exact .inl ⟨by simp [ixOf, hx, h1], by rw [List.filter_cons_of_pos (by simpa using hx), h2]⟩
      · refine .inr ⟨i + 1, by simp; omega, ?_, ?_⟩
        · rw [ixOf, if_neg hx, h2, if_neg (by omega)]
          push_cast
          rfl
        · rw [List.filter_cons_of_pos (by simpa using hx), h3]
          simp

set_option maxHeartbeats 400000 in
theorem index_is (l : List UInt8) (c : UInt8) (w : World) (hs : l.length ≤ 1000000) :
    Calls Tryd.prog 85 #[.string ⟨l.toArray⟩, .string ⟨#[c]⟩] w fun e w' => e = .returned (.int .i64 (ixOf c l)) ∧ w' = w := by
  have hsz : (⟨l.toArray⟩ : ByteArray).size = l.length := by simp [ByteArray.size]
  have hsz1 : (⟨#[c]⟩ : ByteArray).size = 1 := by rfl
  go_enter Tryd.func85, Tryd.ntmps85
  go_wp2
  go_loop [5] (fun i => ∃ k : Nat, k ≤ l.length ∧ i = .int .i64 k ∧ ∀ (j : Nat), j < k → l[j]? ≠ some c) (fun i => l.length - (intOf i).toNat)
  case atStart => exact ⟨0, by omega, rfl, fun j hj => by omega⟩
  case round =>
    obtain ⟨k, hk, rfl, hall⟩ := hrel
    have hh := Lib.hid hall
    clear hall
    by_cases hlt : k < l.length
    · have h1 : ((k : Int) + 1 ≤ (l.length : Int)) := by omega
      by_cases hc : l[k]? = some c
      · have h2 : ((({ data := l.toArray } : ByteArray).extract k (k + 1)).toList == [c]) = true := by rw [one_eq hlt, hc]; simp
        go_wp2
        go_ret
        exact ⟨by rw [ixOf_some hh.out hc]; rfl, rfl⟩
      · have h2 : ((({ data := l.toArray } : ByteArray).extract k (k + 1)).toList == [c]) = false := by rw [one_eq hlt]; simp [hc]
        go_wp2
        exact ⟨⟨k + 1, by omega, rfl, fun j hj => by
          by_cases e : j = k
          · subst e
            exact hc
          · exact hh.out j (by omega)⟩, by simp only [intOf]; omega⟩
    · have h1 : ¬ ((k : Int) + 1 ≤ (l.length : Int)) := by omega
      go_wp2
      go_ret
      exact ⟨by rw [ixOf_none fun j hj => hh.out j (by omega)]; rfl, rfl⟩

theorem own_bytes {w : World} {base : Nat} {v : Value} {bs : List UInt8} (h : OwnB w base v bs) : BytesAt w (fun g => v.ownBlock = some g) v bs := by
  obtain ⟨-, h⟩ := h
  rcases h with ⟨rfl, h0⟩ | ⟨g, cap, cur, rfl, h1, h2, h3, h4, h5, h6⟩
  · exact .inl ⟨rfl, List.length_eq_zero_iff.1 h0⟩
  · refine .inr ⟨g, 0, cap, rfl, h3, by simp only [maxLen] at h4; omega, rfl, (Array.getElem?_eq_some_iff.1 h2).1, fun i b hi => ?_⟩
    have hlt : i < bs.length := (List.getElem?_eq_some_iff.1 hi).1
    rw [cell_of_row w g (0 + i) _ _ _ h2, Nat.zero_add]
    have e : (cur.toList.take (bs.length * 1))[i]? = (bs.map bv)[i]? := by rw [h6]
    rw [List.getElem?_take_of_lt (by omega)] at e
    rw [← Array.getElem?_toList, e]
    simp [hi]
/-- How long a text is. -/
def strLen : Value → Nat
  | .string b => b.size
  | _ => 0
set_option maxHeartbeats 1000000 in
theorem replace_is (l : List UInt8) (c : UInt8) (w : World) (hs : l.length ≤ 1000000) :
    Calls Tryd.prog 64 #[.string ⟨l.toArray⟩, .string ⟨#[c]⟩, .string ⟨#[]⟩] w fun e w' => e = .returned (.string ⟨(l.filter (· != c)).toArray⟩) ∧ Below w.heap.size w w' := by
  have hsz1 : (⟨#[c]⟩ : ByteArray).size = 1 := by rfl
  go_enter Tryd.func64, Tryd.ntmps64
  go_wp2
  go_loopw [0, 7, 10] (fun x v _ wr => ∃ m bs : List UInt8, x = .string ⟨m.toArray⟩ ∧ m.length ≤ l.length ∧ bs.length + m.length ≤ 1000000 ∧ bs ++ m.filter (· != c) = l.filter (· != c) ∧ OwnB wr w.heap.size v bs ∧ Below w.heap.size w wr) (fun x _ _ _ => strLen x)
  case atStart => exact ⟨l, [], rfl, by omega, by simpa using hs, rfl, .nil _ _, Below.refl _ _⟩
  case round =>
    obtain ⟨m, bs, rfl, hm, hb, he, hown, hbel⟩ := hrel
    have H1 := Lib.hid hown
    have H2 := Lib.hid hbel
    have H3 := Lib.hid he
    clear hown hbel he
    have hsz : (⟨m.toArray⟩ : ByteArray).size = m.length := by simp [ByteArray.size]
    go_wp2_with fail
    refine (index_is m c _ (by omega)).mono ?_
    rintro e w1 ⟨rfl, rfl⟩
    rcases ix_cases c m with ⟨h1, h2⟩ | ⟨i, h1, h2, h3⟩
    · rw [h1]
      go_wp2_with (at_builtin; refine wpList_append_text rfl _ _ rfl w.heap.size _ bs m rfl rfl H1.out ?_ ?_ ?_)
      · simp only [lim]
        omega
      · exact H2.out.size
      · intro v' w' hown hg
        have hc := conv_string (own_bytes hown) 26 9 rfl rfl
        have hbel := H2.out.trans (below_grow H1.out H2.out.size hg)
        have K1 := Lib.hid hbel
        clear hown hg hbel
        go_wp2
        go_ret
        exact ⟨by rw [← H3.out, h2]; rfl, K1.out⟩
    · rw [h2]
      have q1 : ¬ ((i : Int) < 0) := by omega
      have q2 : ((i : Int) ≤ (m.length : Int)) := by omega
      have q3 : ((i : Int) + 1 ≤ (m.length : Int)) := by omega
      go_wp2_with (at_builtin; refine wpList_append_text rfl _ _ rfl w.heap.size _ bs (m.take i) rfl ?_ H1.out ?_ ?_ ?_)
      · show Value.string (({ data := m.toArray } : ByteArray).extract 0 i) = _
        rw [str_slice]
        rfl
      · simp only [lim, List.length_take]
        omega
      · exact H2.out.size
      · intro v' w' hown hg
        have K1 := Lib.hid (H2.out.trans (below_grow H1.out H2.out.size hg))
        have K2 := Lib.hid hown
        clear hown hg
        go_wp2_with (at_builtin; refine wpList_append_text rfl _ _ rfl w.heap.size _ (bs ++ m.take i) [] rfl rfl K2.out ?_ ?_ ?_)
        · simp only [lim, List.length_append, List.length_take, List.length_nil]
          omega
        · exact K1.out.size
        · intro v2 w2 hown hg
          have M1 := Lib.hid (K1.out.trans (below_grow K2.out K1.out.size hg))
          have M2 := Lib.hid hown
          clear hown hg
          go_wp2
          refine ⟨⟨m.drop (i + 1), bs ++ m.take i, by rw [str_slice, List.take_length], by simp; omega, by simp; omega, by rw [List.append_assoc, ← h3, H3.out], M2.out, M1.out⟩, ?_⟩
          rw [str_slice, List.take_length]
          simp [strLen, ByteArray.size]
          omega
end Go.Proofs.YtbogepbfbplndaaDoor.Nm
