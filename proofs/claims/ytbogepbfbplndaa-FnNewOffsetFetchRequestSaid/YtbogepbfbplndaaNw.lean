/-
  A new message: its cells, as a tree. Conditions: none.
-/
import Derived.Test.YtbogepbfbplndaaDf
namespace Go.Proofs.Ytbogepbfbplndaa
open Go.RowKit (Below)
open Kz

/-- A field of a new message. -/
def newT (f : F) : T := .mk f.dflt (if f.kind = 7 then List.replicate 16 0 else []) (decide (0 ≤ f.null)) [] []
/-- Its cells. -/
def dfc (f : F) : List Value :=
  if f.kind = 0 then [.bool (decide (f.dflt = 1))]
  else if f.kind = 7 then List.replicate 16 (.int .u8 0)
  else if f.kind = 8 then (if 0 ≤ f.null then [.pointer none] else [strV []])
  else if f.kind = 9 ∨ f.kind = 11 then [.slice none 0 0]
  else [.int (ikOf f.kind) f.dflt]
def newOkF (f : F) : Bool := decide (f.kind ≠ 10) && decide (f.kind = 0 → f.dflt = 0 ∨ f.dflt = 1) && decide (f.kind = 5 → 0 ≤ f.dflt ∧ f.dflt < 65536)
theorem dfc_length {ht : Bool} {f : F} (h : newOkF f = true) : (dfc f).length = cellsF ht f := by
  obtain ⟨kind, frm, to, null, tag, dflt, of, sub⟩ := f
  simp only [newOkF, Bool.and_eq_true, decide_eq_true_eq] at h
  have hk := h.1.1
  simp only [dfc, cellsF, fieldCells, valCells]
  rw [if_neg (show ¬ (kind = 10 ∧ 0 ≤ null) from fun e => hk e.1), if_neg hk]
  by_cases h7 : kind = 7
  · subst h7; rfl
  · rw [if_neg h7, if_neg h7]
    by_cases h0 : kind = 0
    · rw [if_pos h0]; rfl
    · rw [if_neg h0]
      by_cases h8 : kind = 8
      · rw [if_pos h8]; split <;> rfl
      · rw [if_neg h8]; split <;> rfl
theorem repF_new {tags : Rel (List (Nat × List UInt8))} {v : Int} {flex ht : Bool} {f : F} (h : newOkF f = true) (w : World) (K : Nat → Prop) (cc : Nat → Option Value) (hcc : ∀ j, j < (dfc f).length → cc j = (dfc f)[j]?) : repF tags v flex ht f w K cc (newT f) := by
  obtain ⟨kind, frm, to, null, tag, dflt, of, sub⟩ := f
  simp only [newOkF, Bool.and_eq_true, decide_eq_true_eq] at h
  obtain ⟨⟨hk, hb⟩, hu⟩ := h
  simp only [dfc] at hcc
  simp only [repF, fieldRep, newT]
  by_cases h11 : kind = 11
  · subst h11
    have c0 : cc 0 = some (.slice none 0 0) := hcc 0 (by simp)
    simp only [if_true, listRep, show ¬ ((11 : Nat) = 7) by decide, if_false]
    by_cases hn : 0 ≤ null
    · simp only [decide_eq_true hn, and_self, if_true]; exact ⟨c0, trivial⟩
    · simp only [decide_eq_false hn, Bool.false_eq_true, false_and, if_false]
      exact ⟨fun _ => trivial, .inl ⟨trivial, c0, trivial⟩⟩
  rw [if_neg h11]
  simp only [valRep]
  by_cases h0 : kind = 0
  · subst h0
    have c0 : cc 0 = some (.bool (decide (dflt = 1))) := hcc 0 (by simp)
    simp only [if_true]
    exact ⟨c0, hb rfl⟩
  rw [if_neg h0]
  rw [if_neg h0] at hcc
  by_cases h7 : kind = 7
  · subst h7
    simp only [if_true]
    simp only [if_true] at hcc
    refine ⟨List.length_replicate, fun i b hi => ?_⟩
    have hi' : (List.replicate 16 (0 : UInt8))[i]? = some b := hi
    rw [List.getElem?_replicate] at hi'
    split at hi'
    · rename_i hlt
      cases hi'
      rw [hcc i (by rw [List.length_replicate]; exact hlt), List.getElem?_replicate, if_pos hlt]
      rfl
    · cases hi'
  rw [if_neg h7, if_neg h7]
  rw [if_neg h7] at hcc
  by_cases h8 : kind = 8
  · subst h8
    simp only [if_true]
    simp only [if_true] at hcc
    by_cases hn : 0 ≤ null
    · simp only [decide_eq_true hn, if_true]
      rw [if_pos hn] at hcc
      exact ⟨hcc 0 (by simp), trivial⟩
    · simp only [decide_eq_false hn, Bool.false_eq_true, if_false]
      rw [if_neg hn] at hcc
      exact ⟨hcc 0 (by simp), trivial⟩
  rw [if_neg h8]
  rw [if_neg h8] at hcc
  by_cases h9 : kind = 9
  · subst h9
    simp only [if_true]
    rw [if_pos (.inl rfl)] at hcc
    refine ⟨.slice none 0 0, hcc 0 (by simp), .inl ⟨rfl, rfl⟩, ?_⟩
    by_cases hn : 0 ≤ null
    · simp only [decide_eq_true hn, if_true]
    · simp only [decide_eq_false hn, Bool.false_eq_true, if_false]
  rw [if_neg h9, if_neg hk]
  rw [if_neg (fun e => e.elim h9 h11)] at hcc
  exact ⟨hcc 0 (by simp), hu⟩
theorem plain_new {tags : Rel (List (Nat × List UInt8))} {v : Int} {flex ht : Bool} (w : World) (K : Nat → Prop) : ∀ (fs : List F) (_ : fs.all newOkF = true) (cc : Nat → Option Value) (_ : ∀ j, j < (fs.flatMap dfc).length → cc j = (fs.flatMap dfc)[j]?), plainRep v flex ht fs (repFs tags v flex ht fs) w K cc (fs.map newT)
  | [], _, _, _ => by simp only [plainRep, List.map_nil]
  | f :: fs, h, cc, hcc => by
    simp only [List.all_cons, Bool.and_eq_true] at h
    simp only [List.flatMap_cons, List.length_append] at hcc
    simp only [repFs, plainRep, List.map_cons]
    refine ⟨_, _, rfl, fun _ => repF_new h.1 w K cc fun j hj => ?_, plain_new w K fs h.2 _ fun j hj => ?_⟩
    · rw [hcc j (by omega), List.getElem?_append_left hj]
    · rw [← dfc_length (ht := ht) h.1, hcc _ (by omega), List.getElem?_append_right (by omega)]
      congr 1; omega
theorem repP_new {v : Int} {flex : Bool} (w : World) (K : Nat → Prop) {fs : List F} (h : fs.all newOkF = true) {cc : Nat → Option Value} (hcc : ∀ j, cc j = (fs.flatMap dfc ++ [.map none])[j]?) : repP TagRep v flex true fs w K cc (.mk 0 [] false (fs.map newT) []) := by
  refine ⟨plain_new w K fs h cc fun j hj => by rw [hcc, List.getElem?_append_left hj], fun _ => ⟨none, ?_, rfl⟩⟩
  have hl : (fs.flatMap dfc).length = cellsFs true fs := by
    clear hcc
    induction fs with
    | nil => rfl
    | cons f fs ih =>
      simp only [List.all_cons, Bool.and_eq_true] at h
      simp only [List.flatMap_cons, List.length_append, cellsFs, ih h.2, dfc_length (ht := true) h.1]
  show cc (cellsFs true fs + 0) = _
  rw [hcc, ← hl, Nat.add_zero, List.getElem?_append_right (Nat.le_refl _), Nat.sub_self]
  rfl
theorem new_kinds {fs : List F} (h : fs.all newOkF = true) : ∀ f ∈ fs, f.kind ≠ 10 := fun f hf => by
  have := List.all_eq_true.1 h f hf
  simp only [newOkF, Bool.and_eq_true, decide_eq_true_eq] at this
  exact this.1.1
theorem newT_fit (fs : List F) (h : fs.length ≤ 1000) : Fit (.mk 0 [] false (fs.map newT) []) := by
  refine .mk _ _ _ _ _ (by simp) (by simp) (fun _ h => absurd h (by simp)) (by rw [List.length_map]; simp only [most]; omega) fun x hx => ?_
  simp only [List.mem_map] at hx
  obtain ⟨f, -, rfl⟩ := hx
  refine .mk _ _ _ _ _ ?_ (by simp) (fun _ h => absurd h (by simp)) (by simp) (fun _ h => absurd h (by simp))
  split
  · rw [List.length_replicate]; decide
  · simp
end Go.Proofs.Ytbogepbfbplndaa

