/-
  What a struct holds lies in blocks that are there. Conditions: none.
-/
import Derived.Test.YtpknjenihcfhlaaDoorTag2
import Derived.Test.YtpknjenihcfhlaaDoorKa1
namespace Go.Proofs.YtpknjenihcfhlaaDoor
open Go.RowKit (Below)
open Kz

/-- The blocks that are there. -/
abbrev inW (w : World) (K : Nat → Prop) : Nat → Prop := fun g => K g ∧ g < w.heap.size
def Bnd {α : Type} (R : Rel α) : Prop := ∀ w K c x, R w K c x → R w (inW w K) c x
theorem bnd_bytes {w : World} {K : Nat → Prop} {v : Value} {bs : List UInt8} (h : BytesAt w K v bs) : BytesAt w (inW w K) v bs := by
  rcases h with h | ⟨g, o, c, h1, h2, h2', h3, h4, h5⟩
  · exact .inl h
  · exact .inr ⟨g, o, c, h1, h2, h2', ⟨h3, h4⟩, h4, h5⟩
theorem bnd_val {ptr : Bool} {kind : Nat} {part : Rel T} (hp : Bnd part) : Bnd (valRep ptr kind part) := by
  intro w K c x h
  unfold valRep at h ⊢
  split
  · rename_i hq; rw [if_pos hq] at h; exact h
  rename_i hq0; rw [if_neg hq0] at h
  split
  · rename_i hq; rw [if_pos hq] at h; exact h
  rename_i hq1; rw [if_neg hq1] at h
  split
  · rename_i hq; rw [if_pos hq] at h
    split
    · rename_i hp; rw [if_pos hp] at h
      split
      · rename_i hn; rw [if_pos hn] at h; exact h
      · rename_i hn; rw [if_neg hn] at h
        obtain ⟨g, o, h1, h2, h3, h4⟩ := h
        exact ⟨g, o, h1, ⟨h2, h3⟩, h3, h4⟩
    · rename_i hp; rw [if_neg hp] at h; exact h
  rename_i hq2; rw [if_neg hq2] at h
  split
  · rename_i hq; rw [if_pos hq] at h
    obtain ⟨v, h1, h2, h3⟩ := h
    exact ⟨v, h1, bnd_bytes h2, h3⟩
  rename_i hq3; rw [if_neg hq3] at h
  split
  · rename_i hq; rw [if_pos hq] at h
    split
    · rename_i hp'; rw [if_pos hp'] at h
      split
      · rename_i hn; rw [if_pos hn] at h; exact h
      · rename_i hn; rw [if_neg hn] at h
        obtain ⟨g, o, h1, h2, h3, h4⟩ := h
        exact ⟨g, o, h1, ⟨h2, h3⟩, h3, hp w K _ x h4⟩
    · rename_i hp'; rw [if_neg hp'] at h; exact hp w K _ x h
  · rename_i hq; rw [if_neg hq] at h; exact h
theorem bnd_list {ptr : Bool} {sz : Nat} {el : Rel T} (hp : Bnd el) : Bnd (listRep ptr sz el) := by
  intro w K c x h
  unfold listRep at h ⊢
  split
  · rename_i hq; rw [if_pos hq] at h; exact h
  · rename_i hq; rw [if_neg hq] at h
    refine ⟨h.1, h.2.imp id ?_⟩
    rintro ⟨g, o, m, h1, h2, h3, h4⟩
    exact ⟨g, o, m, h1, ⟨h2, h3⟩, h3, fun i y hi => hp w K _ y (h4 i y hi)⟩
theorem bnd_field {kind of : Nat} {null : Int} {psz : Nat} {part : Rel T} (hp : Bnd part) : Bnd (fieldRep kind of null psz part) := by
  unfold fieldRep
  split
  · exact bnd_list (bnd_val hp)
  · exact bnd_val hp
theorem bnd_plain {v : Int} {flex ht : Bool} : ∀ (fs : List F) (rs : List (Rel T)), (∀ (i : Nat) (f : F) (r : Rel T), fs[i]? = some f → rs[i]? = some r → Bnd r) → Bnd (plainRep v flex ht fs rs)
  | [], [], _ => fun w K c x h => h
  | [], _ :: _, _ => fun w K c x h => h
  | _ :: _, [], _ => fun w K c x h => h
  | f :: fs, r :: rs, hst => fun w K c x h => by
    obtain ⟨y, ys, h0, h1, h2⟩ := h
    exact ⟨y, ys, h0, fun ho => hst 0 f r rfl rfl w K c y (h1 ho), bnd_plain fs rs (fun i f r hf hr => hst (i + 1) f r hf hr) w K _ ys h2⟩
theorem bnd_asm {tags : Rel (List (Nat × List UInt8))} {v : Int} {flex ht : Bool} (hT : Bnd tags) {fs : List F} {rs : List (Rel T)} (h : ∀ (i : Nat) (f : F) (r : Rel T), fs[i]? = some f → rs[i]? = some r → Bnd r) : Bnd (asmRep tags v flex ht fs rs) :=
  fun w K _ _ h' => ⟨bnd_plain fs rs h w K _ _ h'.1, fun hf => hT w K _ _ (h'.2 hf)⟩
section
variable {tags : Rel (List (Nat × List UInt8))} {v : Int} {flex ht : Bool}
mutual
theorem bnd_repF (hT : Bnd tags) : ∀ f : F, Bnd (repF tags v flex ht f)
  | .mk kind _ _ null _ _ of sub => by
    simp only [repF]
    exact bnd_field (bnd_asm hT (bnd_repFs hT sub))
theorem bnd_repFs (hT : Bnd tags) : ∀ (fs : List F) (i : Nat) (f : F) (r : Rel T), fs[i]? = some f → (repFs tags v flex ht fs)[i]? = some r → Bnd r
  | [], _, _, _, h, _ => by cases h
  | f :: fs, 0, g, r, h, h' => by
    cases h; cases h'
    exact bnd_repF hT f
  | f :: fs, i + 1, g, r, h, h' => bnd_repFs hT fs i g r h h'
end
theorem bnd_repP (hT : Bnd tags) (fs : List F) : Bnd (repP tags v flex ht fs) := bnd_asm hT (bnd_repFs hT fs)
end
theorem bnd_tags {w : World} {K : Nat → Prop} : ∀ (l : List (Nat × Value)) (u : List (Nat × List UInt8)), TagsAt w K l u → TagsAt w (inW w K) l u
  | [], [], _ => trivial
  | [], _ :: _, h => h.elim
  | _ :: _, [], h => h.elim
  | (_, _) :: l, (_, _) :: u, h => ⟨h.1, bnd_bytes h.2.1, bnd_tags l u h.2.2⟩
theorem bnd_tagRep : Bnd TagRep := by
  intro w K c u h
  obtain ⟨r, h1, h2⟩ := h
  refine ⟨r, h1, ?_⟩
  cases r with
  | none => exact h2
  | some b =>
    obtain ⟨hb, l, n, h3, h4, h5, h6⟩ := h2
    exact ⟨⟨hb, h4.lt⟩, l, n, h3, h4, h5, bnd_tags l u h6⟩

/-- Octets of one's own, as octets. -/
theorem own_bytes {w : World} {base : Nat} {v : Value} {bs : List UInt8} (h : OwnB w base v bs) : BytesAt w (fun g => v.ownBlock = some g) v bs := by
  obtain ⟨-, h⟩ := h
  rcases h with ⟨rfl, h0⟩ | ⟨g, cap, cur, rfl, h1, h2, h3, h4, h5, h6⟩
  · exact .inl ⟨rfl, List.length_eq_zero_iff.1 h0⟩
  · refine .inr ⟨g, 0, cap, rfl, h3, by simp only [maxLen] at h4; omega, rfl, (Array.getElem?_eq_some_iff.1 h2).1, fun i b hi => ?_⟩
    have hlt : i < bs.length := (List.getElem?_eq_some_iff.1 hi).1
    rw [cell_of_row w g (0 + i) _ _ _ h2, Nat.zero_add]
    have e : (cur.toList.take (bs.length * 1))[i]? = (bs.map bv)[i]? := by rw [h6]
    rw [List.getElem?_take_of_lt (by omega)] at e
    rw [← Array.getElem?_toList, e]
    simp [hi]
theorem OwnB.lower {w : World} {b b' : Nat} {v : Value} {bs : List UInt8} (h : OwnB w b v bs) (hb : b' ≤ b) : OwnB w b' v bs := by
  obtain ⟨h1, h⟩ := h
  refine ⟨h1, h.imp id ?_⟩
  rintro ⟨g, cap, cur, e1, e2, e3⟩
  exact ⟨g, cap, cur, e1, by omega, e3⟩
end Go.Proofs.YtpknjenihcfhlaaDoor
