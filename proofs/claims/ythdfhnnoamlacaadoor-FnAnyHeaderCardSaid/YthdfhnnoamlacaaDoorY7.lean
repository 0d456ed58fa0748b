/-
  The reference: unknown tags, parts, messages; a tree that came in. Conditions: none.
-/
import Derived.Test.YthdfhnnoamlacaaDoorY6
import Derived.Test.YthdfhnnoamlacaaDoorY5
import Derived.Deep.RegionHeld3
import Derived.Test.YthdfhnnoamlacaaDoorY1
import Derived.Deep.Slices
import Derived.Deep.Fields
import Derived.ChangeSame
import Derived.Lib.SmallJoins
/-
  The reference's unknown tags. Conditions: none.
-/
namespace Go.Proofs.YthdfhnnoamlacaaDoor
open Go.RowKit
open Kz

/-- A slice of tags, place by place. -/
theorem UTagsV.cell {w : World} {n0 n1 : Nat} {v : Value} {us : List (Nat × List UInt8)} (h : UTagsV w n0 n1 v us) : ∃ p c, v = .slice p us.length c ∧ us.length ≤ c ∧ c ≤ 9223372036854775807 ∧ (p = none → c = 0) ∧ (us ≠ [] → ∃ ad, p = some ad) ∧ ∀ ad, us ≠ [] → p = some ad → ∃ g o, ad = ⟨g, o, none⟩ ∧ n1 ≤ g ∧ g < w.heap.size ∧
    ∀ (i : Nat) k b, us[i]? = some (k, b) → ∃ q d, w.cell? ⟨g, o + i * 2, none⟩ = some (.int .u32 (k : Int)) ∧ w.cell? ⟨g, o + i * 2 + 1, none⟩ = some (.slice q b.length d) ∧ BL w n0 (.slice q b.length d) b ∧ k < 4294967296 := by
  rcases h with ⟨ad, rfl, rfl⟩ | ⟨g, o, c, rfl, h2, h3, h3', h4, h5⟩
  · exact ⟨ad, 0, rfl, Nat.le_refl _, by decide, fun _ => rfl, fun h => absurd rfl h, fun _ h => absurd rfl h⟩
  · refine ⟨_, _, rfl, h2, h3, (fun h => by cases h), fun _ => ⟨_, rfl⟩, fun ad _ h => ?_⟩
    cases h
    refine ⟨g, o, rfl, h3', h4, fun i k b hi => ?_⟩
    obtain ⟨s, e1, e2, e3, e4⟩ := h5 i k b hi
    obtain ⟨q, d, rfl⟩ := e3.bt.len
    exact ⟨q, d, e1, e2, e3, e4⟩
theorem bl_over {w a b : World} {n0 : Nat} {v : Value} {bs : List UInt8} (h : BL a n0 v bs) (h1 : Below n0 w a) (h2 : Below n0 w b) (hn : n0 ≤ w.heap.size) : BL b n0 v bs := by
  rcases h with h | ⟨h, h'⟩ | ⟨g, o, c, e1, e2, e3, e4, e5, e6⟩
  · exact .inl h
  · exact .inl ⟨_, h, h'⟩
  · exact .inr (.inr ⟨g, o, c, e1, e2, e3, e4, by have := h2.size; show g < _; have e4' : g < n0 := e4; omega, fun i x hi => by
      rw [World.cell?_of_block (w := a) (w' := b) ((h2.block g e4).trans (h1.block g e4).symm)]
      exact e6 i x hi⟩)
theorem PRel.form {w : World} {n0 : Nat} {ps : Ps} {us : List (Nat × List UInt8)} (h : PRel w n0 ps us) (i : Nat) (x : Nat × Value) (hi : ps[i]? = some x) : ∃ a n c, x.2 = .slice a n c := by
  induction h generalizing i with
  | nil => simp at hi
  | cons hk hs _ ih =>
    cases i with
    | zero =>
      simp only [List.getElem?_cons_zero, Option.some.injEq] at hi
      subst hi
      obtain ⟨ad, c, h⟩ := hs.bt.len
      exact ⟨_, _, _, h⟩
    | succ i => exact ih i (by simpa using hi)
theorem PRel.over {w a b : World} {n0 : Nat} {ps : Ps} {us : List (Nat × List UInt8)} (h : PRel a n0 ps us) (h1 : Below n0 w a) (h2 : Below n0 w b) (hn : n0 ≤ w.heap.size) : PRel b n0 ps us := by
  induction h with
  | nil => exact .nil
  | cons hk hs _ ih => exact .cons hk (bl_over hs h1 h2 hn) ih

end Go.Proofs.YthdfhnnoamlacaaDoor
/-
  The reference's 'as by default'. Conditions: none.
-/
namespace Go.Proofs.YthdfhnnoamlacaaDoor
open Go.RowKit
open Kz

/-- Octets of what came in, by their places. -/
theorem BT.cell {w : World} {v : Value} {bs : List UInt8} (h : BT w v bs) : ∃ p c, v = .slice p bs.length c ∧ (bs ≠ [] → ∃ g o, p = some ⟨g, o, none⟩ ∧ ∀ (i : Nat) (b : UInt8), bs[i]? = some b → w.cell? ⟨g, o + i, none⟩ = some (bv b)) := by
  rcases h with ⟨ad, rfl, rfl⟩ | h
  · exact ⟨_, _, rfl, fun h => absurd rfl h⟩
  · exact bytes_cell h

end Go.Proofs.YthdfhnnoamlacaaDoor
/-
  What is written of a part, piece by piece. Conditions: none.
-/
namespace Go.Proofs.YthdfhnnoamlacaaDoor
open Kz

theorem rise {L : Nat → Nat} {n : Nat} (h : ∀ j, j < n → L j ≤ L (j + 1)) : ∀ d j, j + d = n → L j ≤ L n
  | 0, j, e => by rw [show j = n by omega]; exact Nat.le_refl _
  | d + 1, j, e => Nat.le_trans (h j (by omega)) (rise h d (j + 1) (by omega))
end Go.Proofs.YthdfhnnoamlacaaDoor
/-
  The reference's parts. Conditions: none.
-/
namespace Go.Proofs.YthdfhnnoamlacaaDoor
open Go.RowKit
open Kz

theorem cell_grown {w w' : World} {r : Option Nat} {b k : Nat} (hg : w.grownBy w' r) (h : some b ≠ r) (hb : b < w.heap.size) : w'.cell? ⟨b, k, none⟩ = w.cell? ⟨b, k, none⟩ := World.cell?_of_block (hg.block b hb h)
theorem OwnB.lt {w : World} {base : Nat} {v : Value} {bs : List UInt8} (h : OwnB w base v bs) : ∀ k, v.ownBlock = some k → base ≤ k ∧ k < w.heap.size := fun k hk => World.ownsRow.lt h k hk
/-- What is one's own there. -/
theorem OwnB.stay {w w' : World} {base : Nat} {v : Value} {bs : List UInt8} (h : OwnB w base v bs) (hb : Below w.heap.size w w') : OwnB w' base v bs := h.grown fun k hk => hb.block k hk

theorem BytesAt.on {w w' : World} {S : Nat → Prop} {v : Value} {bs : List UInt8} (h : BytesAt w S v bs) (hb : Below w.heap.size w w') : BytesAt w' S v bs := h.kept (row := none) (below_grown hb none) (fun _ _ => by simp)
end Go.Proofs.YthdfhnnoamlacaaDoor
/-
  The reference's Write, Kept; the bounds. Conditions: none.
-/
namespace Go.Proofs.YthdfhnnoamlacaaDoor
open Go.RowKit
open Kz

/-- A message as a value. -/
def MsgV (w : World) (v : Value) (m : M) : Prop := ∃ sv, v = .agg #[sv, iv m.flex] ∧ FL w sv m.fields
theorem MsgV.stay {w w' : World} {v : Value} {m : M} (h : MsgV w v m) (hb : Below w.heap.size w w') : MsgV w' v m := by
  obtain ⟨sv, e, h⟩ := h
  exact ⟨sv, e, h.stay hb⟩



/-! ## The bounds -/
/-- Some truth is handed back. -/
def SomeBool (e : Ending) : Prop := ∃ q, e = .returned (.bool q)
theorem SomeBool.of {e : Ending} (q : Bool) (h : e = .returned (.bool q)) : SomeBool e := ⟨q, h⟩
end Go.Proofs.YthdfhnnoamlacaaDoor
/-
  Fields made by the reference: a row of them. Conditions: none.
-/
namespace Go.Proofs.YthdfhnnoamlacaaDoor
open Go.RowKit
open Kz

/-- What lies within, one by one. -/
inductive FLs (w : World) : List F → List Value → Prop
  | nil : FLs w [] []
  | cons {f : F} {s : Value} {fs : List F} {ss : List Value} (h : FL w s f.sub) (r : FLs w fs ss) : FLs w (f :: fs) (s :: ss)
theorem FLs.get {w : World} {fs : List F} {ss : List Value} (h : FLs w fs ss) : ∀ (i : Nat) f s, fs[i]? = some f → ss[i]? = some s → FL w s f.sub := by
  induction h with
  | nil => intro i f s h; simp at h
  | cons h _ ih =>
    intro i f s h1 h2
    cases i with
    | zero =>
      simp only [List.getElem?_cons_zero, Option.some.injEq] at h1 h2
      subst h1 h2
      exact h
    | succ i => exact ih i f s (by simpa using h1) (by simpa using h2)
theorem FLs.stay {w w' : World} {fs : List F} {ss : List Value} (h : FLs w fs ss) (hb : Below w.heap.size w w') : FLs w' fs ss := by
  induction h with
  | nil => exact .nil
  | cons h _ ih => exact .cons (h.stay hb) ih
end Go.Proofs.YthdfhnnoamlacaaDoor
/-
  A tree that came in: its reading opened into memory. Conditions: none.
-/
namespace Go.Proofs.YthdfhnnoamlacaaDoor
open Go.ChangeShapes Go.WideShapes Go.ChangeAt Go.RowKit Go.Deep
open Kz

section
variable {H : Type} {enc : TypeId × Value → H} {P : Program} {w : World} {base : Nat} {held : Bool}
end

section
variable {H : Type} {enc : TypeId × Value → H} {W : World}
end
end Go.Proofs.YthdfhnnoamlacaaDoor
/-
  What the laws Again and Cut lean on. Conditions: none.
-/
namespace Go.Proofs.YthdfhnnoamlacaaDoor
open Go.RowKit
open Kz

theorem UTags.keys {w : World} {v : Value} {us : List (Nat × List UInt8)} (h : UTags w v us) : ∀ x ∈ us, x.1 < 4294967296 := by
  rcases h with ⟨_, _, rfl⟩ | ⟨g, o, c, h1, h2, h3, h4, h5⟩
  · intro x hx; cases hx
  · intro x hx
    obtain ⟨i, hi⟩ := List.mem_iff_getElem?.1 hx
    obtain ⟨s, -, -, -, hk⟩ := h5 i x.1 x.2 hi
    exact hk
theorem TL.keys {w : World} {v : Value} {ts : List T} (h : TL w v ts) : ∀ t ∈ ts, KeysOk t := by
  induction h with
  | nil ad => intro t ht; cases ht
  | mk g o c ts sv lv uv h1 h2 h3 h4 _ ih =>
    intro t ht
    obtain ⟨i, hi⟩ := List.mem_iff_getElem?.1 ht
    obtain ⟨e0, e1, e2, e3, e4, e5, e6⟩ := h4 i t hi
    have h := ih i t hi
    have hu := e6.keys
    cases t
    exact .mk _ _ _ _ _ hu h
theorem TreeV.keys {w : World} {v : Value} {t : T} (h : TreeV w v t) : KeysOk t := by
  obtain ⟨s, l, u, -, -, h2, h3⟩ := h
  have hu := h3.keys
  have hl := h2.keys
  cases t
  exact .mk _ _ _ _ _ hu hl
theorem ErrOk.below {w w' : World} (h : ErrOk w) (hb : Below w.heap.size w w') : ErrOk w' := by
  obtain ⟨t, x, h⟩ := h
  exact ⟨t, x, by rw [cell_kept (hb.block _ (World.block_lt_of_cell? w _ h))]; exact h⟩
/-- A beginning. -/
theorem BytesAt.front {w : World} {S : Nat → Prop} {p : Option Addr} {n c k : Nat} {bs : List UInt8} (h : BytesAt w S (.slice p n c) bs) (hk : k ≤ bs.length) : BytesAt w S (.slice p k c) (bs.take k) := by
  rcases h with ⟨h, rfl⟩ | ⟨g, o, c', h1, h2, h2', h3, h4, h5⟩
  · simp only [Value.slice.injEq] at h
    obtain ⟨rfl, rfl, rfl⟩ := h
    obtain rfl : k = 0 := by simpa using hk
    exact .inl ⟨rfl, by simp⟩
  · simp only [Value.slice.injEq] at h1
    obtain ⟨rfl, rfl, rfl⟩ := h1
    refine .inr ⟨g, o, c, ?_, ?_, h2', h3, h4, fun i b hi => ?_⟩
    · rw [List.length_take, Nat.min_eq_left hk]
    · rw [List.length_take]; omega
    · rw [List.getElem?_take] at hi
      split at hi
      · exact h5 i b hi
      · cases hi
section
variable {H : Type}
end
end Go.Proofs.YthdfhnnoamlacaaDoor
