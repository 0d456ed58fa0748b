/-
  How a struct lies in memory: what its cells hold, of a tree. Conditions: none.
-/
import Derived.Test.YtpknjenihcfhlaaDoorRead
namespace Go.Proofs.YtpknjenihcfhlaaDoor
open Go.RowKit (Below)
open Kz

abbrev Cells := Nat → Option Value
abbrev Rel (α : Type) := World → (Nat → Prop) → Cells → α → Prop

/-- How many cells a field has. -/
def valCells (kind part : Nat) : Nat := if kind = 7 then 16 else if kind = 10 then part else 1
def fieldCells (kind : Nat) (null : Int) (part : Nat) : Nat := if kind = 10 ∧ 0 ≤ null then 1 else valCells kind part
mutual
def cellsF (ht : Bool) : F → Nat
  | .mk kind _ _ null _ _ _ sub => fieldCells kind null (cellsFs ht sub + ht.toNat)
def cellsFs (ht : Bool) : List F → Nat
  | [] => 0
  | f :: fs => cellsF ht f + cellsFs ht fs
end
/-- How many cells a part has: its unknown tags lie behind its fields. -/
def cellsP (ht : Bool) (fs : List F) : Nat := cellsFs ht fs + ht.toNat

mutual
/-- What is to lie there ahead of a reading: lists are nil. -/
def iniF (ht : Bool) : F → Cells → Prop
  | .mk kind _ _ null _ _ _ sub, c => (kind = 11 → c 0 = some (.slice none 0 0)) ∧ (kind = 10 ∧ null < 0 → iniFs ht sub c)
def iniFs (ht : Bool) : List F → Cells → Prop
  | [], _ => True
  | f :: fs, c => iniF ht f c ∧ iniFs ht fs (fun j => c (cellsF ht f + j))
end

/-- An integer's kind. -/
def ikOf (kind : Nat) : IntKind := if kind = 1 then .i8 else if kind = 2 then .i16 else if kind = 3 then .i32 else if kind = 5 then .u16 else .i64

/-- A value. -/
def valRep (ptr : Bool) (kind : Nat) (part : Rel T) : Rel T := fun w K c t =>
  if kind = 0 then c 0 = some (.bool (decide (t.n = 1))) ∧ (t.n = 0 ∨ t.n = 1)
  else if kind = 7 then t.s.length = 16 ∧ ∀ i b, t.s[i]? = some b → c i = some (bv b)
  else if kind = 8 then
    if ptr then (if t.null then c 0 = some (.pointer none) ∧ t.s = [] else ∃ g o, c 0 = some (.pointer (some ⟨g, o, none⟩)) ∧ K g ∧ g < w.heap.size ∧ w.cell? ⟨g, o, none⟩ = some (strV t.s)) else c 0 = some (strV t.s) ∧ t.null = false
  else if kind = 9 then ∃ v, c 0 = some v ∧ BytesAt w K v t.s ∧ if ptr then (if t.null then v = .slice none 0 0 else ∃ p n m, v = .slice (some p) n m) else t.null = false
  else if kind = 10 then
    if ptr then (if t.null then c 0 = some (.pointer none) else ∃ g o, c 0 = some (.pointer (some ⟨g, o, none⟩)) ∧ K g ∧ g < w.heap.size ∧ part w K (fun j => w.cell? ⟨g, o + j, none⟩) t) else part w K c t
  else c 0 = some (.int (ikOf kind) t.n) ∧ (kind = 5 → 0 ≤ t.n ∧ t.n < 65536)
/-- A list. -/
def listRep (ptr : Bool) (sz : Nat) (el : Rel T) : Rel T := fun w K c t =>
  if ptr ∧ t.null then c 0 = some (.slice none 0 0) ∧ t.l = []
  else (ptr = false → t.null = false) ∧ ((ptr = false ∧ c 0 = some (.slice none 0 0) ∧ t.l = []) ∨
    ∃ g o m, c 0 = some (.slice (some ⟨g, o, none⟩) t.l.length m) ∧ K g ∧ g < w.heap.size ∧ ∀ i x, t.l[i]? = some x → el w K (fun j => w.cell? ⟨g, o + i * sz + j, none⟩) x)
/-- A field. -/
def fieldRep (kind of : Nat) (null : Int) (psz : Nat) (part : Rel T) : Rel T :=
  if kind = 11 then listRep (decide (0 ≤ null)) (valCells of psz) (valRep false of part) else valRep (decide (0 ≤ null)) kind part

/-- Is a field read, and written, at a version? -/
def Kz.F.on (f : F) (v : Int) (flex : Bool) : Bool := if f.tag < 0 then f.has v else flex
/-- The fields, one behind the other. -/
def plainRep (v : Int) (flex ht : Bool) : List F → List (Rel T) → Rel (List T)
  | f :: fs, r :: rs, w, K, c, ts => ∃ x xs, ts = x :: xs ∧ (f.on v flex = true → r w K c x) ∧ plainRep v flex ht fs rs w K (fun j => c (cellsF ht f + j)) xs
  | _, _, _, _, _, ts => ts = []
/-- A part: its fields, its unknown tags. -/
def asmRep (tags : Rel (List (Nat × List UInt8))) (v : Int) (flex ht : Bool) (fs : List F) (rs : List (Rel T)) : Rel T := fun w K c t =>
  plainRep v flex ht fs rs w K c t.l ∧ (flex = true → tags w K (fun j => c (cellsFs ht fs + j)) t.u)
mutual
def repF (tags : Rel (List (Nat × List UInt8))) (v : Int) (flex ht : Bool) : F → Rel T
  | .mk kind _ _ null _ _ of sub => fieldRep kind of null (cellsP ht sub) (asmRep tags v flex ht sub (repFs tags v flex ht sub))
def repFs (tags : Rel (List (Nat × List UInt8))) (v : Int) (flex ht : Bool) : List F → List (Rel T)
  | [] => []
  | f :: fs => repF tags v flex ht f :: repFs tags v flex ht fs
end
/-- A part in memory. -/
def repP (tags : Rel (List (Nat × List UInt8))) (v : Int) (flex ht : Bool) (fs : List F) : Rel T := asmRep tags v flex ht fs (repFs tags v flex ht fs)

/-! ## What was said stays -/

theorem cell_kept {w w' : World} {g i : Nat} (h : w'.heap[g]? = w.heap[g]?) : w'.cell? ⟨g, i, none⟩ = w.cell? ⟨g, i, none⟩ := World.cell?_of_block h
theorem stable_bytes {w w' : World} {K K' : Nat → Prop} {v : Value} {bs : List UInt8} (hk : ∀ g, K g → g < w.heap.size → w'.heap[g]? = w.heap[g]?) (hs : w.heap.size ≤ w'.heap.size) (hK : ∀ g, K g → K' g)
    (h : BytesAt w K v bs) : BytesAt w' K' v bs := by
  rcases h with h | ⟨g, o, c, h1, h2, h2', h3, h4, h5⟩
  · exact .inl h
  · exact .inr ⟨g, o, c, h1, h2, h2', hK g h3, Nat.lt_of_lt_of_le h4 hs, fun i b hi => by rw [cell_kept (hk g h3 h4)]; exact h5 i b hi⟩

theorem stable_val {ptr : Bool} {kind psz : Nat} {part : Rel T} (hp : Stable psz part) : Stable (fieldCells kind (if ptr then 0 else -1) psz) (valRep ptr kind part) := by
  intro w w' K K' c c' x hk hs hK hc h
  unfold valRep at h ⊢
  have c0 : kind ≠ 10 ∨ ptr = true → c' 0 = c 0 := fun hn => hc 0 (by
    cases ptr with
    | true => by_cases h7 : kind = 7 <;> by_cases h10 : kind = 10 <;> simp [fieldCells, valCells, h7, h10]
    | false =>
      have h10 : kind ≠ 10 := by simpa using hn
      by_cases h7 : kind = 7 <;> simp [fieldCells, valCells, h7, h10])
  split
  · rename_i hq; rw [if_pos hq] at h; rw [c0 (.inl (by omega))]; exact h
  rename_i hq0; rw [if_neg hq0] at h
  split
  · rename_i hq; rw [if_pos hq] at h
    refine ⟨h.1, fun i b hi => ?_⟩
    rw [hc i (by
      have : i < 16 := by rw [← h.1]; exact (List.getElem?_eq_some_iff.1 hi).1
      simp [fieldCells, valCells, hq]; exact this)]
    exact h.2 i b hi
  rename_i hq1; rw [if_neg hq1] at h
  split
  · rename_i hq; rw [if_pos hq] at h
    rw [c0 (.inl (by omega))]
    split
    · rename_i hp; rw [if_pos hp] at h
      split
      · rename_i hn; rw [if_pos hn] at h; exact h
      · rename_i hn; rw [if_neg hn] at h
        obtain ⟨g, o, h1, h2, h3, h4⟩ := h
        exact ⟨g, o, h1, hK g h2, Nat.lt_of_lt_of_le h3 hs, by rw [cell_kept (hk g h2 h3)]; exact h4⟩
    · rename_i hp; rw [if_neg hp] at h; exact h
  rename_i hq2; rw [if_neg hq2] at h
  split
  · rename_i hq; rw [if_pos hq] at h
    rw [c0 (.inl (by omega))]
    obtain ⟨v, h1, h2, h3⟩ := h
    exact ⟨v, h1, stable_bytes hk hs hK h2, h3⟩
  rename_i hq3; rw [if_neg hq3] at h
  split
  · rename_i hq; rw [if_pos hq] at h
    split
    · rename_i hp'; rw [if_pos hp'] at h
      rw [c0 (.inr hp')]
      split
      · rename_i hn; rw [if_pos hn] at h; exact h
      · rename_i hn; rw [if_neg hn] at h
        obtain ⟨g, o, h1, h2, h3, h4⟩ := h
        refine ⟨g, o, h1, hK g h2, Nat.lt_of_lt_of_le h3 hs, hp w w' K K' _ _ x hk hs hK (fun j _ => ?_) h4⟩
        exact cell_kept (hk g h2 h3)
    · rename_i hp'; rw [if_neg hp'] at h
      refine hp w w' K K' _ _ x hk hs hK (fun j hj => hc j ?_) h
      simp [fieldCells, valCells, hq, hp']
      exact hj
  · rename_i hq; rw [if_neg hq] at h; rw [c0 (.inl hq)]; exact h

theorem stable_list {ptr : Bool} {sz : Nat} {el : Rel T} {n : Nat} (hn : n ≠ 0) (hp : Stable sz el) : Stable n (listRep ptr sz el) := by
  intro w w' K K' c c' x hk hs hK hc h
  unfold listRep at h ⊢
  rw [hc 0 (by omega)]
  split
  · rename_i hq; rw [if_pos hq] at h; exact h
  · rename_i hq; rw [if_neg hq] at h
    refine ⟨h.1, h.2.imp id ?_⟩
    rintro ⟨g, o, m, h1, h2, h3, h4⟩
    exact ⟨g, o, m, h1, hK g h2, Nat.lt_of_lt_of_le h3 hs, fun i y hi => hp w w' K K' _ _ y hk hs hK (fun j _ => cell_kept (hk g h2 h3)) (h4 i y hi)⟩

theorem stable_field {kind of : Nat} {null : Int} {psz : Nat} {part : Rel T} (hp : Stable psz part) : Stable (fieldCells kind null psz) (fieldRep kind of null psz part) := by
  unfold fieldRep
  split
  · rename_i hk
    subst hk
    have := @stable_val false of psz part hp
    refine stable_list (by simp [fieldCells, valCells]) ?_
    have e : fieldCells of (if false = true then 0 else -1) psz = valCells of psz := by simp [fieldCells]
    rw [e] at this
    exact this
  · have := @stable_val (decide (0 ≤ null)) kind psz part hp
    have e : fieldCells kind (if decide (0 ≤ null) = true then 0 else -1) psz = fieldCells kind null psz := by
      simp only [fieldCells, decide_eq_true_eq]
      by_cases h0 : 0 ≤ null <;> simp [h0]
    rw [e] at this
    exact this

theorem stable_plain {v : Int} {flex ht : Bool} : ∀ (fs : List F) (rs : List (Rel T)), (∀ (i : Nat) (f : F) (r : Rel T), fs[i]? = some f → rs[i]? = some r → Stable (cellsF ht f) r) → Stable (cellsFs ht fs) (plainRep v flex ht fs rs)
  | [], [], _ => fun w w' K K' c c' x hk hs hK hc h => h
  | [], _ :: _, _ => fun w w' K K' c c' x hk hs hK hc h => h
  | _ :: _, [], _ => fun w w' K K' c c' x hk hs hK hc h => h
  | f :: fs, r :: rs, hst => fun w w' K K' c c' x hk hs hK hc h => by
    obtain ⟨y, ys, h0, h1, h2⟩ := h
    refine ⟨y, ys, h0, fun ho => hst 0 f r rfl rfl w w' K K' c c' y hk hs hK (fun j hj => hc j (by simp only [cellsFs]; omega)) (h1 ho), ?_⟩
    exact stable_plain fs rs (fun i f r hf hr => hst (i + 1) f r hf hr) w w' K K' _ _ ys hk hs hK (fun j hj => hc _ (by simp only [cellsFs]; omega)) h2
theorem stable_asm {tags : Rel (List (Nat × List UInt8))} {v : Int} {flex ht : Bool} (htg : flex = true → ht = true) (hT : Stable 1 tags) {fs : List F} {rs : List (Rel T)} (h : ∀ (i : Nat) (f : F) (r : Rel T), fs[i]? = some f → rs[i]? = some r → Stable (cellsF ht f) r) :
    Stable (cellsP ht fs) (asmRep tags v flex ht fs rs) := by
  intro w w' K K' c c' x hk hs hK hc h'
  refine ⟨stable_plain fs rs h w w' K K' _ _ _ hk hs hK (fun j hj => hc j (by simp only [cellsP]; omega)) h'.1, fun hf => hT w w' K K' _ _ _ hk hs hK (fun j hj => hc _ ?_) (h'.2 hf)⟩
  simp only [cellsP, htg hf, Bool.toNat_true]
  omega
section
variable {tags : Rel (List (Nat × List UInt8))} {v : Int} {flex ht : Bool}
mutual
theorem stable_repF (htg : flex = true → ht = true) (hT : Stable 1 tags) : ∀ f : F, Stable (cellsF ht f) (repF tags v flex ht f)
  | .mk kind _ _ null _ _ of sub => by
    simp only [cellsF, repF]
    exact stable_field (psz := cellsP ht sub) (stable_asm htg hT (stable_repFs htg hT sub))
theorem stable_repFs (htg : flex = true → ht = true) (hT : Stable 1 tags) : ∀ (fs : List F) (i : Nat) (f : F) (r : Rel T), fs[i]? = some f → (repFs tags v flex ht fs)[i]? = some r → Stable (cellsF ht f) r
  | [], _, _, _, h, _ => by cases h
  | f :: fs, 0, g, r, h, h' => by
    cases h; cases h'
    exact stable_repF htg hT f
  | f :: fs, i + 1, g, r, h, h' => stable_repFs htg hT fs i g r h h'
end
theorem stable_repP (htg : flex = true → ht = true) (hT : Stable 1 tags) (fs : List F) : Stable (cellsP ht fs) (repP tags v flex ht fs) := stable_asm htg hT (stable_repFs htg hT fs)
theorem stable_plainF (htg : flex = true → ht = true) (hT : Stable 1 tags) (fs : List F) : Stable (cellsFs ht fs) (plainRep v flex ht fs (repFs tags v flex ht fs)) := stable_plain fs _ (stable_repFs htg hT fs)
end

/-! ## What is ahead lies in the cells alone -/
mutual
theorem ini_locF (ht : Bool) : ∀ (f : F) (c c' : Cells), (∀ j, j < cellsF ht f → c' j = c j) → iniF ht f c → iniF ht f c'
  | .mk kind _ _ null _ _ _ sub, c, c', hc, h => by
    simp only [iniF] at h ⊢
    refine ⟨fun hk => ?_, fun hk => ini_locFs ht sub c c' (fun j hj => hc j ?_) (h.2 hk)⟩
    · rw [hc 0 (by subst hk; simp [cellsF, fieldCells, valCells])]; exact h.1 hk
    · obtain ⟨rfl, hn⟩ := hk
      have : ¬ (0 ≤ null) := by omega
      simp only [cellsF, fieldCells, valCells, this, and_false, if_false]
      simp
      omega
theorem ini_locFs (ht : Bool) : ∀ (fs : List F) (c c' : Cells), (∀ j, j < cellsFs ht fs → c' j = c j) → iniFs ht fs c → iniFs ht fs c'
  | [], _, _, _, _ => trivial
  | f :: fs, c, c', hc, h => by
    simp only [iniFs, cellsFs] at h hc ⊢
    exact ⟨ini_locF ht f c c' (fun j hj => hc j (by omega)) h.1, ini_locFs ht fs _ _ (fun j hj => hc _ (by omega)) h.2⟩
end
end Go.Proofs.YtpknjenihcfhlaaDoor
