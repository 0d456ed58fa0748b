/-
  Unknown tags in memory; setting one; reading them. Conditions: none.
-/
import Derived.Test.YtpknjenihcfhlaaDoorRd7
import Derived.Maps.Own
import Derived.Maps.OwnSet
import Derived.Carry
namespace Go.Proofs.YtpknjenihcfhlaaDoor
open Go.RowKit (Below)
open Kz

/-- A value as it is. -/
def heldR (v : Value) : Option (DataW Value × List MemPlace) := some (.held v, [])
abbrev tagDs (l : List (Nat × Value)) : List (Lit × DataW Value) := l.map fun x => (Lit.int .u32 (x.1 : Int), DataW.held x.2)
/-- Keys that rise. -/
def Rising : List (Nat × Value) → Prop := List.Pairwise (fun x y => x.1 < y.1)
def putV (k : Nat) (v : Value) : List (Nat × Value) → List (Nat × Value)
  | [] => [(k, v)]
  | (j, w) :: r => if j < k then (j, w) :: putV k v r else if j = k then (k, v) :: r else (k, v) :: (j, w) :: r

theorem putV_keys (k : Nat) (v : Value) : ∀ (l : List (Nat × Value)) (x : Nat × Value), x ∈ putV k v l → x = (k, v) ∨ x ∈ l
  | [], x, h => by simp [putV] at h; exact .inl h
  | (j, w) :: r, x, h => by
    simp only [putV] at h
    split at h
    · simp only [List.mem_cons] at h ⊢
      rcases h with h | h
      · exact .inr (.inl h)
      · exact (putV_keys k v r x h).imp id .inr
    · split at h
      · simp only [List.mem_cons] at h ⊢
        rcases h with h | h
        · exact .inl h
        · exact .inr (.inr h)
      · simp only [List.mem_cons] at h ⊢
        exact h
theorem putV_rising (k : Nat) (v : Value) : ∀ (l : List (Nat × Value)), Rising l → Rising (putV k v l)
  | [], _ => by simp [putV, Rising]
  | (j, w) :: r, h => by
    obtain ⟨h1, h2⟩ := List.pairwise_cons.1 h
    simp only [putV]
    split
    · rename_i hj
      refine List.pairwise_cons.2 ⟨fun x hx => ?_, putV_rising k v r h2⟩
      rcases putV_keys k v r x hx with rfl | hx
      · exact hj
      · exact h1 x hx
    · split
      · rename_i hj hk
        subst hk
        exact List.pairwise_cons.2 ⟨h1, h2⟩
      · rename_i hj hk
        refine List.pairwise_cons.2 ⟨fun x hx => ?_, h⟩
        simp only [List.mem_cons] at hx
        rcases hx with rfl | hx
        · show k < j; omega
        · have : j < x.1 := h1 x hx
          show k < x.1
          omega
theorem same_int (a b : Nat) : (Lit.int .u32 (a : Int)).sameKey (Lit.int .u32 (b : Int)) = decide (a = b) := by
  simp [Lit.sameKey]
  by_cases h : a = b
  · simp [h]
  · have : ¬ ((a : Int) = b) := by omega
    simp [h, this]
theorem before_int (a b : Nat) : (Lit.int .u32 (a : Int)).before (Lit.int .u32 (b : Int)) = decide (a < b) := by
  simp [Lit.before]
theorem filter_above (k : Nat) : ∀ (l : List (Nat × Value)), (∀ x ∈ l, k < x.1) → (tagDs l).filter (fun p => !p.1.sameKey (Lit.int .u32 (k : Int))) = tagDs l := by
  intro l h
  rw [List.filter_eq_self]
  intro p hp
  simp only [tagDs, List.mem_map] at hp
  obtain ⟨x, hx, rfl⟩ := hp
  have := h x hx
  simp only [same_int, Bool.not_eq_true', decide_eq_false_iff_not]
  omega
/-- What is set in a map is set in its reading. -/
theorem put_tags (k : Nat) (v : Value) : ∀ (l : List (Nat × Value)), Rising l → DataW.insert (Lit.int .u32 (k : Int), DataW.held v) ((tagDs l).filter fun p => !p.1.sameKey (Lit.int .u32 (k : Int))) = tagDs (putV k v l)
  | [], _ => rfl
  | (j, w) :: r, h => by
    obtain ⟨h1, h2⟩ := List.pairwise_cons.1 h
    have ih := put_tags k v r h2
    simp only [tagDs, List.map_cons, List.filter_cons, same_int, putV] at ih ⊢
    by_cases hjk : j = k
    · subst hjk
      have hf := filter_above j r (fun x hx => h1 x hx)
      simp only [tagDs] at hf
      simp only [decide_true, Bool.not_true, Bool.false_eq_true, if_false, Nat.lt_irrefl, if_true, hf, List.map_cons]
      cases r with
      | nil => rfl
      | cons y r' =>
        have : j < y.1 := h1 y (by simp)
        simp only [List.map_cons, DataW.insert, before_int, this, decide_true, if_true]
    · simp only [hjk, decide_false, Bool.not_false, if_true]
      by_cases hlt : j < k
      · have : ¬ k < j := by omega
        simp only [DataW.insert, before_int, this, decide_false, Bool.false_eq_true, if_false, hlt, if_true, List.map_cons, ih]
      · have hkj : k < j := by omega
        have hf := filter_above k r (fun x hx => by have := h1 x hx; show k < x.1; exact Nat.lt_trans hkj this)
        simp only [tagDs] at hf
        simp only [DataW.insert, before_int, hkj, decide_true, if_true, hlt, if_false, List.map_cons, hf]

/-- A variable of tags. -/
def TagSt (w : World) (base tb n : Nat) (l : List (Nat × Value)) : Prop :=
  base ≤ tb ∧ Rising l ∧ ∃ r, w.heap[tb]? = some (.cells #[.map r] 48 (0, 0)) ∧
    match r with
    | none => l = []
    | some b => base ≤ b ∧ b ≠ tb ∧ w.ownsMap Tryd.prog 56 heldR b n (.map (tagDs l))

theorem keyed32 : Maps.Keyed Tryd.prog 56 := Maps.int_keyed Tryd.underlying56
theorem TagSt.rows {w : World} {base tb n : Nat} {l : List (Nat × Value)} (h : TagSt w base tb n l) : ∃ r, w.cell? ⟨tb, 0, none⟩ = some (.map r) ∧ w.frozen? ⟨tb, 0, none⟩ = false := by
  obtain ⟨-, -, r, hr, -⟩ := h
  exact ⟨r, by rw [cell_of_row w tb 0 _ _ _ hr]; rfl, by simp [World.frozen?, hr]⟩

theorem key_ok {k : Nat} (hk : k < 4294967296) : keyOf Tryd.prog 56 (.int .u32 (k : Int)) = some (Lit.int .u32 (k : Int)) :=
  Maps.keyOf_int_mk Tryd.underlying56 (by simp [Lit.wf, IntKind.min, IntKind.max, IntKind.bits, IntKind.signed]; omega)

theorem MapKept_old (w : World) (o : Obj) (g : Nat) (h : g < w.heap.size) : (w.alloc o).heap[g]? = w.heap[g]? := by
  simp only [World.alloc, Array.getElem?_push]
  rw [if_neg (by omega)]
/-- A fact that the walk is not to look at. -/
structure Box (p : Prop) : Prop where
  get : p

set_option maxRecDepth 8000 in
set_option maxHeartbeats 400000 in
theorem Set_any (w : World) (base tb n k : Nat) (l : List (Nat × Value)) (v : Value) (h : TagSt w base tb n l) (hk : k < 4294967296) (hn : n < maxLen) (hbase : base ≤ w.heap.size) :
    Calls Tryd.prog 97 #[.pointer (some ⟨tb, 0, none⟩), .int .u32 (k : Int), v] w fun e w' => e = .returned (.tuple #[]) ∧ TagSt w' base tb (n + 1) (putV k v l) ∧ Below base w w' := by
  obtain ⟨hb, hl, r, hr, hm⟩ := h
  have hlt : tb < w.heap.size := (Array.getElem?_eq_some_iff.1 hr).1
  have c0 : w.cell? ⟨tb, 0, none⟩ = some (.map r) := by rw [cell_of_row w tb 0 _ _ _ hr]; rfl
  have f0 : w.frozen? ⟨tb, 0, none⟩ = false := by simp [World.frozen?, hr]
  have bkey : Box (keyOf Tryd.prog 56 (.int .u32 (k : Int)) = some (Lit.int .u32 (k : Int))) := ⟨key_ok hk⟩
  have bn : Box (n < maxLen) := ⟨hn⟩
  have qT : ∀ (w : World) (r : Option Nat), (binOp .eql 46 (.map r) (.map none)).run Tryd.prog w = .ok (.bool r.isNone) w := fun w r => run_eql_map_nil w _ _ _ r Tryd.underlying46
  have hmm := @RowKit.run_makeMap Tryd.prog
  have bhr : Box (w.heap[tb]? = some (.cells #[.map r] 48 (0, 0))) := ⟨hr⟩
  clear hn hk hr
  cases r with
  | none =>
    subst hm
    go_enter Tryd.func97, Tryd.ntmps97
    go_wp2_with (at_mapUpdate; refine wpList_mapUpdate_own _ rfl _ _ _ 46 rfl 56 22 keyed32 Tryd.underlying46 heldR w.heap.size n (.map (tagDs [])) rfl ?_ bn.get _ _ _ rfl rfl bkey.get _ [] rfl ?_)
    · exact (World.ownsMap_made (w.setCell ⟨tb, 0, none⟩ (.map (some w.heap.size))) Tryd.prog 56 heldR).mono (Nat.zero_le _) |> fun h => by simpa using h
    · intro w1 hown1 hgrow1
      refine ⟨rfl, .tuple #[], results_none (by kernel_rfl) _ _ _, rfl, ⟨hb, by simp [putV, Rising], some w.heap.size, ?_, hbase, by omega, hown1⟩, ?_⟩
      · rw [hgrow1.block tb (by simp; omega) (by simp; omega), MapKept_old _ _ _ (by simpa using hlt)]
        exact heap_setCell_row bhr.get
      · refine ⟨hgrow1.os, hgrow1.tape, hgrow1.output, by have := hgrow1.size; simp at this; omega, fun g hg => ?_⟩
        rw [hgrow1.block g (by simp; omega) (by simp; omega), MapKept_old _ _ _ (by simp; omega)]
        exact Below.heap_setCell _ _ _ _ (fun e => by have e : g = tb := e; omega)
  | some b =>
    obtain ⟨hb1, hb2, hown⟩ := hm
    have bown : Box (w.ownsMap Tryd.prog 56 heldR b n (.map (tagDs l))) := ⟨hown⟩
    clear hown
    go_enter Tryd.func97, Tryd.ntmps97
    go_wp2_with (at_mapUpdate; refine wpList_mapUpdate_own _ rfl _ _ _ 46 rfl 56 22 keyed32 Tryd.underlying46 heldR b n _ rfl bown.get bn.get _ v _ rfl rfl bkey.get _ [] rfl ?_; intro w1 hown1 hgrow1)
    refine ⟨rfl, .tuple #[], results_none (by kernel_rfl) _ _ _, rfl, ⟨hb, putV_rising k v l hl, some b, ?_, hb1, hb2, ?_⟩, ?_⟩
    · rw [hgrow1.block tb hlt (fun e => hb2 (Option.some.inj e).symm)]; exact bhr.get
    · have e : (DataW.map (tagDs l)).put (Lit.int .u32 (k : Int)) (DataW.held v) = DataW.map (tagDs (putV k v l)) := congrArg DataW.map (put_tags k v l hl)
      rw [← e]; exact hown1
    · exact ⟨hgrow1.os, hgrow1.tape, hgrow1.output, hgrow1.size, fun g hg => hgrow1.block g (by omega) (fun e => by have := Option.some.inj e; omega)⟩
end Go.Proofs.YtpknjenihcfhlaaDoor
