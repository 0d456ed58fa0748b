/-
  Tags, written: keys sorted. Conditions: none.
-/
import Derived.Test.YtpknjenihcfhlaaDoorTa1
import Derived.Sort.OwnSorted
import Derived.OwnWalk
import Derived.Shelf.GgSortFunc.Tiny
namespace Go.Proofs.YtpknjenihcfhlaaDoor
open Go.RowKit Go.Lib Go.Sort
open Kz

abbrev uvl (x : Int) : Value := .int .u32 x
theorem holds_u32 {w : World} {g : Nat} {cur : Array Value} {e : TypeId} {ss : List Int} (hb : w.heap[g]? = some (.cells cur e (0, 0))) (ht : cur.toList.take ss.length = ss.map uvl) : Holds uvl w g 0 ss.toArray := by
  intro j hj
  have hj' : j < ss.length := by simpa using hj
  refine ⟨?_, by simp [World.frozen?, hb]⟩
  have h1 : (cur.toList.take ss.length)[j]? = (ss.map uvl)[j]? := by rw [ht]
  rw [List.getElem?_take_of_lt hj'] at h1
  simp only [World.cell?, hb, Nat.zero_add]
  simp only [Option.isSome_none, Bool.false_eq_true, if_false]
  rw [← Array.getElem?_toList, h1]
  simp [hj']
theorem heap_u32 {w : World} {g n : Nat} {os : Array Obj} {cur : Array Value} {e : TypeId} {fr : Nat × Nat} (d : Array Int) (hb : w.heap[g]? = some (.cells cur e fr)) :
    (grow (putRow uvl (Sort.ahead w n) g 0 d) os).heap[g]? = some (.cells (putCells uvl 0 d cur) e fr) := by
  have hg : g < w.heap.size := (Array.getElem?_eq_some_iff.1 hb).1
  rw [heap_grow_old _ _ (by simpa using hg)]
  simp [putRow, mapBlock, Sort.ahead, Array.getElem?_modify, hb, onCells]
theorem grownBy_u32 {w : World} {g n : Nat} {os : Array Obj} (d : Array Int) : w.grownBy (grow (putRow uvl (Sort.ahead w n) g 0 d) os) (some g) := by
  refine ⟨rfl, rfl, rfl, by simp, fun k hk hne => ?_⟩
  rw [heap_grow_old _ _ (by simpa using hk)]
  have : g ≠ k := fun e => hne (by rw [e])
  simp [putRow, mapBlock, Sort.ahead, Array.getElem?_modify, this]
theorem take_u32 (cur : Array Value) (ts : List Int) (h : ts.length ≤ cur.size) : (putCells uvl 0 ts.toArray cur).toList.take ts.length = ts.map uvl := by
  apply List.ext_getElem?
  intro j
  by_cases hj : j < ts.length
  · rw [List.getElem?_take_of_lt hj, Array.getElem?_toList]
    simp [putCells, hj, show j < cur.size by omega]
  · rw [List.getElem?_take_eq_none (by omega), List.getElem?_eq_none (by simp; omega)]
theorem own_u32 {w : World} {base g cap n : Nat} {e : TypeId} {os : Array Obj} {cur : Array Value} {ss ts : List Int} (hl : ts.length = ss.length) (hbase : base ≤ g) (hb : w.heap[g]? = some (.cells cur e (0, 0)))
    (h1 : ss.length ≤ cap) (h2 : cap ≤ maxLen) (h3 : cur.size = cap * 1) :
    (grow (putRow uvl (Sort.ahead w n) g 0 ts.toArray) os).ownsRow base e 1 (.slice (some ⟨g, 0, none⟩) ss.length cap) ss.length (ts.map uvl) :=
  ⟨by simp [hl], .inr ⟨g, cap, _, rfl, hbase, heap_u32 _ hb, h1, h2, by simp [putCells, h3], by rw [Nat.mul_one, ← hl]; exact take_u32 cur ts (by omega)⟩⟩

theorem pairwise_tiny : ∀ l : List Int, ¬ 2 ≤ l.length → l.Pairwise (fun x y => x ≤ y)
  | [], _ => List.Pairwise.nil
  | [x], _ => List.pairwise_singleton _ _
  | x :: y :: r, h => by simp at h
theorem swapTiny (n : Nat) (h : n ≤ 1) : Lib.swapperK n siE 10 = n + 1 := by
  rcases Nat.eq_zero_or_pos n with h0 | h0
  · subst h0; simp [Lib.swapperK]
  · obtain rfl : n = 1 := by omega
    simp [Lib.swapperK]

set_option maxHeartbeats 2000000 in
/-- The keys are sorted: a permutation, none above a later one. -/
theorem sort_keys (w : World) (base ob g cap : Nat) (ss : List Int) (hob : w.cell? ⟨ob, 0, none⟩ = some (.slice (some ⟨g, 0, none⟩) ss.length cap)) (hne : ob ≠ g)
    (hrow : w.ownsRow base 56 1 (.slice (some ⟨g, 0, none⟩) ss.length cap) ss.length (ss.map uvl)) (hsz : ss.length < 4611686018427387904) :
    Calls Tryd.prog 99 #[.iface 107 (.slice (some ⟨g, 0, none⟩) ss.length cap), .func (.func 100) #[] #[.pointer (some ⟨ob, 0, none⟩)]] w fun e w' =>
      e = .returned (.tuple #[]) ∧ ∃ ts : List Int, ts.Perm ss ∧ ts.Pairwise (fun x y => x ≤ y) ∧ w'.ownsRow base 56 1 (.slice (some ⟨g, 0, none⟩) ss.length cap) ss.length (ts.map uvl) ∧ w.grownBy w' (some g) := by
  have hrow0 := hrow
  rcases hrow.2 with ⟨hnil, _⟩ | ⟨g', cap', cur, hv, hbase, hb, h1, h2, h3, h4⟩
  · cases hnil
  simp only [Value.slice.injEq, Option.some.injEq, Addr.mk.injEq, true_and, and_true] at hv
  obtain ⟨rfl, rfl⟩ := hv
  have hob' : ob < w.heap.size := World.block_lt_of_cell? w _ hob
  have hH : Holds uvl w g 0 ss.toArray := holds_u32 hb (by simpa using h4)
  have hblk : g < w.heap.size := (Array.getElem?_eq_some_iff.1 hb).1
  by_cases hs2 : 2 ≤ ss.length
  · have hless : LessReads Tryd.prog 100 #[.pointer (some ⟨ob, 0, none⟩)] uvl ltInt g 0 ss.toArray.size w := by
      intro m os dk hs i j hi hj
      have e : sortWorld uvl w g 0 m dk os = putRow uvl (grow (Sort.ahead w m) os) g 0 dk := by
        unfold sortWorld; rw [putRow_grow _ (Sort.ahead w m) _ g 0 _ hblk]
      have hHg : Holds uvl (grow (Sort.ahead w m) os) g 0 ss.toArray := holds_grow _ _ _ g 0 ss.toArray hblk (holds_ahead _ _ _ _ _ _ hH)
      refine less_u32 g 0 cap ob ss.toArray.size _ (fun t => dk[t]!) ?_ (fun t ht => ?_) i j hi hj (by simpa using hsz)
      · rw [e, cell?_putRow_other _ _ g 0 dk _ (Or.inl (by show ob ≠ g; exact hne)), cell?_grow _ _ _ (by show ob < w.heap.size; exact hob')]
        show w.cell? _ = _
        simpa using hob
      · rw [e]; exact cell?_putRow _ _ g 0 ss.toArray dk hHg hs t (by have h5 := hs; simp only [List.size_toArray] at h5 ht ⊢; omega)
    have hS := Any.sort_Slice_sorted Tryd.sl6 107 56 siT siE (by kernel_rfl) (by kernel_rfl) (by kernel_rfl) (by kernel_rfl) 10 (fun _ => by kernel_rfl) (by kernel_rfl) (fun _ => by kernel_rfl) uvl (fun _ => rfl) ltInt swo_ltInt 100 _
      (enters_of Tryd.func100 (by kernel_rfl) rfl) g 0 cap ss.toArray (by simpa using hs2) (by simpa using hsz) 114 (by rw [siK _ (by simpa using hs2)]; kernel_rfl) true
      (fun args W => run_callFunc_extern Tryd.func114 (by kernel_rfl) (by kernel_rfl) (by kernel_rfl) (e := Extern.ReflectliteSwapper.swap true) (by kernel_rfl) args W) _ hless hH hblk
    change Calls Tryd.prog 99 _ _ _ at hS
    simp only [List.size_toArray] at hS
    refine hS.mono ?_
    rintro e w' ⟨rfl, d', n, os, hp, hso, rfl⟩
    obtain ⟨hp1, -, hp3⟩ := hp
    have hlen : d'.toList.length = ss.length := by simpa using hp1
    have hperm : d'.toList.Perm ss := by
      have e1 : d'.extract 0 ss.length = d' := by rw [← hlen, Array.length_toList]; simp
      have e2 : ss.toArray.extract 0 ss.length = ss.toArray := by rw [show ss.length = ss.toArray.size by simp]; exact Array.extract_size
      rw [e1, e2] at hp3
      simpa using hp3
    refine ⟨rfl, d'.toList, hperm, ?_, ?_, grownBy_u32 _⟩
    · rw [List.pairwise_iff_getElem]
      intro i j hi hj hij
      have := hso i j (Nat.zero_le _) hij (by omega)
      simp only [ltInt, decide_eq_false_iff_not] at this
      rw [getElem!_pos d' i (by simpa using hi), getElem!_pos d' j (by simpa using hj)] at this
      simp only [Array.getElem_toList]
      omega
    · have := own_u32 (w := w) (n := n) (os := os) (ss := ss) (ts := d'.toList) hlen hbase hb h1 h2 h3
      simpa using this
  · have hS := Any.sort_Slice_tiny Tryd.sl6 107 56 siT siE (by kernel_rfl) (by kernel_rfl) (by kernel_rfl) (by kernel_rfl) 10 (fun _ => by kernel_rfl) (some ⟨g, 0, none⟩) ss.length cap (by omega) (if ss.length = 0 then 109 else 110) (by
      rw [swapTiny _ (by omega)]
      rcases Nat.eq_zero_or_pos ss.length with h | h
      · rw [h]; kernel_rfl
      · rw [show ss.length = 1 by omega]; kernel_rfl) (.func 100) #[] #[.pointer (some ⟨ob, 0, none⟩)] w
    change Calls Tryd.prog 99 _ _ _ at hS
    refine hS.mono ?_
    rintro e w' ⟨rfl, os, rfl⟩
    have hg : w.grownBy (grow w os) (some g) := ⟨rfl, rfl, rfl, by simp, fun k hk _ => heap_grow_old _ _ hk⟩
    have hg' : w.grownBy (grow w os) none := ⟨rfl, rfl, rfl, by simp, fun k hk _ => heap_grow_old _ _ hk⟩
    refine ⟨rfl, ss, List.Perm.refl _, ?_, hrow0.kept hg' (.inr (by simp [Value.ownBlock])), hg⟩
    exact pairwise_tiny ss hs2
end Go.Proofs.YtpknjenihcfhlaaDoor
