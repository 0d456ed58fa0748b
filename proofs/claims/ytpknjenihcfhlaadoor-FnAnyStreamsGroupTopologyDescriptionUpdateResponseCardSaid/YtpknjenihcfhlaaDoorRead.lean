/-
  Code that reads: what a piece of it does to the reader, to the struct that it fills and to all else; pieces one behind the other. Conditions: none.
-/
import Derived.Test.YtpknjenihcfhlaaDoorOps2
import Derived.Test.YtpknjenihcfhlaaDoorKr6
namespace Go.Proofs.YtpknjenihcfhlaaDoor
open Go.RowKit (Below)
open Kz

/-- The slots that a code writes. -/
def writes : Code → List Nat
  | .region _ ops _ => ops.toList.filterMap (·.dst)
  | .seq a b => writes a ++ writes b
  | .cond _ a b => writes a ++ writes b
  | .block _ a => writes a
  | .loop a => writes a
  | .scope a => writes a
  | _ => []
/-- None of these slots is written. -/
def clear (l : List Nat) (c : Code) : Bool := l.all fun t => !(writes c).contains t
theorem clear_iff {l : List Nat} {c : Code} (h : clear l c = true) : ∀ t ∈ l, t ∉ writes c := by
  intro t ht hx
  have := List.all_eq_true.1 h t ht
  simp only [Bool.not_eq_true', List.contains_eq_mem, decide_eq_false_iff_not] at this
  exact this hx

/-- The slots of a function that reads: how many, the reader, the version, unsafe, whether it is flexible, the result. -/
structure RE where
  N : Nat
  rs : Nat
  vs : Nat
  us : Nat
  fs : Option Nat
  res : Nat
def RE.slots (E : RE) : List Nat := [E.rs, E.vs, E.us] ++ E.fs.toList

structure Fr (E : RE) (rb : Nat) (v : Int) (flex : Bool) (a : Act) : Prop where
  size : a.tmps.size = E.N
  defers : a.defers = []
  rs : sl a E.rs = .pointer (some ⟨rb, 0, none⟩)
  vs : sl a E.vs = .int .i16 v
  us : sl a E.us = .bool false
  fs : ∀ t, E.fs = some t → sl a t = .bool flex
theorem Fr.upd {E : RE} {rb : Nat} {v : Int} {flex : Bool} {a a' : Act} {W : List Nat} (h : Fr E rb v flex a) (hu : Upd a a' W) (hc : ∀ t ∈ E.slots, t ∉ W) : Fr E rb v flex a' where
  size := hu.size.trans h.size
  defers := hu.defers.trans h.defers
  rs := (hu.same _ (hc _ (by simp [RE.slots]))).trans h.rs
  vs := (hu.same _ (hc _ (by simp [RE.slots]))).trans h.vs
  us := (hu.same _ (hc _ (by simp [RE.slots]))).trans h.us
  fs := fun t ht => (hu.same _ (hc _ (by simp [RE.slots, ht]))).trans (h.fs t ht)

/-- A world in which the reader's block, some cells of a struct's block, and new blocks may have turned. -/
structure Md (w w' : World) (rb cb lo n : Nat) : Prop where
  os : w'.os = w.os
  tape : w'.tape = w.tape
  output : w'.output = w.output
  size : w.heap.size ≤ w'.heap.size
  block : ∀ k, k < w.heap.size → k ≠ rb → k ≠ cb → w'.heap[k]? = w.heap[k]?
  row : ∀ cells T, w.heap[cb]? = some (.cells cells T (0, 0)) → ∃ cells', w'.heap[cb]? = some (.cells cells' T (0, 0)) ∧ cells'.size = cells.size ∧ ∀ i, (i < lo ∨ lo + n ≤ i) → cells'[i]? = cells[i]?
theorem Md.refl (w : World) (rb cb lo n : Nat) : Md w w rb cb lo n := ⟨rfl, rfl, rfl, Nat.le_refl _, fun _ _ _ _ => rfl, fun cells _ h => ⟨cells, h, rfl, fun _ _ => rfl⟩⟩
theorem Md.trans {w w1 w2 : World} {rb cb lo n lo1 n1 lo2 n2 : Nat} (h : Md w w1 rb cb lo1 n1) (k : Md w1 w2 rb cb lo2 n2) (h1 : lo ≤ lo1 ∧ lo1 + n1 ≤ lo + n) (h2 : lo ≤ lo2 ∧ lo2 + n2 ≤ lo + n) : Md w w2 rb cb lo n where
  os := k.os.trans h.os
  tape := k.tape.trans h.tape
  output := k.output.trans h.output
  size := Nat.le_trans h.size k.size
  block := fun i hi hr hc => (k.block i (Nat.lt_of_lt_of_le hi h.size) hr hc).trans (h.block i hi hr hc)
  row := fun cells T hw => by
    obtain ⟨c1, e1, s1, q1⟩ := h.row cells T hw
    obtain ⟨c2, e2, s2, q2⟩ := k.row c1 T e1
    exact ⟨c2, e2, s2.trans s1, fun i hi => (q2 i (by omega)).trans (q1 i (by omega))⟩
theorem Md.mono {w w' : World} {rb cb lo n lo1 n1 : Nat} (h : Md w w' rb cb lo1 n1) (h1 : lo ≤ lo1 ∧ lo1 + n1 ≤ lo + n) : Md w w' rb cb lo n :=
  ⟨h.os, h.tape, h.output, h.size, h.block, fun cells T hw => let ⟨c, e, s, q⟩ := h.row cells T hw; ⟨c, e, s, fun i hi => q i (by omega)⟩⟩
/-- The reader alone. -/
theorem Md.of_grown {w w' : World} {rb cb : Nat} (h : w.grownBy w' (some rb)) (hne : cb ≠ rb) (lo n : Nat) : Md w w' rb cb lo n :=
  ⟨h.os, h.tape, h.output, h.size, fun k hk hr _ => h.block k hk (fun e => hr (Option.some.inj e)), fun cells T hw => ⟨cells, by
    rw [h.block cb (Array.getElem?_eq_some_iff.1 hw).1 (fun e => hne (Option.some.inj e))]; exact hw, rfl, fun _ _ => rfl⟩⟩
/-- One cell of the struct. -/
theorem Md.of_set {w : World} {rb cb i lo n : Nat} (u : Value) (hi : lo ≤ i ∧ i < lo + n) : Md w (w.setCell ⟨cb, i, none⟩ u) rb cb lo n :=
  ⟨rfl, rfl, rfl, by simp [World.setCell], fun k _ _ hc => Below.heap_setCell _ _ _ _ hc, fun cells T hw => ⟨cells.setIfInBounds i u, heap_setCell_row hw, by simp, fun j hj => by
    rw [Array.getElem?_setIfInBounds_ne (by omega)]⟩⟩

/-- What was said of memory stays, where the blocks that it speaks of, and the cells, are as they were. -/
def Stable {α : Type} (n : Nat) (R : World → (Nat → Prop) → (Nat → Option Value) → α → Prop) : Prop :=
  ∀ (w w' : World) (K K' : Nat → Prop) (c c' : Nat → Option Value) (x : α), (∀ g, K g → g < w.heap.size → w'.heap[g]? = w.heap[g]?) → w.heap.size ≤ w'.heap.size → (∀ g, K g → K' g) → (∀ j, j < n → c' j = c j) → R w K c x → R w' K' c' x

/-- What holds before a piece of code that reads. -/
structure Pre (E : RE) (v : Int) (flex : Bool) (sp off n : Nat) (ini : (Nat → Option Value) → Prop) (rb : Nat) (S : Nat → Prop) (st : St) (cb co : Nat) (cells : Array Value) (T : TypeId) (a : Act) (w : World) : Prop where
  fr : Fr E rb v flex a
  ptr : sl a sp = .pointer (some ⟨cb, co, none⟩)
  rd : RdIs w S rb st
  err : ErrOk w
  rbe : rb ≠ 1
  cbe : cb ≠ 1
  ne : cb ≠ rb
  src : ¬ S cb
  old : ∀ g, S g → g < w.heap.size
  row : w.heap[cb]? = some (.cells cells T (0, 0))
  fit : co + off + n ≤ cells.size
  ini : ini (fun j => cells[co + off + j]?)

/-- What holds behind it. -/
def Post {α : Type} (E : RE) (off n : Nat) (W : List Nat) (g : St → α × St) (R : World → (Nat → Prop) → (Nat → Option Value) → α → Prop) (rb : Nat) (S : Nat → Prop) (st : St) (cb co : Nat) (T : TypeId) (a : Act) (w : World) : Exit → Act → World → Prop
  | .normal, a', w' => Upd a a' W ∧ RdIs w' S rb (g st).2 ∧ Md w w' rb cb (co + off) n ∧ ∃ cells', w'.heap[cb]? = some (.cells cells' T (0, 0)) ∧ R w' (fun g => S g ∨ w.heap.size ≤ g) (fun j => cells'[co + off + j]?) (g st).1
  | .ret, a', w' => (g st).2 = none ∧ a'.tmps.size = E.N ∧ a'.defers = [] ∧ (∃ t x, sl a' E.res = .iface t x) ∧ Md w w' rb cb (co + off) n
  | _, _, _ => False

/-- A piece of code that reads. -/
def Rd {α : Type} (E : RE) (v : Int) (flex : Bool) (sp off n : Nat) (ini : (Nat → Option Value) → Prop) (g : St → α × St) (R : World → (Nat → Prop) → (Nat → Option Value) → α → Prop) (c : Code) : Prop :=
  ∀ rb S st cb co cells T a w, Pre E v flex sp off n ini rb S st cb co cells T a w → c.wp Tryd.prog (Post E off n (writes c) g R rb S st cb co T a w) a w

theorem RdIs.md {w w' : World} {rb cb lo n : Nat} {S : Nat → Prop} {v : Value} {bs : List UInt8} (h : BytesAt w S v bs) (hm : Md w w' rb cb lo n) (hr : ¬ S rb) (hc : ¬ S cb) : BytesAt w' S v bs := by
  rcases h with h | ⟨g, o, c, h1, h2, h2', h3, h4, h5⟩
  · exact .inl h
  · exact .inr ⟨g, o, c, h1, h2, h2', h3, Nat.lt_of_lt_of_le h4 hm.size, fun i b hi => by
      rw [World.cell?_of_block (w := w) (w' := w') (hm.block g h4 (fun e => hr (e ▸ h3)) (fun e => hc (e ▸ h3)))]
      exact h5 i b hi⟩
theorem ErrOk.md {w w' : World} {rb cb lo n : Nat} (h : ErrOk w) (hm : Md w w' rb cb lo n) (h1 : rb ≠ 1) (h2 : cb ≠ 1) : ErrOk w' := by
  obtain ⟨t, v, h⟩ := h
  refine ⟨t, v, ?_⟩
  have hlt := World.block_lt_of_cell? w _ h
  rw [World.cell?_of_block (w := w) (w' := w') (hm.block _ hlt (fun e => h1 e.symm) (fun e => h2 e.symm))]
  exact h

/-- Two pieces, one behind the other, that fill neighbouring cells. -/
theorem Rd.seq {α β γ : Type} {E : RE} {v : Int} {flex : Bool} {sp off n1 n2 : Nat} {ini1 ini2 : (Nat → Option Value) → Prop} {g1 : St → α × St} {g2 : St → β × St} {R1 : World → (Nat → Prop) → (Nat → Option Value) → α → Prop}
    {R2 : World → (Nat → Prop) → (Nat → Option Value) → β → Prop} {c1 c2 : Code} (h1 : Rd E v flex sp off n1 ini1 g1 R1 c1) (h2 : Rd E v flex sp (off + n1) n2 ini2 g2 R2 c2) (hcl : clear (sp :: E.slots) c1 = true) (hst : Stable n1 R1) (hst2 : Stable n2 R2)
    (hs : Strict g2) (hloc : ∀ c c' : Nat → Option Value, (∀ j, j < n2 → c' j = c j) → ini2 c → ini2 c') (f : α → β → γ) :
    Rd E v flex sp off (n1 + n2) (fun c => ini1 c ∧ ini2 (fun j => c (n1 + j))) (fun st => (f (g1 st).1 (g2 (g1 st).2).1, (g2 (g1 st).2).2))
      (fun w K c x => ∃ y z, x = f y z ∧ R1 w K c y ∧ R2 w K (fun j => c (n1 + j)) z) (c1.seq c2) := by
  intro rb S st cb co cells T a w hp
  refine wp_seq (wp_mono (h1 rb S st cb co cells T a w { hp with fit := by have := hp.fit; omega, ini := hp.ini.1 }) ?_)
  have hcl' := clear_iff hcl
  intro e a1 w1 hq
  cases e with
  | normal =>
    obtain ⟨hu, hr, hm, cells1, hrow, hR⟩ := hq
    obtain ⟨cells1', hrow', hsz, hsame⟩ := hm.row cells T hp.row
    obtain ⟨rfl, -⟩ : cells1' = cells1 ∧ T = T := by
      rw [hrow] at hrow'
      simp only [Option.some.injEq, Obj.cells.injEq] at hrow'
      exact ⟨hrow'.1.symm, rfl⟩
    have hfit := hp.fit
    have hp2 : Pre E v flex sp (off + n1) n2 ini2 rb S (g1 st).2 cb co cells1' T a1 w1 := {
      fr := hp.fr.upd hu (fun t ht => hcl' t (List.mem_cons_of_mem _ ht))
      ptr := (hu.same _ (hcl' _ (by simp))).trans hp.ptr
      rd := hr
      err := hp.err.md hm hp.rbe hp.cbe
      rbe := hp.rbe
      cbe := hp.cbe
      ne := hp.ne
      src := hp.src
      old := fun g hg => Nat.lt_of_lt_of_le (hp.old g hg) hm.size
      row := hrow
      fit := by omega
      ini := by
        refine hloc (fun j => cells[co + off + (n1 + j)]?) _ (fun j hj => ?_) hp.ini.2
        show cells1'[co + (off + n1) + j]? = cells[co + off + (n1 + j)]?
        rw [hsame _ (.inr (by omega))]
        congr 1; omega }
    refine wp_mono (h2 rb S (g1 st).2 cb co cells1' T a1 w1 hp2) ?_
    intro e a2 w2 hq2
    cases e with
    | normal =>
      obtain ⟨hu2, hr2, hm2, cells2, hrow2, hR2⟩ := hq2
      obtain ⟨cells2', hrow2', hsz2, hsame2⟩ := hm2.row cells1' T hrow
      obtain ⟨rfl, -⟩ : cells2' = cells2 ∧ T = T := by
        rw [hrow2] at hrow2'
        simp only [Option.some.injEq, Obj.cells.injEq] at hrow2'
        exact ⟨hrow2'.1.symm, rfl⟩
      refine ⟨(hu.mono (fun t ht => List.mem_append_left _ ht)).trans (hu2.mono (fun t ht => List.mem_append_right _ ht)), hr2, hm.trans hm2 (by omega) (by omega), cells2', hrow2, _, _, rfl, ?_, ?_⟩
      · refine hst w1 w2 _ _ _ _ _ (fun g hg hlt => ?_) hm2.size (fun g hg => hg) (fun j hj => ?_) hR
        · refine hm2.block g hlt ?_ ?_
          · rintro rfl
            rcases hg with hg | hg
            · exact hp.rd.1 hg
            · exact absurd hp.rd.lt (by omega)
          · rintro rfl
            rcases hg with hg | hg
            · exact hp.src hg
            · have := (Array.getElem?_eq_some_iff.1 hp.row).1; omega
        · exact hsame2 _ (.inl (by omega))
      · refine hst2 w2 w2 _ _ _ _ _ (fun _ _ _ => rfl) (Nat.le_refl _) (fun g hg => hg.imp id (fun h => Nat.le_trans hm.size h)) (fun j _ => ?_) hR2
        show cells2'[co + off + (n1 + j)]? = cells2'[co + (off + n1) + j]?
        congr 1; omega
    | ret =>
      obtain ⟨hn, hs2, hd2, hv2, hm2⟩ := hq2
      exact ⟨hn, hs2, hd2, hv2, hm.trans hm2 (by omega) (by omega)⟩
    | exit id => exact hq2
    | goto l => exact hq2
    | panic ch => exact hq2
    | outgrown => exact hq2
  | ret =>
    obtain ⟨hn, hs2, hd2, hv2, hm2⟩ := hq
    refine ⟨?_, hs2, hd2, hv2, hm2.mono (by omega)⟩
    show (g2 (g1 st).2).2 = none
    rw [hn]; exact hs
  | exit id => exact hq
  | goto l => exact hq
  | panic ch => exact hq
  | outgrown => exact hq
end Go.Proofs.YtpknjenihcfhlaaDoor
