/-
  'Default' of a part that sets fields; a new message. Conditions: none.
-/
import Derived.Test.YtpknjenihcfhlaaDoorDef
namespace Go.Proofs.YtpknjenihcfhlaaDoor
open Go.RowKit (Below)
open Kz

/-- Cells set, one behind the other. -/
def setArr (z : Array Value) (p : Nat) : List (Nat × Value) → Array Value
  | [] => z
  | (i, u) :: r => setArr (z.setIfInBounds (p + i) u) p r
def setMany (w : World) (G p : Nat) : List (Nat × Value) → World
  | [] => w
  | (i, u) :: r => setMany (w.setCell ⟨G, p + i, none⟩ u) G p r
theorem setMany_append (G p : Nat) : ∀ (l r : List (Nat × Value)) (w : World), setMany w G p (l ++ r) = setMany (setMany w G p l) G p r
  | [], _, _ => rfl
  | (_, _) :: l, r, _ => setMany_append G p l r _
theorem setMany_row (G p : Nat) : ∀ (l : List (Nat × Value)) (w : World) (cells : Array Value) (Ty : TypeId) (fr : Nat × Nat), w.heap[G]? = some (.cells cells Ty fr) → (setMany w G p l).heap[G]? = some (.cells (setArr cells p l) Ty fr)
  | [], _, _, _, _, h => h
  | (_, _) :: l, _, _, Ty, fr, h => setMany_row G p l _ _ Ty fr (heap_setCell_row h)
theorem setArr_size (p : Nat) : ∀ (l : List (Nat × Value)) (z : Array Value), (setArr z p l).size = z.size
  | [], _ => rfl
  | (i, u) :: l, z => by rw [setArr, setArr_size p l]; simp
theorem setArr_other (p k : Nat) : ∀ (l : List (Nat × Value)) (z : Array Value), (∀ x ∈ l, p + x.1 ≠ k) → (setArr z p l)[k]? = z[k]?
  | [], _, _ => rfl
  | (i, u) :: l, z, h => by
    rw [setArr, setArr_other p k l _ fun x hx => h x (List.mem_cons_of_mem _ hx)]
    rw [Array.getElem?_setIfInBounds_ne (h (i, u) (by simp))]
theorem setMany_shift (G p o : Nat) : ∀ (l : List (Nat × Value)) (w : World), setMany w G (p + o) l = setMany w G p (l.map fun x => (o + x.1, x.2))
  | [], _ => rfl
  | (i, u) :: l, w => by
    simp only [setMany, List.map_cons, Nat.add_assoc]
    exact (by have := setMany_shift G p o l (w.setCell ⟨G, p + (o + i), none⟩ u); simpa [Nat.add_assoc] using this)
theorem setMany_grown (G p : Nat) : ∀ (l : List (Nat × Value)) (w : World), w.grownBy (setMany w G p l) (some G)
  | [], w => grownBy_refl w _
  | (_, _) :: l, w => grownBy_trans (grown_setCell (grownBy_refl w _) _ _) (setMany_grown G p l _)

def DS (N sp sz : Nat) (sets : List (Nat × Value)) (c : Code) : Prop := ∀ (a : Act) (w : World) (Q : Exit → Act → World → Prop) (G p : Nat) (cells : Array Value) (Ty : TypeId), a.tmps.size = N → sl a sp = .pointer (some ⟨G, p, none⟩) → w.heap[G]? = some (.cells cells Ty (0, 0)) → p + sz ≤ cells.size →
  (∀ a', Upd a a' (writes c) → Q .normal a' (setMany w G p sets)) → c.wp Tryd.prog Q a w
/-- 's.F = constant'. -/
theorem DS.store {id N sp sz off t1 t2 t3 T k ty : Nat} {u : Value} {y1 y2 y3 y4 : TypeId} {p1 p2 p3 p4 : String} {e1 e2 e3 e4 : Array Edge} (hf : offOf Tryd.prog T k = some off) (hty : sizeIs Tryd.prog ty 1 = true) (hu : u.oneCell' = true) (ho : decide (off < sz) = true) (hn : [t1, t2, t3].all (· < N) = true) :
    DS N sp sz [(off, u)] (Code.region id #[⟨some t1, .move (.tmp sp), y1, p1, e1, none⟩, ⟨some t2, .nilCheck (.tmp t1), y2, p2, e2, none⟩, ⟨some t3, .fieldAddr T (.tmp t2) k, y3, p3, e3, none⟩, ⟨none, .store ty (.tmp t3) (.const u), y4, p4, e4, none⟩] false) := by
  intro a w Q G p cells Ty hN hsp hrow hfit hq
  simp only [List.all_cons, List.all_nil, Bool.and_true, Bool.and_eq_true, decide_eq_true_eq] at hn
  have ho' := of_decide_eq_true ho
  have hlt : p + off < cells.size := by omega
  refine wp_region_lit (st_move (st_nil (p := ⟨G, p, none⟩) ?_ (st_field (b := G) (o := p) (fieldOff_ok hf) ?_ (st_store (b := G) (o := p + off) (u := cells[p + off]) (v := u) ?_ rfl (store1_ok hty hu) ?_ ?_ (wpList_nil (hq _ ?_))))))
  · rw [eval_tmp, sl_put_self _ _ _ (by omega), eval_tmp, hsp]
  · rw [eval_tmp, sl_put_self _ _ _ (by simp only [put_size]; omega)]
  · rw [eval_tmp, sl_put_self _ _ _ (by simp only [put_size]; omega)]
  · rw [cell_of_row w G (p + off) _ _ _ hrow]; simp [hlt]
  · simp [World.frozen?, hrow]
  · exact (((Upd.refl a _).put t1 _ (by simp [writes])).put t2 _ (by simp [writes])).put t3 _ (by simp [writes])
theorem DS.skip {N sp sz : Nat} : DS N sp sz [] Code.skip := fun a _ _ _ _ _ _ _ _ _ _ hq => wp_skip (hq a (Upd.refl _ _))
theorem DS.seq {N sp sz : Nat} {s1 s2 : List (Nat × Value)} {c1 c2 : Code} (h1 : DS N sp sz s1 c1) (h2 : DS N sp sz s2 c2) (hcl : clear [sp] c1 = true) : DS N sp sz (s1 ++ s2) (c1.seq c2) := by
  intro a w Q G p cells Ty hN hsp hrow hfit hq
  have hc := clear_iff hcl
  refine wp_seq (h1 a w _ G p cells Ty hN hsp hrow hfit fun a1 u1 => ?_)
  refine h2 a1 _ Q G p _ Ty (u1.size.trans hN) ((u1.same _ (hc _ (by simp))).trans hsp) (setMany_row G p s1 w cells Ty (0, 0) hrow) (by rw [setArr_size]; exact hfit) fun a2 u2 => ?_
  rw [← setMany_append]
  exact hq a2 ((u1.mono fun t ht => List.mem_append_left _ ht).trans (u2.mono fun t ht => List.mem_append_right _ ht))
/-- 'v := &s.F; _ = v; ..'. -/
theorem DS.sub {id id2 N sp s sz sz' off t1 t2 t3 t4 T k : Nat} {sets : List (Nat × Value)} {y1 y2 y3 y4 y5 : TypeId} {p1 p2 p3 p4 p5 : String} {e1 e2 e3 e4 e5 : Array Edge} {c : Code} (hf : offOf Tryd.prog T k = some off) (ho : decide (off + sz' ≤ sz) = true) (hn : [t1, t2, t3, s, t4].all (· < N) = true) (hts : decide (t4 ≠ s) = true)
    (h : DS N s sz' sets c) :
    DS N sp sz (sets.map fun x => (off + x.1, x.2)) ((Code.region id #[⟨some t1, .move (.tmp sp), y1, p1, e1, none⟩, ⟨some t2, .nilCheck (.tmp t1), y2, p2, e2, none⟩, ⟨some t3, .fieldAddr T (.tmp t2) k, y3, p3, e3, none⟩, ⟨some s, .assign (.tmp t3), y4, p4, e4, none⟩] false).seq
      ((Code.region id2 #[⟨some t4, .move (.tmp s), y5, p5, e5, none⟩] false).seq c)) := by
  intro a w Q G p cells Ty hN hsp hrow hfit hq
  simp only [List.all_cons, List.all_nil, Bool.and_true, Bool.and_eq_true, decide_eq_true_eq] at hn
  have ho' := of_decide_eq_true ho
  have hts' := of_decide_eq_true hts
  refine wp_seq (wp_region_lit (st_move (st_nil (p := ⟨G, p, none⟩) ?_ (st_field (b := G) (o := p) (fieldOff_ok hf) ?_ (st_assign (wpList_nil ?_))))))
  · rw [eval_tmp, sl_put_self _ _ _ (by omega), eval_tmp, hsp]
  · rw [eval_tmp, sl_put_self _ _ _ (by simp only [put_size]; omega)]
  generalize hA : (((a.put (some t1) (a.eval (.tmp sp))).put (some t2) (.pointer (some ⟨G, p, none⟩))).put (some t3) (.pointer (some ⟨G, p + off, none⟩))).put (some s) ((((a.put (some t1) (a.eval (.tmp sp))).put (some t2) (.pointer (some ⟨G, p, none⟩))).put (some t3) (.pointer (some ⟨G, p + off, none⟩))).eval (.tmp t3)) = a1
  have u1 : Upd a a1 [t1, t2, t3, s] := by subst hA; exact ((((Upd.refl a _).put t1 _ (by simp)).put t2 _ (by simp)).put t3 _ (by simp)).put s _ (by simp)
  have s1 : sl a1 s = .pointer (some ⟨G, p + off, none⟩) := by subst hA; rw [sl_put_self _ _ _ (by simp only [put_size]; omega), eval_tmp, sl_put_self _ _ _ (by simp only [put_size]; omega)]
  refine wp_seq (reg_move (by rw [u1.size]; omega) fun a2 u2 _ => ?_)
  refine h a2 w Q G (p + off) cells Ty (u2.size.trans (u1.size.trans hN)) (by rw [u2.same s (by simp; exact fun e => hts' e.symm)]; exact s1) hrow (by omega) fun a3 u3 => ?_
  rw [setMany_shift]
  refine hq a3 ((u1.mono ?_).trans ((u2.mono ?_).trans (u3.mono ?_)))
  · intro t ht; simp only [writes, List.mem_append]; left; simpa [writes] using ht
  · intro t ht; simp only [writes, List.mem_append]; right; left; simpa [writes] using ht
  · intro t ht; simp only [writes, List.mem_append]; exact .inr (.inr ht)

/-- A function 'Default'. -/
def DefSets (f sz : Nat) (sets : List (Nat × Value)) : Prop := hasBody Tryd.prog f = true ∧ ∀ (w : World) (G p : Nat) (cells : Array Value) (Ty : TypeId), w.heap[G]? = some (.cells cells Ty (0, 0)) → p + sz ≤ cells.size →
  Calls Tryd.prog f #[.pointer (some ⟨G, p, none⟩)] w fun e w' => (∃ u, e = .returned u) ∧ w' = setMany w G p sets
theorem defSets {f sz : Nat} {sets : List (Nat × Value)} {fn : Func} {c : Code} (hf : Tryd.prog.funcs[f]? = some fn) (hb : fn.body = some c) (hr : fn.results = #[]) (hN : decide (1 ≤ fn.ntmps) = true) (hg : hasBody Tryd.prog f = true) (h : DS fn.ntmps 0 sz sets c) : DefSets f sz sets := by
  refine ⟨hg, fun w G p cells Ty hrow hfit => calls_of_wp hf hb ?_⟩
  have hN' := of_decide_eq_true hN
  refine h _ w _ G p cells Ty (by simp; omega) (by simp [sl, Array.getD_eq_getD_getElem?, Array.getElem?_append]) hrow hfit fun a' hu => ?_
  exact ⟨hu.defers, .tuple #[], results_none hr _ _ _, ⟨_, rfl⟩, rfl⟩

/-! ## What is to lie there ahead of a reading, cell by cell -/
mutual
def inisF (ht : Bool) : F → Nat → List Nat
  | .mk kind _ _ null _ _ _ sub, b => (if kind = 11 then [b] else []) ++ (if kind = 10 ∧ null < 0 then inisFs ht sub b else [])
def inisFs (ht : Bool) : List F → Nat → List Nat
  | [], _ => []
  | f :: fs, b => inisF ht f b ++ inisFs ht fs (b + cellsF ht f)
end
mutual
theorem iniF_cells (ht : Bool) : ∀ (f : F) (b : Nat) (c : Cells), iniF ht f (fun j => c (b + j)) ↔ ∀ k ∈ inisF ht f b, c k = some (.slice none 0 0)
  | .mk kind _ _ null _ _ _ sub, b, c => by
    simp only [iniF, inisF, List.mem_append, Nat.add_zero]
    have ih := iniFs_cells ht sub b c
    constructor
    · rintro ⟨h1, h2⟩ k (hk | hk)
      · split at hk
        · rename_i h; simp only [List.mem_singleton] at hk; subst hk; exact h1 h
        · cases hk
      · split at hk
        · rename_i h; exact ih.1 (h2 h) k hk
        · cases hk
    · intro h
      refine ⟨fun hk => h b (.inl (by simp [hk])), fun hk => ih.2 fun k hk' => h k (.inr (by rw [if_pos hk]; exact hk'))⟩
theorem iniFs_cells (ht : Bool) : ∀ (fs : List F) (b : Nat) (c : Cells), iniFs ht fs (fun j => c (b + j)) ↔ ∀ k ∈ inisFs ht fs b, c k = some (.slice none 0 0)
  | [], b, c => by simp [iniFs, inisFs]
  | f :: fs, b, c => by
    have h1 := iniF_cells ht f b c
    have h2 := iniFs_cells ht fs (b + cellsF ht f) c
    simp only [iniFs, inisFs, List.mem_append, ← Nat.add_assoc]
    rw [h1, h2]
    constructor
    · rintro ⟨a1, a2⟩ k (hk | hk)
      · exact a1 k hk
      · exact a2 k hk
    · intro h
      exact ⟨fun k hk => h k (.inl hk), fun k hk => h k (.inr hk)⟩
end
mutual
theorem inisF_le (ht : Bool) : ∀ (f : F) (b : Nat), ∀ k ∈ inisF ht f b, b ≤ k
  | .mk kind _ _ null _ _ _ sub, b, k, hk => by
    simp only [inisF, List.mem_append] at hk
    rcases hk with hk | hk
    · split at hk
      · simp only [List.mem_singleton] at hk; omega
      · cases hk
    · split at hk
      · exact inis_le ht sub b k hk
      · cases hk
theorem inis_le (ht : Bool) : ∀ (fs : List F) (b : Nat), ∀ k ∈ inisFs ht fs b, b ≤ k
  | [], _, _, hk => by simp [inisFs] at hk
  | f :: fs, b, k, hk => by
    simp only [inisFs, List.mem_append] at hk
    rcases hk with hk | hk
    · exact inisF_le ht f b k hk
    · have := inis_le ht fs _ k hk; omega
end
/-- 'Default' of a part lets nil lists nil. -/
theorem DefSets.ok {f sz : Nat} {sets : List (Nat × Value)} {ht : Bool} {fs : List F} (h : DefSets f sz sets) (hs : sets.all (fun x => decide (x.1 < sz) && !(inisFs ht fs 0).contains x.1) = true) : DefOk f sz (iniFs ht fs) := by
  refine ⟨h.1, fun w G p cells Ty hrow hfit hini => Calls.mono (h.2 w G p cells Ty hrow hfit) ?_⟩
  rintro e w' ⟨hu, rfl⟩
  have hs' : ∀ x ∈ sets, x.1 < sz ∧ x.1 ∉ inisFs ht fs 0 := fun x hx => by
    have := List.all_eq_true.1 hs x hx
    simpa [List.contains_eq_mem] using this
  refine ⟨hu, setMany_grown G p sets w, _, setMany_row G p sets w cells Ty (0, 0) hrow, setArr_size _ _ _, fun i hi => setArr_other p i sets cells fun x hx => by have := (hs' x hx).1; omega, ?_⟩
  have e1 := iniFs_cells ht fs 0 (fun j => cells[p + j]?)
  have e2 := iniFs_cells ht fs 0 (fun j => (setArr cells p sets)[p + j]?)
  simp only [Nat.zero_add] at e1 e2
  refine e2.2 fun k hk => ?_
  rw [setArr_other p (p + k) sets cells fun x hx e => (hs' x hx).2 (by rw [show x.1 = k by omega]; exact hk)]
  exact e1.1 hini k hk
/-- .. of a whole message: its version too. -/
theorem DefSets.okM {f sz : Nat} {sets : List (Nat × Value)} {ht : Bool} {fs : List F} {v : Int} (h : DefSets f sz sets) (hs : sets.all (fun x => decide (x.1 < sz) && decide (x.1 ≠ 0) && !(inisFs ht fs 1).contains x.1) = true) : DefOk f sz (iniM ht v fs) := by
  refine ⟨h.1, fun w G p cells Ty hrow hfit hini => Calls.mono (h.2 w G p cells Ty hrow hfit) ?_⟩
  rintro e w' ⟨hu, rfl⟩
  have hs' : ∀ x ∈ sets, x.1 < sz ∧ x.1 ≠ 0 ∧ x.1 ∉ inisFs ht fs 1 := fun x hx => by
    have := List.all_eq_true.1 hs x hx
    simp only [Bool.and_eq_true, decide_eq_true_eq, Bool.not_eq_true', List.contains_eq_mem, decide_eq_false_iff_not] at this
    exact ⟨this.1.1, this.1.2, this.2⟩
  refine ⟨hu, setMany_grown G p sets w, _, setMany_row G p sets w cells Ty (0, 0) hrow, setArr_size _ _ _, fun i hi => setArr_other p i sets cells fun x hx => by have := (hs' x hx).1; omega, ?_⟩
  obtain ⟨i0, i1⟩ := hini
  have e1 := iniFs_cells ht fs 1 (fun j => cells[p + j]?)
  have e2 := iniFs_cells ht fs 1 (fun j => (setArr cells p sets)[p + j]?)
  refine ⟨?_, e2.2 fun k hk => ?_⟩
  · show (setArr cells p sets)[p + 0]? = _
    rw [setArr_other p (p + 0) sets cells fun x hx e => (hs' x hx).2.1 (by omega)]
    exact i0
  · rw [setArr_other p (p + k) sets cells fun x hx e => (hs' x hx).2.2 (by rw [show x.1 = k by omega]; exact hk)]
    exact e1.1 i1 k hk
end Go.Proofs.YtpknjenihcfhlaaDoor
