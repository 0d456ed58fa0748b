/-
  Unknown tags, read. Conditions: none.
-/
import Derived.Test.YtpknjenihcfhlaaDoorTag1
namespace Go.Proofs.YtpknjenihcfhlaaDoor
open Go.RowKit (Below)
open Kz

/-- Tags and what they hold. -/
def TagsAt (w : World) (S : Nat → Prop) : List (Nat × Value) → List (Nat × List UInt8) → Prop
  | [], [] => True
  | (k, v) :: l, (j, b) :: u => k = j ∧ BytesAt w S v b ∧ TagsAt w S l u
  | _, _ => False
theorem tagsAt_put {w : World} {S : Nat → Prop} (k : Nat) {v : Value} {b : List UInt8} (hv : BytesAt w S v b) : ∀ (l : List (Nat × Value)) (u : List (Nat × List UInt8)), TagsAt w S l u → TagsAt w S (putV k v l) (setTag k b u)
  | [], [], _ => ⟨rfl, hv, trivial⟩
  | [], _ :: _, h => h.elim
  | _ :: _, [], h => h.elim
  | (j, x) :: l, (j', y) :: u, h => by
    obtain ⟨rfl, h2, h3⟩ := h
    simp only [putV, setTag]
    split
    · exact ⟨rfl, h2, tagsAt_put k hv l u h3⟩
    · split
      · exact ⟨rfl, hv, h3⟩
      · exact ⟨rfl, hv, rfl, h2, h3⟩
theorem tagsAt_kept {w w' : World} {K K' : Nat → Prop} (hk : ∀ g, K g → g < w.heap.size → w'.heap[g]? = w.heap[g]?) (hs : w.heap.size ≤ w'.heap.size) (hK : ∀ g, K g → K' g) : ∀ (l : List (Nat × Value)) (u : List (Nat × List UInt8)), TagsAt w K l u → TagsAt w' K' l u
  | [], [], _ => trivial
  | [], _ :: _, h => h.elim
  | _ :: _, [], h => h.elim
  | (_, _) :: l, (_, _) :: u, h => ⟨h.1, stable_bytes hk hs hK h.2.1, tagsAt_kept hk hs hK l u h.2.2⟩

/-- Unknown tags in a cell. -/
def TagRep : Rel (List (Nat × List UInt8)) := fun w K c u =>
  ∃ r, c 0 = some (.map r) ∧ match r with
    | none => u = []
    | some b => K b ∧ ∃ l n, Rising l ∧ w.ownsMap Tryd.prog 56 heldR b n (.map (tagDs l)) ∧ n ≤ 4294967296 ∧ TagsAt w K l u
theorem ownsMap_block {w w' : World} {b n : Nat} {D : DataW Value} (h : w.ownsMap Tryd.prog 56 heldR b n D) (hb : w'.heap[b]? = w.heap[b]?) : w'.ownsMap Tryd.prog 56 heldR b n D := by
  obtain ⟨es, clock, h1, h2⟩ := h
  exact ⟨es, clock, hb.trans h1, h2⟩
theorem stable_tagRep : Stable 1 TagRep := by
  intro w w' K K' c c' u hk hs hK hc h
  obtain ⟨r, h1, h2⟩ := h
  refine ⟨r, (hc 0 (by omega)).trans h1, ?_⟩
  cases r with
  | none => exact h2
  | some b =>
    obtain ⟨hb, l, n, h3, h4, h5, h6⟩ := h2
    exact ⟨hK b hb, l, n, h3, ownsMap_block h4 (hk b hb h4.lt), h5, tagsAt_kept hk hs hK l u h6⟩

theorem TagSt.kept {w w' : World} {base tb n : Nat} {l : List (Nat × Value)} {rb : Nat} (h : TagSt w base tb n l) (hg : w.grownBy w' (some rb)) (hrb : rb < base) : TagSt w' base tb n l := by
  obtain ⟨hb, hl, r, hr, hm⟩ := h
  refine ⟨hb, hl, r, ?_, ?_⟩
  · rw [hg.block tb (Array.getElem?_eq_some_iff.1 hr).1 (fun e => by have := Option.some.inj e; omega)]; exact hr
  · cases r with
    | none => exact hm
    | some b => exact ⟨hm.1, hm.2.1, ownsMap_block hm.2.2 (hg.block b hm.2.2.lt (fun e => by have := Option.some.inj e; omega))⟩

theorem alloc_new (w : World) (o : Obj) : (w.alloc o).heap[w.heap.size]? = some o := by
  show (w.heap.push o)[w.heap.size]? = _
  simp
theorem RdIs.below {w w' : World} {S : Nat → Prop} {rb B : Nat} {st : St} (h : RdIs w S rb st) (hb : Below B w w') (hS : ∀ g, S g → g < B) (hrb : rb < B) : RdIs w' S rb st := by
  obtain ⟨h0, h⟩ := h
  refine ⟨h0, ?_⟩
  cases st with
  | none => show w'.heap[rb]? = _; rw [hb.block rb hrb]; exact h
  | some bs =>
    obtain ⟨v, hv, hbs⟩ := h
    exact ⟨v, by rw [hb.block rb hrb]; exact hv, stable_bytes (fun g hg _ => hb.block g (hS g hg)) hb.size (fun g hg => hg) hbs⟩
theorem results_cell1 {fn : Func} {p : Tmp} {ty : TypeId} (h : fn.results = #[.cell p ty]) (tmps : Array Value) (P : Program) (w : World) :
    (results fn tmps).run P w = ((asAddr (tmps.getD p undef)).run P w).andThen fun a w₁ => (loadVar ty a).run P w₁ := by
  simp only [results, h]
  simp [Sem.run_bind, Result.andThen]
/-- The number that a slot holds. -/
def cntOf (a : Act) : Nat := match (a.tmps[4]? : Option Value) with | some (Value.int _ n) => n.toNat | _ => 0
/-- What holds at each round of the tags' loop. -/
structure TagLoop (w0 : World) (S : Nat → Prop) (rb : Nat) (st0 : St) (w : World) (num : Nat) : Prop where
  ex : ∃ (st : St) (l : List (Nat × Value)) (u : List (Nat × List UInt8)) (n : Nat), RdIs w S rb st ∧ TagSt w (w0.heap.size + 1) (w0.heap.size + 1) n l ∧ TagsAt w S l u ∧ n + num < 4294967296 ∧ utags num (u, st) = rdTags st0
  grown : w0.grownBy w (some rb)
  zero : w.heap[w0.heap.size]? = some (.cells #[.map none] 48 (0, 0))

set_option maxRecDepth 8000 in
set_option maxHeartbeats 1000000 in
theorem rd_tags : hasBody Tryd.prog 73 = true ∧ ∀ (w : World) (S : Nat → Prop) (rb : Nat) (st : St), RdIs w S rb st → (∀ g, S g → g < w.heap.size) → Calls Tryd.prog 73 #[.pointer (some ⟨rb, 0, none⟩)] w fun e w' =>
    ∃ r, e = .returned (.agg #[.map r]) ∧ RdIs w' S rb (rdTags st).2 ∧ w.grownBy w' (some rb) ∧ TagRep w' (fun g => S g ∨ w.heap.size ≤ g) (fun _ => some (.map r)) (rdTags st).1 := by
  refine ⟨by kernel_rfl, fun w S rb st h hold => ?_⟩
  go_enter Tryd.func73, Tryd.ntmps73
  have hlt := h.lt
  have H := Lib.hid h
  have HO := Lib.hid hold
  clear h hold
  go_wp2_with fail
  generalize hW1 : (w.alloc (Obj.cells #[Value.map none] 48)).alloc (Obj.cells #[Value.map none] 48) = W1
  have hsz1 : W1.heap.size = w.heap.size + 2 := by rw [← hW1]; simp
  have hg1 : w.grownBy W1 (some rb) := by
    rw [← hW1]
    exact ⟨rfl, rfl, rfl, by simp; omega, fun k hk _ => by rw [MapKept_old _ _ _ (by simp; omega), MapKept_old _ _ _ hk]⟩
  have hR1 : RdIs W1 S rb st := by
    refine H.out.kept (row := none) ?_ (fun g _ e => by cases e) (fun e => by cases e)
    rw [← hW1]
    exact ⟨rfl, rfl, rfl, by simp; omega, fun k hk _ => by rw [MapKept_old _ _ _ (by simp; omega), MapKept_old _ _ _ hk]⟩
  have hz1 : W1.heap[w.heap.size]? = some (.cells #[.map none] 48 (0, 0)) := by
    rw [← hW1, MapKept_old _ _ _ (by simp)]; exact alloc_new _ _
  have hz2 : W1.heap[w.heap.size + 1]? = some (.cells #[.map none] 48 (0, 0)) := by
    rw [← hW1]; have := alloc_new (w.alloc (Obj.cells #[Value.map none] 48)) (Obj.cells #[Value.map none] 48); simpa only [World.size_alloc] using this
  have HG1 := Lib.hid hg1
  have HZ1 := Lib.hid hz1
  have HZ2 := Lib.hid hz2
  clear hW1 hg1 hz1 hz2
  refine (RUvarint_any W1 S rb st hR1).mono ?_
  rintro e W2 ⟨rfl, hR2, hg2⟩
  have HR2 := Lib.hid hR2
  have HG2 := Lib.hid hg2
  have hb := rdV_bounds st
  obtain ⟨num0, hnum0⟩ : ∃ n, n = (rdV st).1 := ⟨_, rfl⟩
  rw [← hnum0] at hb ⊢
  have HN := Lib.hid hnum0
  clear hnum0 hR2 hg2 hR1
  go_wp2_with fail
  have hL0 : TagLoop w S rb st W2 num0 := ⟨⟨(rdV st).2, [], [], 0, HR2.out, ⟨by omega, List.Pairwise.nil, none, ?_, rfl⟩, trivial, by omega, by rw [HN.out]; rfl⟩, grownBy_trans HG1.out HG2.out, ?_⟩
  rotate_left
  · rw [HG2.out.block _ (by omega) (fun e => by have := Option.some.inj e; omega)]; exact HZ2.out
  · rw [HG2.out.block _ (by omega) (fun e => by have := Option.some.inj e; omega)]; exact HZ1.out
  have HL0 := Lib.hid hL0
  clear hL0 HG1 HG2 HZ1 HZ2 HR2 HN
  refine wp_loop (I := fun a w' => ∃ (num : Nat) (x5 x6 x9 x10 x11 x12 x13 x14 x15 x16 x17 x18 x19 x20 x21 x22 : Value), a = ⟨#[.pointer (some ⟨rb, 0, none⟩), undef, .pointer (some ⟨w.heap.size, 0, none⟩), .pointer (some ⟨w.heap.size + 1, 0, none⟩), .int .u32 (num : Int), x5, x6,
      .pointer (some ⟨rb, 0, none⟩), .int .u32 (num0 : Int), x9, x10, x11, x12, x13, x14, x15, x16, x17, x18, x19, x20, x21, x22, undef], []⟩ ∧ RowKit.Hid (TagLoop w S rb st w' num))
    (μ := fun a _ => cntOf a) ⟨num0, _, _, _, _, _, _, _, _, _, _, _, _, _, _, _, _, rfl, HL0⟩ ?_
  rintro a w' ⟨num, x5, x6, x9, x10, x11, x12, x13, x14, x15, x16, x17, x18, x19, x20, x21, x22, rfl, HL⟩
  clear HL0
  by_cases hz : num = 0
  · subst hz
    obtain ⟨⟨sti, l, u, n, hr, ht, hta, hnn, heq⟩, hgr, hzr⟩ := HL.out
    obtain ⟨hb1, hl, r, hrow, hm⟩ := ht
    have c1 : w'.cell? ⟨w.heap.size + 1, 0, none⟩ = some (.map r) := by rw [cell_of_row w' _ 0 _ _ _ hrow]; rfl
    have c0 : w'.cell? ⟨w.heap.size, 0, none⟩ = some (.map none) := by rw [cell_of_row w' _ 0 _ _ _ hzr]; rfl
    have f0 : w'.frozen? ⟨w.heap.size, 0, none⟩ = false := by simp [World.frozen?, hzr]
    have k1 := Lib.hid hr
    have k2 := Lib.hid hl
    have k3 := Lib.hid hrow
    have k4 := Lib.hid hm
    have k5 := Lib.hid hta
    have k6 := Lib.hid heq
    have k7 := Lib.hid hgr
    have k8 := Lib.hid hzr
    clear hr hl hrow hm hta heq hgr hzr HL
    go_wp2
    have cw : (w'.setCell ⟨w.heap.size, 0, none⟩ (.map r)).cell? ⟨w.heap.size, 0, none⟩ = some (.map r) := by rw [cell_of_row _ _ 0 _ _ _ (heap_setCell_row k8.out)]; rfl
    refine ⟨rfl, .agg #[.map r], ?_, r, rfl, ?_, ?_, r, rfl, ?_⟩
    · rw [results_cell1 (p := 2) (ty := 48) (by kernel_rfl) _ _ _]
      show (loadVar 48 ⟨w.heap.size, 0, none⟩).run Tryd.prog _ = _
      exact run_loadVar_mid _ _ _ _ [.map r] _ (fun j v hj => by
        cases j with
        | zero => simp only [List.getElem?_cons_zero, Option.some.injEq] at hj; subst hj; exact cw
        | succ j => cases hj) Tryd.underlying48 rfl (by kernel_rfl)
    · have : (rdTags st).2 = sti := by rw [← k6.out]; rfl
      rw [this]
      exact k1.out.kept (row := some w.heap.size) ⟨rfl, rfl, rfl, by simp [World.setCell], fun k _ hk => Below.heap_setCell _ _ _ _ (fun e => hk (by rw [e]))⟩ (fun g hg e => by have := HO.out g hg; have := Option.some.inj e; omega) (fun e => by have := Option.some.inj e; omega)
    · refine ⟨k7.out.os, k7.out.tape, k7.out.output, by simpa [World.setCell] using k7.out.size, fun k hk hr => ?_⟩
      rw [← k7.out.block k hk hr]
      exact Below.heap_setCell _ _ _ _ (fun e => by have e : k = w.heap.size := e; omega)
    · have hu : (rdTags st).1 = u := by rw [← k6.out]; rfl
      rw [hu]
      have hm := k4.out
      cases r with
      | none =>
        subst hm
        have hta := k5.out
        cases u with
        | nil => rfl
        | cons x u => exact hta.elim
      | some b =>
        obtain ⟨m1, m2, m3⟩ := hm
        have hbne : b ≠ w.heap.size := by omega
        refine ⟨.inr (by omega), l, n, k2.out, ownsMap_block m3 (Below.heap_setCell _ _ _ _ hbne), by omega, tagsAt_kept (fun g hg _ => Below.heap_setCell _ _ _ _ (fun e => ?_)) (by simp [World.setCell]) (fun g hg => .inl hg) l u k5.out⟩
        have e : g = w.heap.size := e
        have := HO.out g hg
        omega
  · have hz' : (0 : Int) < num := by omega
    obtain ⟨⟨sti, l, u, n, hr, ht, hta, hnn, heq⟩, hgr, hzr⟩ := HL.out
    have k2 := Lib.hid ht
    have k5 := Lib.hid hta
    have k6 := Lib.hid heq
    have k7 := Lib.hid hgr
    have k8 := Lib.hid hzr
    have k1 := Lib.hid hr
    clear hr ht hta heq hgr hzr HL
    go_wp2_with fail
    refine (RUvarint_any w' S rb sti k1.out).mono ?_
    rintro e w3 ⟨rfl, h3, g3⟩
    have H3 := Lib.hid h3
    have G3 := Lib.hid g3
    clear h3 g3
    go_wp2_with fail
    refine (RUvarint_any w3 S rb _ H3.out).mono ?_
    rintro e w4 ⟨rfl, h4, g4⟩
    have H4 := Lib.hid h4
    have G4 := Lib.hid g4
    have b4 := rdV_bounds (rdV sti).2
    clear h4 g4
    go_wp2_with fail
    refine (Span_any w4 S rb _ _ H4.out (by omega) (by omega)).mono ?_
    rintro e w5 ⟨v, rfl, hv, h5, g5⟩
    have H5 := Lib.hid h5
    have G5 := Lib.hid g5
    have HV := Lib.hid hv
    clear h5 g5 hv
    go_wp2_with fail
    have hg5 : w'.grownBy w5 (some rb) := grownBy_trans (grownBy_trans G3.out G4.out) G5.out
    have ht5 := k2.out.kept hg5 (by omega)
    refine (Set_any w5 (w.heap.size + 1) (w.heap.size + 1) n (rdV sti).1 l v ht5 (rdV_bounds sti) ?_ ?_).mono ?_
    · unfold maxLen; omega
    · obtain ⟨-, -, r, hrow, -⟩ := ht5
      exact Nat.le_of_lt (Array.getElem?_eq_some_iff.1 hrow).1
    rintro e w6 ⟨rfl, ht6, hb6⟩
    have H6 := Lib.hid ht6
    have B6 := Lib.hid hb6
    have G := Lib.hid hg5
    clear ht6 hb6 hg5 ht5
    have hn1 : ((num : Int) - 1) = ((num - 1 : Nat) : Int) := by omega
    have hw1 : IntKind.u32.wrap (((num - 1 : Nat) : Int)) = ((num - 1 : Nat) : Int) := by rw [IntKind.wrap_u32]; omega
    go_wp2_with fail
    refine ⟨⟨num - 1, _, _, _, _, _, _, _, _, _, _, _, _, _, _, _, _, rfl, Lib.hid ⟨⟨(rdSpan (rdV (rdV sti).2).1 (rdV (rdV sti).2).2).2, putV (rdV sti).1 v l, setTag (rdV sti).1 (rdSpan (rdV (rdV sti).2).1 (rdV (rdV sti).2).2).1 u, n + 1, ?_, H6.out, ?_, by omega, ?_⟩, ?_, ?_⟩⟩, ?_⟩
    · exact H5.out.below B6.out (fun g hg => by have := HO.out g hg; omega) (by omega)
    · refine tagsAt_put _ (stable_bytes (fun g hg _ => B6.out.block g (by have := HO.out g hg; omega)) B6.out.size (fun g hg => hg) HV.out) l u (tagsAt_kept (fun g hg hl => ?_) (Nat.le_trans G.out.size B6.out.size) (fun g hg => hg) l u k5.out)
      rw [B6.out.block g (by have := HO.out g hg; omega), G.out.block g hl (fun e => H.out.1 (by rw [← Option.some.inj e]; exact hg))]
    · rw [← k6.out]
      obtain ⟨m, rfl⟩ : ∃ m, num = m + 1 := ⟨num - 1, by omega⟩
      rfl
    · refine ⟨B6.out.os.trans (G.out.os.trans k7.out.os), B6.out.tape.trans (G.out.tape.trans k7.out.tape), B6.out.output.trans (G.out.output.trans k7.out.output), Nat.le_trans k7.out.size (Nat.le_trans G.out.size B6.out.size), fun k hk hr => ?_⟩
      exact (B6.out.block k (by omega)).trans ((G.out.block k (Nat.lt_of_lt_of_le hk k7.out.size) hr).trans (k7.out.block k hk hr))
    · rw [B6.out.block _ (by omega), G.out.block _ (Array.getElem?_eq_some_iff.1 k8.out).1 (fun e => by have := Option.some.inj e; omega)]
      exact k8.out
    · simp [cntOf]; omega
end Go.Proofs.YtpknjenihcfhlaaDoor
