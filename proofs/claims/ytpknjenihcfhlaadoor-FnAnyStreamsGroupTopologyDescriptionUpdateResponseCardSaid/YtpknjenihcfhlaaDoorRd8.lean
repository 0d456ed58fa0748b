/-
  The tags of a part; the end of a function that reads. Conditions: none.
-/
import Derived.Test.YtpknjenihcfhlaaDoorTag2
namespace Go.Proofs.YtpknjenihcfhlaaDoor
open Go.RowKit (Below)
open Kz

section
variable {E : RE} {v : Int} {flex ht : Bool}

/-- 's.UnknownTags = internalReadTags(&b)'. -/
theorem reg_tags {id sp f t1 t2 t3 t4 T k off ty : Nat} {tys : Array TypeId} {ty1 ty2 ty3 ty4 ty5 : TypeId} {p1 p2 p3 p4 p5 : String} {e1 e2 e3 e4 e5 : Array Edge} (hf : f = 73) (hty : ty = 48) (hoff : offOf Tryd.prog T k = some off)
    (hn : [t1, t2, t3, t4].all (· < E.N) = true) (hd : decide (t1 ≠ t2 ∧ t1 ≠ E.rs ∧ t2 ≠ t3 ∧ t2 ≠ t4) = true) {a : Act} {w : World} {Q : Exit → Act → World → Prop} {S : Nat → Prop} {rb b o : Nat} {st : St} {cells : Array Value} {Ty : TypeId}
    (hN : a.tmps.size = E.N) (hrs : sl a E.rs = .pointer (some ⟨rb, 0, none⟩)) (hsp : sl a sp = .pointer (some ⟨b, o, none⟩)) (hr : RdIs w S rb st) (hold : ∀ g, S g → g < w.heap.size) (hrow : w.heap[b]? = some (.cells cells Ty (0, 0))) (hfit : o + off < cells.size) (hne : b ≠ rb)
    (hq : ∀ a' w1 r, Upd a a' [t1, t2, t3, t4] → RdIs w1 S rb (rdTags st).2 → w.grownBy w1 (some rb) → TagRep w1 (fun g => S g ∨ w.heap.size ≤ g) (fun _ => some (.map r)) (rdTags st).1 → Q .normal a' (w1.setCell ⟨b, o + off, none⟩ (.map r))) :
    (Code.region id #[⟨some t1, .move (.tmp sp), ty1, p1, e1, none⟩, ⟨some t2, .call { callee := .value (.func f), args := #[.tmp E.rs], argTypes := tys }, ty2, p2, e2, none⟩, ⟨some t3, .nilCheck (.tmp t1), ty3, p3, e3, none⟩,
      ⟨some t4, .fieldAddr T (.tmp t3) k, ty4, p4, e4, none⟩, ⟨none, .store ty (.tmp t4) (.tmp t2), ty5, p5, e5, none⟩] false).wp Tryd.prog Q a w := by
  subst hf; subst hty
  simp only [List.all_cons, List.all_nil, Bool.and_true, Bool.and_eq_true, decide_eq_true_eq] at hn hd
  obtain ⟨d1, d2, d3, d4⟩ := hd
  obtain ⟨fn, hfn, hb, hnn⟩ := hasBody_ok rd_tags.1
  refine wp_region_lit (st_move (st_call1 hfn hb hnn ?_))
  rw [eval_tmp, sl_put_other _ _ _ _ d2, hrs]
  refine Calls.mono (rd_tags.2 w S rb st hr hold) ?_
  rintro e w1 ⟨r, rfl, hr1, hg1, ht1⟩
  refine ⟨_, rfl, st_nil (p := ⟨b, o, none⟩) ?_ (st_field (b := b) (o := o) (fieldOff_ok hoff) ?_ ?_)⟩
  · rw [eval_tmp, sl_put_other _ _ _ _ (fun e => d1 e.symm), sl_put_self _ _ _ (by omega), eval_tmp, hsp]
  · rw [eval_tmp, sl_put_self _ _ _ (by simp only [put_size]; omega)]
  have hrow1 : w1.heap[b]? = some (.cells cells Ty (0, 0)) := by rw [hg1.block b (Array.getElem?_eq_some_iff.1 hrow).1 (fun e => hne (Option.some.inj e))]; exact hrow
  refine wpList_store_mid rfl 48 _ _ rfl b (o + off) #[.map r] ?_ ?_ ?_ (by kernel_rfl) (by simp [Value.oneCell']) (wpList_nil ?_)
  · rw [eval_tmp, sl_put_self _ _ _ (by simp only [put_size]; omega)]
  · rw [eval_tmp, sl_put_other _ _ _ _ (fun e => d4 e.symm), sl_put_other _ _ _ _ (fun e => d3 e.symm), sl_put_self _ _ _ (by simp only [put_size]; omega)]
  · intro j hj
    have hj0 : j = 0 := by simp at hj; exact hj
    subst hj0
    exact ⟨by rw [cell_of_row w1 b _ _ _ _ hrow1]; simp; exact hfit, by simp [World.frozen?, hrow1]⟩
  · exact hq _ w1 r ((((Upd.refl a _).put t1 _ (by simp)).put t2 _ (by simp)).put t3 _ (by simp) |>.put t4 _ (by simp)) hr1 hg1 ht1

/-- The tags of a part, behind its fields. -/
theorem RdTl.tags {id i0 sp off tf fs f t1 t2 t3 t4 T k ty : Nat} {tys : Array TypeId} {ty0 ty1 ty2 ty3 ty4 ty5 : TypeId} {p0 p1 p2 p3 p4 p5 : String} {e0 e1 e2 e3 e4 e5 : Array Edge} (hht : ht = true) (hfs : E.fs = some fs) (hf : f = 73) (hty : ty = 48)
    (hoff : offOf Tryd.prog T k = some off) (hn : [t1, t2, t3, t4, tf].all (· < E.N) = true) (hd : decide (t1 ≠ t2 ∧ t1 ≠ E.rs ∧ t2 ≠ t3 ∧ t2 ≠ t4 ∧ tf ≠ sp) = true) (hcl : [tf].all (fun t => !E.slots.contains t) = true) :
    RdTl TagRep E v flex ht sp off [] ((Code.region i0 #[⟨some tf, .move (.tmp fs), ty0, p0, e0, none⟩] false).seq (Code.cond (.tmp tf) (Code.region id #[⟨some t1, .move (.tmp sp), ty1, p1, e1, none⟩, ⟨some t2, .call { callee := .value (.func f), args := #[.tmp E.rs], argTypes := tys }, ty2, p2, e2, none⟩, ⟨some t3, .nilCheck (.tmp t1), ty3, p3, e3, none⟩,
      ⟨some t4, .fieldAddr T (.tmp t3) k, ty4, p4, e4, none⟩, ⟨none, .store ty (.tmp t4) (.tmp t2), ty5, p5, e5, none⟩] false) Code.skip)) := by
  subst hht
  simp only [decide_eq_true_eq] at hd
  obtain ⟨d1, d2, d3, d4, d5⟩ := hd
  have hn' : [t1, t2, t3, t4].all (· < E.N) = true := by simp only [List.all_cons, List.all_nil, Bool.and_true, Bool.and_eq_true] at hn ⊢; exact ⟨hn.1, hn.2.1, hn.2.2.1, hn.2.2.2.1⟩
  have hnf : tf < E.N := by simp only [List.all_cons, List.all_nil, Bool.and_true, Bool.and_eq_true, decide_eq_true_eq] at hn; exact hn.2.2.2.2
  have hT := test_flex (E := E) (v := v) (flex := flex) (id := i0) (ty1 := ty0) (p1 := p0) (e1 := e0) hfs (decide_eq_true hnf) hcl
  intro rb S st cb co cells Ty a w hp
  refine wp_seq (hT.2 rb a w _ hp.fr fun a1 u1 s1 => ?_)
  have f1 := hp.fr.upd u1 (clear_iff hT.1)
  have hsp1 : sl a1 sp = .pointer (some ⟨cb, co, none⟩) := (u1.same sp (by simp [writes]; exact fun e => d5 e.symm)).trans hp.ptr
  have hfit : co + off < cells.size := by have := hp.fit; simp only [cellsP, cellsFs] at this; simp at this; omega
  cases flex with
  | false =>
    refine wp_cond_false (by rw [eval_tmp, s1]) (wp_skip ?_)
    refine ⟨u1.mono (fun t ht => by simp only [writes, List.mem_append]; exact .inl ht), hp.rd, Md.refl _ _ _ _ _, cells, hp.row, rfl, fun h => by cases h⟩
  | true =>
    refine wp_cond_true (by rw [eval_tmp, s1]) ?_
    refine reg_tags hf hty hoff hn' (decide_eq_true ⟨d1, d2, d3, d4⟩) f1.size f1.rs hsp1 hp.rd hp.old hp.row hfit hp.ne fun a2 w1 r u2 r2 g2 t2 => ?_
    have hrow1 : w1.heap[cb]? = some (.cells cells Ty (0, 0)) := by rw [g2.block cb (Array.getElem?_eq_some_iff.1 hp.row).1 (fun e => hp.ne (Option.some.inj e))]; exact hp.row
    refine ⟨(u1.mono ?_).trans (u2.mono ?_), ?_, (Md.of_grown g2 hp.ne (co + off) (cellsP true [])).trans (Md.of_set (lo := co + off) (n := cellsP true []) _ (by simp [cellsP, cellsFs])) (by omega) (by omega), cells.setIfInBounds (co + off) (.map r), heap_setCell_row hrow1, rfl, fun _ => ?_⟩
    · intro t ht; simp only [writes, List.mem_append]; exact .inl ht
    · intro t ht; simp only [writes, List.mem_append]; exact .inr (.inl (by simpa [writes] using ht))
    · exact r2.kept (row := some cb) ⟨rfl, rfl, rfl, by simp [World.setCell], fun k _ hk => Below.heap_setCell _ _ _ _ (fun e => hk (by rw [e]))⟩ (fun g hg e => hp.src (by rw [← Option.some.inj e]; exact hg)) (fun e => hp.ne (Option.some.inj e).symm)
    · refine stable_tagRep w1 _ _ _ (fun _ => some (.map r)) _ _ (fun g hg hlt => ?_) (by simp [World.setCell]) (fun g hg => hg) (fun j hj => ?_) t2
      · refine Below.heap_setCell _ _ _ _ ?_
        rintro rfl
        rcases hg with hg | hg
        · exact hp.src hg
        · have := (Array.getElem?_eq_some_iff.1 hp.row).1; omega
      · have hj0 : j = 0 := by omega
        subst hj0
        show (cells.setIfInBounds (co + off) (.map r))[co + off]? = _
        simp [hfit]
/-- A part without tags. -/
theorem RdTl.plain {tags : Rel (List (Nat × List UInt8))} {sp off : Nat} {fs : List F} {c : Code} (hht : ht = false) (hfl : flex = false) (h : RdFs tags E v flex ht sp off fs c) : RdTl tags E v flex ht sp off fs c := by
  subst hht; subst hfl
  have e : cellsP false fs = cellsFs false fs := rfl
  unfold RdTl
  rw [e]
  exact Rd.conv h (fun x => (x, [])) (fun st => by simp) (fun w K cc x hx => ⟨hx, fun h => by cases h⟩) (fun _ h => h)
/-- Has a list of fields tags of its own? -/
def noTag (fs : List F) : Bool := fs.all fun f => decide (f.tag < 0)
theorem findTag_none {fs : List F} (h : noTag fs = true) (key : Nat) : ∀ (gs : List (St → T × St)), findTag key fs gs = none := by
  induction fs with
  | nil => intro gs; cases gs <;> rfl
  | cons f fs ih =>
    intro gs
    simp only [noTag, List.all_cons, Bool.and_eq_true, decide_eq_true_eq] at h
    cases gs with
    | nil => rfl
    | cons g gs =>
      simp only [findTag]
      rw [if_neg (by omega), ih h.2 gs]
      rfl
theorem tagsR_utags {fs : List F} (h : noTag fs = true) (gs : List (St → T × St)) : ∀ (n : Nat) (ts : List T) (u : List (Nat × List UInt8)) (st : St), tagsR fs gs n (ts, u, st) = (ts, (utags n (u, st)).1, (utags n (u, st)).2)
  | 0, _, _, _ => rfl
  | n + 1, ts, u, st => by
    have e : tagR fs gs (ts, u, st) = (ts, (utag (u, st)).1, (utag (u, st)).2) := by
      simp only [tagR, findTag_none h, utag]
    simp only [tagsR, utags]
    rw [e, tagsR_utags h gs n]
theorem RdTl.part {tags : Rel (List (Nat × List UInt8))} {sp off : Nat} {fs : List F} {c : Code} (hno : noTag fs = true) (h : RdTl tags E v flex ht sp off fs c) : RdP tags E v flex ht sp off fs c := by
  refine Rd.conv h (fun x => ⟨0, [], false, x.1, x.2⟩) (fun st => ?_) (fun w K cc x hx => hx) (fun _ h => h)
  simp only [rdPart, asmR]
  cases flex with
  | true => simp only [if_true, tagsR_utags hno, rdTags]
  | false => simp
end

/-! ## The end of a function -/
/-- Behind a function that reads. -/
def PostE {α : Type} (E : RE) (off n : Nat) (g : St → α × St) (R : Rel α) (rb : Nat) (S : Nat → Prop) (st : St) (cb co : Nat) (T : TypeId) (w : World) : Exit → Act → World → Prop
  | .ret, a', w' => a'.tmps.size = E.N ∧ a'.defers = [] ∧ Md w w' rb cb (co + off) n ∧ ErrV (g st).2 (sl a' E.res) ∧ ((g st).2.isSome = true → ∃ cells', w'.heap[cb]? = some (.cells cells' T (0, 0)) ∧ R w' (fun g => S g ∨ w.heap.size ≤ g) (fun j => cells'[co + off + j]?) (g st).1)
  | _, _, _ => False
def RdE {α : Type} (E : RE) (v : Int) (flex : Bool) (sp off n : Nat) (ini : Cells → Prop) (g : St → α × St) (R : Rel α) (c : Code) : Prop :=
  ∀ rb S st cb co cells T a w, Pre E v flex sp off n ini rb S st cb co cells T a w → c.wp Tryd.prog (PostE E off n g R rb S st cb co T w) a w

section
variable {E : RE} {v : Int} {flex ht : Bool}
theorem RdE.conv {α β : Type} {sp off n : Nat} {ini ini' : Cells → Prop} {g : St → α × St} {g' : St → β × St} {R : Rel α} {R' : Rel β} {c : Code} (h : RdE E v flex sp off n ini g R c)
    (k : α → β) (hg : ∀ st, g' st = (k (g st).1, (g st).2)) (hR : ∀ w K cc x, R w K cc x → R' w K cc (k x)) (hini : ∀ cc, ini' cc → ini cc) : RdE E v flex sp off n ini' g' R' c := by
  intro rb S st cb co cells T a w hp
  refine wp_mono (h rb S st cb co cells T a w { hp with ini := hini _ hp.ini }) ?_
  intro e a2 w2 hq
  cases e with
  | ret =>
    obtain ⟨h1, h2, h3, h4, h5⟩ := hq
    refine ⟨h1, h2, h3, by rw [hg]; exact h4, fun hs => ?_⟩
    rw [hg] at hs ⊢
    obtain ⟨cells', hrow, hret⟩ := h5 hs
    exact ⟨cells', hrow, hR _ _ _ _ hret⟩
  | _ => exact hq.elim
/-- The last piece, and the function's end. -/
theorem RdE.last {α : Type} {sp off n : Nat} {ini : Cells → Prop} {g : St → α × St} {R : Rel α} {c cF : Code} (h : Rd E v flex sp off n ini g R c) (hF : SFail E cF) (hcl : clear E.slots c = true) : RdE E v flex sp off n ini g R (c.seq (cF.seq Code.ret)) := by
  intro rb S st cb co cells T a w hp
  refine wp_seq (wp_mono (h rb S st cb co cells T a w hp) ?_)
  intro e a1 w1 hq
  cases e with
  | normal =>
    obtain ⟨hu, hr, hm, cells', hrow, hret⟩ := hq
    have f1 := hp.fr.upd hu (clear_iff hcl)
    refine wp_seq (hF a1 w1 _ S rb _ f1.size f1.rs hr (hp.err.md hm hp.rbe hp.cbe) fun a2 u2 hv => wp_ret ?_)
    exact ⟨u2.size.trans f1.size, u2.defers.trans f1.defers, hm, hv, fun _ => ⟨cells', hrow, hret⟩⟩
  | ret =>
    obtain ⟨hn, hs2, hd2, hv2, hm2⟩ := hq
    refine ⟨hs2, hd2, hm2, by rw [hn]; simpa [ErrV] using hv2, fun h => by rw [hn] at h; cases h⟩
  | _ => exact hq.elim
/-- A piece ahead of the rest of the function. -/
theorem RdE.seq {α β γ : Type} {sp off n1 n2 : Nat} {ini1 ini2 : Cells → Prop} {g1 : St → α × St} {g2 : St → β × St} {R1 : Rel α} {R2 : Rel β} {c1 c2 : Code} (h1 : Rd E v flex sp off n1 ini1 g1 R1 c1) (h2 : RdE E v flex sp (off + n1) n2 ini2 g2 R2 c2)
    (hcl : clear (sp :: E.slots) c1 = true) (hst : Stable n1 R1) (hst2 : Stable n2 R2) (hs : Strict g2) (hloc : ∀ c c' : Cells, (∀ j, j < n2 → c' j = c j) → ini2 c → ini2 c') (f : α → β → γ) :
    RdE E v flex sp off (n1 + n2) (fun c => ini1 c ∧ ini2 (fun j => c (n1 + j))) (fun st => (f (g1 st).1 (g2 (g1 st).2).1, (g2 (g1 st).2).2))
      (fun w K c x => ∃ y z, x = f y z ∧ R1 w K c y ∧ R2 w K (fun j => c (n1 + j)) z) (c1.seq c2) := by
  intro rb S st cb co cells T a w hp
  refine wp_seq (wp_mono (h1 rb S st cb co cells T a w { hp with fit := by have := hp.fit; omega, ini := hp.ini.1 }) ?_)
  have hcl' := clear_iff hcl
  intro e a1 w1 hq
  cases e with
  | normal =>
    obtain ⟨hu, hr, hm, cells1, hrow, hR⟩ := hq
    obtain ⟨cells1', hrow', hsz, hsame⟩ := hm.row cells T hp.row
    obtain ⟨rfl, -⟩ : cells1' = cells1 ∧ T = T := by
      rw [hrow] at hrow'
      simp only [Option.some.injEq, Obj.cells.injEq] at hrow'
      exact ⟨hrow'.1.symm, rfl⟩
    have hfit := hp.fit
    have hp2 : Pre E v flex sp (off + n1) n2 ini2 rb S (g1 st).2 cb co cells1' T a1 w1 := {
      fr := hp.fr.upd hu (fun t ht => hcl' t (List.mem_cons_of_mem _ ht))
      ptr := (hu.same _ (hcl' _ (by simp))).trans hp.ptr
      rd := hr
      err := hp.err.md hm hp.rbe hp.cbe
      rbe := hp.rbe
      cbe := hp.cbe
      ne := hp.ne
      src := hp.src
      old := fun g hg => Nat.lt_of_lt_of_le (hp.old g hg) hm.size
      row := hrow
      fit := by omega
      ini := by
        refine hloc (fun j => cells[co + off + (n1 + j)]?) _ (fun j hj => ?_) hp.ini.2
        show cells1'[co + (off + n1) + j]? = cells[co + off + (n1 + j)]?
        rw [hsame _ (.inr (by omega))]
        congr 1; omega }
    refine wp_mono (h2 rb S (g1 st).2 cb co cells1' T a1 w1 hp2) ?_
    intro e a2 w2 hq2
    cases e with
    | ret =>
      obtain ⟨hs2, hd2, hm2, hv2, hR2⟩ := hq2
      refine ⟨hs2, hd2, hm.trans hm2 (by omega) (by omega), hv2, fun hsome => ?_⟩
      obtain ⟨cells2, hrow2, hR2⟩ := hR2 hsome
      obtain ⟨cells2', hrow2', hsz2, hsame2⟩ := hm2.row cells1' T hrow
      obtain ⟨rfl, -⟩ : cells2' = cells2 ∧ T = T := by
        rw [hrow2] at hrow2'
        simp only [Option.some.injEq, Obj.cells.injEq] at hrow2'
        exact ⟨hrow2'.1.symm, rfl⟩
      refine ⟨cells2', hrow2, _, _, rfl, ?_, ?_⟩
      · refine hst w1 w2 _ _ _ _ _ (fun g hg hlt => ?_) hm2.size (fun g hg => hg) (fun j hj => ?_) hR
        · refine hm2.block g hlt ?_ ?_
          · rintro rfl
            rcases hg with hg | hg
            · exact hp.rd.1 hg
            · exact absurd hp.rd.lt (by omega)
          · rintro rfl
            rcases hg with hg | hg
            · exact hp.src hg
            · have := (Array.getElem?_eq_some_iff.1 hp.row).1; omega
        · exact hsame2 _ (.inl (by omega))
      · refine hst2 w2 w2 _ _ _ _ _ (fun _ _ _ => rfl) (Nat.le_refl _) (fun g hg => hg.imp (fun h => h) (fun h => Nat.le_trans hm.size h)) (fun j _ => ?_) hR2
        show cells2'[co + off + (n1 + j)]? = cells2'[co + (off + n1) + j]?
        congr 1; omega
    | _ => exact hq2.elim
  | ret =>
    obtain ⟨hn, hs2, hd2, hv2, hm2⟩ := hq
    have hn2 : (g2 (g1 st).2).2 = none := by rw [hn]; exact hs
    refine ⟨hs2, hd2, hm2.mono (by omega), ?_, fun h => ?_⟩
    · show ErrV (g2 (g1 st).2).2 _
      rw [hn2]; simpa [ErrV] using hv2
    · have : (g2 (g1 st).2).2.isSome = true := h
      rw [hn2] at this; cases this
  | _ => exact hq.elim
end
end Go.Proofs.YtpknjenihcfhlaaDoor
