/-
  Code that writes: lists, tags, the ends of parts. Conditions: none.
-/
import Derived.Test.YtpknjenihcfhlaaDoorAp4
import Derived.Test.YtpknjenihcfhlaaDoorTa4
namespace Go.Proofs.YtpknjenihcfhlaaDoor
open Go.RowKit (Below)
open Kz

section
variable {tags : Rel (List (Nat × List UInt8))} {E : WE} {v : Int} {flex ht : Bool}

/-- A list's length, as it is handed on. -/
def ListA (ptr : Bool) (_ : World) (_ : Nat → Prop) (u : Value) (t : T) : Prop := ∃ p m, u = .slice p t.l.length m ∧ t.l.length ≤ most ∧ (ptr = true → (p = none ↔ t.null = true))
def WritesLen (f : Nat) (wrt : Nat → List UInt8) : Prop :=
  hasBody Tryd.prog f = true ∧ ∀ (base : Nat) (bs : List UInt8) (w : World) (v : Value) (n : Nat), OwnB w base v bs → base ≤ w.heap.size → n ≤ most → bs.length + (wrt n).length ≤ lim2 →
    Calls Tryd.prog f #[v, .int .i64 (n : Int)] w fun e w' => ∃ v', e = .returned v' ∧ OwnB w' base v' (bs ++ wrt n) ∧ Below base w w'
theorem wl_ArrayLen : WritesLen 64 (fun n => counted false false n 4) := ⟨by kernel_rfl, fun base bs w v n ho hb hn hl => AppendArrayLen_any w base v bs n ho hb (by simp only [most] at hn; omega) (lim_of hl (by decide))⟩
theorem wl_CompactArrayLen : WritesLen 63 (fun n => counted true false n 4) := ⟨by kernel_rfl, fun base bs w v n ho hb hn hl => AppendCompactArrayLen_any w base v bs n ho hb (by simp only [most] at hn; omega) (lim_of hl (by decide))⟩

/-- 'dst = f(dst, len(x))'. -/
theorem Av.len {ptr : Bool} {id f d t1 t2 t3 t4 TT e : Nat} {tys : Array TypeId} {ty1 ty2 ty3 ty4 ty5 : TypeId} {p1 p2 p3 p4 p5 : String} {e1 e2 e3 e4 e5 : Array Edge} {wrt : Nat → List UInt8} (hf : WritesLen f wrt) (hT : sliceOf Tryd.prog TT = some e) (hn : [t1, t2, t3, t4, E.ds].all (· < E.N) = true)
    (hd : decide (t1 ≠ t2 ∧ t1 ≠ d ∧ t1 ≠ t3) = true) :
    Av E v flex d (fun t : T => wrt t.l.length) (ListA ptr) (Code.region id #[⟨some t1, .move (.tmp E.ds), ty1, p1, e1, none⟩, ⟨some t2, .move (.tmp d), ty2, p2, e2, none⟩, ⟨some t3, .call { callee := .builtin .len, args := #[.tmp t2], argTypes := #[TT] }, ty3, p3, e3, none⟩,
      ⟨some t4, .call { callee := .value (.func f), args := #[.tmp t1, .tmp t3], argTypes := tys }, ty4, p4, e4, none⟩, ⟨some E.ds, .assign (.tmp t4), ty5, p5, e5, none⟩] false) := by
  intro base K bs a w x hp hr hl
  have hsz := hp.fr.size
  obtain ⟨p, m, hu, hm, -⟩ := hr
  simp only [List.all_cons, List.all_nil, Bool.and_true, Bool.and_eq_true, decide_eq_true_eq] at hn hd
  obtain ⟨n1, n2, n3, n4, n5⟩ := hn
  obtain ⟨d12, d1d, d13⟩ := hd
  obtain ⟨fn, hfn, hb, hnn⟩ := hasBody_ok hf.1
  refine wp_region_lit (st_move (st_move (st_val (v := .int .i64 (x.l.length : Int)) (w' := w) (exec_len_slice (p := p) (c := m) (sliceOf_ok hT) ?_) (st_call2 hfn hb hnn ?_))))
  · rw [eval_tmp, sl_put_self _ _ _ (by rw [put_size]; omega), eval_tmp, sl_put_other _ _ _ _ d1d, hu]
  · rw [eval_tmp, sl_put_other _ _ _ _ (fun e => d13 e.symm), sl_put_other _ _ _ _ (fun e => d12 e.symm), sl_put_self _ _ _ (by omega), eval_tmp, eval_tmp, sl_put_self _ _ _ (by simp only [put_size]; omega)]
    refine Calls.mono (hf.2 base bs w _ x.l.length hp.own hp.le hm hl) ?_
    rintro e w' ⟨v', rfl, ho, hbel⟩
    refine ⟨v', rfl, st_assign (wpList_nil ⟨(((((Upd.refl a _).put t1 _ (by simp [writes])).put t2 _ (by simp [writes])).put t3 _ (by simp [writes])).put t4 _ (by simp [writes])).put E.ds _ (by simp [writes]), hbel, ?_⟩)⟩
    rw [sl_put_self _ _ _ (by simp only [put_size]; omega), eval_tmp, sl_put_self _ _ _ (by simp only [put_size]; omega)]
    exact ho

/-- An element's octets, and how it lies. -/
abbrev elW (v : Int) (flex : Bool) (of : Nat) (sub : List F) : T → List UInt8 := valW of (Kz.part v flex sub) false flex
abbrev elA (tags : Rel (List (Nat × List UInt8))) (v : Int) (flex ht : Bool) (of : Nat) (sub : List F) : Rel T := fun w K c x => elR tags v flex ht of sub w K c x ∧ Fit x
theorem elA_stable (htg : flex = true → ht = true) (hT : Stable 1 tags) (of : Nat) (sub : List F) : Stable (valCells of (cellsP ht sub)) (elA tags v flex ht of sub) := by
  intro w w' K K' c c' x hk hs hK hc h
  exact ⟨elR_stable htg hT of sub w w' K K' c c' x hk hs hK hc h.1, h.2⟩

/-- An element that is a part. -/
theorem ElA.struct {id da di s t1 t2 t3 TT e sz : Nat} {ty1 ty2 ty3 ty4 : TypeId} {p1 p2 p3 p4 : String} {e1 e2 e3 e4 : Array Edge} {sub : List F} {c : Code} (hT : sliceOf Tryd.prog TT = some e) (hs : sizeIs Tryd.prog e sz = true) (hn : [t1, t2, t3, s].all (· < E.N) = true) (hd : decide (t1 ≠ t2 ∧ t1 ≠ di) = true)
    (hcl : [t1, t2, t3, s].all (fun t => !(E.ds :: E.slots).contains t) = true) (h : ApP tags E v flex ht s 0 sub c) :
    ElA E v flex da di sz (elW v flex 10 sub) (elA tags v flex ht 10 sub) ((Code.region id #[⟨some t1, .move (.tmp da), ty1, p1, e1, none⟩, ⟨some t2, .move (.tmp di), ty2, p2, e2, none⟩, ⟨some t3, .indexAddr TT (.tmp t1) (.tmp t2), ty3, p3, e3, none⟩, ⟨some s, .assign (.tmp t3), ty4, p4, e4, none⟩] false).seq c) := by
  intro base K bs a w g o n m j x hp hda hdi hj hg hr hl
  obtain ⟨i', hi', hs'⟩ := sizeIs_ok hs
  have hsz := hp.fr.size
  simp only [List.all_cons, List.all_nil, Bool.and_true, Bool.and_eq_true, decide_eq_true_eq] at hn hd
  have hc : ∀ t ∈ E.ds :: E.slots, t ∉ [t1, t2, t3, s] := by
    intro t ht hx
    have := List.all_eq_true.1 hcl t hx
    simp only [Bool.not_eq_true', List.contains_eq_mem, decide_eq_false_iff_not] at this
    exact this ht
  refine wp_seq (reg_indexK (indexOffK_of .i64 (sliceOf_ok hT) hi' hs') (by omega) (by omega) (by omega) (by omega) hd.1 hd.2 hda hdi hj fun a1 hu hs1 => ?_)
  have hp1 : PreA E v flex base K bs a1 w := hp.next hu (fun t ht => hc t (List.mem_cons_of_mem _ ht)) (Below.refl _ _) (by rw [hu.same _ (hc _ (by simp))]; exact hp.own)
  refine wp_mono (h base K bs a1 w g (o + j * sz) x hp1 hs1 hg ⟨by simpa [valRep] using hr.1, hr.2⟩ hl) ?_
  intro e a2 w2 hq
  exact PostA.after hu (Below.refl _ _) (fun t ht => by simp only [writes, List.mem_append]; left; simpa [writes] using ht) (fun t ht => by simp only [writes, List.mem_append]; exact .inr ht) e a2 w2 hq
/-- An element of one cell. -/
theorem ElA.prim {id da di d t1 t2 t3 t4 TT e ty of : Nat} {ty1 ty2 ty3 ty4 ty5 : TypeId} {p1 p2 p3 p4 p5 : String} {e1 e2 e3 e4 e5 : Array Edge} {sub : List F} {c : Code} (hT : sliceOf Tryd.prog TT = some e) (hs : sizeIs Tryd.prog e 1 = true) (hl' : plainTy Tryd.prog ty = true) (hn : [t1, t2, t3, t4, d].all (· < E.N) = true)
    (hd : decide (t1 ≠ t2 ∧ t1 ≠ di) = true) (hcl : [t1, t2, t3, t4, d].all (fun t => !(E.ds :: E.slots).contains t) = true) (hof : decide (of ≠ 7 ∧ of ≠ 10 ∧ of ≠ 11) = true) (h : FA tags E v flex ht (.mk of 0 0 (-1) 0 0 0 sub) d c) :
    ElA E v flex da di 1 (elW v flex of sub) (elA tags v flex ht of sub) ((Code.region id #[⟨some t1, .move (.tmp da), ty1, p1, e1, none⟩, ⟨some t2, .move (.tmp di), ty2, p2, e2, none⟩, ⟨some t3, .indexAddr TT (.tmp t1) (.tmp t2), ty3, p3, e3, none⟩, ⟨some t4, .load ty (.tmp t3), ty4, p4, e4, none⟩,
      ⟨some d, .assign (.tmp t4), ty5, p5, e5, none⟩] false).seq c) := by
  intro base K bs a w g o n m j x hp hda hdi hj hg hr hl
  obtain ⟨i', hi', hs'⟩ := sizeIs_ok hs
  have hsz := hp.fr.size
  have hof' := of_decide_eq_true hof
  simp only [List.all_cons, List.all_nil, Bool.and_true, Bool.and_eq_true, decide_eq_true_eq] at hn hd
  have hc : ∀ t ∈ E.ds :: E.slots, t ∉ [t1, t2, t3, t4, d] := by
    intro t ht hx
    have := List.all_eq_true.1 hcl t hx
    simp only [Bool.not_eq_true', List.contains_eq_mem, decide_eq_false_iff_not] at this
    exact this ht
  have hrf : repF tags v flex ht (.mk of 0 0 (-1) 0 0 0 sub) w K (fun i => w.cell? ⟨g, o + j * 1 + i, none⟩) x := by
    have : valRep false of (repP tags v flex ht sub) w K (fun i => w.cell? ⟨g, o + j * 1 + i, none⟩) x := hr.1
    simp only [repF, fieldRep, if_neg hof'.2.2]
    exact this
  obtain ⟨u, hu0, hru⟩ := rep_one (by simp [oneF, hof'.1, hof'.2.1]) hrf
  refine wp_seq (reg_elemK (indexOffK_of .i64 (sliceOf_ok hT) hi' hs') (load1_ok hl') (by omega) (by omega) (by omega) (by omega) (by omega) hd.1 hd.2 hda hdi hj hu0 fun a1 hu hs1 => ?_)
  have hp1 : PreA E v flex base K bs a1 w := hp.next hu (fun t ht => hc t (List.mem_cons_of_mem _ ht)) (Below.refl _ _) (by rw [hu.same _ (hc _ (by simp))]; exact hp.own)
  have ew : wr v flex (.mk of 0 0 (-1) 0 0 0 sub) x = elW v flex of sub x := by
    have e10 : ¬ (of = 10 ∧ (0 : Int) ≤ -1) := by omega
    simp only [wr, fieldW, if_neg hof'.2.2, if_neg e10]
    have : F.nul ⟨of, 0, 0, -1, 0, 0, 0, sub⟩ v x = false := by simp [F.nul]
    rw [this]; rfl
  have hh := h base K bs a1 w x hp1 (by rw [hs1]; exact ⟨hru, hr.2⟩) (by rw [ew]; exact hl)
  rw [ew] at hh
  refine wp_mono hh ?_
  intro e a2 w2 hq
  exact PostA.after hu (Below.refl _ _) (fun t ht => by simp only [writes, List.mem_append]; left; simpa [writes] using ht) (fun t ht => by simp only [writes, List.mem_append]; exact .inr ht) e a2 w2 hq

/-- A list's field: its length, its elements. -/
theorem FA.listG (htg : flex = true → ht = true) (hT : Stable 1 tags) {ptr : Bool} {id ib i1 i2 i3 i4 da di tM0 tI tL tC tM tN sz of : Nat} {frm to null tag dflt : Int} {sub : List F} {TA TT T' T2 T2' ty1 ty2 ty3 ty4 ty5 ty6 ty7 ty8 : TypeId} {p1 p2 p3 p4 p5 p6 p7 p8 : String} {e1 e2 e3 e4 e5 e6 e7 e8 : Array Edge} {body cL : Code} {lw : T → List UInt8} {e : Nat}
    (hptr : decide (0 ≤ null) = ptr) (hsz : sz = valCells of (cellsP ht sub)) (hlen : Av E v flex da lw (ListA ptr) cL) (hE : ElA E v flex da di sz (elW v flex of sub) (elA tags v flex ht of sub) body) (hTA : sliceOf Tryd.prog TA = some e)
    (hlw : ∀ t : T, t.l.length ≤ most → (t.null = true → ptr = true ∧ t.l = []) → wr v flex (.mk 11 frm to null tag dflt of sub) t = lw t ++ t.l.flatMap (elW v flex of sub))
    (hb : clear (da :: tI :: tL :: E.slots) body = true) (hn : [tC, tM, tN, di, tI, tM0, tL].all (· < E.N) = true) (hcl : [tC, tM, tN, di].all (fun t => !(da :: E.ds :: tI :: tL :: E.slots).contains t) = true) (htI : (da :: E.ds :: tL :: E.slots).contains tI = false)
    (hcl2 : [tM0, tL].all (fun t => !(da :: E.ds :: E.slots).contains t) = true) (hclL : clear (da :: E.slots) cL = true) :
    FA tags E v flex ht (.mk 11 frm to null tag dflt of sub) da (cL.seq ((Code.region i4 #[⟨some tM0, .move (.tmp da), ty6, p6, e6, none⟩, ⟨some tL, .call { callee := .builtin .len, args := #[.tmp tM0], argTypes := #[TA] }, ty7, p7, e7, none⟩, ⟨some tI, .move (.const (.int .i64 0)), ty8, p8, e8, none⟩] false).seq
      (loopW id ib i1 i2 i3 di tI tL tC tM tN TT T' T2 T2' ty1 ty2 ty3 ty4 ty5 p1 p2 p3 p4 p5 e1 e2 e3 e4 e5 body))) := by
  subst hptr hsz
  intro base K bs a w x hp hr hl
  obtain ⟨hr, hfit⟩ := hr
  have hx : ∃ p m, sl a da = .slice p x.l.length m ∧ (x.null = true → decide (0 ≤ null) = true ∧ x.l = []) ∧ (decide (0 ≤ null) = true → (p = none ↔ x.null = true)) ∧
      (x.l = [] ∨ ∃ g o, p = some ⟨g, o, none⟩ ∧ K g ∧ ∀ i y, x.l[i]? = some y → elA tags v flex ht of sub w K (fun j => w.cell? ⟨g, o + i * valCells of (cellsP ht sub) + j, none⟩) y) := by
    simp only [repF, fieldRep, if_true, listRep] at hr
    split at hr
    · rename_i hq
      simp only [Option.some.injEq] at hr
      refine ⟨none, 0, by rw [hr.1, hr.2]; rfl, fun _ => ⟨hq.1, hr.2⟩, fun _ => ⟨fun _ => hq.2, fun _ => rfl⟩, .inl hr.2⟩
    · rename_i hq
      simp only [Option.some.injEq] at hr
      obtain ⟨h1, h2⟩ := hr
      have hnn : x.null = false := by
        by_cases h0 : x.null = true
        · by_cases hz : decide (0 ≤ null) = true
          · exact absurd ⟨hz, h0⟩ hq
          · exact h1 (by simpa using hz)
        · simpa using h0
      rcases h2 with ⟨a1, a2, a3⟩ | ⟨g, o, m, a1, a2, a3, a4⟩
      · exact ⟨none, 0, by rw [a2, a3]; rfl, fun h => absurd (hnn.symm.trans h) (by simp), fun h => absurd (a1.symm.trans h) (by simp), .inl a3⟩
      · exact ⟨_, m, a1, fun h => absurd (hnn.symm.trans h) (by simp), fun _ => ⟨fun h => absurd h (by simp), fun h => absurd (hnn.symm.trans h) (by simp)⟩, .inr ⟨g, o, rfl, a2, fun i y hy => ⟨a4 i y hy, hfit.fa y (List.mem_of_getElem? hy)⟩⟩⟩
  obtain ⟨p, m, hda, hnul, hpn, hel⟩ := hx
  have ew := hlw x hfit.fl hnul
  rw [ew, List.length_append] at hl
  simp only [List.all_cons, List.all_nil, Bool.and_true, Bool.and_eq_true, decide_eq_true_eq] at hn
  obtain ⟨n1, n2, n3, n4, n5, n6, n7⟩ := hn
  have hclL' := clear_iff hclL
  have hc2 : ∀ t ∈ da :: E.ds :: E.slots, t ∉ [tM0, tL] := by
    intro t ht hx
    have := List.all_eq_true.1 hcl2 t hx
    simp only [Bool.not_eq_true', List.contains_eq_mem, decide_eq_false_iff_not] at this
    exact this ht
  have htI' : tI ∉ da :: E.ds :: tL :: E.slots := by simpa [List.contains_eq_mem] using htI
  refine wp_seq (wp_mono (hlen base K bs a w x hp ⟨p, m, hda, hfit.fl, hpn⟩ (by omega)) ?_)
  intro e1' a1 w1 hq
  cases e1' with
  | normal =>
    obtain ⟨hu1, hb1, ho1⟩ := hq
    have hp1 : PreA E v flex base K (bs ++ lw x) a1 w1 := hp.next hu1 (fun t ht => hclL' t (List.mem_cons_of_mem _ ht)) hb1 ho1
    have hda1 : sl a1 da = .slice p x.l.length m := (hu1.same _ (hclL' _ (by simp))).trans hda
    have hN1 := hp1.fr.size
    have hM0 : tM0 ≠ da := fun e => hc2 da (by simp) (by simp [e])
    refine wp_seq (wp_region_lit (st_move (st_val (v := .int .i64 (x.l.length : Int)) (w' := w1) (exec_len_slice (p := p) (c := m) (sliceOf_ok hTA) ?_) (st_move (wpList_nil ?_)))))
    · rw [eval_tmp, sl_put_self _ _ _ (by omega), eval_tmp, hda1]
    generalize hA : (((a1.put (some tM0) (a1.eval (.tmp da))).put (some tL) (.int .i64 (x.l.length : Int))).put (some tI) (((a1.put (some tM0) (a1.eval (.tmp da))).put (some tL) (.int .i64 (x.l.length : Int))).eval (.const (.int .i64 0)))) = a2
    have hu2 : Upd a1 a2 [tM0, tL, tI] := by subst hA; exact ((((Upd.refl a1 _).put tM0 _ (by simp)).put tL _ (by simp)).put tI _ (by simp))
    have hI2 : sl a2 tI = .int .i64 0 := by subst hA; rw [sl_put_self _ _ _ (by simp only [put_size]; omega), eval_const]
    have hL2 : sl a2 tL = .int .i64 (x.l.length : Int) := by subst hA; rw [sl_put_other _ _ _ _ (fun e => htI' (by rw [e]; simp)), sl_put_self _ _ _ (by simp only [put_size]; omega)]
    have hk2 : ∀ t ∈ da :: E.ds :: E.slots, t ∉ [tM0, tL, tI] := by
      intro t ht hx
      simp only [List.mem_cons, List.not_mem_nil, or_false] at hx
      rcases hx with rfl | rfl | rfl
      · exact hc2 _ ht (by simp)
      · exact hc2 _ ht (by simp)
      · exact htI' (by simp only [List.mem_cons] at ht ⊢; rcases ht with h | h | h <;> simp [h])
    have hp2 : PreA E v flex base K (bs ++ lw x) a2 w1 := hp1.next hu2 (fun t ht => hk2 t (by simp [ht])) (Below.refl _ _) (by rw [hu2.same _ (hk2 _ (by simp))]; exact ho1)
    have hl2 : (bs ++ lw x).length + (x.l.flatMap (elW v flex of sub)).length ≤ lim2 := by rw [List.length_append]; omega
    refine wp_mono (loop_writes hE (elA_stable htg hT of sub) hb (by simp [n1, n2, n3, n4, n5]) hcl htI hp2 ((hu2.same _ (hk2 _ (by simp))).trans hda1) hI2 hL2 rfl (by have := hfit.fl; simp only [most] at this; omega) ?_ hl2) ?_
    · rcases hel with h | ⟨g, o, h1, h2, h3⟩
      · exact .inl h
      · exact .inr ⟨g, o, h1, hp.kb g h2, fun i y hy => elA_stable htg hT of sub w w1 K K _ _ y (fun b hb' _ => hb1.block b (hp.kb b hb')) hb1.size (fun b hb' => hb') (fun j _ => below_cell hb1 (hp.kb g h2)) (h3 i y hy)⟩
    · intro e2' a3 w3 hq3
      rw [ew, ← List.append_assoc]
      refine PostA.after (W1 := writes cL ++ [tM0, tL, tI]) ((hu1.mono fun t ht => List.mem_append_left _ ht).trans (hu2.mono fun t ht => List.mem_append_right _ ht)) hb1 (fun t ht => ?_) (fun t ht => ?_) e2' a3 w3 hq3
      · simp only [writes, List.mem_append] at ht ⊢
        rcases ht with ht | ht
        · exact .inl ht
        · right; left; simpa using ht
      · rw [mem_writes_seq, mem_writes_seq]; exact .inr (.inr ht)
  | _ => exact hq.elim
end
end Go.Proofs.YtpknjenihcfhlaaDoor
