/-
  Known tags, written: a list. Conditions: none.
-/
import Derived.Test.YtoklbgdafnminaaGreatDoorKw10
namespace Go.Proofs.YtoklbgdafnminaaGreatDoor
open Go.RowKit (Below)
open Kz

section
variable {E : WE} {v : Int} {sp off : Nat}
theorem FW.measuredL {key la sz d id t1 t2 l ib i1 i2 i3 i4 i0 di tM0 tI tL tC tM tN sz' of : Nat} {frm to tag dflt : Int} {sub : List F} {T y1 y2 TA TT T' T2 T2' ty1 ty2 ty3 ty4 ty5 ty6 ty7 ty8 : TypeId} {p1 p2 p1' p2' p3' p4' p5' p6' p7' p8' : String} {e1 e2 e1' e2' e3' e4' e5' e6' e7' e8' : Array Edge} {c1 cK r1 r2 cM cS cL body : Code} {e : Nat}
    (h1 : SLoad E.N sp off d c1) (hK : Ac E v true (uv key) cK) (hr1 : SConst E.N sz (.bool false) r1) (hr2 : SLenD E la r2)
    (hsz : sz' = valCells of (cellsP true sub)) (hlen : Av E v true d (lenB true) (ListA false) cL) (hE : ElA E v true d di sz' (elW v true of sub) (elA TagRep v true true of sub) body) (hTA : sliceOf Tryz.prog TA = some e)
    (hb : clear (d :: tI :: tL :: sz :: la :: E.slots) body = true) (hn : [tC, tM, tN, di, tI, tM0, tL].all (· < E.N) = true) (hcl' : [tC, tM, tN, di].all (fun t => !(d :: E.ds :: tI :: tL :: sz :: la :: E.slots).contains t) = true) (htI : (d :: E.ds :: tL :: sz :: la :: E.slots).contains tI = false)
    (hcl2 : [tM0, tL].all (fun t => !(d :: E.ds :: sz :: la :: E.slots).contains t) = true) (hclL : clear (d :: sz :: la :: E.slots) cL = true)
    (hM : SMeas E v la cM) (hS : SConst E.N sz (.bool true) cS)
    (hfl : findLabel (c1.seq (cK.seq (r1.seq (r2.seq ((Code.label l).seq (cL.seq (((Code.region i4 #[⟨some tM0, .move (.tmp d), ty6, p6', e6', none⟩, ⟨some tL, .call { callee := .builtin .len, args := #[.tmp tM0], argTypes := #[TA] }, ty7, p7', e7', none⟩, ⟨some tI, .move (.const (.int .i64 0)), ty8, p8', e8', none⟩] false).seq (loopW i0 ib i1 i2 i3 di tI tL tC tM tN TT T' T2 T2' ty1 ty2 ty3 ty4 ty5 p1' p2' p3' p4' p5' e1' e2' e3' e4' e5' body)).seq (againC id sz t1 t2 l T y1 y2 p1 p2 e1 e2 cM cS)))))))) l = some (Code.skip.seq (cL.seq (((Code.region i4 #[⟨some tM0, .move (.tmp d), ty6, p6', e6', none⟩, ⟨some tL, .call { callee := .builtin .len, args := #[.tmp tM0], argTypes := #[TA] }, ty7, p7', e7', none⟩, ⟨some tI, .move (.const (.int .i64 0)), ty8, p8', e8', none⟩] false).seq (loopW i0 ib i1 i2 i3 di tI tL tC tM tN TT T' T2 T2' ty1 ty2 ty3 ty4 ty5 p1' p2' p3' p4' p5' e1' e2' e3' e4' e5' body)).seq (againC id sz t1 t2 l T y1 y2 p1 p2 e1 e2 cM cS)))))
    (hcl : clear (E.ds :: E.slots) c1 = true) (hcK : clear (d :: E.slots) cK = true) (hc1' : clear (d :: E.ds :: E.slots) r1 = true) (hc2 : clear (d :: sz :: E.ds :: E.slots) r2 = true) (hcM : clear (d :: sz :: E.slots) cM = true) (hcS : clear (d :: E.ds :: E.slots) cS = true)
    (hT : [t1, t2].all (fun t => decide (t < E.N) && !(d :: sz :: la :: E.ds :: E.slots).contains t) = true) :
    FW E v sp off (.mk 11 frm to (-1) tag dflt of sub) key (Code.scope (c1.seq (cK.seq (r1.seq (r2.seq ((Code.label l).seq (cL.seq (((Code.region i4 #[⟨some tM0, .move (.tmp d), ty6, p6', e6', none⟩, ⟨some tL, .call { callee := .builtin .len, args := #[.tmp tM0], argTypes := #[TA] }, ty7, p7', e7', none⟩, ⟨some tI, .move (.const (.int .i64 0)), ty8, p8', e8', none⟩] false).seq (loopW i0 ib i1 i2 i3 di tI tL tC tM tN TT T' T2 T2' ty1 ty2 ty3 ty4 ty5 p1' p2' p3' p4' p5' e1' e2' e3' e4' e5' body)).seq (againC id sz t1 t2 l T y1 y2 p1 p2 e1 e2 cM cS))))))))) := by
  intro base K bs a w cb co x hp hsp hcb hr hft _ hl hl2
  subst hsz
  obtain ⟨u, hu0, hru⟩ := rep_one (f := .mk 11 frm to (-1) tag dflt of sub) (by rfl) hr
  have kc := clear_iff hcl
  have hclL' := clear_iff hclL
  have hbB := clear_iff hb
  simp only [List.all_cons, List.all_nil, Bool.and_true, Bool.and_eq_true, decide_eq_true_eq] at hn
  obtain ⟨n1, n2, n3, n4, n5, n6, n7⟩ := hn
  have hc4 : ∀ t ∈ d :: E.ds :: tI :: tL :: sz :: la :: E.slots, t ∉ [tC, tM, tN, di] := fun t ht hx => by
    have := List.all_eq_true.1 hcl' t hx
    simp only [Bool.not_eq_true', List.contains_eq_mem, decide_eq_false_iff_not] at this
    exact this ht
  have hc2' : ∀ t ∈ d :: E.ds :: sz :: la :: E.slots, t ∉ [tM0, tL] := fun t ht hx => by
    have := List.all_eq_true.1 hcl2 t hx
    simp only [Bool.not_eq_true', List.contains_eq_mem, decide_eq_false_iff_not] at this
    exact this ht
  have htI' : tI ∉ d :: E.ds :: tL :: sz :: la :: E.slots := by simpa [List.contains_eq_mem] using htI
  generalize hLW : loopW i0 ib i1 i2 i3 di tI tL tC tM tN TT T' T2 T2' ty1 ty2 ty3 ty4 ty5 p1' p2' p3' p4' p5' e1' e2' e3' e4' e5' body = LW at hfl ⊢
  have hwLW : ∀ t ∈ d :: sz :: la :: E.slots, t ∉ writes LW := fun t ht hx => by
    rw [← hLW] at hx
    have h4 := hc4 t (by simp only [List.mem_cons] at ht ⊢; rcases ht with h | h | h | h <;> simp [h])
    have hbt := hbB t (by simp only [List.mem_cons] at ht ⊢; rcases ht with h | h | h | h <;> simp [h])
    have hI : t ≠ tI := fun e => htI' (by rw [← e]; simp only [List.mem_cons] at ht ⊢; rcases ht with h | h | h | h <;> simp [h])
    simp only [List.mem_cons, List.not_mem_nil, or_false, not_or] at h4
    simp only [writes, List.mem_append, List.not_mem_nil, or_false, false_or] at hx
    simp at hx
    rcases hx with h | (h | h) | h
    · exact h4.1 h
    · rcases h with h | h
      · exact h4.2.1 h
      · exact h4.2.2.2 h
    · exact hbt h
    · rcases h with h | h
      · exact h4.2.2.1 h
      · exact hI h
  refine goto_wp (id := id) (t1 := t1) (t2 := t2) (l := l) (T := T) (y1 := y1) (y2 := y2) (p1 := p1) (p2 := p2) (e1 := e1) (e2 := e2) (d := d) (Inv := fun a' w' => sl a' d = u ∧ repF TagRep v true true (.mk 11 frm to (-1) tag dflt of sub) w' K (fun _ => some u) x) (WX := writes cL ++ ([tM0, tL, tI] ++ writes LW)) hp ?_ ?_ hK hr1 hr2 hM hS ?_ hfl hcK hc1' hc2 hcM hcS ?_ hT (fun t ht => ?_) (fun t ht => ?_) hl hl2
  · rintro a w a' w' ⟨s, r⟩ hs hb
    exact ⟨hs.trans s, stable_repF (fun _ => rfl) stable_tagRep _ w w' K K _ _ x (fun g hg _ => hb.block g (hp.kb g hg)) hb.size (fun _ h => h) (fun _ _ => rfl) r⟩
  · intro Q hq
    refine h1 a w _ cb co u hp.fr.size hsp (by simpa using hu0) fun a1 u1 s1 => ?_
    exact hq a1 w u1 (hp.next u1 (fun t ht => kc t (by simp [ht])) (Bel.refl _ _) (by rw [u1.same _ (kc _ (by simp))]; exact hp.own)) (Bel.refl _ _) ⟨s1, hru⟩
  · intro bs a w Q hp1 hi hl1 hq
    obtain ⟨hda0, hrw⟩ := hi
    have hx : ∃ p m, u = .slice p x.l.length m ∧
        (x.l = [] ∨ ∃ g o, p = some ⟨g, o, none⟩ ∧ K g ∧ ∀ i y, x.l[i]? = some y → elA TagRep v true true of sub w K (fun j => w.cell? ⟨g, o + i * valCells of (cellsP true sub) + j, none⟩) y) := by
      have hr' : listRep false (valCells of (cellsP true sub)) (valRep false of (asmRep TagRep v true true sub (repFs TagRep v true true sub))) w K (fun _ => some u) x := hrw
      simp only [listRep, Bool.false_eq_true, false_and, if_false, Option.some.injEq] at hr'
      rcases hr'.2 with ⟨-, a2, a3⟩ | ⟨g, o, m, a1, a2, a3, a4⟩
      · exact ⟨none, 0, by rw [a2, a3]; rfl, .inl a3⟩
      · exact ⟨_, m, a1, .inr ⟨g, o, rfl, a2, fun i y hy => ⟨a4 i y hy, hft.fa y (List.mem_of_getElem? hy)⟩⟩⟩
    obtain ⟨p, m, hum, hel⟩ := hx
    have hda : sl a d = .slice p x.l.length m := hda0.trans hum
    have ew : wr v true (.mk 11 frm to (-1) tag dflt of sub) x = lenB true x ++ x.l.flatMap (elW v true of sub) := FA.list_w (by decide) x hft.fl
    rw [ew] at hl1 hq
    rw [List.length_append] at hl1
    refine wp_seq (wp_mono (hlen base K bs a w x hp1 ⟨p, m, hda, hft.fl, fun h => by cases h⟩ (by omega)) ?_)
    intro e1'' a1 w1 hq1
    cases e1'' with
    | normal =>
      obtain ⟨hu1, hb1, ho1⟩ := hq1
      have hp2 : PreA E v true base K (bs ++ lenB true x) a1 w1 := hp1.next hu1 (fun t ht => hclL' t (by simp [ht])) hb1 ho1
      have hda1 : sl a1 d = .slice p x.l.length m := (hu1.same _ (hclL' _ (by simp))).trans hda
      have hN1 := hp2.fr.size
      refine wp_seq (wp_seq (wp_region_lit (st_move (st_val (v := .int .i64 (x.l.length : Int)) (w' := w1) (exec_len_slice (p := p) (c := m) (sliceOf_ok hTA) ?_) (st_move (wpList_nil ?_))))))
      · rw [eval_tmp, sl_put_self _ _ _ (by omega), eval_tmp, hda1]
      generalize hA : (((a1.put (some tM0) _).put (some tL) _).put (some tI) _) = a2
      have hu2 : Upd a1 a2 [tM0, tL, tI] := by subst hA; exact ((((Upd.refl a1 _).put tM0 _ (by simp)).put tL _ (by simp)).put tI _ (by simp))
      have hI2 : sl a2 tI = .int .i64 0 := by subst hA; rw [sl_put_self _ _ _ (by simp only [put_size]; omega), eval_const]
      have hL2 : sl a2 tL = .int .i64 (x.l.length : Int) := by subst hA; rw [sl_put_other _ _ _ _ (fun e => htI' (by rw [e]; simp)), sl_put_self _ _ _ (by simp only [put_size]; omega)]
      clear hA
      have hk2 : ∀ t ∈ d :: E.ds :: sz :: la :: E.slots, t ∉ [tM0, tL, tI] := by
        intro t ht hx
        simp only [List.mem_cons, List.not_mem_nil, or_false] at hx
        rcases hx with rfl | rfl | rfl
        · exact hc2' _ ht (by simp)
        · exact hc2' _ ht (by simp)
        · exact htI' (by simp only [List.mem_cons] at ht ⊢; rcases ht with h | h | h | h | h <;> simp [h])
      have hp3 : PreA E v true base K (bs ++ lenB true x) a2 w1 := hp2.next hu2 (fun t ht => hk2 t (by simp [ht])) (Bel.refl _ _) (by rw [hu2.same _ (hk2 _ (by simp))]; exact ho1)
      have hl2' : (bs ++ lenB true x).length + (x.l.flatMap (elW v true of sub)).length ≤ lim2 := by rw [List.length_append]; omega
      subst hLW
      refine wp_mono (loop_writes hE (elA_stable (fun _ => rfl) stable_tagRep of sub) (List.all_eq_true.2 fun t ht => List.all_eq_true.1 hb t (by simp only [List.mem_cons] at ht ⊢; rcases ht with h | h | h | h <;> simp [h])) (by simp [n1, n2, n3, n4, n5])
        (List.all_eq_true.2 fun t ht => by
          simp only [Bool.not_eq_true', List.contains_eq_mem, decide_eq_false_iff_not]
          intro h
          exact hc4 t (by simp only [List.mem_cons] at h ⊢; rcases h with h | h | h | h | h <;> simp [h]) ht)
        (by simp only [List.contains_eq_mem, decide_eq_false_iff_not]; intro h; exact htI' (by simp only [List.mem_cons] at h ⊢; rcases h with h | h | h | h <;> simp [h]))
        hp3 ((hu2.same _ (hk2 _ (by simp))).trans hda1) hI2 hL2 rfl (by have := hft.fl; simp only [most] at this; omega) ?_ hl2') ?_
      · rcases hel with h | ⟨g, o, h1, h2, h3⟩
        · exact .inl h
        · exact .inr ⟨g, o, h1, hp.kb g h2, fun i y hy => elA_stable (fun _ => rfl) stable_tagRep of sub w w1 K K _ _ y (fun b hb' _ => hb1.block b (hp.kb b hb')) hb1.size (fun b hb' => hb') (fun j _ => below_cell hb1 (hp.kb g h2)) (h3 i y hy)⟩
      · intro e2'' a3 w3 hq3
        cases e2'' with
        | normal =>
          obtain ⟨u3, b3, o3⟩ := hq3
          have b13 := hb1.trans b3
          refine hq a3 w3 (((hu1.mono fun t ht => List.mem_append_left _ ht).trans (hu2.mono fun t ht => List.mem_append_right _ (List.mem_append_left _ ht))).trans (u3.mono fun t ht => List.mem_append_right _ (List.mem_append_right _ ht))) ?_ b13 ⟨?_, ?_⟩
          · rw [← List.append_assoc]
            exact hp3.next u3 (fun t ht => hwLW t (by simp [ht])) b3 o3
          · rw [u3.same _ (hwLW _ (by simp)), hu2.same _ (hk2 _ (by simp)), hu1.same _ (hclL' _ (by simp))]; exact hda0
          · exact stable_repF (fun _ => rfl) stable_tagRep _ w w3 K K _ _ x (fun g hg _ => b13.block g (hp.kb g hg)) b13.size (fun _ h => h) (fun _ _ => rfl) hrw
        | _ => exact hq3.elim
    | _ => exact hq1.elim
  · refine List.all_eq_true.2 fun t ht => ?_
    simp only [Bool.not_eq_true', List.contains_eq_mem, decide_eq_false_iff_not, List.mem_append, not_or]
    refine ⟨hclL' t ht, fun h => ?_, hwLW t ht⟩
    have h5 : t ∈ d :: E.ds :: sz :: la :: E.slots := by simp only [List.mem_cons] at ht ⊢; rcases ht with h | h | h | h <;> simp [h]
    have h6 : t ∈ d :: E.ds :: tL :: sz :: la :: E.slots := by simp only [List.mem_cons] at ht ⊢; rcases ht with h | h | h | h <;> simp [h]
    simp only [List.mem_cons, List.not_mem_nil, or_false] at h
    rcases h with h | h | h
    · exact hc2' t h5 (by simp [h])
    · exact hc2' t h5 (by simp [h])
    · exact htI' (h ▸ h6)
  · simp only [writes, List.mem_append] at ht ⊢
    rcases ht with h | h | h
    · exact .inl h
    · exact .inr (.inl (.inl (by simpa using h)))
    · exact .inr (.inl (.inr h))
  · simp only [writes, List.mem_append, List.append_nil]
    refine .inr (.inr ?_)
    rcases ht with h | h | h
    · exact .inl (by simpa using h)
    · exact .inr (.inl h)
    · exact .inr (.inr h)
end
end Go.Proofs.YtoklbgdafnminaaGreatDoor
