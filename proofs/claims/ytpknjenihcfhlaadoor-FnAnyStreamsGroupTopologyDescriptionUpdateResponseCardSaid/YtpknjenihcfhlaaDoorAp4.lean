/-
  Code that writes: lists. Conditions: none.
-/
import Derived.Test.YtpknjenihcfhlaaDoorAp3
namespace Go.Proofs.YtpknjenihcfhlaaDoor
open Go.RowKit (Below)
open Kz

/-- An element's place, the index of a kind. -/
def IndexOffK (P : Program) (k : IntKind) (T sz : Nat) : Prop := ∀ (w : World) (g o n c i : Nat), i < n → (Instr.indexAt T (.slice (some ⟨g, o, none⟩) n c) (.int k i)).run P w = .ok (.pointer (some ⟨g, o + i * sz, none⟩)) w
theorem indexOffK_of {P : Program} (k : IntKind) {T e sz : Nat} {i : TypeInfo} (h : P.underlying T = some (.slice e)) (hi : P.info? e = some i) (hs : i.size = sz) : IndexOffK P k T sz := by
  intro w g o n c j hj
  subst hs
  have hj' : (0 : Int) ≤ j ∧ (j : Int) < n := by omega
  simp only [Instr.indexAt, run_underlying h, asIntOf, sizeOf, typeInfo, hi, Addr.add_mid, Sem.run_bind, Sem.run_pure, Result.andThen_ok, run_program, if_pos hj', Int.toNat_natCast]

section
variable {P : Program} {Q : Exit → Act → World → Prop} {a : Act} {w : World} {id : Nat}
/-- 'v := &a[i]', the index of a kind. -/
theorem reg_indexK {k : IntKind} {x i t1 t2 t3 d T sz g o n c j : Nat} {ty1 ty2 ty3 ty4 : TypeId} {p1 p2 p3 p4 : String} {e1 e2 e3 e4 : Array Edge} (hs : IndexOffK P k T sz) (h1 : t1 < a.tmps.size) (h2 : t2 < a.tmps.size) (h3 : t3 < a.tmps.size) (h4 : d < a.tmps.size)
    (h12 : t1 ≠ t2) (h1i : t1 ≠ i) (hx : sl a x = .slice (some ⟨g, o, none⟩) n c) (hi : sl a i = .int k (j : Int)) (hj : j < n)
    (hq : ∀ a', Upd a a' [t1, t2, t3, d] → sl a' d = .pointer (some ⟨g, o + j * sz, none⟩) → Q .normal a' w) :
    (Code.region id #[⟨some t1, .move (.tmp x), ty1, p1, e1, none⟩, ⟨some t2, .move (.tmp i), ty2, p2, e2, none⟩, ⟨some t3, .indexAddr T (.tmp t1) (.tmp t2), ty3, p3, e3, none⟩, ⟨some d, .assign (.tmp t3), ty4, p4, e4, none⟩] false).wp P Q a w := by
  refine wp_region_lit (st_move (st_move (st_val (v := .pointer (some ⟨g, o + j * sz, none⟩)) (w' := w) ?_ (st_assign (wpList_nil (hq _ (((((Upd.refl a _).put t1 _ (by simp)).put t2 _ (by simp)).put t3 _ (by simp)).put d _ (by simp)) ?_))))))
  · have q1 : ((a.put (some t1) (a.eval (.tmp x))).put (some t2) ((a.put (some t1) (a.eval (.tmp x))).eval (.tmp i))).eval (.tmp t1) = .slice (some ⟨g, o, none⟩) n c := by
      rw [eval_tmp, sl_put_other _ _ _ _ (fun e => h12 e.symm), sl_put_self _ _ _ h1, eval_tmp, hx]
    have q2 : ((a.put (some t1) (a.eval (.tmp x))).put (some t2) ((a.put (some t1) (a.eval (.tmp x))).eval (.tmp i))).eval (.tmp t2) = .int k (j : Int) := by
      rw [eval_tmp, sl_put_self _ _ _ (by simp only [put_size]; exact h2), eval_tmp, sl_put_other _ _ _ _ h1i, hi]
    simp only [execOp, q1, q2, Sem.run_bind, hs w g o n c j hj, Result.andThen_ok, Sem.run_pure]
  · rw [sl_put_self _ _ _ (by simp only [put_size]; exact h4), eval_tmp, sl_put_self _ _ _ (by simp only [put_size]; exact h3)]
/-- 'v := a[i]', an element of one cell. -/
theorem reg_elemK {k : IntKind} {x i t1 t2 t3 t4 d T sz ty g o n c j : Nat} {ty1 ty2 ty3 ty4 ty5 : TypeId} {p1 p2 p3 p4 p5 : String} {e1 e2 e3 e4 e5 : Array Edge} {u : Value} (hs : IndexOffK P k T sz) (hl : Load1 P ty) (h1 : t1 < a.tmps.size) (h2 : t2 < a.tmps.size) (h3 : t3 < a.tmps.size) (h4 : t4 < a.tmps.size) (h5 : d < a.tmps.size)
    (h12 : t1 ≠ t2) (h1i : t1 ≠ i) (hx : sl a x = .slice (some ⟨g, o, none⟩) n c) (hi : sl a i = .int k (j : Int)) (hj : j < n) (hc : w.cell? ⟨g, o + j * sz, none⟩ = some u)
    (hq : ∀ a', Upd a a' [t1, t2, t3, t4, d] → sl a' d = u → Q .normal a' w) :
    (Code.region id #[⟨some t1, .move (.tmp x), ty1, p1, e1, none⟩, ⟨some t2, .move (.tmp i), ty2, p2, e2, none⟩, ⟨some t3, .indexAddr T (.tmp t1) (.tmp t2), ty3, p3, e3, none⟩, ⟨some t4, .load ty (.tmp t3), ty4, p4, e4, none⟩, ⟨some d, .assign (.tmp t4), ty5, p5, e5, none⟩] false).wp P Q a w := by
  refine wp_region_lit (st_move (st_move (st_val (v := .pointer (some ⟨g, o + j * sz, none⟩)) (w' := w) ?_ (st_load (b := g) (o := o + j * sz) (v := u) hl ?_ hc (st_assign (wpList_nil (hq _ ((((((Upd.refl a _).put t1 _ (by simp)).put t2 _ (by simp)).put t3 _ (by simp)).put t4 _ (by simp)).put d _ (by simp)) ?_)))))))
  · have q1 : ((a.put (some t1) (a.eval (.tmp x))).put (some t2) ((a.put (some t1) (a.eval (.tmp x))).eval (.tmp i))).eval (.tmp t1) = .slice (some ⟨g, o, none⟩) n c := by
      rw [eval_tmp, sl_put_other _ _ _ _ (fun e => h12 e.symm), sl_put_self _ _ _ h1, eval_tmp, hx]
    have q2 : ((a.put (some t1) (a.eval (.tmp x))).put (some t2) ((a.put (some t1) (a.eval (.tmp x))).eval (.tmp i))).eval (.tmp t2) = .int k (j : Int) := by
      rw [eval_tmp, sl_put_self _ _ _ (by simp only [put_size]; exact h2), eval_tmp, sl_put_other _ _ _ _ h1i, hi]
    simp only [execOp, q1, q2, Sem.run_bind, hs w g o n c j hj, Result.andThen_ok, Sem.run_pure]
  · rw [eval_tmp, sl_put_self _ _ _ (by simp only [put_size]; exact h3)]
  · rw [sl_put_self _ _ _ (by simp only [put_size]; exact h5), eval_tmp, sl_put_self _ _ _ (by simp only [put_size]; exact h4)]
end

section
variable {tags : Rel (List (Nat × List UInt8))} {E : WE} {v : Int} {flex ht : Bool}

/-- A code that writes an element. -/
def ElA (E : WE) (v : Int) (flex : Bool) (da di sz : Nat) (wrt : T → List UInt8) (R : Rel T) (c : Code) : Prop :=
  ∀ (base : Nat) (K : Nat → Prop) (bs : List UInt8) (a : Act) (w : World) (g o n m j : Nat) (x : T), PreA E v flex base K bs a w → sl a da = .slice (some ⟨g, o, none⟩) n m → sl a di = .int .i64 (j : Int) → j < n → g < base →
    R w K (fun i => w.cell? ⟨g, o + j * sz + i, none⟩) x → bs.length + (wrt x).length ≤ lim2 → c.wp Tryd.prog (PostA E (writes c) base (bs ++ wrt x) a w) a w

abbrev loopW (id ib i1 i2 i3 di tI tL tC tM tN : Nat) (T T' T2 T2' ty1 ty2 ty3 ty4 ty5 : TypeId) (p1 p2 p3 p4 p5 : String) (e1 e2 e3 e4 e5 : Array Edge) (body : Code) : Code :=
  Code.block id (Code.loop ((Code.region i1 #[⟨some tC, .binOp .lss T (.tmp tI) (.tmp tL) T', ty1, p1, e1, none⟩] false).seq ((Code.cond (.tmp tC) Code.skip (Code.exit id)).seq
    ((Code.block ib ((Code.region i2 #[⟨some tM, .move (.tmp tI), ty2, p2, e2, none⟩, ⟨some di, .assign (.tmp tM), ty3, p3, e3, none⟩] false).seq body)).seq
      (Code.region i3 #[⟨some tN, .binOp .add T2 (.tmp tI) (.const (.int .i64 1)) T2', ty4, p4, e4, none⟩, ⟨some tI, .move (.tmp tN), ty5, p5, e5, none⟩] false)))))

theorem wrap_i64 (n : Int) (h : -9223372036854775808 ≤ n ∧ n < 9223372036854775808) : IntKind.wrap .i64 n = n := by
  rw [IntKind.wrap_i64]; omega

/-- The octets of so many elements. -/
theorem loop_writes {id ib i1 i2 i3 da di tI tL tC tM tN sz : Nat} {TT T' T2 T2' ty1 ty2 ty3 ty4 ty5 : TypeId} {p1 p2 p3 p4 p5 : String} {e1 e2 e3 e4 e5 : Array Edge} {body : Code} {wrt : T → List UInt8} {R : Rel T}
    (hE : ElA E v flex da di sz wrt R body) (hst : Stable sz R) (hb : clear (da :: tI :: tL :: E.slots) body = true) (hn : [tC, tM, tN, di, tI].all (· < E.N) = true)
    (hcl : [tC, tM, tN, di].all (fun t => !(da :: E.ds :: tI :: tL :: E.slots).contains t) = true) (htI : (da :: E.ds :: tL :: E.slots).contains tI = false)
    {base : Nat} {K : Nat → Prop} {bs : List UInt8} {a0 : Act} {w0 : World} {p : Option Addr} {n m : Nat} {l : List T} (hp : PreA E v flex base K bs a0 w0) (hda : sl a0 da = .slice p n m) (hI : sl a0 tI = .int .i64 0) (hL : sl a0 tL = .int .i64 (n : Int)) (hln : l.length = n) (hn31 : n ≤ 2147483647)
    (hel : l = [] ∨ ∃ g o, p = some ⟨g, o, none⟩ ∧ g < base ∧ ∀ i x, l[i]? = some x → R w0 K (fun j => w0.cell? ⟨g, o + i * sz + j, none⟩) x) (hl : bs.length + (l.flatMap wrt).length ≤ lim2) :
    (loopW id ib i1 i2 i3 di tI tL tC tM tN TT T' T2 T2' ty1 ty2 ty3 ty4 ty5 p1 p2 p3 p4 p5 e1 e2 e3 e4 e5 body).wp Tryd.prog
      (PostA E (writes (loopW id ib i1 i2 i3 di tI tL tC tM tN TT T' T2 T2' ty1 ty2 ty3 ty4 ty5 p1 p2 p3 p4 p5 e1 e2 e3 e4 e5 body)) base (bs ++ l.flatMap wrt) a0 w0) a0 w0 := by
  simp only [List.all_cons, List.all_nil, Bool.and_true, Bool.and_eq_true, decide_eq_true_eq] at hn
  obtain ⟨n1, n2, n3, n4, n5⟩ := hn
  have hbc := clear_iff hb
  have hc4 : ∀ t ∈ da :: E.ds :: tI :: tL :: E.slots, t ∉ [tC, tM, tN, di] := by
    intro t ht hx
    have := List.all_eq_true.1 hcl t hx
    simp only [Bool.not_eq_true', List.contains_eq_mem, decide_eq_false_iff_not] at this
    exact this ht
  have htI' : tI ∉ da :: E.ds :: tL :: E.slots := by simpa [List.contains_eq_mem] using htI
  let W := writes (loopW id ib i1 i2 i3 di tI tL tC tM tN TT T' T2 T2' ty1 ty2 ty3 ty4 ty5 p1 p2 p3 p4 p5 e1 e2 e3 e4 e5 body)
  have hW : ∀ t, t ∈ W ↔ t = tC ∨ t = tM ∨ t = di ∨ t ∈ writes body ∨ t = tN ∨ t = tI := by intro t; simp [W, writes]
  -- what stays over the whole loop
  have hkeep : ∀ {a : Act}, Upd a0 a W → ∀ t ∈ da :: tL :: E.slots, sl a t = sl a0 t := by
    intro a hu t ht
    refine hu.same t fun hx => ?_
    have ht2 : t ∈ da :: E.ds :: tI :: tL :: E.slots := by
      simp only [List.mem_cons] at ht ⊢
      rcases ht with h | h | h
      · exact .inl h
      · exact .inr (.inr (.inr (.inl h)))
      · exact .inr (.inr (.inr (.inr h)))
    have ht3 : t ∈ da :: E.ds :: tL :: E.slots := by
      simp only [List.mem_cons] at ht ⊢
      rcases ht with h | h | h
      · exact .inl h
      · exact .inr (.inr (.inl h))
      · exact .inr (.inr (.inr h))
    have ht4 : t ∈ da :: tI :: tL :: E.slots := by
      simp only [List.mem_cons] at ht ⊢
      rcases ht with h | h | h
      · exact .inl h
      · exact .inr (.inr (.inl h))
      · exact .inr (.inr (.inr h))
    rcases (hW t).1 hx with rfl | rfl | rfl | h | rfl | rfl
    · exact hc4 _ ht2 (by simp)
    · exact hc4 _ ht2 (by simp)
    · exact hc4 _ ht2 (by simp)
    · exact hbc _ ht4 h
    · exact hc4 _ ht2 (by simp)
    · exact htI' ht3
  refine wp_block ?_
  refine wp_loop (I := fun a w => ∃ (i : Nat), i ≤ n ∧ Upd a0 a W ∧ sl a tI = .int .i64 (i : Int) ∧ Below base w0 w ∧ OwnB w base (sl a E.ds) (bs ++ (l.take i).flatMap wrt))
    (μ := fun a _ => match sl a tI with | .int _ i => n - i.toNat | _ => 0)
    ⟨0, Nat.zero_le _, Upd.refl _ _, hI, Below.refl _ _, by simpa using hp.own⟩ ?_
  rintro a w ⟨i, hi, hu, hti, hbel, hown⟩
  have hfr : FrW E v flex a := {
    size := hu.size.trans hp.fr.size
    defers := hu.defers.trans hp.fr.defers
    vs := (hkeep hu _ (by simp [WE.slots])).trans hp.fr.vs
    fs := fun t ht => (hkeep hu _ (by simp [WE.slots, ht])).trans (hp.fr.fs t ht) }
  have hsz := hfr.size
  refine wp_seq (wp_region_lit (st_val (v := .bool (decide (i < n))) (w' := w) ?_ (wpList_nil ?_)))
  · refine exec_bin (by rw [eval_tmp, hti]) (by rw [eval_tmp, hkeep hu tL (by simp), hL]) (eqGuard_lss ..) ?_
    rw [binOp_lss]; simp
  have hu1 : Upd a (a.put (some tC) (.bool (decide (i < n)))) [tC] := (Upd.refl a _).put tC _ (by simp)
  have hs1 : sl (a.put (some tC) (.bool (decide (i < n)))) tC = .bool (decide (i < n)) := sl_put_self _ _ _ (by omega)
  generalize a.put (some tC) (.bool (decide (i < n))) = a1 at hu1 hs1
  have hk1 : ∀ t ∈ da :: E.ds :: tI :: tL :: E.slots, sl a1 t = sl a t := fun t ht => hu1.same t (fun hx => hc4 t ht (by simp only [List.mem_singleton] at hx; simp [hx]))
  have hu01 : Upd a0 a1 W := hu.trans (hu1.mono fun t ht => (hW t).2 (by simp only [List.mem_singleton] at ht; exact .inl ht))
  by_cases hin : i < n
  · rw [decide_eq_true hin] at hs1
    refine wp_seq (wp_cond_true (by rw [eval_tmp, hs1]) (wp_skip ?_))
    have hlt : i < l.length := by omega
    obtain ⟨g, o, rfl, hg, hR⟩ : ∃ g o, p = some ⟨g, o, none⟩ ∧ g < base ∧ ∀ i x, l[i]? = some x → R w0 K (fun j => w0.cell? ⟨g, o + i * sz + j, none⟩) x := by
      rcases hel with rfl | h
      · simp at hlt
      · exact h
    have hx := hR i l[i] (List.getElem?_eq_getElem hlt)
    have hsplit : l.take (i + 1) = l.take i ++ [l[i]] := by rw [List.take_add_one, List.getElem?_eq_getElem hlt]; rfl
    have hlen : (bs ++ (l.take i).flatMap wrt).length + (wrt l[i]).length ≤ lim2 := by
      have e : l = l.take i ++ (l[i] :: l.drop (i + 1)) := by rw [← List.drop_eq_getElem_cons hlt, List.take_append_drop]
      rw [e] at hl
      simp only [List.flatMap_append, List.flatMap_cons, List.length_append] at hl ⊢
      omega
    -- the body
    refine wp_seq (wp_block (wp_seq (reg_copy (by rw [hu1.size]; omega) (by rw [hu1.size]; omega) fun a2 hu2 hs2 => ?_)))
    have hk2 : ∀ t ∈ da :: E.ds :: tI :: tL :: E.slots, sl a2 t = sl a t := fun t ht => (hu2.same t (fun hx => hc4 t ht (by
      simp only [List.mem_cons, List.not_mem_nil, or_false] at hx
      rcases hx with rfl | rfl <;> simp))).trans (hk1 t ht)
    have hu02 : Upd a0 a2 W := hu01.trans (hu2.mono fun t ht => (hW t).2 (by
      simp only [List.mem_cons, List.not_mem_nil, or_false] at ht
      rcases ht with rfl | rfl
      · exact .inr (.inl rfl)
      · exact .inr (.inr (.inl rfl))))
    have hfr2 : FrW E v flex a2 := {
      size := hu02.size.trans hp.fr.size
      defers := hu02.defers.trans hp.fr.defers
      vs := (hkeep hu02 _ (by simp [WE.slots])).trans hp.fr.vs
      fs := fun t ht => (hkeep hu02 _ (by simp [WE.slots, ht])).trans (hp.fr.fs t ht) }
    have hp2 : PreA E v flex base K (bs ++ (l.take i).flatMap wrt) a2 w := ⟨hfr2, below_size hbel hp.le, hp.kb, by rw [hk2 _ (by simp)]; exact hown⟩
    refine wp_mono (hE base K _ a2 w g o n m i l[i] hp2 ((hkeep hu02 _ (by simp)).trans hda) (hs2.trans ((hk1 _ (by simp)).trans hti)) hin hg ?_ hlen) ?_
    · exact hst w0 w K K _ _ _ (fun b hb' _ => hbel.block b (hp.kb b hb')) hbel.size (fun b hb' => hb') (fun j _ => below_cell hbel hg) hx
    intro e a3 w3 hq
    cases e with
    | normal =>
      obtain ⟨hu3, hbel3, hown3⟩ := hq
      have hu03 : Upd a0 a3 W := hu02.trans (hu3.mono fun t ht => (hW t).2 (.inr (.inr (.inr (.inl ht)))))
      have ht3 : sl a3 tI = .int .i64 (i : Int) := (hu3.same _ (hbc _ (by simp))).trans ((hk2 _ (by simp)).trans hti)
      have hN3 := hu03.size.trans hp.fr.size
      simp only [Exit.inBlock]
      refine wp_region_lit (st_val (v := .int .i64 ((i + 1 : Nat) : Int)) (w' := w3) (exec_add (k := .i64) (by rw [eval_tmp, ht3]) (eval_const _ _) (by rw [wrap_i64 _ (by omega)]; rfl)) (st_move (wpList_nil ?_)))
      generalize hA : (a3.put (some tN) (.int .i64 ((i + 1 : Nat) : Int))).put (some tI) ((a3.put (some tN) (.int .i64 ((i + 1 : Nat) : Int))).eval (.tmp tN)) = a4
      have hu4 : Upd a3 a4 [tN, tI] := by subst hA; exact (((Upd.refl a3 _).put tN _ (by simp)).put tI _ (by simp))
      have hs4 : sl a4 tI = .int .i64 ((i + 1 : Nat) : Int) := by subst hA; rw [sl_put_self _ _ _ (by rw [put_size]; omega), eval_tmp, sl_put_self _ _ _ (by omega)]
      have hd4 : sl a4 E.ds = sl a3 E.ds := hu4.same _ (by
        simp only [List.mem_cons, List.not_mem_nil, or_false]
        rintro (h | h)
        · exact hc4 E.ds (by simp) (by simp [h])
        · exact htI' (by rw [← h]; simp))
      refine ⟨⟨i + 1, by omega, hu03.trans (hu4.mono fun t ht => (hW t).2 (by
        simp only [List.mem_cons, List.not_mem_nil, or_false] at ht
        rcases ht with rfl | rfl
        · exact .inr (.inr (.inr (.inr (.inl rfl))))
        · exact .inr (.inr (.inr (.inr (.inr rfl)))))), hs4, hbel.trans hbel3, ?_⟩, ?_⟩
      · rw [hd4, hsplit]
        simp only [List.flatMap_append, List.flatMap_cons, List.flatMap_nil, List.append_nil, ← List.append_assoc]
        simpa only [List.append_assoc] using hown3
      · simp only [hs4, hti]; omega
    | _ => exact hq.elim
  · rw [decide_eq_false hin] at hs1
    refine wp_seq (wp_cond_false (by rw [eval_tmp, hs1]) (wp_exit ?_))
    simp only [Exit.then, Exit.inBlock, if_pos]
    have e : i = l.length := by omega
    subst e
    rw [List.take_length] at hown
    exact ⟨hu01, hbel, by rw [hk1 _ (by simp)]; exact hown⟩
end
end Go.Proofs.YtpknjenihcfhlaaDoor
