/-
  Lists that may be null: written. Conditions: none.
-/
import Derived.Test.YtoklbgdafnminaaGreatDoorY5
namespace Go.Proofs.YtoklbgdafnminaaGreatDoor
open Go.RowKit (Below)
open Kz

/-- The length's octets. -/
def lenNB (flex : Bool) (t : T) : List UInt8 := counted flex t.null t.l.length 4
def WritesLenN (f : Nat) (fx : Bool) : Prop :=
  hasBody Tryz.prog f = true ∧ ∀ (base : Nat) (bs : List UInt8) (w : World) (v : Value) (n : Nat) (q : Bool), OwnB w base v bs → base ≤ w.heap.size → n ≤ most → bs.length + (counted fx q n 4).length ≤ lim2 →
    Calls Tryz.prog f #[v, .int .i64 (n : Int), .bool q] w fun e w' => ∃ v', e = .returned v' ∧ OwnB w' base v' (bs ++ counted fx q n 4) ∧ Below base w w'
theorem nl_equalIn (w : World) (d : Nat) (t e : TypeId) (a : Option Addr) (l c : Nat) (h : Tryz.prog.underlying t = some (.slice e)) : (Op.equalIn (d + 1) t (.slice a l c) (.slice none 0 0)).run Tryz.prog w = .ok a.isNone w := by
  cases a <;> simp [Op.equalIn, run_underlying h]
theorem nl_eql (w : World) (t e : TypeId) (a : Option Addr) (l c : Nat) (h : Tryz.prog.underlying t = some (.slice e)) : (binOp .eql t (.slice a l c) (.slice none 0 0)).run Tryz.prog w = .ok (.bool a.isNone) w := by
  have key : (Op.equal t (.slice a l c) (.slice none 0 0)).run Tryz.prog w = .ok a.isNone w := nl_equalIn w 9999 t e a l c h
  simp [binOp, key]

section
variable {tags : Rel (List (Nat × List UInt8))} {E : WE} {v : Int} {flex ht : Bool}
/-- 'dst = f(dst, len(x), x == nil)'. -/
theorem Av.lenX {fx : Bool} {id f d t1 t2 t3 t4 t5 t6 TT e TE : Nat} {tys : Array TypeId} {ty1 ty2 ty3 ty4 ty5 ty6 ty7 : TypeId} {p1 p2 p3 p4 p5 p6 p7 : String} {e1 e2 e3 e4 e5 e6 e7 : Array Edge} (hf : WritesLenN f fx) (hT : sliceOf Tryz.prog TT = some e) (hn : [t1, t2, t3, t4, t5, t6, E.ds].all (· < E.N) = true)
    (hd : decide (t1 ≠ t2 ∧ t1 ≠ d ∧ t1 ≠ t3 ∧ t1 ≠ t4 ∧ t1 ≠ t5 ∧ t2 ≠ d ∧ t3 ≠ d ∧ t3 ≠ t4 ∧ t3 ≠ t5) = true) :
    Av E v flex d (lenNB fx) (ListA true) (Code.region id #[⟨some t1, .move (.tmp E.ds), ty1, p1, e1, none⟩, ⟨some t2, .move (.tmp d), ty2, p2, e2, none⟩, ⟨some t3, .call { callee := .builtin .len, args := #[.tmp t2], argTypes := #[TT] }, ty3, p3, e3, none⟩,
      ⟨some t4, .move (.tmp d), ty4, p4, e4, none⟩, ⟨some t5, .binOp .eql TT (.tmp t4) (.const (.slice none 0 0)) TE, ty5, p5, e5, none⟩, ⟨some t6, .call { callee := .value (.func f), args := #[.tmp t1, .tmp t3, .tmp t5], argTypes := tys }, ty6, p6, e6, none⟩, ⟨some E.ds, .assign (.tmp t6), ty7, p7, e7, none⟩] false) := by
  intro base K bs a w x hp hr hl
  have hsz := hp.fr.size
  obtain ⟨p, m, hu, hm, hpn⟩ := hr
  have hpn := hpn rfl
  have hq : p.isNone = x.null := by
    cases hx : x.null
    · cases p with
      | none => exact absurd (hpn.1 rfl) (by simp [hx])
      | some _ => rfl
    · rw [hpn.2 hx]; rfl
  simp only [List.all_cons, List.all_nil, Bool.and_true, Bool.and_eq_true, decide_eq_true_eq] at hn hd
  obtain ⟨n1, n2, n3, n4, n5, n6, n7⟩ := hn
  obtain ⟨d12, d1d, d13, d14, d15, d2d, d3d, d34, d35⟩ := hd
  obtain ⟨fn, hfn, hb, hnn⟩ := hasBody_ok hf.1
  refine wp_region_lit (st_move (st_move (st_val (v := .int .i64 (x.l.length : Int)) (w' := w) (exec_len_slice (p := p) (c := m) (sliceOf_ok hT) ?_) (st_move (st_val (v := .bool x.null) (w' := w) (exec_binR (u := .slice p x.l.length m) ?_ (eval_const _ _) (eqGuard_at_slice ..) (by rw [nl_eql w TT e p _ _ (sliceOf_ok hT), hq])) (st_call hfn hb hnn ?_))))))
  · rw [eval_tmp, sl_put_self _ _ _ (by rw [put_size]; omega), eval_tmp, sl_put_other _ _ _ _ d1d, hu]
  · rw [eval_tmp, sl_put_self _ _ _ (by simp only [put_size]; omega), eval_tmp, sl_put_other _ _ _ _ d3d, sl_put_other _ _ _ _ d2d, sl_put_other _ _ _ _ d1d, hu]
  · generalize hA : (((((a.put (some t1) _).put (some t2) _).put (some t3) _).put (some t4) _).put (some t5) _) = a2
    have k1 : sl a2 t1 = sl a E.ds := by
      subst hA
      rw [sl_put_other _ _ _ _ (fun e => d15 e.symm), sl_put_other _ _ _ _ (fun e => d14 e.symm), sl_put_other _ _ _ _ (fun e => d13 e.symm), sl_put_other _ _ _ _ (fun e => d12 e.symm), sl_put_self _ _ _ (by omega), eval_tmp]
    have k3 : sl a2 t3 = .int .i64 (x.l.length : Int) := by
      subst hA
      rw [sl_put_other _ _ _ _ (fun e => d35 e.symm), sl_put_other _ _ _ _ (fun e => d34 e.symm), sl_put_self _ _ _ (by simp only [put_size]; omega)]
    have k5 : sl a2 t5 = .bool x.null := by subst hA; exact sl_put_self _ _ _ (by simp only [put_size]; omega)
    have hup : Upd a a2 [t1, t2, t3, t4, t5] := by subst hA; exact (((((Upd.refl a _).put t1 _ (by simp)).put t2 _ (by simp)).put t3 _ (by simp)).put t4 _ (by simp)).put t5 _ (by simp)
    have hs2 := hup.size.trans hsz
    have e3' : (#[Operand.tmp t1, Operand.tmp t3, Operand.tmp t5] : Array Operand).map a2.eval = #[sl a E.ds, .int .i64 (x.l.length : Int), .bool x.null] := by
      simp only [List.map_toArray, List.map_cons, List.map_nil, eval_tmp, k1, k3, k5]
    rw [e3']
    refine Calls.mono (hf.2 base bs w _ x.l.length x.null hp.own hp.le hm hl) ?_
    rintro e w' ⟨v', rfl, ho, hbel⟩
    refine ⟨v', rfl, st_assign (wpList_nil ⟨(hup.mono (fun t ht => ?_)).trans (((Upd.refl a2 _).put t6 _ ?_).put E.ds _ ?_), hbel, ?_⟩)⟩
    · simp only [List.mem_cons, List.not_mem_nil, or_false] at ht
      rcases ht with rfl | rfl | rfl | rfl | rfl <;> simp [writes]
    · simp [writes]
    · simp [writes]
    rw [sl_put_self _ _ _ (by simp only [put_size]; omega), eval_tmp, sl_put_self _ _ _ (by omega)]
    exact ho
theorem Av.lenXF {id t fs d : Nat} {ty : TypeId} {p : String} {eg : Array Edge} {A B : Code} (hfs : E.fs = some fs) (ht : decide (t < E.N) = true) (hnt : (d :: E.ds :: E.slots).contains t = false)
    (hA : Av E v flex d (lenNB true) (ListA true) A) (hB : Av E v flex d (lenNB false) (ListA true) B) :
    Av E v flex d (lenNB flex) (ListA true) ((Code.region id #[⟨some t, .move (.tmp fs), ty, p, eg, none⟩] false).seq (Code.cond (.tmp t) A B)) := Av.flexG lenNB hfs ht hnt hA hB
theorem FA.list_wN {frm to null tag dflt : Int} {of : Nat} {sub : List F} (hn : 0 ≤ null) (hv : null ≤ v) (t : T) (hl : t.l.length ≤ most) (h0 : t.null = true → t.l = []) : wr v flex (.mk 11 frm to null tag dflt of sub) t = lenNB flex t ++ t.l.flatMap (elW v flex of sub) := by
  have : F.nul ⟨11, frm, to, null, tag, dflt, of, sub⟩ v t = t.null := by
    simp [F.nul, hn, hv]
  simp only [wr, fieldW, if_true, this, List.take_of_length_le hl]
  cases hx : t.null
  · simp only [Bool.false_eq_true, if_false, lenNB, hx]; rfl
  · simp only [if_true, lenNB, hx, h0 hx, List.length_nil, List.flatMap_nil, List.append_nil]
/-- 'if version >= lo { .. } else { .. }'. -/
theorem Av.geqC {α : Type} {d t : Nat} {q : Bool} {g1 g2 : α → List UInt8} {Arg : World → (Nat → Prop) → Value → α → Prop} {r A B : Code} (hT : TestW E v flex t q r) (hd : clear [d] r = true) (hA : q = true → Av E v flex d g1 Arg A) (hB : q = false → Av E v flex d g2 Arg B) :
    Av E v flex d (fun x => if q = true then g1 x else g2 x) Arg (r.seq (Code.cond (.tmp t) A B)) := by
  intro base K bs a w x hp hr hl
  have hcl := clear_iff hT.1
  have hd' := clear_iff hd
  refine wp_seq (hT.2 a w _ hp.fr fun a1 hu hs => ?_)
  have hp1 : PreA E v flex base K bs a1 w := hp.next hu (fun t ht => hcl t (List.mem_cons_of_mem _ ht)) (Below.refl _ _) (by rw [hu.same _ (hcl _ (by simp))]; exact hp.own)
  have hr1 : Arg w K (sl a1 d) x := by rw [hu.same _ (hd' _ (by simp))]; exact hr
  cases q with
  | true =>
    refine wp_cond_true (by rw [eval_tmp, hs]) (wp_mono (hA rfl base K bs a1 w x hp1 hr1 (by simpa using hl)) ?_)
    intro e a2 w2 hq
    exact PostA.after hu (Below.refl _ _) (fun t ht => by simp only [writes, List.mem_append]; exact .inl ht) (fun t ht => by simp only [writes, List.mem_append]; exact .inr (.inl ht)) e a2 w2 hq
  | false =>
    refine wp_cond_false (by rw [eval_tmp, hs]) (wp_mono (hB rfl base K bs a1 w x hp1 hr1 (by simpa using hl)) ?_)
    intro e a2 w2 hq
    exact PostA.after hu (Below.refl _ _) (fun t ht => by simp only [writes, List.mem_append]; exact .inl ht) (fun t ht => by simp only [writes, List.mem_append]; exact .inr (.inr ht)) e a2 w2 hq
theorem FA.list_wF {frm to null tag dflt : Int} {of : Nat} {sub : List F} (hn : 0 ≤ null) (t : T) (hl : t.l.length ≤ most) (h0 : t.null = true → t.l = []) : wr v flex (.mk 11 frm to null tag dflt of sub) t = (if decide (null ≤ v) = true then lenNB flex t else lenB flex t) ++ t.l.flatMap (elW v flex of sub) := by
  by_cases hv : null ≤ v
  · rw [if_pos (decide_eq_true hv)]; exact FA.list_wN hn hv t hl h0
  · rw [if_neg (by simpa using hv)]
    have : F.nul ⟨11, frm, to, null, tag, dflt, of, sub⟩ v t = false := by simp [F.nul, hv]
    simp only [wr, fieldW, if_true, this, Bool.false_eq_true, if_false, List.take_of_length_le hl]
    rfl
theorem Av.lenF' {id t fs d : Nat} {ty : TypeId} {p : String} {eg : Array Edge} {A B : Code} (hfs : E.fs = some fs) (ht : decide (t < E.N) = true) (hnt : (d :: E.ds :: E.slots).contains t = false)
    (hA : Av E v flex d (lenB true) (ListA true) A) (hB : Av E v flex d (lenB false) (ListA true) B) :
    Av E v flex d (lenB flex) (ListA true) ((Code.region id #[⟨some t, .move (.tmp fs), ty, p, eg, none⟩] false).seq (Code.cond (.tmp t) A B)) := Av.flexG lenB hfs ht hnt hA hB
end
end Go.Proofs.YtoklbgdafnminaaGreatDoor
