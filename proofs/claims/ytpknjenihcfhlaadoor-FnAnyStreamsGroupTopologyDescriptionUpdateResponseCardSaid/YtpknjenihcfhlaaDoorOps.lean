/-
  Steps of straight code, each by one law, over any program and any frame. Conditions: none.
-/
import Derived.Test.YtpknjenihcfhlaaDoorMem
namespace Go.Proofs.YtpknjenihcfhlaaDoor
open Go.RowKit (Below)

section
variable {P : Program}

/-- A field's place. -/
def FieldOff (P : Program) (T k off : Nat) : Prop := ∀ (b o : Nat) (w : World), (Instr.fieldAt T (.pointer (some ⟨b, o, none⟩)) k).run P w = .ok (.pointer (some ⟨b, o + off, none⟩)) w
/-- A value of one cell is loaded. -/
def Load1 (P : Program) (ty : Nat) : Prop := ∀ (w : World) (b o : Nat) (v : Value), w.cell? ⟨b, o, none⟩ = some v → (Instr.loadAt ty (.pointer (some ⟨b, o, none⟩))).run P w = .ok v w
/-- A value of one cell is stored. -/
def Store1 (P : Program) (ty : Nat) (v : Value) : Prop := ∀ (w : World) (b o : Nat) (u : Value), w.cell? ⟨b, o, none⟩ = some u → w.frozen? ⟨b, o, none⟩ = false →
  (Instr.storeAt ty (.pointer (some ⟨b, o, none⟩)) v).run P w = .ok () (w.setCell ⟨b, o, none⟩ v)

/-- What a slot holds. -/
abbrev sl (a : Act) (t : Nat) : Value := a.tmps.getD t undef
theorem eval_tmp (a : Act) (t : Nat) : a.eval (.tmp t) = sl a t := rfl
theorem eval_const (a : Act) (v : Value) : a.eval (.const v) = v := rfl
theorem put_size (a : Act) (d : Nat) (v : Value) : (a.put (some d) v).tmps.size = a.tmps.size := by simp [Act.put]
theorem put_defers (a : Act) (d : Option Nat) (v : Value) : (a.put d v).defers = a.defers := by cases d <;> rfl
theorem put_none (a : Act) (v : Value) : a.put none v = a := rfl
theorem sl_put_self (a : Act) (d : Nat) (v : Value) (h : d < a.tmps.size) : sl (a.put (some d) v) d = v := by
  simp [sl, Act.put, Array.getD_eq_getD_getElem?, h]
theorem sl_put_other (a : Act) (d t : Nat) (v : Value) (h : d ≠ t) : sl (a.put (some d) v) t = sl a t := by
  simp [sl, Act.put, Array.getD_eq_getD_getElem?, h]

section
variable {ops : Array Oper} {Q : Exit → Act → World → Prop} {rest : List Oper} {a : Act} {w : World} {d : Nat} {ty : TypeId} {pos : String} {aft : Array Edge}

theorem st_move {x : Operand} (h : wpList P ops Q rest (a.put (some d) (a.eval x)) w) : wpList P ops Q (⟨some d, .move x, ty, pos, aft, none⟩ :: rest) a w :=
  wpList_plain rfl fun K hK => by
    unfold Oper.wp execOp
    simp only [Sem.run_pure]
    exact hK _ _ h
theorem st_assign {x : Operand} (h : wpList P ops Q rest (a.put (some d) (a.eval x)) w) : wpList P ops Q (⟨some d, .assign x, ty, pos, aft, none⟩ :: rest) a w :=
  wpList_plain rfl fun K hK => by
    unfold Oper.wp execOp
    simp only [Sem.run_pure]
    exact hK _ _ h
theorem st_nil {x : Operand} {p : Addr} (hx : a.eval x = .pointer (some p)) (h : wpList P ops Q rest (a.put (some d) (.pointer (some p))) w) : wpList P ops Q (⟨some d, .nilCheck x, ty, pos, aft, none⟩ :: rest) a w :=
  wpList_plain rfl fun K hK => by
    unfold Oper.wp execOp
    simp only [hx, Sem.run_pure]
    exact hK _ _ h
theorem st_field {x : Operand} {T k off b o : Nat} (hf : FieldOff P T k off) (hx : a.eval x = .pointer (some ⟨b, o, none⟩)) (h : wpList P ops Q rest (a.put (some d) (.pointer (some ⟨b, o + off, none⟩))) w) :
    wpList P ops Q (⟨some d, .fieldAddr T x k, ty, pos, aft, none⟩ :: rest) a w :=
  wpList_plain rfl fun K hK => by
    unfold Oper.wp execOp
    simp only [hx, Sem.run_bind, hf b o w, Result.andThen_ok, Sem.run_pure]
    exact hK _ _ h
theorem st_load {x : Operand} {T b o : Nat} {v : Value} (hl : Load1 P T) (hx : a.eval x = .pointer (some ⟨b, o, none⟩)) (hc : w.cell? ⟨b, o, none⟩ = some v) (h : wpList P ops Q rest (a.put (some d) v) w) :
    wpList P ops Q (⟨some d, .load T x, ty, pos, aft, none⟩ :: rest) a w :=
  wpList_plain rfl fun K hK => by
    unfold Oper.wp execOp
    simp only [hx, Sem.run_bind, hl w b o v hc, Result.andThen_ok, Sem.run_pure]
    exact hK _ _ h
theorem st_store {x y : Operand} {T b o : Nat} {u v : Value} (hx : a.eval x = .pointer (some ⟨b, o, none⟩)) (hy : a.eval y = v) (hl : Store1 P T v) (hc : w.cell? ⟨b, o, none⟩ = some u) (hf : w.frozen? ⟨b, o, none⟩ = false)
    (h : wpList P ops Q rest a (w.setCell ⟨b, o, none⟩ v)) :
    wpList P ops Q (⟨none, .store T x y, ty, pos, aft, none⟩ :: rest) a w :=
  wpList_plain rfl fun K hK => by
    unfold Oper.wp execOp
    simp only [hx, hy, Sem.run_bind, hl w b o u hc hf, Result.andThen_ok, Sem.run_pure]
    exact hK _ _ h
theorem st_call {f : FuncId} {args : Array Operand} {tys : Array TypeId} {fn : Func} (hfn : P.funcs[f]? = some fn) (hb : fn.body.isSome = true) (hn : (fn.name == "runtime.NumGoroutine") = false)
    (h : Calls P f (args.map a.eval) w fun e w' => ∃ v, e = .returned v ∧ wpList P ops Q rest (a.put (some d) v) w') :
    wpList P ops Q (⟨some d, .call { callee := .value (.func f), args := args, argTypes := tys }, ty, pos, aft, none⟩ :: rest) a w :=
  wpList_plain rfl fun K hK => by
    have hb' : fn.body.isNone = false := by cases hx : fn.body <;> simp_all
    unfold Oper.wp execOp
    simp only [resolve, Act.eval, Deferred.ofValue, invoke, callFunc, Sem.run_bind, Sem.run_pure, Result.andThen_ok, Array.append_empty, program, Sem.run, hfn, hn, hb', Bool.false_eq_true, if_false, Oper.upon_enter]
    rw [Array.empty_append]
    refine Calls.mono h ?_
    rintro e w' ⟨v, rfl, hw⟩
    exact hK _ _ hw

theorem st_call1 {f : FuncId} {x : Operand} {tys : Array TypeId} {fn : Func} (hfn : P.funcs[f]? = some fn) (hb : fn.body.isSome = true) (hn : (fn.name == "runtime.NumGoroutine") = false)
    (h : Calls P f #[a.eval x] w fun e w' => ∃ v, e = .returned v ∧ wpList P ops Q rest (a.put (some d) v) w') :
    wpList P ops Q (⟨some d, .call { callee := .value (.func f), args := #[x], argTypes := tys }, ty, pos, aft, none⟩ :: rest) a w := by
  refine st_call hfn hb hn ?_
  have e : (#[x] : Array Operand).map a.eval = #[a.eval x] := by simp
  rw [e]
  exact h
theorem st_call2 {f : FuncId} {x y : Operand} {tys : Array TypeId} {fn : Func} (hfn : P.funcs[f]? = some fn) (hb : fn.body.isSome = true) (hn : (fn.name == "runtime.NumGoroutine") = false)
    (h : Calls P f #[a.eval x, a.eval y] w fun e w' => ∃ v, e = .returned v ∧ wpList P ops Q rest (a.put (some d) v) w') :
    wpList P ops Q (⟨some d, .call { callee := .value (.func f), args := #[x, y], argTypes := tys }, ty, pos, aft, none⟩ :: rest) a w := by
  refine st_call hfn hb hn ?_
  have e : (#[x, y] : Array Operand).map a.eval = #[a.eval x, a.eval y] := by simp
  rw [e]
  exact h
/-- An operation that is no call: run to its value. -/
theorem st_val {op : Op} {v : Value} {w' : World} (hr : (execOp a.eval ⟨some d, op, ty, pos, aft, none⟩).run P w = .ok (.value v) w') (h : wpList P ops Q rest (a.put (some d) v) w') :
    wpList P ops Q (⟨some d, op, ty, pos, aft, none⟩ :: rest) a w :=
  wpList_plain rfl fun K hK => by
    unfold Oper.wp
    rw [hr, Oper.upon_value]
    exact hK _ _ h
end

/-- Some slots were written, all others are as they were. -/
structure Upd (a a' : Act) (W : List Nat) : Prop where
  size : a'.tmps.size = a.tmps.size
  defers : a'.defers = a.defers
  same : ∀ t, t ∉ W → sl a' t = sl a t
theorem Upd.refl (a : Act) (W : List Nat) : Upd a a W := ⟨rfl, rfl, fun _ _ => rfl⟩
theorem Upd.put {a a' : Act} {W : List Nat} (h : Upd a a' W) (d : Nat) (v : Value) (hd : d ∈ W) : Upd a (a'.put (some d) v) W :=
  ⟨(put_size _ _ _).trans h.size, (put_defers _ _ _).trans h.defers, fun t ht => (sl_put_other _ d t _ (fun e => ht (by rw [← e]; exact hd))).trans (h.same t ht)⟩
theorem Upd.trans {a b c : Act} {W : List Nat} (h : Upd a b W) (k : Upd b c W) : Upd a c W := ⟨k.size.trans h.size, k.defers.trans h.defers, fun t ht => (k.same t ht).trans (h.same t ht)⟩
theorem Upd.mono {a b : Act} {W W' : List Nat} (h : Upd a b W) (hs : ∀ t ∈ W, t ∈ W') : Upd a b W' := ⟨h.size, h.defers, fun t ht => h.same t (fun hx => ht (hs t hx))⟩

section
variable {Q : Exit → Act → World → Prop} {a : Act} {w : World} {id : Nat}

/-- 'v := b.F()': a call on the reader, its answer assigned. -/
theorem reg_call1 {f r d1 d2 : Nat} {tys : Array TypeId} {t1 t2 : TypeId} {p1 p2 : String} {e1 e2 : Array Edge} {fn : Func} (hfn : P.funcs[f]? = some fn) (hb : fn.body.isSome = true) (hn : (fn.name == "runtime.NumGoroutine") = false)
    (h1 : d1 < a.tmps.size) (h2 : d2 < a.tmps.size)
    (hc : Calls P f #[sl a r] w fun e w' => ∃ v, e = .returned v ∧ ∀ a', Upd a a' [d1, d2] → sl a' d2 = v → Q .normal a' w') :
    (Code.region id #[⟨some d1, .call { callee := .value (.func f), args := #[.tmp r], argTypes := tys }, t1, p1, e1, none⟩, ⟨some d2, .assign (.tmp d1), t2, p2, e2, none⟩] false).wp P Q a w := by
  refine wp_region_lit (st_call1 hfn hb hn (Calls.mono hc ?_))
  rintro e w' ⟨v, rfl, hq⟩
  refine ⟨v, rfl, st_assign (wpList_nil (hq _ (((Upd.refl a _).put d1 v (by simp)).put d2 _ (by simp)) ?_))⟩
  rw [sl_put_self _ _ _ (by rw [put_size]; exact h2), eval_tmp, sl_put_self _ _ _ h1]

/-- 's.F = v': a value stored into a field. -/
theorem reg_storeField {sp x t1 t2 t3 t4 T k off ty b o : Nat} {ty1 ty2 ty3 ty4 ty5 : TypeId} {p1 p2 p3 p4 p5 : String} {e1 e2 e3 e4 e5 : Array Edge} {u v : Value} (hf : FieldOff P T k off) (hst : Store1 P ty v)
    (h1 : t1 < a.tmps.size) (h2 : t2 < a.tmps.size) (h3 : t3 < a.tmps.size) (h4 : t4 < a.tmps.size) (h12 : t1 ≠ t2) (h1x : t1 ≠ x) (h23 : t2 ≠ t3) (h24 : t2 ≠ t4)
    (hsp : sl a sp = .pointer (some ⟨b, o, none⟩)) (hx : sl a x = v) (hc : w.cell? ⟨b, o + off, none⟩ = some u) (hfz : w.frozen? ⟨b, o + off, none⟩ = false)
    (hq : ∀ a', Upd a a' [t1, t2, t3, t4] → Q .normal a' (w.setCell ⟨b, o + off, none⟩ v)) :
    (Code.region id #[⟨some t1, .move (.tmp sp), ty1, p1, e1, none⟩, ⟨some t2, .move (.tmp x), ty2, p2, e2, none⟩, ⟨some t3, .nilCheck (.tmp t1), ty3, p3, e3, none⟩, ⟨some t4, .fieldAddr T (.tmp t3) k, ty4, p4, e4, none⟩,
      ⟨none, .store ty (.tmp t4) (.tmp t2), ty5, p5, e5, none⟩] false).wp P Q a w := by
  have q2 : sl ((a.put (some t1) (sl a sp)).put (some t2) (sl (a.put (some t1) (sl a sp)) x)) t1 = .pointer (some ⟨b, o, none⟩) := by
    rw [sl_put_other _ _ _ _ (fun e => h12 e.symm), sl_put_self _ _ _ h1, hsp]
  have q3 : sl ((a.put (some t1) (sl a sp)).put (some t2) (sl (a.put (some t1) (sl a sp)) x)) t2 = v := by
    rw [sl_put_self _ _ _ (by rw [put_size]; exact h2), sl_put_other _ _ _ _ h1x, hx]
  refine wp_region_lit (st_move (st_move (st_nil (p := ⟨b, o, none⟩) q2 (st_field (b := b) (o := o) hf ?_ (st_store (b := b) (o := o + off) (u := u) (v := v) ?_ ?_ hst hc hfz (wpList_nil (hq _ ?_)))))))
  · rw [eval_tmp, sl_put_self _ _ _ (by simp only [put_size]; exact h3)]
  · rw [eval_tmp, sl_put_self _ _ _ (by simp only [put_size]; exact h4)]
  · rw [eval_tmp, sl_put_other _ _ _ _ (fun e => h24 e.symm), sl_put_other _ _ _ _ (fun e => h23 e.symm)]
    exact q3
  · exact ((((Upd.refl a _).put t1 _ (by simp)).put t2 _ (by simp)).put t3 _ (by simp)).put t4 _ (by simp)

/-- 'v := s.F': a field loaded. -/
theorem reg_loadField {sp d t1 t2 t3 t4 T k off ty b o : Nat} {ty1 ty2 ty3 ty4 ty5 : TypeId} {p1 p2 p3 p4 p5 : String} {e1 e2 e3 e4 e5 : Array Edge} {v : Value} (hf : FieldOff P T k off) (hl : Load1 P ty)
    (h1 : t1 < a.tmps.size) (h2 : t2 < a.tmps.size) (h3 : t3 < a.tmps.size) (h4 : t4 < a.tmps.size) (h5 : d < a.tmps.size)
    (hsp : sl a sp = .pointer (some ⟨b, o, none⟩)) (hc : w.cell? ⟨b, o + off, none⟩ = some v) (hq : ∀ a', Upd a a' [t1, t2, t3, t4, d] → sl a' d = v → Q .normal a' w) :
    (Code.region id #[⟨some t1, .move (.tmp sp), ty1, p1, e1, none⟩, ⟨some t2, .nilCheck (.tmp t1), ty2, p2, e2, none⟩, ⟨some t3, .fieldAddr T (.tmp t2) k, ty3, p3, e3, none⟩, ⟨some t4, .load ty (.tmp t3), ty4, p4, e4, none⟩,
      ⟨some d, .assign (.tmp t4), ty5, p5, e5, none⟩] false).wp P Q a w := by
  refine wp_region_lit (st_move (st_nil (p := ⟨b, o, none⟩) ?_ (st_field (b := b) (o := o) hf ?_ (st_load (b := b) (o := o + off) (v := v) hl ?_ hc (st_assign (wpList_nil (hq _ ?_ ?_)))))))
  · rw [eval_tmp, sl_put_self _ _ _ h1, eval_tmp, hsp]
  · rw [eval_tmp, sl_put_self _ _ _ (by simp only [put_size]; exact h2)]
  · rw [eval_tmp, sl_put_self _ _ _ (by simp only [put_size]; exact h3)]
  · exact (((((Upd.refl a _).put t1 _ (by simp)).put t2 _ (by simp)).put t3 _ (by simp)).put t4 _ (by simp)).put d _ (by simp)
  · rw [sl_put_self _ _ _ (by simp only [put_size]; exact h5), eval_tmp, sl_put_self _ _ _ (by simp only [put_size]; exact h4)]

/-- 'x := y'. -/
theorem reg_copy {x t d : Nat} {ty1 ty2 : TypeId} {p1 p2 : String} {e1 e2 : Array Edge} (h1 : t < a.tmps.size) (h2 : d < a.tmps.size) (hq : ∀ a', Upd a a' [t, d] → sl a' d = sl a x → Q .normal a' w) :
    (Code.region id #[⟨some t, .move (.tmp x), ty1, p1, e1, none⟩, ⟨some d, .assign (.tmp t), ty2, p2, e2, none⟩] false).wp P Q a w := by
  refine wp_region_lit (st_move (st_assign (wpList_nil (hq _ (((Upd.refl a _).put t _ (by simp)).put d _ (by simp)) ?_))))
  rw [sl_put_self _ _ _ (by simp only [put_size]; exact h2), eval_tmp, sl_put_self _ _ _ h1, eval_tmp]
/-- 'x := constant'. -/
theorem reg_const {d : Nat} {v : Value} {ty1 : TypeId} {p1 : String} {e1 : Array Edge} (h2 : d < a.tmps.size) (hq : ∀ a', Upd a a' [d] → sl a' d = v → Q .normal a' w) :
    (Code.region id #[⟨some d, .assign (.const v), ty1, p1, e1, none⟩] false).wp P Q a w :=
  wp_region_lit (st_assign (wpList_nil (hq _ ((Upd.refl a _).put d _ (by simp)) (by rw [sl_put_self _ _ _ h2, eval_const]))))
/-- '_ = x', and a test of a variable. -/
theorem reg_move {x t : Nat} {ty1 : TypeId} {p1 : String} {e1 : Array Edge} (h2 : t < a.tmps.size) (hq : ∀ a', Upd a a' [t] → sl a' t = sl a x → Q .normal a' w) :
    (Code.region id #[⟨some t, .move (.tmp x), ty1, p1, e1, none⟩] false).wp P Q a w :=
  wp_region_lit (st_move (wpList_nil (hq _ ((Upd.refl a _).put t _ (by simp)) (by rw [sl_put_self _ _ _ h2, eval_tmp]))))
end
end
end Go.Proofs.YtpknjenihcfhlaaDoor
