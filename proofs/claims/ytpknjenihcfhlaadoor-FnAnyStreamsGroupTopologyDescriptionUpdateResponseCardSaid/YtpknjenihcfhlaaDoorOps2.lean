/-
  More regions: tests of a version, of a length, a call that is asked; steps of a loop. Conditions: none.
-/
import Derived.Test.YtpknjenihcfhlaaDoorOps
import Derived.Lib.AppendZeros
import Derived.Deep.MidRow
namespace Go.Proofs.YtpknjenihcfhlaaDoor
open Go.RowKit (Below)

section
variable {P : Program}

theorem fieldOff_of {T k off : Nat} {fields : Array Field} {f : Field} {i : TypeInfo} (h : P.underlying T = some (.struct fields)) (hf : fields[k]? = some f) (ho : f.offset = off) (hi : P.info? f.type = some i) (hs : i.size ≠ 0) : FieldOff P T k off := by
  intro b o w
  subst ho
  simp [Instr.fieldAt, run_underlying h, hf, Instr.sureAddr, fieldPlace, sizeOf, typeInfo, hi, hs, Addr.add_mid]

theorem load1_of {ty : Nat} {d : TypeDesc} (h : P.underlying ty = some d) (hd : d.isRow = false) : Load1 P ty := by
  intro w b o v hc
  have hagg : (isAgg ty).run P w = .ok false w := by
    unfold isAgg
    rw [Sem.run_bind, run_underlying h w]
    cases d <;> simp_all
  simp only [Instr.loadAt, Instr.sureAddr, loadVar, Sem.run_bind, Sem.run_pure, Result.andThen_ok, hagg, Bool.false_eq_true, if_false, run_load, hc]

theorem store1_of {ty : Nat} {i : TypeInfo} {v : Value} (hi : P.info? ty = some i) (hs : i.size = 1) (hv : v.oneCell' = true) : Store1 P ty v := by
  intro w b o u hc hf
  have e : v.cells = #[v] := by cases v <;> first | rfl | simp [Value.oneCell'] at hv
  have e0 : (⟨b, o, none⟩ : Addr).add 0 = ⟨b, o, none⟩ := rfl
  simp [Instr.storeAt, Instr.sureAddr, storeVar, sizeOf, typeInfo, hi, e, hs, storeCells, run_store P w _ v _ hv, e0, hc, hf]

theorem sl_put (a : Act) (d t : Nat) (v : Value) (h : d < a.tmps.size) : sl (a.put (some d) v) t = if d = t then v else sl a t := by
  by_cases e : d = t
  · subst e; rw [if_pos rfl, sl_put_self _ _ _ h]
  · rw [if_neg e, sl_put_other _ _ _ _ e]

/-- An element's place. -/
def IndexOff (P : Program) (T sz : Nat) : Prop := ∀ (w : World) (g o n c i : Nat), i < n → (Instr.indexAt T (.slice (some ⟨g, o, none⟩) n c) (.int .i32 i)).run P w = .ok (.pointer (some ⟨g, o + i * sz, none⟩)) w
theorem indexOff_of {T e sz : Nat} {i : TypeInfo} (h : P.underlying T = some (.slice e)) (hi : P.info? e = some i) (hs : i.size = sz) : IndexOff P T sz := by
  intro w g o n c j hj
  subst hs
  have hj' : (0 : Int) ≤ j ∧ (j : Int) < n := by omega
  simp only [Instr.indexAt, run_underlying h, asIntOf, sizeOf, typeInfo, hi, Addr.add_mid, Sem.run_bind, Sem.run_pure, Result.andThen_ok, run_program, if_pos hj', Int.toNat_natCast]
/-- 'a[:0]'. -/
def Slice0 (P : Program) (T : Nat) : Prop := ∀ (w : World) (p : Option Addr) (n c : Nat), (Instr.sliceAt T (.slice p n c) none (some (.int .i64 0)) none).run P w = .ok (.slice p 0 c) w
theorem slice0_of {T e : Nat} {i : TypeInfo} (h : P.underlying T = some (.slice e)) (hi : P.info? e = some i) : Slice0 P T := by
  intro w p n c
  simp [Instr.sliceAt, run_underlying h, Instr.slice, Instr.sliceBounds, go_sem, sizeOf, typeInfo, hi]

theorem exec_bin {ρ : Operand → Value} {d : Option Nat} {op : BinOp} {T T' ty : TypeId} {x y : Operand} {u z r : Value} {pos : String} {aft : Array Edge} {g : Option (Nat × Bool)} {w : World} (hx : ρ x = u) (hy : ρ y = z)
    (hg : eqGuard op T x y u z = pure ()) (hb : binOp op T u z = pure r) : (execOp ρ ⟨d, .binOp op T x y T', ty, pos, aft, g⟩).run P w = .ok (.value r) w := by
  simp [execOp, hx, hy, hg, hb]

section
variable {ops : Array Oper} {Q : Exit → Act → World → Prop} {rest : List Oper} {a : Act} {w : World} {d : Nat} {ty : TypeId} {pos : String} {aft : Array Edge} {j t : Nat} {want : Bool}
/-- An operation under a condition that is met. -/
theorem st_want {op : Op} {v : Value} {w' : World} {oj : Oper} (ho : ops[j]? = some oj) (hd : oj.dst = some t) (ht : t < a.tmps.size) (hv : sl a t = .bool want)
    (hr : (execOp a.eval ⟨some d, op, ty, pos, aft, some (j, want)⟩).run P w = .ok (.value v) w') (h : wpList P ops Q rest (a.put (some d) v) w') :
    wpList P ops Q (⟨some d, op, ty, pos, aft, some (j, want)⟩ :: rest) a w :=
  wpList_step fun K hK => by
    have f : a.tmps[t]? = some (.bool want) := by
      rw [sl, Array.getD_eq_getD_getElem?, Array.getElem?_eq_getElem ht] at hv
      rw [Array.getElem?_eq_getElem ht]
      exact congrArg some hv
    rw [if_pos (by simp [Region.wanted, yielded, ho, hd, f])]
    unfold Oper.wp
    rw [hr, Oper.upon_value]
    exact hK _ _ h
/-- An operation under a condition that is not met. -/
theorem st_unwant {op : Op} {oj : Oper} (ho : ops[j]? = some oj) (hd : oj.dst = some t) (ht : t < a.tmps.size) (hv : sl a t = .bool (!want))
    (h : wpList P ops Q rest (a.put (some d) undef) w) : wpList P ops Q (⟨some d, op, ty, pos, aft, some (j, want)⟩ :: rest) a w :=
  wpList_skip (by
    have f : a.tmps[t]? = some (.bool (!want)) := by
      rw [sl, Array.getD_eq_getD_getElem?, Array.getElem?_eq_getElem ht] at hv
      rw [Array.getElem?_eq_getElem ht]
      exact congrArg some hv
    simp [Region.wanted, yielded, ho, hd, f]) h
end

section
variable {Q : Exit → Act → World → Prop} {a : Act} {w : World} {id : Nat}

/-- 'v.F(version)' in a test: a comparison of a variable with a number. -/
theorem reg_cmp {op : BinOp} {x t1 t2 : Nat} {c : Value} {T T' ty1 ty2 : TypeId} {p1 p2 : String} {e1 e2 : Array Edge} {r : Bool} (h1 : t1 < a.tmps.size) (h2 : t2 < a.tmps.size)
    (hg : ∀ y z, eqGuard op T y z (sl a x) c = pure ()) (hb : binOp op T (sl a x) c = pure (.bool r)) (hq : ∀ a', Upd a a' [t1, t2] → sl a' t2 = .bool r → Q .normal a' w) :
    (Code.region id #[⟨some t1, .move (.tmp x), ty1, p1, e1, none⟩, ⟨some t2, .binOp op T (.tmp t1) (.const c) T', ty2, p2, e2, none⟩] false).wp P Q a w := by
  refine wp_region_lit (st_move (st_val (exec_bin (by rw [eval_tmp, sl_put_self _ _ _ h1, eval_tmp]) (eval_const _ _) (hg _ _) hb) (wpList_nil (hq _ (((Upd.refl a _).put t1 _ (by simp)).put t2 _ (by simp)) ?_))))
  rw [sl_put_self _ _ _ (by simp only [put_size]; exact h2)]
/-- .. put into a variable. -/
theorem reg_cmp_to {op : BinOp} {x t1 t2 t3 : Nat} {c : Value} {T T' ty1 ty2 ty3 : TypeId} {p1 p2 p3 : String} {e1 e2 e3 : Array Edge} {r : Bool} (h1 : t1 < a.tmps.size) (h2 : t2 < a.tmps.size) (h3 : t3 < a.tmps.size)
    (hg : ∀ y z, eqGuard op T y z (sl a x) c = pure ()) (hb : binOp op T (sl a x) c = pure (.bool r)) (hq : ∀ a', Upd a a' [t1, t2, t3] → sl a' t3 = .bool r → Q .normal a' w) :
    (Code.region id #[⟨some t1, .move (.tmp x), ty1, p1, e1, none⟩, ⟨some t2, .binOp op T (.tmp t1) (.const c) T', ty2, p2, e2, none⟩, ⟨some t3, .assign (.tmp t2), ty3, p3, e3, none⟩] false).wp P Q a w := by
  refine wp_region_lit (st_move (st_val (exec_bin (by rw [eval_tmp, sl_put_self _ _ _ h1, eval_tmp]) (eval_const _ _) (hg _ _) hb) (st_assign (wpList_nil (hq _ ((((Upd.refl a _).put t1 _ (by simp)).put t2 _ (by simp)).put t3 _ (by simp)) ?_)))))
  rw [sl_put_self _ _ _ (by simp only [put_size]; exact h3), eval_tmp, sl_put_self _ _ _ (by simp only [put_size]; exact h2)]
/-- A comparison of two variables. -/
theorem reg_cmp2 {op : BinOp} {x y t1 t2 t3 : Nat} {T T' ty1 ty2 ty3 : TypeId} {p1 p2 p3 : String} {e1 e2 e3 : Array Edge} {r : Bool} (h1 : t1 < a.tmps.size) (h2 : t2 < a.tmps.size) (h3 : t3 < a.tmps.size) (h12 : t1 ≠ t2) (h1y : t1 ≠ y)
    (hg : ∀ u z, eqGuard op T u z (sl a x) (sl a y) = pure ()) (hb : binOp op T (sl a x) (sl a y) = pure (.bool r)) (hq : ∀ a', Upd a a' [t1, t2, t3] → sl a' t3 = .bool r → Q .normal a' w) :
    (Code.region id #[⟨some t1, .move (.tmp x), ty1, p1, e1, none⟩, ⟨some t2, .move (.tmp y), ty2, p2, e2, none⟩, ⟨some t3, .binOp op T (.tmp t1) (.tmp t2) T', ty3, p3, e3, none⟩] false).wp P Q a w := by
  refine wp_region_lit (st_move (st_move (st_val (exec_bin ?_ ?_ (hg _ _) hb) (wpList_nil (hq _ ((((Upd.refl a _).put t1 _ (by simp)).put t2 _ (by simp)).put t3 _ (by simp)) ?_)))))
  · rw [eval_tmp, sl_put_other _ _ _ _ (fun e => h12 e.symm), sl_put_self _ _ _ h1, eval_tmp]
  · rw [eval_tmp, sl_put_self _ _ _ (by simp only [put_size]; exact h2), eval_tmp, sl_put_other _ _ _ _ h1y]
  · rw [sl_put_self _ _ _ (by simp only [put_size]; exact h3)]
/-- 'lo <= v && v <= hi'. -/
theorem reg_range {x t1 t2 t3 t4 t5 t6 : Nat} {lo hi v : Int} {k : IntKind} {T1 T1' T2 T2' ty1 ty2 ty3 ty4 ty5 ty6 : TypeId} {p1 p2 p3 p4 p5 p6 : String} {e1 e2 e3 e4 e5 e6 : Array Edge}
    (h1 : t1 < a.tmps.size) (h2 : t2 < a.tmps.size) (h3 : t3 < a.tmps.size) (h4 : t4 < a.tmps.size) (h5 : t5 < a.tmps.size) (h6 : t6 < a.tmps.size) (hd : [x, t1, t2, t3, t4, t5, t6].Nodup)
    (hx : sl a x = .int k v) (hq : ∀ a', Upd a a' [t1, t2, t3, t4, t5, t6] → sl a' t6 = .bool (decide (lo ≤ v) && decide (v ≤ hi)) → Q .normal a' w) :
    (Code.region id #[⟨some t1, .move (.tmp x), ty1, p1, e1, none⟩, ⟨some t2, .binOp .geq T1 (.tmp t1) (.const (.int k lo)) T1', ty2, p2, e2, none⟩, ⟨some t3, .move (.tmp t2), ty3, p3, e3, none⟩,
      ⟨some t4, .move (.tmp x), ty4, p4, e4, some (2, true)⟩, ⟨some t5, .binOp .leq T2 (.tmp t4) (.const (.int k hi)) T2', ty5, p5, e5, some (2, true)⟩, ⟨some t6, .pick (.tmp t3) (.tmp t5) (.const (.bool false)), ty6, p6, e6, none⟩] false).wp P Q a w := by
  simp only [List.nodup_cons, List.mem_cons, List.not_mem_nil, or_false, not_or, List.nodup_nil, and_true, not_false_eq_true] at hd
  obtain ⟨⟨x1, x2, x3, x4, x5, x6⟩, ⟨y2, y3, y4, y5, y6⟩, ⟨z3, z4, z5, z6⟩, ⟨u4, u5, u6⟩, ⟨v5, v6⟩, w6⟩ := hd
  refine wp_region_lit (st_move (st_val (v := .bool (decide (lo ≤ v))) (w' := w) (exec_bin (u := .int k v) (by rw [eval_tmp, sl_put_self _ _ _ h1, eval_tmp, hx]) (eval_const _ _) (eqGuard_geq ..) (binOp_geq ..)) (st_move ?_)))
  rw [eval_tmp, eval_tmp, sl_put_self _ _ _ (by simp only [put_size]; exact h2)]
  generalize hA : ((a.put (some t1) (sl a x)).put (some t2) (.bool (decide (lo ≤ v)))).put (some t3) (.bool (decide (lo ≤ v))) = A
  have hu : Upd a A [t1, t2, t3, t4, t5, t6] := by subst hA; exact (((Upd.refl a _).put t1 _ (by simp)).put t2 _ (by simp)).put t3 _ (by simp)
  have s3 : sl A t3 = .bool (decide (lo ≤ v)) := by subst hA; exact sl_put_self _ _ _ (by simp only [put_size]; exact h3)
  have sx : sl A x = .int k v := by subst hA; rw [sl_put_other _ _ _ _ (fun e => x3 e.symm), sl_put_other _ _ _ _ (fun e => x2 e.symm), sl_put_other _ _ _ _ (fun e => x1 e.symm), hx]
  have hsz := hu.size
  by_cases hlo : lo ≤ v
  · refine st_want (t := t3) rfl rfl (by omega) (by rw [s3]; simp [hlo]) (v := .int k v) (w' := w) (by simp only [execOp, Sem.run_pure, eval_tmp, sx]) ?_
    refine st_want (t := t3) rfl rfl (by rw [put_size]; omega) (by rw [sl_put_other _ _ _ _ (fun e => u4 e.symm), s3]; simp [hlo]) (v := .bool (decide (v ≤ hi))) (w' := w)
      (exec_bin (u := .int k v) (by rw [eval_tmp, sl_put_self _ _ _ (by omega)]) (eval_const _ _) (eqGuard_leq ..) (binOp_leq ..)) ?_
    refine st_val (v := .bool (decide (v ≤ hi))) (w' := w) ?_ (wpList_nil (hq _ (((hu.put t4 _ (by simp)).put t5 _ (by simp)).put t6 _ (by simp)) ?_))
    · have q3 : ((A.put (some t4) (.int k v)).put (some t5) (.bool (decide (v ≤ hi)))).eval (.tmp t3) = .bool true := by
        rw [eval_tmp, sl_put_other _ _ _ _ (fun e => u5 e.symm), sl_put_other _ _ _ _ (fun e => u4 e.symm), s3]; simp [hlo]
      have q5 : ((A.put (some t4) (.int k v)).put (some t5) (.bool (decide (v ≤ hi)))).eval (.tmp t5) = .bool (decide (v ≤ hi)) := by rw [eval_tmp, sl_put_self _ _ _ (by rw [put_size]; omega)]
      simp [execOp, q3, q5, asBool]
    · rw [sl_put_self _ _ _ (by simp only [put_size]; omega)]; simp [hlo]
  · refine st_unwant (t := t3) rfl rfl (by omega) (by rw [s3]; simp [hlo]) ?_
    refine st_unwant (t := t3) rfl rfl (by rw [put_size]; omega) (by rw [sl_put_other _ _ _ _ (fun e => u4 e.symm), s3]; simp [hlo]) ?_
    refine st_val (v := .bool false) (w' := w) ?_ (wpList_nil (hq _ (((hu.put t4 _ (by simp)).put t5 _ (by simp)).put t6 _ (by simp)) ?_))
    · have q3 : ((A.put (some t4) undef).put (some t5) undef).eval (.tmp t3) = .bool false := by
        rw [eval_tmp, sl_put_other _ _ _ _ (fun e => u5 e.symm), sl_put_other _ _ _ _ (fun e => u4 e.symm), s3]; simp [hlo]
      simp [execOp, q3, asBool, eval_const]
    · rw [sl_put_self _ _ _ (by simp only [put_size]; omega)]; simp [hlo]
/-- '!b.Ok()'. -/
theorem reg_not {f r d1 d2 : Nat} {tys : Array TypeId} {T t1 t2 : TypeId} {p1 p2 : String} {e1 e2 : Array Edge} {fn : Func} (hfn : P.funcs[f]? = some fn) (hb : fn.body.isSome = true) (hn : (fn.name == "runtime.NumGoroutine") = false)
    (h1 : d1 < a.tmps.size) (h2 : d2 < a.tmps.size)
    (hc : Calls P f #[sl a r] w fun e w' => ∃ b, e = .returned (.bool b) ∧ ∀ a', Upd a a' [d1, d2] → sl a' d2 = .bool (!b) → Q .normal a' w') :
    (Code.region id #[⟨some d1, .call { callee := .value (.func f), args := #[.tmp r], argTypes := tys }, t1, p1, e1, none⟩, ⟨some d2, .unOp .not T (.tmp d1), t2, p2, e2, none⟩] false).wp P Q a w := by
  refine wp_region_lit (st_call1 hfn hb hn (Calls.mono hc ?_))
  rintro e w' ⟨b, rfl, hq⟩
  refine ⟨_, rfl, st_val (v := .bool (!b)) (w' := w') ?_ (wpList_nil (hq _ (((Upd.refl a _).put d1 _ (by simp)).put d2 _ (by simp)) ?_))⟩
  · have : (a.put (some d1) (.bool b)).eval (.tmp d1) = .bool b := by rw [eval_tmp, sl_put_self _ _ _ h1]
    simp [execOp, this, Op.unary]
  · rw [sl_put_self _ _ _ (by rw [put_size]; exact h2)]
/-- 'p.Default()'. -/
theorem reg_callp {f x d1 d2 : Nat} {tys : Array TypeId} {t1 t2 : TypeId} {p1 p2 : String} {e1 e2 : Array Edge} {fn : Func} (hfn : P.funcs[f]? = some fn) (hb : fn.body.isSome = true) (hn : (fn.name == "runtime.NumGoroutine") = false)
    (h1 : d1 < a.tmps.size) (hc : Calls P f #[sl a x] w fun e w' => (∃ v, e = .returned v) ∧ ∀ a', Upd a a' [d1, d2] → Q .normal a' w') :
    (Code.region id #[⟨some d1, .move (.tmp x), t1, p1, e1, none⟩, ⟨some d2, .call { callee := .value (.func f), args := #[.tmp d1], argTypes := tys }, t2, p2, e2, none⟩] false).wp P Q a w := by
  refine wp_region_lit (st_move (st_call1 hfn hb hn ?_))
  rw [eval_tmp, sl_put_self _ _ _ h1, eval_tmp]
  refine Calls.mono hc ?_
  rintro e w' ⟨⟨v, rfl⟩, hq⟩
  exact ⟨v, rfl, wpList_nil (hq _ (((Upd.refl a _).put d1 _ (by simp)).put d2 _ (by simp)))⟩
/-- 'x = x[:0]'. -/
theorem reg_slice0 {x t1 t2 T : Nat} {ty1 ty2 ty3 : TypeId} {p1 p2 p3 : String} {e1 e2 e3 : Array Edge} {p : Option Addr} {n c : Nat} (hs : Slice0 P T) (h1 : t1 < a.tmps.size) (h2 : t2 < a.tmps.size) (h3 : x < a.tmps.size)
    (hx : sl a x = .slice p n c) (hq : ∀ a', Upd a a' [t1, t2, x] → sl a' x = .slice p 0 c → Q .normal a' w) :
    (Code.region id #[⟨some t1, .move (.tmp x), ty1, p1, e1, none⟩, ⟨some t2, .slice T (.tmp t1) none (some (.const (.int .i64 0))) none, ty2, p2, e2, none⟩, ⟨some x, .assign (.tmp t2), ty3, p3, e3, none⟩] false).wp P Q a w := by
  refine wp_region_lit (st_move (st_val (v := .slice p 0 c) (w' := w) ?_ (st_assign (wpList_nil (hq _ ((((Upd.refl a _).put t1 _ (by simp)).put t2 _ (by simp)).put x _ (by simp)) ?_)))))
  · have : (a.put (some t1) (a.eval (.tmp x))).eval (.tmp t1) = .slice p n c := by rw [eval_tmp, sl_put_self _ _ _ h1, eval_tmp, hx]
    simp only [execOp, this, Option.map_some, Option.map_none, eval_const, Sem.run_bind, hs w p n c, Result.andThen_ok, Sem.run_pure]
  · rw [sl_put_self _ _ _ (by simp only [put_size]; exact h3), eval_tmp, sl_put_self _ _ _ (by simp only [put_size]; exact h2)]
/-- 'x = append(x, make([]T, l)...)'. -/
theorem reg_append0 {x l t1 t2 t3 T Tn : Nat} {ty1 ty2 ty3 ty4 : TypeId} {p1 p2 p3 p4 : String} {e1 e2 e3 e4 : Array Edge} {v : Value} {w' : World} (h1 : t1 < a.tmps.size) (h2 : t2 < a.tmps.size) (h3 : t3 < a.tmps.size) (h4 : x < a.tmps.size)
    (h12 : t1 ≠ t2) (h1l : t1 ≠ l) (hr : (Builtin.append_ #[T, Tn] ty3 #[sl a x, sl a l]).run P w = .ok v w') (hq : ∀ a', Upd a a' [t1, t2, t3, x] → sl a' x = v → Q .normal a' w') :
    (Code.region id #[⟨some t1, .move (.tmp x), ty1, p1, e1, none⟩, ⟨some t2, .move (.tmp l), ty2, p2, e2, none⟩, ⟨some t3, .call { callee := .builtin .append, args := #[.tmp t1, .tmp t2], argTypes := #[T, Tn] }, ty3, p3, e3, none⟩,
      ⟨some x, .assign (.tmp t3), ty4, p4, e4, none⟩] false).wp P Q a w := by
  refine wp_region_lit (st_move (st_move (Lib.wpList_append_run _ rfl _ _ _ _ rfl _ _ ?_ ?_ _ _ hr (st_assign (wpList_nil (hq _ (((((Upd.refl a _).put t1 _ (by simp)).put t2 _ (by simp)).put t3 _ (by simp)).put x _ (by simp)) ?_))))))
  · rw [eval_tmp, sl_put_other _ _ _ _ (fun e => h12 e.symm), sl_put_self _ _ _ h1, eval_tmp]
  · rw [eval_tmp, sl_put_self _ _ _ (by simp only [put_size]; exact h2), eval_tmp, sl_put_other _ _ _ _ h1l]
  · rw [sl_put_self _ _ _ (by simp only [put_size]; exact h4), eval_tmp, sl_put_self _ _ _ (by simp only [put_size]; exact h3)]
/-- 'v := &a[i]'. -/
theorem reg_index {x i t1 t2 t3 d T sz g o n c j : Nat} {ty1 ty2 ty3 ty4 : TypeId} {p1 p2 p3 p4 : String} {e1 e2 e3 e4 : Array Edge} (hs : IndexOff P T sz) (h1 : t1 < a.tmps.size) (h2 : t2 < a.tmps.size) (h3 : t3 < a.tmps.size) (h4 : d < a.tmps.size)
    (h12 : t1 ≠ t2) (h1i : t1 ≠ i) (hx : sl a x = .slice (some ⟨g, o, none⟩) n c) (hi : sl a i = .int .i32 (j : Int)) (hj : j < n)
    (hq : ∀ a', Upd a a' [t1, t2, t3, d] → sl a' d = .pointer (some ⟨g, o + j * sz, none⟩) → Q .normal a' w) :
    (Code.region id #[⟨some t1, .move (.tmp x), ty1, p1, e1, none⟩, ⟨some t2, .move (.tmp i), ty2, p2, e2, none⟩, ⟨some t3, .indexAddr T (.tmp t1) (.tmp t2), ty3, p3, e3, none⟩, ⟨some d, .assign (.tmp t3), ty4, p4, e4, none⟩] false).wp P Q a w := by
  refine wp_region_lit (st_move (st_move (st_val (v := .pointer (some ⟨g, o + j * sz, none⟩)) (w' := w) ?_ (st_assign (wpList_nil (hq _ (((((Upd.refl a _).put t1 _ (by simp)).put t2 _ (by simp)).put t3 _ (by simp)).put d _ (by simp)) ?_))))))
  · have q1 : ((a.put (some t1) (a.eval (.tmp x))).put (some t2) ((a.put (some t1) (a.eval (.tmp x))).eval (.tmp i))).eval (.tmp t1) = .slice (some ⟨g, o, none⟩) n c := by
      rw [eval_tmp, sl_put_other _ _ _ _ (fun e => h12 e.symm), sl_put_self _ _ _ h1, eval_tmp, hx]
    have q2 : ((a.put (some t1) (a.eval (.tmp x))).put (some t2) ((a.put (some t1) (a.eval (.tmp x))).eval (.tmp i))).eval (.tmp t2) = .int .i32 (j : Int) := by
      rw [eval_tmp, sl_put_self _ _ _ (by simp only [put_size]; exact h2), eval_tmp, sl_put_other _ _ _ _ h1i, hi]
    simp only [execOp, q1, q2, Sem.run_bind, hs w g o n c j hj, Result.andThen_ok, Sem.run_pure]
  · rw [sl_put_self _ _ _ (by simp only [put_size]; exact h4), eval_tmp, sl_put_self _ _ _ (by simp only [put_size]; exact h3)]
/-- 'a[i] = v'. -/
theorem reg_storeIdx {x i y t1 t2 t3 t4 T sz ty g o n c j : Nat} {ty1 ty2 ty3 ty4 ty5 : TypeId} {p1 p2 p3 p4 p5 : String} {e1 e2 e3 e4 e5 : Array Edge} {u v : Value} (hs : IndexOff P T sz) (hst : Store1 P ty v) (h1 : t1 < a.tmps.size) (h2 : t2 < a.tmps.size) (h3 : t3 < a.tmps.size) (h4 : t4 < a.tmps.size)
    (hd : [y, i, t1, t2, t3, t4].Nodup) (hx : sl a x = .slice (some ⟨g, o, none⟩) n c) (hi : sl a i = .int .i32 (j : Int)) (hj : j < n) (hy : sl a y = v) (hc : w.cell? ⟨g, o + j * sz, none⟩ = some u) (hf : w.frozen? ⟨g, o + j * sz, none⟩ = false)
    (hq : ∀ a', Upd a a' [t1, t2, t3, t4] → Q .normal a' (w.setCell ⟨g, o + j * sz, none⟩ v)) :
    (Code.region id #[⟨some t1, .move (.tmp x), ty1, p1, e1, none⟩, ⟨some t2, .move (.tmp i), ty2, p2, e2, none⟩, ⟨some t3, .move (.tmp y), ty3, p3, e3, none⟩, ⟨some t4, .indexAddr T (.tmp t1) (.tmp t2), ty4, p4, e4, none⟩,
      ⟨none, .store ty (.tmp t4) (.tmp t3), ty5, p5, e5, none⟩] false).wp P Q a w := by
  simp only [List.nodup_cons, List.mem_cons, List.not_mem_nil, or_false, not_or, List.nodup_nil, and_true, not_false_eq_true] at hd
  obtain ⟨⟨y1, y2, y3, y4, y5⟩, ⟨i1, i2, i3, i4⟩, ⟨n2, n3, n4⟩, ⟨m3, m4⟩, k4⟩ := hd
  refine wp_region_lit (st_move (st_move (st_move ?_)))
  generalize hA : ((a.put (some t1) (a.eval (.tmp x))).put (some t2) ((a.put (some t1) (a.eval (.tmp x))).eval (.tmp i))).put (some t3) (((a.put (some t1) (a.eval (.tmp x))).put (some t2) ((a.put (some t1) (a.eval (.tmp x))).eval (.tmp i))).eval (.tmp y)) = A
  have hu : Upd a A [t1, t2, t3, t4] := by subst hA; exact (((Upd.refl a _).put t1 _ (by simp)).put t2 _ (by simp)).put t3 _ (by simp)
  have q1 : sl A t1 = .slice (some ⟨g, o, none⟩) n c := by subst hA; rw [sl_put_other _ _ _ _ (fun e => n3 e.symm), sl_put_other _ _ _ _ (fun e => n2 e.symm), sl_put_self _ _ _ h1, eval_tmp, hx]
  have q2 : sl A t2 = .int .i32 (j : Int) := by subst hA; rw [sl_put_other _ _ _ _ (fun e => m3 e.symm), sl_put_self _ _ _ (by simp only [put_size]; exact h2), eval_tmp, sl_put_other _ _ _ _ (fun e => i1 e.symm), hi]
  have q3 : sl A t3 = v := by subst hA; rw [sl_put_self _ _ _ (by simp only [put_size]; exact h3), eval_tmp, sl_put_other _ _ _ _ (fun e => y3 e.symm), sl_put_other _ _ _ _ (fun e => y2 e.symm), hy]
  have hsz := hu.size
  refine st_val (v := .pointer (some ⟨g, o + j * sz, none⟩)) (w' := w) ?_ (st_store (b := g) (o := o + j * sz) (u := u) (v := v) ?_ ?_ hst hc hf (wpList_nil (hq _ (hu.put t4 _ (by simp)))))
  · simp only [execOp, eval_tmp, q1, q2, Sem.run_bind, hs w g o n c j hj, Result.andThen_ok, Sem.run_pure]
  · rw [eval_tmp, sl_put_self _ _ _ (by omega)]
  · rw [eval_tmp, sl_put_other _ _ _ _ (fun e => k4 e.symm), q3]
/-- 'i++'. -/
theorem reg_incr {i t1 t2 : Nat} {T T' ty1 ty2 ty3 : TypeId} {p1 p2 p3 : String} {e1 e2 e3 : Array Edge} {j : Nat} (h1 : t1 < a.tmps.size) (h2 : t2 < a.tmps.size) (h3 : i < a.tmps.size) (hj : j < 2147483647) (hi : sl a i = .int .i32 (j : Int))
    (hq : ∀ a', Upd a a' [t1, t2, i] → sl a' i = .int .i32 ((j + 1 : Nat) : Int) → Q .normal a' w) :
    (Code.region id #[⟨some t1, .move (.tmp i), ty1, p1, e1, none⟩, ⟨some t2, .binOp .add T (.tmp t1) (.const (.int .i32 1)) T', ty2, p2, e2, none⟩, ⟨some i, .assign (.tmp t2), ty3, p3, e3, none⟩] false).wp P Q a w := by
  refine wp_region_lit (st_move (st_val (v := .int .i32 ((j + 1 : Nat) : Int)) (w' := w) (exec_bin (u := .int .i32 (j : Int)) (by rw [eval_tmp, sl_put_self _ _ _ h1, eval_tmp, hi]) (eval_const _ _) (eqGuard_at_int ..) ?_)
    (st_assign (wpList_nil (hq _ ((((Upd.refl a _).put t1 _ (by simp)).put t2 _ (by simp)).put i _ (by simp)) ?_)))))
  · rw [binOp_add]
    have : IntKind.i32.wrap ((j : Int) + 1) = ((j + 1 : Nat) : Int) := by rw [IntKind.wrap_i32]; omega
    simp [Op.intArith, this]
  · rw [sl_put_self _ _ _ (by simp only [put_size]; exact h3), eval_tmp, sl_put_self _ _ _ (by simp only [put_size]; exact h2)]
/-- 'v := &s.F'. -/
theorem reg_fieldAddr {sp d t1 t2 t3 T k off b o : Nat} {ty1 ty2 ty3 ty4 : TypeId} {p1 p2 p3 p4 : String} {e1 e2 e3 e4 : Array Edge} (hf : FieldOff P T k off) (h1 : t1 < a.tmps.size) (h2 : t2 < a.tmps.size) (h3 : t3 < a.tmps.size) (h5 : d < a.tmps.size)
    (hsp : sl a sp = .pointer (some ⟨b, o, none⟩)) (hq : ∀ a', Upd a a' [t1, t2, t3, d] → sl a' d = .pointer (some ⟨b, o + off, none⟩) → Q .normal a' w) :
    (Code.region id #[⟨some t1, .move (.tmp sp), ty1, p1, e1, none⟩, ⟨some t2, .nilCheck (.tmp t1), ty2, p2, e2, none⟩, ⟨some t3, .fieldAddr T (.tmp t2) k, ty3, p3, e3, none⟩, ⟨some d, .assign (.tmp t3), ty4, p4, e4, none⟩] false).wp P Q a w := by
  refine wp_region_lit (st_move (st_nil (p := ⟨b, o, none⟩) ?_ (st_field (b := b) (o := o) hf ?_ (st_assign (wpList_nil (hq _ ?_ ?_))))))
  · rw [eval_tmp, sl_put_self _ _ _ h1, eval_tmp, hsp]
  · rw [eval_tmp, sl_put_self _ _ _ (by simp only [put_size]; exact h2)]
  · exact ((((Upd.refl a _).put t1 _ (by simp)).put t2 _ (by simp)).put t3 _ (by simp)).put d _ (by simp)
  · rw [sl_put_self _ _ _ (by simp only [put_size]; exact h5), eval_tmp, sl_put_self _ _ _ (by simp only [put_size]; exact h3)]
end
end
end Go.Proofs.YtpknjenihcfhlaaDoor
