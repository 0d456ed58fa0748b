/-
  Operations of small functions, each by one law. Conditions: none.
-/
import Derived.Test.YtpknjenihcfhlaaDoorOps2
namespace Go.Proofs.YtpknjenihcfhlaaDoor
open Go.RowKit (Below)

section
variable {P : Program} {ρ : Operand → Value} {d : Option Nat} {ty : TypeId} {pos : String} {aft : Array Edge} {g : Option (Nat × Bool)} {w : World}
theorem exec_len_str {T : TypeId} {x : Operand} {s : ByteArray} {n : Nat} (ht : P.underlying T = some .string) (hx : ρ x = .string s) (hn : s.size = n) : (execOp ρ ⟨d, .call { callee := .builtin .len, args := #[x], argTypes := #[T] }, ty, pos, aft, g⟩).run P w = .ok (.value (.int .i64 (n : Int))) w := by
  subst hn
  simp [execOp, resolve, invoke, builtin, hx, Builtin.len_, run_underlying ht, goInt]
theorem exec_len_slice {T e : TypeId} {x : Operand} {p : Option Addr} {n c : Nat} (ht : P.underlying T = some (.slice e)) (hx : ρ x = .slice p n c) : (execOp ρ ⟨d, .call { callee := .builtin .len, args := #[x], argTypes := #[T] }, ty, pos, aft, g⟩).run P w = .ok (.value (.int .i64 (n : Int))) w := by
  simp [execOp, resolve, invoke, builtin, hx, Builtin.len_, run_underlying ht, goInt]
theorem exec_conv {src dst : TypeId} {x : Operand} {k k' : IntKind} {n m : Int} {ds : TypeDesc} (hs : P.underlying src = some ds) (hd : P.underlying dst = some (.int k')) (hx : ρ x = .int k n) (hm : k'.wrap n = m) :
    (execOp ρ ⟨d, .convert src dst x, ty, pos, aft, g⟩).run P w = .ok (.value (.int k' m)) w := by
  subst hm
  simp [execOp, hx, convert, run_underlying hs, run_underlying hd, Conv.intToInt]
theorem exec_add {T T' : TypeId} {x y : Operand} {k : IntKind} {a b m : Int} (hx : ρ x = .int k a) (hy : ρ y = .int k b) (hm : k.wrap (a + b) = m) : (execOp ρ ⟨d, .binOp .add T x y T', ty, pos, aft, g⟩).run P w = .ok (.value (.int k m)) w := by
  subst hm
  exact exec_bin hx hy (eqGuard_at_int ..) (by rw [binOp_add]; simp [Op.intArith])
end

/-- The frame at a call of two values. -/
theorem enter2 {P : Program} {f : Nat} {fn : Func} {c : Code} {x y : Value} {w : World} {R : Ending → World → Prop} {res : Nat} (hf : P.funcs[f]? = some fn) (hb : fn.body = some c) (hn : 2 ≤ fn.ntmps) (hr : fn.results = #[.tmp res])
    (h : ∀ (a : Act), a.tmps.size = fn.ntmps → a.defers = [] → sl a 0 = x → sl a 1 = y → c.wp P (fun e a' w' => e = .ret ∧ a'.defers = [] ∧ R (.returned (sl a' res)) w') a w) : Calls P f #[x, y] w R := by
  refine calls_of_wp hf hb ?_
  refine wp_mono (h _ (by simp; omega) rfl (by simp [sl, Array.getD_eq_getD_getElem?, Array.getElem?_append]) (by simp [sl, Array.getD_eq_getD_getElem?, Array.getElem?_append])) ?_
  rintro e a' w' ⟨rfl, hd, hq⟩
  exact ⟨hd, _, results_tmp hr _ _ _, hq⟩

section
variable {P : Program} {Q : Exit → Act → World → Prop} {a : Act} {w : World} {id : Nat}
/-- 'd = f(x, K(len(y)))'. -/
theorem reg_len_call {f x y t1 t2 t3 t4 t5 d : Nat} {T src dst ty1 ty2 ty3 ty4 ty5 ty6 : TypeId} {tys : Array TypeId} {p1 p2 p3 p4 p5 p6 : String} {e1 e2 e3 e4 e5 e6 : Array Edge} {fn : Func} {k' : IntKind} {u m : Int} {ds : TypeDesc}
    (hfn : P.funcs[f]? = some fn) (hb : fn.body.isSome = true) (hnn : (fn.name == "runtime.NumGoroutine") = false) (hs : P.underlying src = some ds) (hdst : P.underlying dst = some (.int k')) (hm : k'.wrap u = m)
    (hn : [t1, t2, t3, t4, t5, d].all (· < a.tmps.size) = true) (hd : decide ([y, t1, t2, t3, t4].Nodup) = true)
    (hlen : ∀ ρ : Operand → Value, ρ (.tmp t2) = sl a y → (execOp ρ ⟨some t3, .call { callee := .builtin .len, args := #[.tmp t2], argTypes := #[T] }, ty3, p3, e3, none⟩).run P w = .ok (.value (.int .i64 u)) w)
    (hc : Calls P f #[sl a x, .int k' m] w fun e w' => ∃ v, e = .returned v ∧ ∀ a', Upd a a' [t1, t2, t3, t4, t5, d] → sl a' d = v → Q .normal a' w') :
    (Code.region id #[⟨some t1, .move (.tmp x), ty1, p1, e1, none⟩, ⟨some t2, .move (.tmp y), ty2, p2, e2, none⟩, ⟨some t3, .call { callee := .builtin .len, args := #[.tmp t2], argTypes := #[T] }, ty3, p3, e3, none⟩, ⟨some t4, .convert src dst (.tmp t3), ty4, p4, e4, none⟩,
      ⟨some t5, .call { callee := .value (.func f), args := #[.tmp t1, .tmp t4], argTypes := tys }, ty5, p5, e5, none⟩, ⟨some d, .assign (.tmp t5), ty6, p6, e6, none⟩] false).wp P Q a w := by
  simp only [List.all_cons, List.all_nil, Bool.and_true, Bool.and_eq_true, decide_eq_true_eq] at hn hd
  obtain ⟨n1, n2, n3, n4, n5, n6⟩ := hn
  simp only [List.nodup_cons, List.mem_cons, List.not_mem_nil, or_false, not_or, List.nodup_nil, and_true, not_false_eq_true] at hd
  obtain ⟨⟨y1, y2, y3, y4⟩, ⟨z2, z3, z4⟩, ⟨u3, u4⟩, v4⟩ := hd
  refine wp_region_lit (st_move (st_move (st_val (v := .int .i64 u) (w' := w) (hlen _ ?_) (st_val (v := .int k' m) (w' := w) (exec_conv (k := .i64) hs hdst ?_ hm) (st_call2 hfn hb hnn ?_)))))
  · rw [eval_tmp, sl_put_self _ _ _ (by rw [put_size]; exact n2), eval_tmp, sl_put_other _ _ _ _ (fun e => y1 e.symm)]
  · rw [eval_tmp, sl_put_self _ _ _ (by simp only [put_size]; exact n3)]
  · rw [eval_tmp, sl_put_other _ _ _ _ (fun e => z4 e.symm), sl_put_other _ _ _ _ (fun e => z3 e.symm), sl_put_other _ _ _ _ (fun e => z2 e.symm), sl_put_self _ _ _ n1, eval_tmp, eval_tmp, sl_put_self _ _ _ (by simp only [put_size]; exact n4)]
    refine Calls.mono hc ?_
    rintro e w' ⟨v, rfl, hq⟩
    refine ⟨v, rfl, st_assign (wpList_nil (hq _ ((((((Upd.refl a _).put t1 _ (by simp)).put t2 _ (by simp)).put t3 _ (by simp)).put t4 _ (by simp)).put t5 _ (by simp) |>.put d _ (by simp)) ?_))⟩
    rw [sl_put_self _ _ _ (by simp only [put_size]; exact n6), eval_tmp, sl_put_self _ _ _ (by simp only [put_size]; exact n5)]
/-- 'd = f(x, 1 + K(len(y)))'. -/
theorem reg_len1_call {f x y t1 t2 t3 t4 t5 t6 d : Nat} {T src dst A A' ty1 ty2 ty3 ty4 ty5 ty6 ty7 : TypeId} {tys : Array TypeId} {p1 p2 p3 p4 p5 p6 p7 : String} {e1 e2 e3 e4 e5 e6 e7 : Array Edge} {fn : Func} {k' : IntKind} {u m m2 c : Int} {ds : TypeDesc}
    (hfn : P.funcs[f]? = some fn) (hb : fn.body.isSome = true) (hnn : (fn.name == "runtime.NumGoroutine") = false) (hs : P.underlying src = some ds) (hdst : P.underlying dst = some (.int k')) (hm : k'.wrap u = m) (hm2 : k'.wrap (c + m) = m2)
    (hn : [t1, t2, t3, t4, t5, t6, d].all (· < a.tmps.size) = true) (hd : decide ([y, t1, t2, t3, t4, t5].Nodup) = true)
    (hlen : ∀ ρ : Operand → Value, ρ (.tmp t2) = sl a y → (execOp ρ ⟨some t3, .call { callee := .builtin .len, args := #[.tmp t2], argTypes := #[T] }, ty3, p3, e3, none⟩).run P w = .ok (.value (.int .i64 u)) w)
    (hc : Calls P f #[sl a x, .int k' m2] w fun e w' => ∃ v, e = .returned v ∧ ∀ a', Upd a a' [t1, t2, t3, t4, t5, t6, d] → sl a' d = v → Q .normal a' w') :
    (Code.region id #[⟨some t1, .move (.tmp x), ty1, p1, e1, none⟩, ⟨some t2, .move (.tmp y), ty2, p2, e2, none⟩, ⟨some t3, .call { callee := .builtin .len, args := #[.tmp t2], argTypes := #[T] }, ty3, p3, e3, none⟩, ⟨some t4, .convert src dst (.tmp t3), ty4, p4, e4, none⟩,
      ⟨some t5, .binOp .add A (.const (.int k' c)) (.tmp t4) A', ty5, p5, e5, none⟩, ⟨some t6, .call { callee := .value (.func f), args := #[.tmp t1, .tmp t5], argTypes := tys }, ty6, p6, e6, none⟩, ⟨some d, .assign (.tmp t6), ty7, p7, e7, none⟩] false).wp P Q a w := by
  simp only [List.all_cons, List.all_nil, Bool.and_true, Bool.and_eq_true, decide_eq_true_eq] at hn hd
  obtain ⟨n1, n2, n3, n4, n5, n6, n7⟩ := hn
  simp only [List.nodup_cons, List.mem_cons, List.not_mem_nil, or_false, not_or, List.nodup_nil, and_true, not_false_eq_true] at hd
  obtain ⟨⟨y1, y2, y3, y4, y5⟩, ⟨z2, z3, z4, z5⟩, ⟨u3, u4, u5⟩, ⟨v4, v5⟩, w5⟩ := hd
  refine wp_region_lit (st_move (st_move (st_val (v := .int .i64 u) (w' := w) (hlen _ ?_) (st_val (v := .int k' m) (w' := w) (exec_conv (k := .i64) hs hdst ?_ hm) (st_val (v := .int k' m2) (w' := w) (exec_add (eval_const _ _) ?_ hm2) (st_call2 hfn hb hnn ?_))))))
  · rw [eval_tmp, sl_put_self _ _ _ (by rw [put_size]; exact n2), eval_tmp, sl_put_other _ _ _ _ (fun e => y1 e.symm)]
  · rw [eval_tmp, sl_put_self _ _ _ (by simp only [put_size]; exact n3)]
  · rw [eval_tmp, sl_put_self _ _ _ (by simp only [put_size]; exact n4)]
  · rw [eval_tmp, sl_put_other _ _ _ _ (fun e => z5 e.symm), sl_put_other _ _ _ _ (fun e => z4 e.symm), sl_put_other _ _ _ _ (fun e => z3 e.symm), sl_put_other _ _ _ _ (fun e => z2 e.symm), sl_put_self _ _ _ n1, eval_tmp, eval_tmp, sl_put_self _ _ _ (by simp only [put_size]; exact n5)]
    refine Calls.mono hc ?_
    rintro e w' ⟨v, rfl, hq⟩
    refine ⟨v, rfl, st_assign (wpList_nil (hq _ (((((((Upd.refl a _).put t1 _ (by simp)).put t2 _ (by simp)).put t3 _ (by simp)).put t4 _ (by simp)).put t5 _ (by simp)).put t6 _ (by simp) |>.put d _ (by simp)) ?_))⟩
    rw [sl_put_self _ _ _ (by simp only [put_size]; exact n7), eval_tmp, sl_put_self _ _ _ (by simp only [put_size]; exact n6)]
/-- 'd = append(x, y...)': by a law at the operation. -/
theorem reg_append2 {x y t1 t2 t3 d : Nat} {T1 T2 ty1 ty2 ty3 ty4 : TypeId} {p1 p2 p3 p4 : String} {e1 e2 e3 e4 : Array Edge} (hn : [t1, t2, t3, d].all (· < a.tmps.size) = true) (hd : decide (t1 ≠ t2 ∧ t1 ≠ y) = true)
    (hc : ∀ (ops : Array Oper) (rest : List Oper) (a1 : Act), sl a1 t1 = sl a x → sl a1 t2 = sl a y → (∀ v w', (∀ a', Upd a a' [t1, t2, t3, d] → sl a' d = v → Q .normal a' w') → wpList P ops Q rest (a1.put (some t3) v) w') → wpList P ops Q (⟨some t3, .call { callee := .builtin .append, args := #[.tmp t1, .tmp t2], argTypes := #[T1, T2] }, ty3, p3, e3, none⟩ :: rest) a1 w) :
    (Code.region id #[⟨some t1, .move (.tmp x), ty1, p1, e1, none⟩, ⟨some t2, .move (.tmp y), ty2, p2, e2, none⟩, ⟨some t3, .call { callee := .builtin .append, args := #[.tmp t1, .tmp t2], argTypes := #[T1, T2] }, ty3, p3, e3, none⟩, ⟨some d, .assign (.tmp t3), ty4, p4, e4, none⟩] false).wp P Q a w := by
  simp only [List.all_cons, List.all_nil, Bool.and_true, Bool.and_eq_true, decide_eq_true_eq] at hn hd
  obtain ⟨n1, n2, n3, n4⟩ := hn
  refine wp_region_lit (st_move (st_move (hc _ _ _ ?_ ?_ fun v w' hq => st_assign (wpList_nil (hq _ ((((Upd.refl a _).put t1 _ (by simp)).put t2 _ (by simp)).put t3 _ (by simp) |>.put d _ (by simp)) ?_)))))
  · rw [sl_put_other _ _ _ _ (fun e => hd.1 e.symm), sl_put_self _ _ _ n1, eval_tmp]
  · rw [sl_put_self _ _ _ (by rw [put_size]; exact n2), eval_tmp, sl_put_other _ _ _ _ hd.2]
  · rw [sl_put_self _ _ _ (by simp only [put_size]; exact n4), eval_tmp, sl_put_self _ _ _ (by simp only [put_size]; exact n3)]
end
end Go.Proofs.YtpknjenihcfhlaaDoor
