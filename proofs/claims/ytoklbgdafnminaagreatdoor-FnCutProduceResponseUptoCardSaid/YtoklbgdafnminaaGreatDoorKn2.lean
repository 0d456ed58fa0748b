/-
  Known tags: setting an unknown tag in a struct's cell, the drawn region that does it; a reader of its own for a tag. Conditions: none.
-/
import Derived.Test.YtoklbgdafnminaaGreatDoorKn1
import Derived.Deep.RegionHeld3
namespace Go.Proofs.YtoklbgdafnminaaGreatDoor
open Go.RowKit (Below)
open Kz

/-- A map of unknown tags, or none yet. -/
def MapIs (w : World) (base n : Nat) (r : Option Nat) (l : List (Nat × Value)) : Prop := match r with
  | none => l = []
  | some b => l ≠ [] ∧ base ≤ b ∧ w.ownsMap Tryz.prog 61 heldR b n (.map (tagDs l))

/-- What 'Set' does. -/
structure SetPost (w : World) (base cb i n k : Nat) (cells : Array Value) (T : TypeId) (r : Option Nat) (l : List (Nat × Value)) (v : Value) (w' : World) : Prop where
  ex : ∃ b' cells', (r = some b' ∨ r = none ∧ b' = w.heap.size) ∧ w'.heap[cb]? = some (.cells cells' T (0, 0)) ∧ cells'.size = cells.size ∧ cells'[i]? = some (.map (some b')) ∧
      (∀ j, j ≠ i → cells'[j]? = cells[j]?) ∧ MapIs w' base (n + 1) (some b') (putV k v l)
  os : w'.os = w.os
  tape : w'.tape = w.tape
  output : w'.output = w.output
  size : w.heap.size ≤ w'.heap.size
  block : ∀ g, g < w.heap.size → g ≠ cb → r ≠ some g → w'.heap[g]? = w.heap[g]?
set_option maxRecDepth 8000 in
set_option maxHeartbeats 400000 in
theorem Set_at (w : World) (base cb i n k : Nat) (cells : Array Value) (T : TypeId) (r : Option Nat) (l : List (Nat × Value)) (v : Value) (hrow : w.heap[cb]? = some (.cells cells T (0, 0))) (hi : cells[i]? = some (.map r)) (hm : MapIs w base n r l) (hl : Rising l)
    (hk : k < 4294967296) (hn : n < maxLen) (hbase : base ≤ w.heap.size) (hcb : cb < base) :
    Calls Tryz.prog 142 #[.pointer (some ⟨cb, i, none⟩), .int .u32 (k : Int), v] w fun e w' => e = .returned (.tuple #[]) ∧ SetPost w base cb i n k cells T r l v w' := by
  have hlt : cb < w.heap.size := (Array.getElem?_eq_some_iff.1 hrow).1
  have c0 : w.cell? ⟨cb, i, none⟩ = some (.map r) := by rw [cell_of_row w cb i _ _ _ hrow]; exact hi
  have f0 : w.frozen? ⟨cb, i, none⟩ = false := by simp [World.frozen?, hrow]
  have hisz : i < cells.size := (Array.getElem?_eq_some_iff.1 hi).1
  have bkey : Box (keyOf Tryz.prog 61 (.int .u32 (k : Int)) = some (Lit.int .u32 (k : Int))) := ⟨key_ok hk⟩
  have bn : Box (n < maxLen) := ⟨hn⟩
  have bi : Box (i < cells.size) := ⟨hisz⟩
  have bhi : Box (cells[i]? = some (.map r)) := ⟨hi⟩
  have qT : ∀ (w : World) (r : Option Nat), (binOp .eql 67 (.map r) (.map none)).run Tryz.prog w = .ok (.bool r.isNone) w := fun w r => run_eql_map_nil w _ _ _ r Tryz.underlying67
  have hmm := @RowKit.run_makeMap Tryz.prog
  have bhr : Box (w.heap[cb]? = some (.cells cells T (0, 0))) := ⟨hrow⟩
  clear hn hk hrow hisz hi
  cases r with
  | none =>
    have hm : l = [] := hm
    subst hm
    go_enter Tryz.func142, Tryz.ntmps142
    go_wp2_with (at_mapUpdate; refine wpList_mapUpdate_own _ rfl _ _ _ 67 rfl 61 22 keyed32 Tryz.underlying67 heldR w.heap.size n (.map (tagDs [])) rfl ?_ bn.get _ _ _ rfl rfl bkey.get _ [] rfl ?_)
    · exact (World.ownsMap_made (w.setCell ⟨cb, i, none⟩ (.map (some w.heap.size))) Tryz.prog 61 heldR).mono (Nat.zero_le _) |> fun h => by simpa using h
    · intro w1 hown1 hgrow1
      refine ⟨rfl, .tuple #[], results_none (by kernel_rfl) _ _ _, rfl, ⟨w.heap.size, cells.setIfInBounds i (.map (some w.heap.size)), .inr ⟨rfl, rfl⟩, ?_, by simp, by simp [bi.get], fun j hj => by rw [Array.getElem?_setIfInBounds_ne (fun e => hj e.symm)], ⟨by simp [putV], hbase, hown1⟩⟩, hgrow1.os, hgrow1.tape, hgrow1.output, ?_, fun g hg hgc _ => ?_⟩
      · rw [hgrow1.block cb (by simp; omega) (by simp; omega), MapKept_old _ _ _ (by simpa using hlt)]
        exact heap_setCell_row bhr.get
      · have := hgrow1.size; simp at this; omega
      · rw [hgrow1.block g (by simp; omega) (by simp; omega), MapKept_old _ _ _ (by simp; omega)]
        exact Below.heap_setCell _ _ _ _ hgc
  | some b =>
    obtain ⟨hne, hb1, hown⟩ := hm
    have bown : Box (w.ownsMap Tryz.prog 61 heldR b n (.map (tagDs l))) := ⟨hown⟩
    clear hown
    go_enter Tryz.func142, Tryz.ntmps142
    go_wp2_with (at_mapUpdate; refine wpList_mapUpdate_own _ rfl _ _ _ 67 rfl 61 22 keyed32 Tryz.underlying67 heldR b n _ rfl bown.get bn.get _ v _ rfl rfl bkey.get _ [] rfl ?_; intro w1 hown1 hgrow1)
    refine ⟨rfl, .tuple #[], results_none (by kernel_rfl) _ _ _, rfl, ⟨b, cells, .inl rfl, ?_, rfl, bhi.get, fun _ _ => rfl, ⟨putV_ne k v l, hb1, ?_⟩⟩, hgrow1.os, hgrow1.tape, hgrow1.output, hgrow1.size, fun g hg _ hgb => hgrow1.block g hg (fun e => hgb e.symm)⟩
    · rw [hgrow1.block cb hlt (fun e => by have := Option.some.inj e; omega)]; exact bhr.get
    · have e : (DataW.map (tagDs l)).put (Lit.int .u32 (k : Int)) (DataW.held v) = DataW.map (tagDs (putV k v l)) := congrArg DataW.map (put_tags k v l hl)
      rw [← e]; exact hown1

/-! ## A drawn region, operation by operation -/
section
variable {P : Program} {ops : Array Oper} {Q : Exit → Act → World → Prop}
theorem any_step {i : Nat} {o : Oper} {K : Act → World → Prop} {a : Act} {w : World} (hi : ops[i]? = some o) (hg : Region.wanted o (yielded ops a.tmps) = true) (h : o.wp P a w K Q) : wpOp P ops Q i K a w := by
  unfold wpOp
  simp only [hi, hg, if_true]
  exact .inl h
theorem oper_call {f : FuncId} {args : Array Operand} {vs : Array Value} {tys : Array TypeId} {fn : Func} {d : Nat} {ty : TypeId} {pos : String} {aft : Array Edge} {K : Act → World → Prop} {a : Act} {w : World} (hfn : P.funcs[f]? = some fn) (hb : fn.body.isSome = true) (hn : (fn.name == "runtime.NumGoroutine") = false)
    (hv : args.map a.eval = vs) (h : Calls P f vs w fun e w' => ∃ v, e = .returned v ∧ K (a.put (some d) v) w') :
    Oper.wp P ⟨some d, .call { callee := .value (.func f), args := args, argTypes := tys }, ty, pos, aft, none⟩ a w K Q := by
  have hb' : fn.body.isNone = false := by cases hx : fn.body <;> simp_all
  subst hv
  unfold Oper.wp execOp
  simp only [resolve, Act.eval, Deferred.ofValue, invoke, callFunc, Sem.run_bind, Sem.run_pure, Result.andThen_ok, Array.append_empty, program, Sem.run, hfn, hn, hb', Bool.false_eq_true, if_false, Oper.upon_enter]
  rw [Array.empty_append]
  refine Calls.mono h ?_
  rintro e w' ⟨v, rfl, hw⟩
  exact hw
theorem oper_val {o : Oper} {v : Value} {K : Act → World → Prop} {a : Act} {w w' : World} (hr : (execOp a.eval o).run P w = .ok (.value v) w') (h : K (a.put o.dst v) w') : o.wp P a w K Q := by
  unfold Oper.wp
  rw [hr, Oper.upon_value]
  exact h
end
def mark (k : Nat) : Array Bool := #[Nat.blt 0 k, Nat.blt 1 k, Nat.blt 2 k, Nat.blt 3 k, Nat.blt 4 k, Nat.blt 5 k, Nat.blt 6 k, Nat.blt 7 k]
/-- The order in which such a region may be taken. -/
def setOk (ops : Array Oper) : Bool :=
  Region.noSelect ops && decide (ops.size = 8) &&
  ((Region.ready .any ops (mark 0)).contains 0 && Region.free .any ops (mark 0) 0) && ((Region.ready .any ops (mark 1)).contains 1 && Region.free .any ops (mark 1) 1) &&
  ((Region.ready .any ops (mark 2)).contains 2 && Region.free .any ops (mark 2) 2) && ((Region.ready .any ops (mark 3)).contains 3 && Region.free .any ops (mark 3) 3) &&
  decide (Region.ready .any ops (mark 4) = [4]) && decide (Region.ready .any ops (mark 5) = [5]) && decide (Region.ready .any ops (mark 6) = [6]) && decide (Region.ready .any ops (mark 7) = [7]) && decide (Region.ready .any ops (mark 8) = [])
theorem mark_set : ∀ k, k < 8 → (mark k).setIfInBounds k true = mark (k + 1) := fun k hk => by
  rcases (by omega : k = 0 ∨ k = 1 ∨ k = 2 ∨ k = 3 ∨ k = 4 ∨ k = 5 ∨ k = 6 ∨ k = 7) with rfl | rfl | rfl | rfl | rfl | rfl | rfl | rfl <;> rfl
theorem mark_none : Array.replicate 8 false = mark 0 := rfl

abbrev World.drawn1 (w : World) : World := { w with drawn := w.drawn + 1 }
theorem RdIs.drawn1 {w : World} {S : Nat → Prop} {rb : Nat} {st : St} (h : RdIs w S rb st) : RdIs (World.drawn1 w) S rb st := h

set_option maxRecDepth 8000 in
set_option maxHeartbeats 1000000 in
theorem reg_setTag {id sp kk rs t1 t2 t3 t4 t5 t6 t7 t8 TT k c1 c2 f1 f2 f3 N off : Nat} {tys1 tys2 tys3 : Array TypeId} {y1 y2 y3 y4 y5 y6 y7 y8 : TypeId} {p1 p2 p3 p4 p5 p6 p7 p8 : String} {e1 e2 e3 e4 e5 e6 e7 e8 : Array Edge}
    (hf1 : f1 = 141) (hf2 : f2 = 143) (hf3 : f3 = 142) (hc1 : c1 = 61) (hc2 : c2 = 3) (hoff : offOf Tryz.prog TT k = some off)
    (hB : setOk #[⟨some t1, .move (.tmp sp), y1, p1, e1, none⟩, ⟨some t2, .nilCheck (.tmp t1), y2, p2, e2, none⟩, ⟨some t3, .fieldAddr TT (.tmp t2) k, y3, p3, e3, none⟩, ⟨some t4, .move (.tmp kk), y4, p4, e4, none⟩, ⟨some t5, .call { callee := .value (.func f1), args := #[.tmp rs], argTypes := tys1 }, y5, p5, e5, none⟩,
      ⟨some t6, .convert c1 c2 (.tmp t5), y6, p6, e6, none⟩, ⟨some t7, .call { callee := .value (.func f2), args := #[.tmp rs, .tmp t6], argTypes := tys2 }, y7, p7, e7, none⟩, ⟨some t8, .call { callee := .value (.func f3), args := #[.tmp t3, .tmp t4, .tmp t7], argTypes := tys3 }, y8, p8, e8, none⟩] = true)
    (hn : [t1, t2, t3, t4, t5, t6, t7, t8].all (· < N) = true) (hd : decide ([sp, kk, rs, t1, t2, t3, t4, t5, t6, t7, t8].Nodup) = true)
    {a : Act} {w : World} {Q : Exit → Act → World → Prop} {S : Nat → Prop} {rb cb co key n base : Nat} {st : St} {cells : Array Value} {T : TypeId} {r : Option Nat} {l : List (Nat × Value)} {u : List (Nat × List UInt8)}
    (hN : a.tmps.size = N) (hsp : sl a sp = .pointer (some ⟨cb, co, none⟩)) (hkk : sl a kk = .int .u32 (key : Int)) (hrs : sl a rs = .pointer (some ⟨rb, 0, none⟩)) (hk : key < 4294967296) (hnn : n < maxLen) (hr : RdIs w S rb st) (hrow : w.heap[cb]? = some (.cells cells T (0, 0))) (hi : cells[co + off]? = some (.map r))
    (hm : MapIs w base n r l) (hl : Rising l) (hu : TagsAt w S l u) (hbase : base ≤ w.heap.size) (hcb : cb < base) (hrb : rb < base) (hS : ∀ g, S g → g < base) (hSc : ¬ S cb) (hne : cb ≠ rb)
    (hq : ∀ a' w' b' cells', Upd a a' [t1, t2, t3, t4, t5, t6, t7, t8] → (r = some b' ∨ r = none ∧ w.heap.size ≤ b') → RdIs w' S rb (rdSpan (rdV st).1 (rdV st).2).2 → w'.heap[cb]? = some (.cells cells' T (0, 0)) → cells'.size = cells.size → cells'[co + off]? = some (.map (some b')) →
      (∀ j, j ≠ co + off → cells'[j]? = cells[j]?) → (∃ l', Rising l' ∧ TagsAt w' S l' (setTag key (rdSpan (rdV st).1 (rdV st).2).1 u) ∧ MapIs w' base (n + 1) (some b') l') →
      w'.os = w.os → w'.tape = w.tape → w'.output = w.output → w.heap.size ≤ w'.heap.size → (∀ g, g < w.heap.size → g ≠ cb → g ≠ rb → r ≠ some g → w'.heap[g]? = w.heap[g]?) → Q .normal a' w') :
    (Code.region id #[⟨some t1, .move (.tmp sp), y1, p1, e1, none⟩, ⟨some t2, .nilCheck (.tmp t1), y2, p2, e2, none⟩, ⟨some t3, .fieldAddr TT (.tmp t2) k, y3, p3, e3, none⟩, ⟨some t4, .move (.tmp kk), y4, p4, e4, none⟩, ⟨some t5, .call { callee := .value (.func f1), args := #[.tmp rs], argTypes := tys1 }, y5, p5, e5, none⟩,
      ⟨some t6, .convert c1 c2 (.tmp t5), y6, p6, e6, none⟩, ⟨some t7, .call { callee := .value (.func f2), args := #[.tmp rs, .tmp t6], argTypes := tys2 }, y7, p7, e7, none⟩, ⟨some t8, .call { callee := .value (.func f3), args := #[.tmp t3, .tmp t4, .tmp t7], argTypes := tys3 }, y8, p8, e8, none⟩] true).wp Tryz.prog Q a w := by
  subst hf1 hf2 hf3 hc1 hc2
  simp only [List.all_cons, List.all_nil, Bool.and_true, Bool.and_eq_true, decide_eq_true_eq] at hn
  obtain ⟨n1, n2, n3, n4, n5, n6, n7, n8⟩ := hn
  have hd' := of_decide_eq_true hd
  simp only [List.nodup_cons, List.mem_cons, List.not_mem_nil, or_false, not_or, List.nodup_nil, and_true, not_false_eq_true] at hd'
  obtain ⟨⟨-, -, s1, s2, s3, s4, s5, s6, s7, s8⟩, ⟨-, q1, q2, q3, q4, q5, q6, q7, q8⟩, ⟨r1, r2, r3, r4, r5, r6, r7, r8⟩, ⟨a12, a13, a14, a15, a16, a17, a18⟩, ⟨a23, a24, a25, a26, a27, a28⟩, ⟨a34, a35, a36, a37, a38⟩, ⟨a45, a46, a47, a48⟩, ⟨a56, a57, a58⟩, ⟨a67, a68⟩, a78⟩ := hd'
  obtain ⟨fn1, hfn1, hb1, hnn1⟩ := hasBody_ok (P := Tryz.prog) (f := 141) (by kernel_rfl)
  obtain ⟨fn2, hfn2, hb2, hnn2⟩ := hasBody_ok (P := Tryz.prog) (f := 143) (by kernel_rfl)
  obtain ⟨fn3, hfn3, hb3, hnn3⟩ := hasBody_ok (P := Tryz.prog) (f := 142) (by kernel_rfl)
  refine wp_region_noPanic (wp_region_held (S := fun _ => True) (by kernel_rfl) ?_)
  generalize hops : (#[⟨some t1, .move (.tmp sp), y1, p1, e1, none⟩, ⟨some t2, .nilCheck (.tmp t1), y2, p2, e2, none⟩, ⟨some t3, .fieldAddr TT (.tmp t2) k, y3, p3, e3, none⟩, ⟨some t4, .move (.tmp kk), y4, p4, e4, none⟩, ⟨some t5, .call { callee := .value (.func 141), args := #[.tmp rs], argTypes := tys1 }, y5, p5, e5, none⟩,
      ⟨some t6, .convert 61 3 (.tmp t5), y6, p6, e6, none⟩, ⟨some t7, .call { callee := .value (.func 143), args := #[.tmp rs, .tmp t6], argTypes := tys2 }, y7, p7, e7, none⟩, ⟨some t8, .call { callee := .value (.func 142), args := #[.tmp t3, .tmp t4, .tmp t7], argTypes := tys3 }, y8, p8, e8, none⟩] : Array Oper) = ops at hB ⊢
  have o0 : ops[0]? = some ⟨some t1, .move (.tmp sp), y1, p1, e1, none⟩ := by rw [← hops]; rfl
  have o1 : ops[1]? = some ⟨some t2, .nilCheck (.tmp t1), y2, p2, e2, none⟩ := by rw [← hops]; rfl
  have o2 : ops[2]? = some ⟨some t3, .fieldAddr TT (.tmp t2) k, y3, p3, e3, none⟩ := by rw [← hops]; rfl
  have o3 : ops[3]? = some ⟨some t4, .move (.tmp kk), y4, p4, e4, none⟩ := by rw [← hops]; rfl
  have o4 : ops[4]? = some ⟨some t5, .call { callee := .value (.func 141), args := #[.tmp rs], argTypes := tys1 }, y5, p5, e5, none⟩ := by rw [← hops]; rfl
  have o5 : ops[5]? = some ⟨some t6, .convert 61 3 (.tmp t5), y6, p6, e6, none⟩ := by rw [← hops]; rfl
  have o6 : ops[6]? = some ⟨some t7, .call { callee := .value (.func 143), args := #[.tmp rs, .tmp t6], argTypes := tys2 }, y7, p7, e7, none⟩ := by rw [← hops]; rfl
  have o7 : ops[7]? = some ⟨some t8, .call { callee := .value (.func 142), args := #[.tmp t3, .tmp t4, .tmp t7], argTypes := tys3 }, y8, p8, e8, none⟩ := by rw [← hops]; rfl
  clear hops
  simp only [setOk, Bool.and_eq_true, decide_eq_true_eq] at hB
  obtain ⟨⟨⟨⟨⟨⟨⟨⟨⟨⟨hsel, h8⟩, k0, j0⟩, k1, j1⟩, k2, j2⟩, k3, j3⟩, m4⟩, m5⟩, m6⟩, m7⟩, m8⟩ := hB
  rw [h8, mark_none]
  refine wpAnyH_take (v := sl a sp) o0 hsel j0 k0 (fun _ _ _ h => h) (.inl ⟨rfl, fun w _ => by unfold execOp; simp only [Sem.run_pure]; rfl⟩) trivial ?_
  rw [mark_set 0 (by decide)]
  refine wpAnyH_take (v := .pointer (some ⟨cb, co, none⟩)) o1 hsel j1 k1 (fun _ _ _ h => h) (.inl ⟨rfl, fun w _ => ?_⟩) trivial ?_
  · unfold execOp; simp only [eval_tmp, sl_put_self _ _ _ (show t1 < a.tmps.size by omega), hsp, Sem.run_pure]
  rw [mark_set 1 (by decide)]
  refine wpAnyH_take (v := .pointer (some ⟨cb, co + off, none⟩)) o2 hsel j2 k2 (fun _ _ _ h => h) (.inl ⟨rfl, fun w _ => ?_⟩) trivial ?_
  · unfold execOp; simp only [eval_tmp, sl_put_self _ _ _ (show t2 < (a.put (some t1) (sl a sp)).tmps.size by rw [put_size]; omega), Sem.run_bind, fieldOff_ok hoff cb co w, Result.andThen_ok, Sem.run_pure]
  rw [mark_set 2 (by decide)]
  refine wpAnyH_take (v := .int .u32 (key : Int)) o3 hsel j3 k3 (fun _ _ _ h => h) (.inl ⟨rfl, fun w _ => ?_⟩) trivial ?_
  · unfold execOp
    simp only [Sem.run_pure, eval_tmp]
    rw [sl_put_other _ _ _ _ (fun e => q3 e.symm), sl_put_other _ _ _ _ (fun e => q2 e.symm), sl_put_other _ _ _ _ (fun e => q1 e.symm), hkk]
  rw [mark_set 3 (by decide)]
  have hv4 : Upd a ((((a.put (some t1) (sl a sp)).put (some t2) (.pointer (some ⟨cb, co, none⟩))).put (some t3) (.pointer (some ⟨cb, co + off, none⟩))).put (some t4) (.int .u32 (key : Int))) [t1, t2, t3, t4, t5, t6, t7, t8] := ((((Upd.refl a _).put t1 _ (by simp)).put t2 _ (by simp)).put t3 _ (by simp)).put t4 _ (by simp)
  have g3 : sl ((((a.put (some t1) (sl a sp)).put (some t2) (.pointer (some ⟨cb, co, none⟩))).put (some t3) (.pointer (some ⟨cb, co + off, none⟩))).put (some t4) (.int .u32 (key : Int))) t3 = .pointer (some ⟨cb, co + off, none⟩) := by
    rw [sl_put_other _ _ _ _ (fun e => a34 e.symm), sl_put_self _ _ _ (by simp only [put_size]; omega)]
  have g4 : sl ((((a.put (some t1) (sl a sp)).put (some t2) (.pointer (some ⟨cb, co, none⟩))).put (some t3) (.pointer (some ⟨cb, co + off, none⟩))).put (some t4) (.int .u32 (key : Int))) t4 = .int .u32 (key : Int) := sl_put_self _ _ _ (by simp only [put_size]; omega)
  generalize ((((a.put (some t1) (sl a sp)).put (some t2) (.pointer (some ⟨cb, co, none⟩))).put (some t3) (.pointer (some ⟨cb, co + off, none⟩))).put (some t4) (.int .u32 (key : Int))) = a4 at hv4 g3 g4 ⊢
  have hz4 : a4.tmps.size = N := hv4.size.trans hN
  have hrs4 : sl a4 rs = .pointer (some ⟨rb, 0, none⟩) := (hv4.same rs (by simp only [List.mem_cons, List.not_mem_nil, or_false, not_or]; exact ⟨r1, r2, r3, r4, r5, r6, r7, r8⟩)).trans hrs
  -- the number
  refine wpAnyH_all m4 (by simp) fun i hi4 => ?_
  obtain rfl : i = 4 := by simpa using hi4
  refine any_step o4 rfl (oper_call hfn1 hb1 hnn1 (vs := #[.pointer (some ⟨rb, 0, none⟩)]) (by simp [eval_tmp, hrs4]) ?_)
  refine Calls.mono (RUvarint_any (World.drawn1 w) S rb st hr.drawn1) ?_
  rintro e w1 ⟨rfl, hr1, hg1⟩
  refine ⟨_, rfl, trivial, ?_⟩
  rw [mark_set 4 (by decide)]
  have hbd := rdV_bounds st
  refine wpAnyH_all m5 (by simp) fun i hi5 => ?_
  obtain rfl : i = 5 := by simpa using hi5
  refine any_step o5 rfl (oper_val (v := .int .i64 ((rdV st).1 : Int)) (w' := w1) (exec_conv (k := .u32) (n := ((rdV st).1 : Int)) Tryz.underlying61 Tryz.underlying3 (by rw [eval_tmp, sl_put_self _ _ _ (by omega)]) (by rw [wrap_i64 _ (by omega)])) ⟨trivial, ?_⟩)
  rw [mark_set 5 (by decide)]
  refine wpAnyH_all m6 (by simp) fun i hi6 => ?_
  obtain rfl : i = 6 := by simpa using hi6
  refine any_step o6 rfl (oper_call hfn2 hb2 hnn2 (vs := #[.pointer (some ⟨rb, 0, none⟩), .int .i64 ((rdV st).1 : Int)]) ?_ ?_)
  · simp only [List.map_toArray, List.map_cons, List.map_nil, eval_tmp]
    rw [sl_put_other _ _ _ _ (fun e => r6 e.symm), sl_put_other _ _ _ _ (fun e => r5 e.symm), hrs4, sl_put_self _ _ _ (by simp only [put_size]; omega)]
  refine Calls.mono (Span_any w1 S rb _ _ hr1 (by omega) (by omega)) ?_
  rintro e w2 ⟨v, rfl, hv, hr2, hg2⟩
  refine ⟨_, rfl, trivial, ?_⟩
  rw [mark_set 6 (by decide)]
  have hg : w.grownBy w2 (some rb) := grownBy_trans (b := w1) ⟨hg1.os, hg1.tape, hg1.output, hg1.size, hg1.block⟩ hg2
  have hcbw : cb < w.heap.size := (Array.getElem?_eq_some_iff.1 hrow).1
  have hrow2 : w2.heap[cb]? = some (.cells cells T (0, 0)) := by rw [hg.block cb hcbw (fun e => hne (Option.some.inj e))]; exact hrow
  have hm2 : MapIs w2 base n r l := by
    cases r with
    | none => exact hm
    | some b => exact ⟨hm.1, hm.2.1, ownsMap_block hm.2.2 (hg.block b hm.2.2.lt (fun e => by have := Option.some.inj e; have := hm.2.1; omega))⟩
  refine wpAnyH_all m7 (by simp) fun i hi7 => ?_
  obtain rfl : i = 7 := by simpa using hi7
  refine any_step o7 rfl (oper_call hfn3 hb3 hnn3 (vs := #[.pointer (some ⟨cb, co + off, none⟩), .int .u32 (key : Int), v]) ?_ ?_)
  · simp only [List.map_toArray, List.map_cons, List.map_nil, eval_tmp]
    rw [sl_put_other _ _ _ _ (fun e => a37 e.symm), sl_put_other _ _ _ _ (fun e => a36 e.symm), sl_put_other _ _ _ _ (fun e => a35 e.symm), g3, sl_put_other _ _ _ _ (fun e => a47 e.symm), sl_put_other _ _ _ _ (fun e => a46 e.symm), sl_put_other _ _ _ _ (fun e => a45 e.symm), g4, sl_put_self _ _ _ (by simp only [put_size]; omega)]
  refine Calls.mono (Set_at w2 base cb (co + off) n key cells T r l v hrow2 hi hm2 hl hk hnn (Nat.le_trans hbase hg.size) hcb) ?_
  rintro e w3 ⟨rfl, ⟨b', cells', hb', hrow3, hsz3, hi3, hj3, hm3⟩, ho3, ht3, hp3, hz3, hh3⟩
  refine ⟨_, rfl, trivial, ?_⟩
  rw [mark_set 7 (by decide)]
  refine wpAnyH_done (Q := NoPanic Q) m8 (NoPanic.normal (hq _ w3 b' cells' ?_ ?_ ?_ hrow3 hsz3 hi3 hj3 ⟨_, putV_rising key v l hl, ?_, hm3⟩ (ho3.trans hg.os) (ht3.trans hg.tape) (hp3.trans hg.output) (Nat.le_trans hg.size hz3) fun g hgl hgc hgr hgm => ?_)) _
  · exact hv4.trans (((((Upd.refl a4 _).put t5 _ (by simp)).put t6 _ (by simp)).put t7 _ (by simp)).put t8 _ (by simp))
  · exact hb'.imp (fun h => h) fun h => ⟨h.1, by rw [h.2]; exact hg.size⟩
  · refine ⟨hr2.1, ?_⟩
    have hlt2 : rb < w2.heap.size := Nat.lt_of_lt_of_le hrb (Nat.le_trans hbase hg.size)
    have hblk : w3.heap[rb]? = w2.heap[rb]? := hh3 rb hlt2 (fun e => hne e.symm) (fun e => by
      cases r with
      | none => cases e
      | some b => have := Option.some.inj e; have := hm2.2.1; omega)
    have hrest := hr2.2
    cases hst : (rdSpan (rdV st).1 (rdV st).2).2 with
    | none => rw [hst] at hrest; show w3.heap[rb]? = _; rw [hblk]; exact hrest
    | some bs =>
      rw [hst] at hrest
      obtain ⟨x, hx, hbx⟩ := hrest
      refine ⟨x, by rw [hblk]; exact hx, stable_bytes (fun g hgS hgl => hh3 g hgl (fun e => hSc (e ▸ hgS)) (fun e => ?_)) hz3 (fun _ h => h) hbx⟩
      cases r with
      | none => cases e
      | some b => have := Option.some.inj e; have := hm2.2.1; have := hS g hgS; omega
  · have hS3 : ∀ g, S g → g < w2.heap.size → w3.heap[g]? = w2.heap[g]? := fun g hgS hgl => hh3 g hgl (fun e => hSc (e ▸ hgS)) (fun e => by
      cases r with
      | none => cases e
      | some b => have := Option.some.inj e; have := hm2.2.1; have := hS g hgS; omega)
    refine tagsAt_put key (stable_bytes hS3 hz3 (fun _ h => h) hv) l u (tagsAt_kept (fun g hgS hgl => ?_) (Nat.le_trans hg.size hz3) (fun _ h => h) l u hu)
    rw [hS3 g hgS (Nat.lt_of_lt_of_le hgl hg.size), hg.block g hgl (fun e => hr.1 (by rw [← Option.some.inj e]; exact hgS))]
  · rw [hh3 g (Nat.lt_of_lt_of_le hgl hg.size) hgc hgm, hg.block g hgl (fun e => hgr (Option.some.inj e))]
end Go.Proofs.YtoklbgdafnminaaGreatDoor
