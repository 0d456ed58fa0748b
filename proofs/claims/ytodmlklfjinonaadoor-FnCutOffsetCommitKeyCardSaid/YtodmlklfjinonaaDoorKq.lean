/-
  What is kept within: the thin package's function. Conditions: none.
-/
import Derived.Test.YtodmlklfjinonaaDoorKp
namespace Go.Proofs.YtodmlklfjinonaaDoor
open Go.RowKit (Below)
open Kz

/-- The frame at a call of one value, two results. -/
theorem enter12 {P : Program} {f : Nat} {fn : Func} {c : Code} {x : Value} {w : World} {R : Ending → World → Prop} {r1 r2 : Nat} (hf : P.funcs[f]? = some fn) (hb : fn.body = some c) (hn : 1 ≤ fn.ntmps) (hr : fn.results = #[.tmp r1, .tmp r2])
    (h : ∀ (a : Act), a.tmps.size = fn.ntmps → a.defers = [] → sl a 0 = x → c.wp P (fun e a' w' => e = .ret ∧ a'.defers = [] ∧ R (.returned (.tuple #[sl a' r1, sl a' r2])) w') a w) : Calls P f #[x] w R := by
  refine calls_of_wp hf hb ?_
  refine wp_mono (h _ (by simp; omega) rfl (by simp [sl, Array.getD_eq_getD_getElem?, Array.getElem?_append])) ?_
  rintro e a' w' ⟨rfl, hd, hq⟩
  exact ⟨hd, _, results_tmp2 hr _ _ _, hq⟩

/-- Cells laid one behind the other. -/
def setL (z : Array Value) : Nat → List Value → Array Value
  | _, [] => z
  | o, v :: r => setL (z.setIfInBounds o v) (o + 1) r
theorem setCells_row (b : Nat) (T : TypeId) (fr : Nat × Nat) : ∀ (vs : List Value) (o : Nat) (w : World) (z : Array Value), w.heap[b]? = some (.cells z T fr) → (w.setCells b o vs).heap[b]? = some (.cells (setL z o vs) T fr)
  | [], _, _, _, h => h
  | _ :: r, o, _, _, h => setCells_row b T fr r (o + 1) _ _ (heap_setCell_row h)
theorem setCells_grown (b : Nat) : ∀ (vs : List Value) (o : Nat) (w : World), w.grownBy (w.setCells b o vs) (some b)
  | [], _, w => grownBy_refl w _
  | _ :: r, o, w => grownBy_trans (grown_setCell (grownBy_refl w _) _ _) (setCells_grown b r (o + 1) _)

/-- 'Default' that sets nothing. -/
theorem default_skip {f : Nat} {fn : Func} (hf : Tryd.prog.funcs[f]? = some fn) (hb : fn.body = some Code.skip) (hr : fn.results = #[]) (w : World) (x : Value) : Calls Tryd.prog f #[x] w fun e w' => e = .returned (.tuple #[]) ∧ w' = w := by
  refine calls_of_wp hf hb (wp_skip ?_)
  exact ⟨rfl, .tuple #[], results_none hr _ _ _, rfl, rfl⟩
/-- A function that gives a new one. -/
def NewsKept (f : Nat) (init : Array Value) : Prop := hasBody Tryd.prog f = true ∧ ∀ w : World, Calls Tryd.prog f #[] w fun e w' => e = .returned (.agg init) ∧ Below w.heap.size w w'

/-- What the thin package's function does. -/
def AgainKOk (f : Nat) (m : M) : Prop := hasBody Tryd.prog f = true ∧ ∀ (w : World) (S : Nat → Prop) (src : Value) (bs : List UInt8), BytesAt w S src bs → ErrOk w → bs.length ≤ lim2 →
  (∀ r, (m.readK (some bs)).2.2 = some r → Fit (m.readK (some bs)).2.1 ∧ (writeK m (m.readK (some bs)).1 (m.readK (some bs)).2.1).length ≤ lim2) →
  Calls Tryd.prog f #[src] w fun e w' => ∃ u, e = .returned (.tuple #[u, .bool (m.readK (some bs)).2.2.isSome]) ∧ Below w.heap.size w w' ∧
    if (m.readK (some bs)).2.2.isSome then OwnB w' w.heap.size u (writeK m (m.readK (some bs)).1 (m.readK (some bs)).2.1) else u = .slice none 0 0
theorem againKept {f nf rf rd at' : Nat} {m : M} {T T4 TE : Nat} {init z : Array Value} {fn : Func} {i0 i1 i2 i3 i4 : Nat} {y0 y1 y2 y3 y4 y5 y6 y7 y8 y9 y10 y11 y12 y13 : TypeId} {q0 q1 q2 q3 q4 q5 q6 q7 q8 q9 q10 q11 q12 q13 : String}
    {e0 e1 e2 e3 e4 e5 e6 e7 e8 e9 e10 e11 e12 e13 : Array Edge} {tys1 tys2 tys3 : Array TypeId} (hf : Tryd.prog.funcs[f]? = some fn) (hb : fn.body = some
      ((Code.region i0 #[⟨some 2, .assign (.const (.slice none 0 0)), y0, q0, e0, none⟩, ⟨some 3, .assign (.const (.bool false)), y1, q1, e1, none⟩] false).seq
      ((Code.region i1 #[⟨some 5, .call { callee := .value (.func nf), args := #[], argTypes := tys1 }, y2, q2, e2, none⟩, ⟨some 4, .alloc T, y3, q3, e3, none⟩, ⟨none, .store T4 (.tmp 4) (.tmp 5), y4, q4, e4, none⟩] false).seq
      (((Code.region i2 #[⟨some 6, .move (.tmp 0), y5, q5, e5, none⟩, ⟨some 7, .call { callee := .builtin .append, args := #[.const (.slice none 0 0), .tmp 6], argTypes := #[22, 22] }, y6, q6, e6, none⟩,
          ⟨some 8, .call { callee := .value (.func rf), args := #[.tmp 4, .tmp 7], argTypes := tys2 }, y7, q7, e7, none⟩, ⟨some 9, .binOp .neq TE (.tmp 8) (.const .nilIface) TE, y8, q8, e8, none⟩] false).seq
        (Code.cond (.tmp 9) ((Code.region i3 #[⟨some 2, .assign (.const (.slice none 0 0)), y9, q9, e9, none⟩, ⟨some 3, .assign (.const (.bool false)), y10, q10, e10, none⟩] false).seq Code.ret) Code.skip)).seq
      ((Code.region i4 #[⟨some 10, .call { callee := .value (.func at'), args := #[.tmp 4, .const (.slice none 0 0)], argTypes := tys3 }, y11, q11, e11, none⟩, ⟨some 2, .assign (.tmp 10), y12, q12, e12, none⟩, ⟨some 3, .assign (.const (.bool true)), y13, q13, e13, none⟩] false).seq Code.ret)))))
    (hnt : fn.ntmps = 11) (hres : fn.results = #[.tmp 2, .tmp 3]) (hg : hasBody Tryd.prog f = true) (hTE : TE = 52) (hT4 : T4 = T)
    (ha : ∀ w : World, (Instr.alloc T true (.tuple #[])).run Tryd.prog w = .ok (.pointer (some ⟨w.heap.size, 0, none⟩)) (w.alloc (.cells z T))) (hi : (Tryd.prog.info? T).map (·.size) = some init.size) (hone : init.all (·.oneCell') = true) (hz : z.size = init.size) (hset : setL z 0 init.toList = init)
    (h1 : NewsKept nf init) (h3 : ReadsFrom rf rd) (h4 : ReadsKept TagRep rd m T) (h5 : WritesKept TagRep at' m) (hini : decide (1 + cellsP false m.fields ≤ init.size) = true) (h0 : init[0]? = some (.int .i16 0)) (hnil : ∀ k ∈ inisFs false m.fields 1, init[k.1]? = some k.2) : AgainKOk f m := by
  subst hTE hT4
  refine ⟨hg, fun w S src bs hsrc her hlen hfit => ?_⟩
  obtain ⟨fn1, hf1, hb1, hn1⟩ := hasBody_ok h1.1
  obtain ⟨fn3, hf3, hb3, hn3⟩ := hasBody_ok h3.1
  obtain ⟨fn5, hf5, hb5, hn5⟩ := hasBody_ok h5.1
  have hini' := of_decide_eq_true hini
  have hew : 1 < w.heap.size := by obtain ⟨t, x, h⟩ := her; exact World.block_lt_of_cell? w _ h
  refine enter12 hf hb (by omega) hres fun a hN hd s0 => ?_
  have hN' := hN.trans hnt
  refine wp_seq (wp_region_lit (st_assign (st_assign (wpList_nil ?_))))
  generalize hA1 : (a.put (some 2) _).put (some 3) _ = a1
  have u1 : Upd a a1 [2, 3] := by subst hA1; exact ((Upd.refl a _).put 2 _ (by simp)).put 3 _ (by simp)
  have hN1 := u1.size.trans hN'
  have k01 : sl a1 0 = src := (u1.same 0 (by decide)).trans s0
  -- a new one
  refine wp_seq (wp_region_lit (st_call hf1 hb1 hn1 ?_))
  rw [Array.map_empty]
  refine Calls.mono (h1.2 w) ?_
  rintro e w1 ⟨rfl, hbw1⟩
  refine ⟨_, rfl, st_val (v := .pointer (some ⟨w1.heap.size, 0, none⟩)) (w' := w1.alloc (.cells z T4)) (by simp only [execOp, Sem.run_bind, ha, Result.andThen_ok, Sem.run_pure]) ?_⟩
  have hnew : (w1.alloc (.cells z T4)).heap[w1.heap.size]? = some (.cells z T4 (0, 0)) := alloc_new _ _
  refine wpList_store_mid rfl T4 _ _ rfl w1.heap.size 0 init ?_ ?_ ?_ hi hone (wpList_nil ?_)
  · rw [eval_tmp, sl_put_self _ _ _ (by simp only [put_size]; omega)]
  · rw [eval_tmp, sl_put_other _ _ _ _ (by decide), sl_put_self _ _ _ (by omega)]
  · intro j hj
    refine ⟨?_, by simp only [World.frozen?, hnew]; simp⟩
    rw [cell_of_row _ _ _ _ _ _ hnew]
    simp
    omega
  generalize hA2 : ((a1.put (some 5) _).put (some 4) _).put none _ = a2
  have u2 : Upd a1 a2 [5, 4] := by subst hA2; rw [put_none]; exact ((Upd.refl a1 _).put 5 _ (by simp)).put 4 _ (by simp)
  have k4 : sl a2 4 = .pointer (some ⟨w1.heap.size, 0, none⟩) := by subst hA2; rw [put_none, sl_put_self _ _ _ (by simp only [put_size]; omega)]
  have hN2 := u2.size.trans hN1
  have k02 : sl a2 0 = src := (u2.same 0 (by decide)).trans k01
  have hrow2 := setCells_row w1.heap.size T4 (0, 0) init.toList 0 _ z hnew
  rw [hset] at hrow2
  have hgr2 := setCells_grown w1.heap.size init.toList 0 (w1.alloc (.cells z T4))
  generalize (w1.alloc (.cells z T4)).setCells w1.heap.size 0 init.toList = w2 at *
  have hsz2 : w1.heap.size < w2.heap.size := (Array.getElem?_eq_some_iff.1 hrow2).1
  have hbel2 : Below w.heap.size w w2 := ⟨hgr2.os.trans hbw1.os, hgr2.tape.trans hbw1.tape, hgr2.output.trans hbw1.output, by have := hbw1.size; omega, fun k hk => by
    have := hbw1.size
    rw [hgr2.block k (by rw [World.size_alloc]; omega) (fun e => by have := Option.some.inj e; omega), alloc_old _ _ _ (by omega)]
    exact hbw1.block k hk⟩
  have hb1s := hbw1.size
  have hsrc2 : BytesAt w2 S src bs := by
    rcases hsrc with h | ⟨g, o, c, e1, e2, e2', e3, e4, e5⟩
    · exact .inl h
    · exact .inr ⟨g, o, c, e1, e2, e2', e3, by omega, fun i b hi => by rw [cell_kept (hbel2.block g e4)]; exact e5 i b hi⟩
  -- the octets are copied
  refine wp_seq (wp_seq (wp_region_lit (st_move ?_)))
  refine wpList_append_octets rfl _ _ rfl (w1.heap.size + 1) (.slice none 0 0) src [] bs S (eval_const _ _) (by rw [eval_tmp, sl_put_self _ _ _ (by omega), eval_tmp, k02]) (OwnB.nil _ _) hsrc2 (by simp only [List.length_nil, lim, lim2] at hlen ⊢; omega) (by omega) fun x w3 ho3 hg3 => ?_
  obtain ⟨px, nx, mx, rfl⟩ := own_slice ho3
  rw [List.nil_append] at ho3
  have hrow3 : w3.heap[w1.heap.size]? = some (.cells init T4 (0, 0)) := (hg3.block _ (by omega) (by simp [Value.ownBlock])).trans hrow2
  have hbel3 : Below w.heap.size w w3 := ⟨hg3.os.trans hbel2.os, hg3.tape.trans hbel2.tape, hg3.output.trans hbel2.output, Nat.le_trans hbel2.size hg3.size, fun k hk => (hg3.block k (by omega) (by simp [Value.ownBlock])).trans (hbel2.block k hk)⟩
  have her3 : ErrOk w3 := by
    obtain ⟨t, x, h⟩ := her
    exact ⟨t, x, by rw [cell_kept (hbel3.block _ hew)]; exact h⟩
  have hby3 := own_bytes ho3
  have hlow : ∀ g, (Value.slice px nx mx).ownBlock = some g → w1.heap.size + 1 ≤ g ∧ g < w3.heap.size := fun g hg => ⟨ho3.base g hg, (World.ownsRow.lt ho3 g hg).2⟩
  refine st_call2 hf3 hb3 hn3 ?_
  rw [eval_tmp, sl_put_other _ _ _ _ (by decide), sl_put_other _ _ _ _ (by decide), eval_tmp, k4, sl_put_self _ _ _ (by simp only [put_size]; omega)]
  refine h3.2 _ _ _ _ ?_
  have hI : iniM false 0 m.fields (fun j => init[j]?) := ⟨h0, (iniFs_cells false m.fields 1 (fun j => init[j]?)).2 hnil⟩
  refine Calls.mono (h4.2 w3 _ w1.heap.size bs px nx mx _ hrow3 hini' hI hby3 (fun hB => by have := (hlow _ hB).1; omega) (fun g hg => (hlow g hg).2) her3 (by omega)) ?_
  rintro e w4 ⟨u4, rfl, herr, hg4, hres4⟩
  refine ⟨u4, rfl, u4, rfl, ?_⟩
  have hbel4 : Below w.heap.size w w4 := ⟨hg4.os.trans hbel3.os, hg4.tape.trans hbel3.tape, hg4.output.trans hbel3.output, Nat.le_trans hbel3.size hg4.size, fun k hk => (hg4.block k (by have := hbel3.size; omega) (by simp; omega)).trans (hbel3.block k hk)⟩
  have hd2 : a2.defers = [] := u2.defers.trans (u1.defers.trans hd)
  cases hst : (m.readK (some bs)).2.2 with
  | none =>
    rw [hst] at herr
    obtain ⟨t, x, rfl⟩ : ∃ t x, u4 = .iface t x := by simpa [ErrV] using herr
    refine st_val (v := .bool true) (w' := w4) (exec_binR (by rw [eval_tmp, sl_put_self _ _ _ (by simp only [put_size]; omega)]) (eval_const _ _) (eqGuard_at_iface ..) (neq_err _ _ _)) (wpList_nil ?_)
    refine wp_cond_true (by rw [eval_tmp, sl_put_self _ _ _ (by simp only [put_size]; omega)]) (wp_seq (wp_region_lit (st_assign (st_assign (wpList_nil (wp_ret ⟨rfl, ?_, .slice none 0 0, ?_, hbel4, ?_⟩))))))
    · simp only [put_defers]; exact hd2
    · rw [sl_put_self _ _ _ (by simp only [put_size]; omega), sl_put_other _ _ _ _ (by decide), sl_put_self _ _ _ (by simp only [put_size]; omega), eval_const, eval_const]
      rfl
    · simp
  | some r =>
    rw [hst] at herr
    obtain rfl : u4 = .nilIface := by simpa [ErrV] using herr
    obtain ⟨cells4, hrow4, hc0, hrep4⟩ := hres4 (by rw [hst]; rfl)
    have hft := hfit r hst
    refine st_val (v := .bool false) (w' := w4) (exec_binR (by rw [eval_tmp, sl_put_self _ _ _ (by simp only [put_size]; omega)]) (eval_const _ _) (eqGuard_nil_constR ..) (neq_nil _)) (wpList_nil ?_)
    refine wp_cond_false (by rw [eval_tmp, sl_put_self _ _ _ (by simp only [put_size]; omega)]) (wp_skip ?_)
    refine wp_seq (wp_region_lit (st_call2 hf5 hb5 hn5 ?_))
    rw [eval_tmp, eval_const]
    rw [sl_put_other _ _ _ _ (by decide), sl_put_other _ _ _ _ (by decide), sl_put_other _ _ _ _ (by decide), sl_put_other _ _ _ _ (by decide), k4]
    have hb4 : w1.heap.size < w4.heap.size := (Array.getElem?_eq_some_iff.1 hrow4).1
    have hv0 : -32768 ≤ (m.readK (some bs)).1 := (rdI2_b _).1
    refine Calls.mono (h5.2 w4.heap.size (inW w4 _) w4 (m.readK (some bs)).1 w1.heap.size [] (.slice none 0 0) (m.readK (some bs)).2.1 hv0 (OwnB.nil _ _) (Nat.le_refl _) (fun g hg => hg.2) hb4 (by rw [cell_of_row w4 _ 0 _ _ _ hrow4]; exact hc0)
      (bnd_repP bnd_tagRep m.fields w4 _ _ _ (by
        have e : (fun j => w4.cell? ⟨w1.heap.size, 1 + j, none⟩) = fun j => cells4[1 + j]? := by funext j; rw [cell_of_row w4 _ (1 + j) _ _ _ hrow4]
        rw [e]; exact hrep4)) hft.1 (by simpa using hft.2)) ?_
    rintro e w5 ⟨u5, rfl, ho5, hbel5⟩
    have hb4s := hbel4.size
    refine ⟨u5, rfl, st_assign (st_assign (wpList_nil (wp_ret ⟨rfl, ?_, u5, ?_, hbel4.trans ⟨hbel5.os, hbel5.tape, hbel5.output, hbel5.size, fun k hk => hbel5.block k (by omega)⟩, ?_⟩)))⟩
    · simp only [put_defers]; exact hd2
    · rw [sl_put_self _ _ _ (by simp only [put_size]; omega), sl_put_other _ _ _ _ (by decide), sl_put_self _ _ _ (by simp only [put_size]; omega), eval_tmp, sl_put_self _ _ _ (by simp only [put_size]; omega), eval_const]
      rfl
    · simp only [Option.isSome_some, if_true]
      rw [List.nil_append] at ho5
      exact ho5.lower (by omega)
end Go.Proofs.YtodmlklfjinonaaDoor
