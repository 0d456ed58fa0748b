/-
  The thin package's function: octets read as a message, written again. Conditions: none.
-/
import Derived.Test.YtpknjenihcfhlaaDoorMsg
import Derived.Test.YtpknjenihcfhlaaDoorBnd
import Derived.WideLaws
namespace Go.Proofs.YtpknjenihcfhlaaDoor
open Go.RowKit (Below)
open Kz

/-- The frame at a call of two values, two results. -/
theorem enter22 {P : Program} {f : Nat} {fn : Func} {c : Code} {x y : Value} {w : World} {R : Ending → World → Prop} {r1 r2 : Nat} (hf : P.funcs[f]? = some fn) (hb : fn.body = some c) (hn : 2 ≤ fn.ntmps) (hr : fn.results = #[.tmp r1, .tmp r2])
    (h : ∀ (a : Act), a.tmps.size = fn.ntmps → a.defers = [] → sl a 0 = x → sl a 1 = y → c.wp P (fun e a' w' => e = .ret ∧ a'.defers = [] ∧ R (.returned (.tuple #[sl a' r1, sl a' r2])) w') a w) : Calls P f #[x, y] w R := by
  refine calls_of_wp hf hb ?_
  refine wp_mono (h _ (by simp; omega) rfl (by simp [sl, Array.getD_eq_getD_getElem?, Array.getElem?_append]) (by simp [sl, Array.getD_eq_getD_getElem?, Array.getElem?_append])) ?_
  rintro e a' w' ⟨rfl, hd, hq⟩
  exact ⟨hd, _, results_tmp2 hr _ _ _, hq⟩
theorem exec_binR {P : Program} {ρ : Operand → Value} {d : Option Nat} {op : BinOp} {T T' ty : TypeId} {x y : Operand} {u z r : Value} {pos : String} {aft : Array Edge} {g : Option (Nat × Bool)} {w : World} (hx : ρ x = u) (hy : ρ y = z)
    (hg : eqGuard op T x y u z = pure ()) (hb : (binOp op T u z).run P w = .ok r w) : (execOp ρ ⟨d, .binOp op T x y T', ty, pos, aft, g⟩).run P w = .ok (.value r) w := by
  simp [execOp, hx, hy, hg, hb, Result.andThen]
theorem neq_err (u : TypeId) (x : Value) (w : World) : (binOp .neq 35 (.iface u x) .nilIface).run Tryd.prog w = .ok (.bool true) w := run_neq_held_nil _ _ _ _ (by kernel_rfl)
theorem neq_nil (w : World) : (binOp .neq 35 .nilIface .nilIface).run Tryd.prog w = .ok (.bool false) w := by kernel_rfl

theorem size_newSet (w : World) (o : Obj) (ad : Addr) (v : Value) : ((w.alloc o).setCell ad v).heap.size = w.heap.size + 1 := by
  unfold World.setCell World.alloc
  simp only [Array.size_modify, Array.size_push]
/-- What the thin package's function does. -/
def AgainOk (f : Nat) (m : M) : Prop := hasBody Tryd.prog f = true ∧ ∀ (w : World) (v : Int) (S : Nat → Prop) (src : Value) (bs : List UInt8), 0 ≤ v → v < 32768 → BytesAt w S src bs → ErrOk w → bs.length ≤ lim2 →
  (∀ t r, m.read v (some bs) = (t, some r) → Fit t ∧ (write m v t).length ≤ lim2) →
  Calls Tryd.prog f #[.int .i64 v, src] w fun e w' => ∃ u, e = .returned (.tuple #[u, .bool (m.read v (some bs)).2.isSome]) ∧ Below w.heap.size w w' ∧
    if (m.read v (some bs)).2.isSome then OwnB w' w.heap.size u (write m v (m.read v (some bs)).1) else u = .slice none 0 0
theorem againOk {f np sv rf rd at' : Nat} {m : M} {T T3 T40 TE : Nat} {init : Array Value} {fn : Func} {i0 i1 i2 i3 i4 i5 : Nat} {y0 y1 y2 y3 y4 y5 y6 y7 y8 y9 y10 y11 y12 y13 y14 y15 y16 y17 y18 : TypeId} {q0 q1 q2 q3 q4 q5 q6 q7 q8 q9 q10 q11 q12 q13 q14 q15 q16 q17 q18 : String}
    {e0 e1 e2 e3 e4 e5 e6 e7 e8 e9 e10 e11 e12 e13 e14 e15 e16 e17 e18 : Array Edge} {tys1 tys2 tys3 tys4 : Array TypeId} {ht : Bool} (hf : Tryd.prog.funcs[f]? = some fn) (hb : fn.body = some
      ((Code.region i0 #[⟨some 4, .assign (.const (.slice none 0 0)), y0, q0, e0, none⟩, ⟨some 5, .assign (.const (.bool false)), y1, q1, e1, none⟩] false).seq
      ((Code.region i1 #[⟨some 7, .call { callee := .value (.func np), args := #[], argTypes := tys1 }, y2, q2, e2, none⟩, ⟨some 6, .assign (.tmp 7), y3, q3, e3, none⟩] false).seq
      ((Code.region i2 #[⟨some 8, .move (.tmp 6), y4, q4, e4, none⟩, ⟨some 9, .move (.tmp 0), y5, q5, e5, none⟩, ⟨some 10, .convert T3 T40 (.tmp 9), y6, q6, e6, none⟩, ⟨some 11, .call { callee := .value (.func sv), args := #[.tmp 8, .tmp 10], argTypes := tys2 }, y7, q7, e7, none⟩] false).seq
      (((Code.region i3 #[⟨some 12, .move (.tmp 6), y8, q8, e8, none⟩, ⟨some 13, .move (.tmp 1), y9, q9, e9, none⟩, ⟨some 14, .call { callee := .builtin .append, args := #[.const (.slice none 0 0), .tmp 13], argTypes := #[22, 22] }, y10, q10, e10, none⟩,
          ⟨some 15, .call { callee := .value (.func rf), args := #[.tmp 12, .tmp 14], argTypes := tys3 }, y11, q11, e11, none⟩, ⟨some 16, .binOp .neq TE (.tmp 15) (.const .nilIface) TE, y12, q12, e12, none⟩] false).seq
        (Code.cond (.tmp 16) ((Code.region i4 #[⟨some 4, .assign (.const (.slice none 0 0)), y13, q13, e13, none⟩, ⟨some 5, .assign (.const (.bool false)), y14, q14, e14, none⟩] false).seq Code.ret) Code.skip)).seq
      ((Code.region i5 #[⟨some 17, .move (.tmp 6), y15, q15, e15, none⟩, ⟨some 18, .call { callee := .value (.func at'), args := #[.tmp 17, .const (.slice none 0 0)], argTypes := tys4 }, y16, q16, e16, none⟩, ⟨some 4, .assign (.tmp 18), y17, q17, e17, none⟩, ⟨some 5, .assign (.const (.bool true)), y18, q18, e18, none⟩] false).seq Code.ret))))))
    (hnt : fn.ntmps = 19) (hres : fn.results = #[.tmp 4, .tmp 5]) (hg : hasBody Tryd.prog f = true) (hT3 : T3 = 3) (hT40 : T40 = 29) (hTE : TE = 35)
    (h1 : NewsMsg np T init) (h2 : SetsVersion sv) (h3 : ReadsFrom rf rd) (h4 : ReadsMsg TagRep rd m ht T) (h5 : WritesMsg TagRep at' m ht) (hini : decide (1 + cellsP ht m.fields ≤ init.size) = true) (hnil : ∀ k ∈ inisFs ht m.fields 1, init[k]? = some (.slice none 0 0)) : AgainOk f m := by
  subst hT3 hT40 hTE
  refine ⟨hg, fun w v S src bs hv hv2 hsrc her hlen hfit => ?_⟩
  obtain ⟨fn1, hf1, hb1, hn1⟩ := hasBody_ok h1.1
  obtain ⟨fn2, hf2, hb2, hn2⟩ := hasBody_ok h2.1
  obtain ⟨fn3, hf3, hb3, hn3⟩ := hasBody_ok h3.1
  obtain ⟨fn5, hf5, hb5, hn5⟩ := hasBody_ok h5.1
  have hini' := of_decide_eq_true hini
  have hpos : 0 < init.size := by omega
  have hew : 1 < w.heap.size := by obtain ⟨t, x, h⟩ := her; exact World.block_lt_of_cell? w _ h
  refine enter22 hf hb (by omega) hres fun a hN hd s0 s1 => ?_
  have hN' := hN.trans hnt
  refine wp_seq (wp_region_lit (st_assign (st_assign (wpList_nil ?_))))
  generalize hA1 : (a.put (some 4) _).put (some 5) _ = a1
  have u1 : Upd a a1 [4, 5] := by subst hA1; exact ((Upd.refl a _).put 4 _ (by simp)).put 5 _ (by simp)
  have hN1 := u1.size.trans hN'
  -- a new message
  refine wp_seq (wp_region_lit (st_call hf1 hb1 hn1 ?_))
  rw [Array.map_empty]
  refine Calls.mono (h1.2 w) ?_
  rintro e w1 ⟨rfl, rfl⟩
  refine ⟨_, rfl, st_assign (wpList_nil ?_)⟩
  generalize hA2 : (a1.put (some 7) _).put (some 6) _ = a2
  have u2 : Upd a1 a2 [7, 6] := by subst hA2; exact ((Upd.refl a1 _).put 7 _ (by simp)).put 6 _ (by simp)
  have k6 : sl a2 6 = .pointer (some ⟨w.heap.size, 0, none⟩) := by subst hA2; rw [sl_put_self _ _ _ (by simp only [put_size]; omega), eval_tmp, sl_put_self _ _ _ (by omega)]
  have hN2 := u2.size.trans hN1
  have k0 : sl a2 0 = .int .i64 v := (u2.same 0 (by decide)).trans ((u1.same 0 (by decide)).trans s0)
  have k1 : sl a2 1 = src := (u2.same 1 (by decide)).trans ((u1.same 1 (by decide)).trans s1)
  -- its version
  refine wp_seq (wp_region_lit (st_move (st_move (st_val (v := .int .i16 v) (w' := w.alloc (.cells init T)) (exec_conv (k := .i64) (n := v) Tryd.underlying3 Tryd.underlying29 ?_ (by rw [wrap_i16]; omega)) (st_call2 hf2 hb2 hn2 ?_)))))
  · rw [eval_tmp, sl_put_self _ _ _ (by simp only [put_size]; omega), eval_tmp, sl_put_other _ _ _ _ (by decide), k0]
  rw [eval_tmp, sl_put_other _ _ _ _ (by decide), sl_put_other _ _ _ _ (by decide), sl_put_self _ _ _ (by omega), eval_tmp, k6, eval_tmp, sl_put_self _ _ _ (by simp only [put_size]; omega)]
  refine Calls.mono (h2.2 (w.alloc (.cells init T)) w.heap.size v init T (alloc_new w _) hpos) ?_
  rintro e w2 ⟨⟨u, rfl⟩, hw2⟩
  refine ⟨u, rfl, wpList_nil ?_⟩
  generalize hA3 : ((((a2.put (some 8) _).put (some 9) _).put (some 10) _).put (some 11) _) = a3
  have u3 : Upd a2 a3 [8, 9, 10, 11] := by subst hA3; exact ((((Upd.refl a2 _).put 8 _ (by simp)).put 9 _ (by simp)).put 10 _ (by simp)).put 11 _ (by simp)
  have hN3 := u3.size.trans hN2
  have k63 : sl a3 6 = .pointer (some ⟨w.heap.size, 0, none⟩) := (u3.same 6 (by decide)).trans k6
  have k13 : sl a3 1 = src := (u3.same 1 (by decide)).trans k1
  have hrow2 : w2.heap[w.heap.size]? = some (.cells (init.setIfInBounds 0 (.int .i16 v)) T (0, 0)) := by rw [hw2]; exact heap_setCell_row (alloc_new w _)
  have hsz2 : w2.heap.size = w.heap.size + 1 := by rw [hw2]; exact size_newSet _ _ _ _
  have hbel2 : Below w.heap.size w w2 := by
    rw [hw2]
    exact ⟨rfl, rfl, rfl, by rw [size_newSet]; omega, fun k hk => by rw [Below.heap_setCell _ _ _ _ (by show k ≠ w.heap.size; omega), alloc_old _ _ _ hk]⟩
  have hsrc2 : BytesAt w2 S src bs := by
    rcases hsrc with h | ⟨g, o, c, e1, e2, e2', e3, e4, e5⟩
    · exact .inl h
    · exact .inr ⟨g, o, c, e1, e2, e2', e3, by omega, fun i b hi => by rw [cell_kept (hbel2.block g e4)]; exact e5 i b hi⟩
  -- the octets are copied
  refine wp_seq (wp_seq (wp_region_lit (st_move (st_move ?_))))
  refine wpList_append_octets rfl _ _ rfl (w.heap.size + 1) (.slice none 0 0) src [] bs S (eval_const _ _) (by rw [eval_tmp, sl_put_self _ _ _ (by simp only [put_size]; omega), eval_tmp, sl_put_other _ _ _ _ (by decide), k13]) (OwnB.nil _ _) hsrc2 (by simp only [List.length_nil, lim, lim2] at hlen ⊢; omega) (by omega) fun x w3 ho3 hg3 => ?_
  obtain ⟨px, nx, mx, rfl⟩ := own_slice ho3
  rw [List.nil_append] at ho3
  have hrow3 : w3.heap[w.heap.size]? = some (.cells (init.setIfInBounds 0 (.int .i16 v)) T (0, 0)) := (hg3.block _ (by omega) (by simp [Value.ownBlock])).trans hrow2
  have hbel3 : Below w.heap.size w w3 := ⟨hg3.os.trans hbel2.os, hg3.tape.trans hbel2.tape, hg3.output.trans hbel2.output, Nat.le_trans hbel2.size hg3.size, fun k hk => (hg3.block k (by omega) (by simp [Value.ownBlock])).trans (hbel2.block k hk)⟩
  have her3 : ErrOk w3 := by
    obtain ⟨t, x, h⟩ := her
    exact ⟨t, x, by rw [cell_kept (hbel3.block _ hew)]; exact h⟩
  have hby3 := own_bytes ho3
  have hlow : ∀ g, (Value.slice px nx mx).ownBlock = some g → w.heap.size + 1 ≤ g ∧ g < w3.heap.size := fun g hg => ⟨ho3.base g hg, (World.ownsRow.lt ho3 g hg).2⟩
  refine st_call2 hf3 hb3 hn3 ?_
  rw [eval_tmp, sl_put_other _ _ _ _ (by decide), sl_put_other _ _ _ _ (by decide), sl_put_self _ _ _ (by omega), eval_tmp, k63, eval_tmp, sl_put_self _ _ _ (by simp only [put_size]; omega)]
  refine h3.2 _ _ _ _ ?_
  have hI : iniM ht v m.fields (fun j => (init.setIfInBounds 0 (.int .i16 v))[j]?) := by
    refine ⟨by simp [hpos], ?_⟩
    have := iniFs_cells ht m.fields 1 (fun j => (init.setIfInBounds 0 (.int .i16 v))[j]?)
    refine this.2 fun k hk => ?_
    have hk0 : k ≠ 0 := by
      have : ∀ (fs : List F) (b : Nat), ∀ k ∈ inisFs ht fs b, b ≤ k := by
        intro fs b
        exact inis_le ht fs b
      have := this m.fields 1 k hk
      omega
    rw [Array.getElem?_setIfInBounds_ne (fun e => hk0 e.symm)]
    exact hnil k hk
  refine Calls.mono (h4.2 w3 _ w.heap.size v bs px nx mx _ hv hrow3 (by simpa using hini') hI hby3 (fun hB => by have := (hlow _ hB).1; omega) (fun g hg => (hlow g hg).2) her3 (by omega)) ?_
  rintro e w4 ⟨u4, rfl, herr, hg4, hres4⟩
  refine ⟨u4, rfl, u4, rfl, ?_⟩
  have hbel4 : Below w.heap.size w w4 := ⟨hg4.os.trans hbel3.os, hg4.tape.trans hbel3.tape, hg4.output.trans hbel3.output, Nat.le_trans hbel3.size hg4.size, fun k hk => (hg4.block k (by have := hbel3.size; omega) (by simp; omega)).trans (hbel3.block k hk)⟩
  cases hst : (m.read v (some bs)).2 with
  | none =>
    rw [hst] at herr
    obtain ⟨t, x, rfl⟩ : ∃ t x, u4 = .iface t x := by simpa [ErrV] using herr
    refine st_val (v := .bool true) (w' := w4) (exec_binR (by rw [eval_tmp, sl_put_self _ _ _ (by simp only [put_size]; omega)]) (eval_const _ _) (eqGuard_at_iface ..) (neq_err _ _ _)) (wpList_nil ?_)
    refine wp_cond_true (by rw [eval_tmp, sl_put_self _ _ _ (by simp only [put_size]; omega)]) (wp_seq (wp_region_lit (st_assign (st_assign (wpList_nil (wp_ret ⟨rfl, ?_, .slice none 0 0, ?_, hbel4, ?_⟩))))))
    · simp only [put_defers]; exact u3.defers.trans (u2.defers.trans (u1.defers.trans hd))
    · rw [sl_put_self _ _ _ (by simp only [put_size]; omega), sl_put_other _ _ _ _ (by decide), sl_put_self _ _ _ (by simp only [put_size]; omega), eval_const, eval_const]
      rfl
    · simp
  | some r =>
    rw [hst] at herr
    obtain rfl : u4 = .nilIface := by simpa [ErrV] using herr
    obtain ⟨cells4, hrow4, hc0, hrep4⟩ := hres4 (by rw [hst]; rfl)
    have hft := hfit (m.read v (some bs)).1 r (by rw [← hst])
    refine st_val (v := .bool false) (w' := w4) (exec_binR (by rw [eval_tmp, sl_put_self _ _ _ (by simp only [put_size]; omega)]) (eval_const _ _) (eqGuard_nil_constR ..) (neq_nil _)) (wpList_nil ?_)
    refine wp_cond_false (by rw [eval_tmp, sl_put_self _ _ _ (by simp only [put_size]; omega)]) (wp_skip ?_)
    refine wp_seq (wp_region_lit (st_move (st_call2 hf5 hb5 hn5 ?_)))
    rw [eval_tmp, sl_put_self _ _ _ (by simp only [put_size]; omega), eval_tmp, eval_const]
    rw [sl_put_other _ _ _ _ (by decide), sl_put_other _ _ _ _ (by decide), sl_put_other _ _ _ _ (by decide), sl_put_other _ _ _ _ (by decide), sl_put_other _ _ _ _ (by decide), k63]
    have hb4 : w.heap.size < w4.heap.size := (Array.getElem?_eq_some_iff.1 hrow4).1
    refine Calls.mono (h5.2 w4.heap.size (inW w4 _) w4 v w.heap.size [] (.slice none 0 0) (m.read v (some bs)).1 hv (OwnB.nil _ _) (Nat.le_refl _) (fun g hg => hg.2) hb4 (by rw [cell_of_row w4 _ 0 _ _ _ hrow4]; exact hc0)
      (bnd_repP bnd_tagRep m.fields w4 _ _ _ (by
        have e : (fun j => w4.cell? ⟨w.heap.size, 1 + j, none⟩) = fun j => cells4[1 + j]? := by funext j; rw [cell_of_row w4 _ (1 + j) _ _ _ hrow4]
        rw [e]; exact hrep4)) hft.1 (by simpa using hft.2)) ?_
    rintro e w5 ⟨u5, rfl, ho5, hbel5⟩
    refine ⟨u5, rfl, st_assign (st_assign (wpList_nil (wp_ret ⟨rfl, ?_, u5, ?_, hbel4.trans ⟨hbel5.os, hbel5.tape, hbel5.output, hbel5.size, fun k hk => hbel5.block k (by omega)⟩, ?_⟩)))⟩
    · simp only [put_defers]; exact u3.defers.trans (u2.defers.trans (u1.defers.trans hd))
    · rw [sl_put_self _ _ _ (by simp only [put_size]; omega), sl_put_other _ _ _ _ (by decide), sl_put_self _ _ _ (by simp only [put_size]; omega), eval_tmp, sl_put_self _ _ _ (by simp only [put_size]; omega), eval_const]
      rfl
    · simp only [Option.isSome_some, if_true]
      rw [List.nil_append] at ho5
      exact ho5.lower (by omega)
end Go.Proofs.YtpknjenihcfhlaaDoor
