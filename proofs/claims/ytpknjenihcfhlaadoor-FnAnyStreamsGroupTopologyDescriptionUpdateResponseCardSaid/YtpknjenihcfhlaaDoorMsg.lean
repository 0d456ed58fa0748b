/-
  A message: new, at a version, read, written: the thin package's function. Conditions: none.
-/
import Derived.Test.YtpknjenihcfhlaaDoorDef2
import Derived.Test.YtpknjenihcfhlaaDoorAp7
namespace Go.Proofs.YtpknjenihcfhlaaDoor
open Go.RowKit (Below)
open Kz

/-- A function that lays a new message. -/
def NewsMsg (f T : Nat) (init : Array Value) : Prop := hasBody Tryd.prog f = true ∧ ∀ w : World, Calls Tryd.prog f #[] w fun e w' => e = .returned (.pointer (some ⟨w.heap.size, 0, none⟩)) ∧ w' = w.alloc (.cells init T)
theorem setMany_alloc (w : World) (z : Array Value) (T : TypeId) : ∀ sets : List (Nat × Value), setMany (w.alloc (.cells z T)) w.heap.size 0 sets = w.alloc (.cells (setArr z 0 sets) T) := by
  intro sets
  induction sets generalizing z with
  | nil => rfl
  | cons x r ih =>
    obtain ⟨i, u⟩ := x
    have e : (w.alloc (.cells z T)).setCell ⟨w.heap.size, 0 + i, none⟩ u = w.alloc (.cells (z.setIfInBounds (0 + i) u) T) := by
      simp only [World.setCell, World.alloc]
      congr 1
      apply Array.ext
      · simp
      · intro j h1 h2
        simp only [Array.getElem_modify, Array.getElem_push]
        simp at h2
        by_cases hj : j < w.heap.size
        · simp [hj, show w.heap.size ≠ j by omega]
        · obtain rfl : j = w.heap.size := by omega
          simp
    simp only [setMany, setArr, e]
    exact ih _
/-- 'var v T; v.Default(); return &v'. -/
theorem newsMsg {f fd T N : Nat} {z : Array Value} {sets : List (Nat × Value)} {fn : Func} {i0 i1 i2 i3 t r p : Nat} {y0 y1 y2 y3 : TypeId} {tys : Array TypeId} {q0 q1 q2 q3 : String} {e0 e1 e2 e3 : Array Edge} {p0 : Value} (hf : Tryd.prog.funcs[f]? = some fn) (hb : fn.body = some
    ((Code.region i0 #[⟨some r, .assign (.const p0), y0, q0, e0, none⟩] false).seq ((Code.region i1 #[⟨some p, .alloc T, y1, q1, e1, none⟩] false).seq ((Code.region i2 #[⟨some t, .call { callee := .value (.func fd), args := #[.tmp p], argTypes := tys }, y2, q2, e2, none⟩] false).seq
      ((Code.region i3 #[⟨some r, .assign (.tmp p), y3, q3, e3, none⟩] false).seq Code.ret))))) (hnt : fn.ntmps = N) (hres : fn.results = #[.tmp r]) (hn : [r, p, t].all (· < N) = true) (hd : decide (t ≠ p) = true) (hg : hasBody Tryd.prog f = true)
    (ha : ∀ w : World, (Instr.alloc T true (.tuple #[])).run Tryd.prog w = .ok (.pointer (some ⟨w.heap.size, 0, none⟩)) (w.alloc (.cells z T))) (hs : DefSets fd z.size sets) : NewsMsg f T (setArr z 0 sets) := by
  refine ⟨hg, fun w => calls_of_wp hf hb ?_⟩
  simp only [List.all_cons, List.all_nil, Bool.and_true, Bool.and_eq_true, decide_eq_true_eq] at hn
  have hd' := of_decide_eq_true hd
  generalize hA : (⟨(#[] : Array Value) ++ Array.replicate (fn.ntmps - (#[] : Array Value).size) undef, []⟩ : Act) = a
  have hsz : a.tmps.size = N := by subst hA; simp [hnt]
  have hdf : a.defers = [] := by subst hA; rfl
  obtain ⟨fd', hfd, hbd, hnd⟩ := hasBody_ok hs.1
  refine wp_seq (reg_const (by omega) fun a1 u1 _ => ?_)
  have hs1 := u1.size.trans hsz
  refine wp_seq (wp_region_lit (st_val (v := .pointer (some ⟨w.heap.size, 0, none⟩)) (w' := w.alloc (.cells z T)) (by simp only [execOp, Sem.run_bind, ha, Result.andThen_ok, Sem.run_pure]) (wpList_nil ?_)))
  generalize hA2 : a1.put (some p) (.pointer (some ⟨w.heap.size, 0, none⟩)) = a2
  have k2 : sl a2 p = .pointer (some ⟨w.heap.size, 0, none⟩) := by subst hA2; exact sl_put_self _ _ _ (by omega)
  have s2 : a2.tmps.size = N := by subst hA2; rw [put_size]; exact hs1
  have d2 : a2.defers = [] := by subst hA2; rw [put_defers]; exact u1.defers.trans hdf
  refine wp_seq (wp_region_lit (st_call1 hfd hbd hnd ?_))
  rw [eval_tmp, k2]
  refine Calls.mono (hs.2 _ w.heap.size 0 z T (alloc_new w _) (by omega)) ?_
  rintro e w' ⟨⟨u, rfl⟩, rfl⟩
  refine ⟨u, rfl, wpList_nil ?_⟩
  refine wp_seq (wp_region_lit (st_assign (wpList_nil ?_)))
  refine wp_ret ⟨?_, _, results_tmp hres _ _ _, ?_, setMany_alloc w z T sets⟩
  · rw [put_defers, put_defers]; exact d2
  · show Ending.returned (sl _ r) = _
    rw [sl_put_self _ _ _ (by simp only [put_size]; omega), eval_tmp, sl_put_other _ _ _ _ hd', k2]

/-- 'v.Version = version'. -/
def SetsVersion (f : Nat) : Prop := hasBody Tryd.prog f = true ∧ ∀ (w : World) (G : Nat) (v : Int) (cells : Array Value) (Ty : TypeId), w.heap[G]? = some (.cells cells Ty (0, 0)) → 0 < cells.size → Calls Tryd.prog f #[.pointer (some ⟨G, 0, none⟩), .int .i16 v] w fun e w' => (∃ u, e = .returned u) ∧ w' = w.setCell ⟨G, 0, none⟩ (.int .i16 v)
theorem setsVersion {f : Nat} {fn : Func} {id t1 t2 t3 t4 T k ty : Nat} {ty1 ty2 ty3 ty4 ty5 : TypeId} {p1 p2 p3 p4 p5 : String} {e1 e2 e3 e4 e5 : Array Edge} (hf : Tryd.prog.funcs[f]? = some fn)
    (hb : fn.body = some (Code.region id #[⟨some t1, .move (.tmp 0), ty1, p1, e1, none⟩, ⟨some t2, .move (.tmp 1), ty2, p2, e2, none⟩, ⟨some t3, .nilCheck (.tmp t1), ty3, p3, e3, none⟩, ⟨some t4, .fieldAddr T (.tmp t3) k, ty4, p4, e4, none⟩, ⟨none, .store ty (.tmp t4) (.tmp t2), ty5, p5, e5, none⟩] false))
    (hr : fn.results = #[]) (hg : hasBody Tryd.prog f = true) (hoff : offOf Tryd.prog T k = some 0) (hty : sizeIs Tryd.prog ty 1 = true) (hn : decide (2 ≤ fn.ntmps) && [t1, t2, t3, t4].all (· < fn.ntmps) = true) (hd : decide (t1 ≠ t2 ∧ t1 ≠ 1 ∧ t2 ≠ t3 ∧ t2 ≠ t4) = true) : SetsVersion f := by
  refine ⟨hg, fun w G v cells Ty hrow hsz => calls_of_wp hf hb ?_⟩
  simp only [List.all_cons, List.all_nil, Bool.and_true, Bool.and_eq_true, decide_eq_true_eq] at hn hd
  obtain ⟨h2, n1, n2, n3, n4⟩ := hn
  obtain ⟨d1, d2, d3, d4⟩ := hd
  generalize hA : (⟨(#[.pointer (some ⟨G, 0, none⟩), .int .i16 v] : Array Value) ++ Array.replicate (fn.ntmps - (#[.pointer (some ⟨G, 0, none⟩), .int .i16 v] : Array Value).size) undef, []⟩ : Act) = a
  have hN : a.tmps.size = fn.ntmps := by subst hA; simp; omega
  have hdf : a.defers = [] := by subst hA; rfl
  have s0 : sl a 0 = .pointer (some ⟨G, 0, none⟩) := by subst hA; simp [sl, Array.getD_eq_getD_getElem?, Array.getElem?_append]
  have s1 : sl a 1 = .int .i16 v := by subst hA; simp [sl, Array.getD_eq_getD_getElem?, Array.getElem?_append]
  refine reg_storeField (b := G) (o := 0) (u := cells[0]) (v := .int .i16 v) (fieldOff_ok hoff) (store1_ok hty rfl) (by omega) (by omega) (by omega) (by omega) d1 d2 d3 d4 s0 s1 (by rw [cell_of_row w G _ _ _ _ hrow]; simp [hsz]) (by simp [World.frozen?, hrow]) fun a' hu => ?_
  exact ⟨hu.defers.trans hdf, .tuple #[], results_none hr _ _ _, ⟨_, rfl⟩, rfl⟩

/-- 'return v.readFrom(src, false)'. -/
def ReadsFrom (f fr : Nat) : Prop := hasBody Tryd.prog f = true ∧ ∀ (w : World) (x y : Value) (R : Ending → World → Prop), (Calls Tryd.prog fr #[x, y, .bool false] w fun e w' => ∃ u, e = .returned u ∧ R (.returned u) w') → Calls Tryd.prog f #[x, y] w R
theorem readsFrom {f fr : Nat} {fn : Func} {i0 i1 r t1 t2 t3 : Nat} {v0 : Value} {y0 y1 y2 y3 y4 : TypeId} {tys : Array TypeId} {q0 q1 q2 q3 q4 : String} {e0 e1 e2 e3 e4 : Array Edge} (hf : Tryd.prog.funcs[f]? = some fn)
    (hb : fn.body = some ((Code.region i0 #[⟨some r, .assign (.const v0), y0, q0, e0, none⟩] false).seq ((Code.region i1 #[⟨some t1, .move (.tmp 0), y1, q1, e1, none⟩, ⟨some t2, .move (.tmp 1), y2, q2, e2, none⟩, ⟨some t3, .call { callee := .value (.func fr), args := #[.tmp t1, .tmp t2, .const (.bool false)], argTypes := tys }, y3, q3, e3, none⟩,
      ⟨some r, .assign (.tmp t3), y4, q4, e4, none⟩] false).seq Code.ret))) (hr : fn.results = #[.tmp r]) (hg : hasBody Tryd.prog f = true) (hgr : hasBody Tryd.prog fr = true) (hn : decide (2 ≤ fn.ntmps) && [r, t1, t2, t3].all (· < fn.ntmps) = true) (hd : decide ([0, 1, r, t1, t2, t3].Nodup) = true) : ReadsFrom f fr := by
  refine ⟨hg, fun w x y R hc => ?_⟩
  simp only [List.all_cons, List.all_nil, Bool.and_true, Bool.and_eq_true, decide_eq_true_eq] at hn
  obtain ⟨h2, n0, n1, n2, n3⟩ := hn
  have hd' := of_decide_eq_true hd
  simp only [List.nodup_cons, List.mem_cons, List.not_mem_nil, or_false, not_or, List.nodup_nil, and_true, not_false_eq_true] at hd'
  obtain ⟨⟨-, a0, a1, a2, a3⟩, ⟨b0, b1, b2, b3⟩, ⟨c1, c2, c3⟩, ⟨f2, f3⟩, -⟩ := hd'
  obtain ⟨fd', hfd, hbd, hnd⟩ := hasBody_ok hgr
  refine enter2 hf hb h2 hr fun a hN hdf s0 s1 => ?_
  refine wp_seq (reg_const (by omega) fun a1 u1 _ => ?_)
  have hN1 := u1.size.trans hN
  have k0 : sl a1 0 = x := (u1.same 0 (by simp; exact a0)).trans s0
  have k1 : sl a1 1 = y := (u1.same 1 (by simp; exact b0)).trans s1
  refine wp_seq (wp_region_lit (st_move (st_move (st_call hfd hbd hnd ?_))))
  have e : (#[Operand.tmp t1, Operand.tmp t2, Operand.const (.bool false)] : Array Operand).map ((a1.put (some t1) (a1.eval (.tmp 0))).put (some t2) ((a1.put (some t1) (a1.eval (.tmp 0))).eval (.tmp 1))).eval = #[x, y, .bool false] := by
    simp only [List.map_toArray, List.map_cons, List.map_nil, eval_const, eval_tmp]
    rw [sl_put_other _ _ _ _ (fun e => f2 e.symm), sl_put_self _ _ _ (by omega), sl_put_self _ _ _ (by rw [put_size]; omega), sl_put_other _ _ _ _ (fun e => b1 e.symm), k0, k1]
  rw [e]
  refine Calls.mono hc ?_
  rintro e' w' ⟨u, rfl, hR⟩
  refine ⟨u, rfl, st_assign (wpList_nil ?_)⟩
  refine wp_ret ⟨rfl, ?_, ?_⟩
  · simp only [put_defers]; exact u1.defers.trans hdf
  · rw [sl_put_self _ _ _ (by simp only [put_size]; omega), eval_tmp, sl_put_self _ _ _ (by simp only [put_size]; omega)]
    exact hR
end Go.Proofs.YtpknjenihcfhlaaDoor
