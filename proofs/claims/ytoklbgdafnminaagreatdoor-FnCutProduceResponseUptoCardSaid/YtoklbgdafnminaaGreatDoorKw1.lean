/-
  Known tags, written: which are written, the switch over them, the loop. Conditions: none.
-/
import Derived.Test.YtoklbgdafnminaaGreatDoorKn8
namespace Go.Proofs.YtoklbgdafnminaaGreatDoor
open Go.RowKit (Below)
open Kz

/-! ## What is written of known tags -/
def notUsual (fs : List F) (ts : List T) (key : Nat) : Bool :=
  match tagIx key fs with
  | some i => match fs[i]?, ts[i]? with
    | some f, some x => !usual f x
    | _, _ => false
  | none => false
def wrAt (v : Int) (fs : List F) (ts : List T) (key : Nat) : List UInt8 :=
  match tagIx key fs with
  | some i => match fs[i]?, ts[i]? with
    | some f, some x => wr v true f x
    | _, _ => []
  | none => []
def keysOf (fs : List F) (ts : List T) (j : Nat) : List Nat := (List.range j).filter (notUsual fs ts)
/-- No tag stands twice. -/
def uniqTags : List F → Bool
  | [] => true
  | f :: fs => (decide (f.tag < 0) || fs.all fun g => decide (g.tag ≠ f.tag)) && uniqTags fs
theorem tagW_none {tag : Nat} : ∀ (fs : List F) (gs : List (T → List UInt8)) (qs : List (T → Bool)) (ts : List T), (∀ f ∈ fs, f.tag ≠ (tag : Int)) → tagW tag fs gs qs ts = []
  | [], _, _, _, _ => rfl
  | f :: fs, [], _, _, _ => rfl
  | f :: fs, _ :: _, [], _, _ => rfl
  | f :: fs, g :: gs, q :: qs, ts, h => by
    simp only [tagW]
    rw [if_neg (fun e => h f (by simp) e.1), tagW_none fs gs qs _ (fun f' hf => h f' (List.mem_cons_of_mem _ hf))]
    rfl
theorem tagW_ix (v : Int) {tag : Nat} : ∀ (fs : List F) (ts : List T), uniqTags fs = true → ts.length = fs.length → tagW tag fs (wrs v true fs) (usuals fs) ts = if notUsual fs ts tag then [(tag, wrAt v fs ts tag)] else []
  | [], ts, _, _ => by simp [tagW, notUsual, tagIx]
  | f :: fs, [], _, h => by simp at h
  | f :: fs, x :: xs, hu, hl => by
    simp only [uniqTags, Bool.and_eq_true, Bool.or_eq_true, decide_eq_true_eq] at hu
    simp only [wrs, usuals, tagW, List.headD_cons, List.tail_cons]
    by_cases hk : f.tag = (tag : Int)
    · have hn : ∀ g ∈ fs, g.tag ≠ (tag : Int) := fun g hg => by
        have h1 := hu.1.resolve_left (by omega)
        have := List.all_eq_true.1 h1 g hg
        simp only [decide_eq_true_eq] at this
        rw [← hk]; exact this
      rw [tagW_none fs _ _ _ hn, List.append_nil]
      have e : tagIx tag (f :: fs) = some 0 := by simp [tagIx, hk]
      simp only [notUsual, wrAt, e, List.getElem?_cons_zero, hk, true_and]
      by_cases hq : usual f x = true
      · simp [hq]
      · simp [hq]
    · simp only [hk, false_and, if_false, List.nil_append]
      rw [tagW_ix v fs xs hu.2 (by simpa using hl)]
      have e : tagIx tag (f :: fs) = (tagIx tag fs).map (· + 1) := by simp [tagIx, hk]
      have e1 : notUsual (f :: fs) (x :: xs) tag = notUsual fs xs tag := by
        simp only [notUsual, e]
        cases tagIx tag fs with
        | none => rfl
        | some i => simp
      have e2 : wrAt v (f :: fs) (x :: xs) tag = wrAt v fs xs tag := by
        simp only [wrAt, e]
        cases tagIx tag fs with
        | none => rfl
        | some i => simp
      rw [e1, e2]
theorem known_keys (v : Int) (fs : List F) (ts : List T) (hu : uniqTags fs = true) (hl : ts.length = fs.length) : knownW fs (wrs v true fs) (usuals fs) ts = (keysOf fs ts (known fs)).map fun k => (k, wrAt v fs ts k) := by
  have : ∀ l : List Nat, (l.flatMap fun tag => tagW tag fs (wrs v true fs) (usuals fs) ts) = (l.filter (notUsual fs ts)).map fun k => (k, wrAt v fs ts k) := by
    intro l
    induction l with
    | nil => rfl
    | cons k l ih =>
      rw [List.flatMap_cons, ih, tagW_ix v fs ts hu hl, List.filter_cons]
      by_cases hq : notUsual fs ts k = true
      · simp [hq]
      · simp [hq]
  exact this _
theorem keysOf_succ (fs : List F) (ts : List T) (j : Nat) : keysOf fs ts (j + 1) = keysOf fs ts j ++ if notUsual fs ts j then [j] else [] := by
  simp only [keysOf, List.range_succ, List.filter_append]
  congr 1
  by_cases hq : notUsual fs ts j = true
  · simp [hq]
  · simp [hq]
theorem keysOf_le (fs : List F) (ts : List T) (j : Nat) : (keysOf fs ts j).length ≤ j := by
  have := List.length_filter_le (notUsual fs ts) (List.range j)
  simpa [keysOf] using this
theorem keysOf_mem {fs : List F} {ts : List T} {j k : Nat} (h : k ∈ keysOf fs ts j) : k < j ∧ notUsual fs ts k = true := by
  simpa [keysOf] using h

/-! ## Keys in memory -/
abbrev keyV (k : Nat) : Value := .int .u32 (k : Int)
abbrev OwnU (w : World) (base : Nat) (v : Value) (ks : List Nat) : Prop := w.ownsRow base 61 1 v ks.length (ks.map keyV)
theorem ownU_block {w : World} {base : Nat} {v : Value} {ks : List Nat} (h : OwnU w base v ks) : ∀ g, v.ownBlock = some g → base ≤ g ∧ g < w.heap.size := fun g hg => World.ownsRow.lt h g hg
theorem ownU_ne {w : World} {b1 b2 : Nat} {v1 v2 : Value} {ks : List Nat} {bs : List UInt8} (h : OwnU w b1 v1 ks) (ho : OwnB w b2 v2 bs) : ∀ g, v1.ownBlock = some g → v2.ownBlock ≠ some g := by
  intro g hg hg2
  rcases h.2 with ⟨rfl, -⟩ | ⟨g1, cap, cur, rfl, -, h3, -⟩
  · simp [Value.ownBlock] at hg
  · simp only [Value.ownBlock, Option.some.injEq] at hg
    subst hg
    rcases ho.2 with ⟨rfl, -⟩ | ⟨g2, cap2, cur2, rfl, -, h5, -⟩
    · simp [Value.ownBlock] at hg2
    · simp only [Value.ownBlock, Option.some.injEq] at hg2
      subst hg2
      rw [h3] at h5
      simp only [Option.some.injEq, Obj.cells.injEq] at h5
      exact absurd h5.2.1 (by decide)
/-- A key is put to the keys. -/
def SApU (N te key : Nat) (c : Code) : Prop := ∀ (a : Act) (w : World) (Q : Exit → Act → World → Prop) (base : Nat) (ks : List Nat), a.tmps.size = N → OwnU w base (sl a te) ks → base ≤ w.heap.size → ks.length ≤ 1000 →
  (∀ a' w', Upd a a' (writes c) → OwnU w' base (sl a' te) (ks ++ [key]) → w.grownBy w' (sl a te).ownBlock → Q .normal a' w') → c.wp Tryz.prog Q a w
theorem build_key (w : World) (k : Int) : (Instr.buildSlice 133 1 #[(0, .int .u32 k)]).run Tryz.prog w = .ok (.slice (some ⟨w.heap.size, 0, none⟩) 1 1) (w.alloc (.cells #[.int .u32 k] 61)) := by
  kernel_rfl
theorem sapU {id N te key t1 t2 t3 T1 T2 T3 : Nat} {keyI : Int} {y1 y2 y3 y4 : TypeId} {p1 p2 p3 p4 : String} {e1 e2 e3 e4 : Array Edge} (hT1 : T1 = 133) (hT2 : T2 = 133) (hT3 : T3 = 133) (hkey : decide (keyI = (key : Int)) = true) (hn : [t1, t2, t3, te].all (· < N) = true) (hd : decide (t1 ≠ t2) = true) :
    SApU N te key (Code.region id #[⟨some t1, .move (.tmp te), y1, p1, e1, none⟩, ⟨some t2, .buildSlice T1 1 #[(0, .const (.int .u32 keyI))], y2, p2, e2, none⟩, ⟨some t3, .call { callee := .builtin .append, args := #[.tmp t1, .tmp t2], argTypes := #[T2, T3] }, y3, p3, e3, none⟩, ⟨some te, .assign (.tmp t3), y4, p4, e4, none⟩] false) := by
  intro a w Q base ks hN hU hb hk hq
  subst hT1 hT2 hT3
  obtain rfl := of_decide_eq_true hkey
  have hd := of_decide_eq_true hd
  simp only [List.all_cons, List.all_nil, Bool.and_true, Bool.and_eq_true, decide_eq_true_eq] at hn
  obtain ⟨i0, hi, hz0, hz1, hz2⟩ := info_parts info32
  refine wp_region_lit (st_move (st_val (v := .slice (some ⟨w.heap.size, 0, none⟩) 1 1) (w' := w.alloc (.cells #[.int .u32 (key : Int)] 61)) ?_ ?_))
  · simp only [execOp, List.map_toArray, List.map_cons, List.map_nil, eval_const, Sem.run_bind, build_key, Result.andThen_ok, Sem.run_pure]
  have hte : (((a.put (some t1) (a.eval (.tmp te))).put (some t2) (.slice (some ⟨w.heap.size, 0, none⟩) 1 1)).eval (.tmp t1)) = sl a te := by rw [eval_tmp, sl_put_other _ _ _ _ (fun e => hd e.symm), sl_put_self _ _ _ (by omega), eval_tmp]
  have hU1 : (w.alloc (.cells #[.int .u32 (key : Int)] 61)).ownsRow base 61 1 (sl a te) ks.length (ks.map keyV) := hU.alloc _
  refine wpList_append_own _ rfl _ _ 133 rfl base 61 i0 (.int .u32 0) 1 4 Tryz.underlying133 hi hz0 hz1 hz2 rfl (by decide) (sl a te) ks.length (ks.map keyV) hte hU1 ⟨w.heap.size, 0, none⟩ 1 1 [.int .u32 (key : Int)] (by rw [eval_tmp, sl_put_self _ _ _ (by rw [put_size]; omega)]) rfl (cell_one_new _ _ _) (by simp [Value.oneCell']) ?_ ?_ ?_ ?_
  · simp only [maxLen]; omega
  · omega
  · simp; omega
  intro v' w' hown hg hnil
  refine st_assign (wpList_nil (hq _ w' ((((Upd.refl a _).put t1 _ (by simp [writes])).put t2 _ (by simp [writes])).put t3 _ (by simp [writes]) |>.put te _ (by simp [writes])) ?_ ?_))
  · rw [sl_put_self _ _ _ (by simp only [put_size]; omega), eval_tmp, sl_put_self _ _ _ (by simp only [put_size]; omega)]
    show w'.ownsRow base 61 1 v' (ks ++ [key]).length ((ks ++ [key]).map keyV)
    rw [List.length_append, List.map_append]
    exact hown
  · refine ⟨hg.os, hg.tape, hg.output, by have := hg.size; simp at this; omega, fun k hk hr => ?_⟩
    rw [hg.block k (by simp; omega) hr, alloc_old _ _ _ hk]
end Go.Proofs.YtoklbgdafnminaaGreatDoor
