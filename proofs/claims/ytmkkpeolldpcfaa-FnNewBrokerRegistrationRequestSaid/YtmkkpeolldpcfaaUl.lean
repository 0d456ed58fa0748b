/-
  A list of sixteen octets each: an element is written. Conditions: none.
-/
import Derived.Test.YtmkkpeolldpcfaaY5
import Derived.Test.YtmkkpeolldpcfaaUu
namespace Go.Proofs.Ytmkkpeolldpcfaa
open Go.RowKit (Below)
open Kz

theorem ElA.sixteen {tags : Rel (List (Nat × List UInt8))} {E : WE} {v : Int} {flex ht : Bool} {id1 id2 da di d t1 t2 t3 t4 t5 t6 t7 TT e : Nat} {tys : Array TypeId} {y1 y2 y3 y4 y5 y6 y7 y8 y9 y10 : TypeId} {q1 q2 q3 q4 q5 q6 q7 q8 q9 q10 : String} {e1 e2 e3 e4 e5 e6 e7 e8 e9 e10 : Array Edge} {sub : List F}
    (hT : sliceOf Try.prog TT = some e) (hs : sizeIs Try.prog e 16 = true) (hn : [t1, t2, t3, t4, d, t5, t6, t7, E.ds].all (· < E.N) = true) (hd : decide (t1 ≠ t2 ∧ t1 ≠ di ∧ d ≠ t4 ∧ t5 ≠ d ∧ t6 ≠ t5 ∧ (t1 ≠ E.ds ∧ t2 ≠ E.ds ∧ t3 ≠ E.ds ∧ t4 ≠ E.ds ∧ d ≠ E.ds)) = true) :
    ElA E v flex da di 16 (elW v flex 7 sub) (elA tags v flex ht 7 sub) ((Code.region id1 #[⟨some t1, .move (.tmp da), y1, q1, e1, none⟩, ⟨some t2, .move (.tmp di), y2, q2, e2, none⟩, ⟨some t3, .indexAddr TT (.tmp t1) (.tmp t2), y3, q3, e3, none⟩, ⟨some t4, .load 83 (.tmp t3), y4, q4, e4, none⟩, ⟨some d, .alloc 83, y5, q5, e5, none⟩, ⟨none, .store 83 (.tmp d) (.tmp t4), y6, q6, e6, none⟩] false).seq
      (Code.region id2 #[⟨some t5, .move (.tmp E.ds), y7, q7, e7, none⟩, ⟨some t6, .load 83 (.tmp d), y8, q8, e8, none⟩, ⟨some t7, .call { callee := .value (.func 60), args := #[.tmp t5, .tmp t6], argTypes := tys }, y9, q9, e9, none⟩, ⟨some E.ds, .assign (.tmp t7), y10, q10, e10, none⟩] false)) := by
  intro base K bs a w g o n m j x hp hda hdi hj hg hr hl
  obtain ⟨i', hi', hs'⟩ := sizeIs_ok hs
  simp only [List.all_cons, List.all_nil, Bool.and_true, Bool.and_eq_true, decide_eq_true_eq] at hn hd
  obtain ⟨n1, n2, n3, n4, nd, n5, n6, n7, nds⟩ := hn
  obtain ⟨d12, d1i, d1, d2, d3, d5, d6, d7, d8, d9⟩ := hd
  have hsz := hp.fr.size
  obtain ⟨hr, -⟩ := hr
  obtain ⟨h16, hcells⟩ : x.s.length = 16 ∧ ∀ i b, x.s[i]? = some b → w.cell? ⟨g, o + j * 16 + i, none⟩ = some (bv b) := hr
  have hw : elW v flex 7 sub x = x.s := uuid_of _ h16
  rw [hw] at hl ⊢
  have hbody : hasBody Try.prog 60 = true := by kernel_rfl
  obtain ⟨fn, hfn, hb, hnn⟩ := hasBody_ok hbody
  have hcl : (x.s.map bv).length = 16 := by rw [List.length_map, h16]
  have h1 : (x.s.map bv).toArray.all (·.oneCell') = true := Go.all_oneCell_toArray fun u hu => by
    simp only [List.mem_map] at hu
    obtain ⟨b, -, rfl⟩ := hu
    rfl
  have hrg : w.rangeAt g (o + j * 16) (x.s.map bv) := fun j' u hu => by
    simp only [List.getElem?_map, Option.map_eq_some_iff] at hu
    obtain ⟨b, hb, rfl⟩ := hu
    exact hcells j' b hb
  generalize hcs : x.s.map bv = cs at hcl h1 hrg
  have hix := indexOffK_of .i64 (sliceOf_ok hT) hi' hs'
  refine wp_seq (wp_region_lit (st_move (st_move (st_val (v := .pointer (some ⟨g, o + j * 16, none⟩)) (w' := w) ?_ (st_load16 (b := g) (o := o + j * 16) (cs := cs) hcl ?_ hrg (st_alloc16 (st_store16 (b := w.heap.size) (o := 0) (cs := cs) hcl h1 ?_ ?_ (box16_there w) (wpList_nil ?_))))))))
  · have k1 : ((a.put (some t1) (a.eval (.tmp da))).put (some t2) ((a.put (some t1) (a.eval (.tmp da))).eval (.tmp di))).eval (.tmp t1) = .slice (some ⟨g, o, none⟩) n m := by
      rw [eval_tmp, sl_put_other _ _ _ _ (fun e => d12 e.symm), sl_put_self _ _ _ (by omega), eval_tmp, hda]
    have k2 : ((a.put (some t1) (a.eval (.tmp da))).put (some t2) ((a.put (some t1) (a.eval (.tmp da))).eval (.tmp di))).eval (.tmp t2) = .int .i64 (j : Int) := by
      rw [eval_tmp, sl_put_self _ _ _ (by simp only [put_size]; omega), eval_tmp, sl_put_other _ _ _ _ d1i, hdi]
    unfold execOp
    simp only [k1, k2, Sem.run_bind, hix w g o n m j hj, Result.andThen_ok, Sem.run_pure]
  · rw [eval_tmp, sl_put_self _ _ _ (by simp only [put_size]; omega)]
  · rw [eval_tmp, sl_put_self _ _ _ (by simp only [put_size]; omega)]
  · rw [eval_tmp, sl_put_other _ _ _ _ d1, sl_put_self _ _ _ (by simp only [put_size]; omega)]
  have hgb := box16 w cs
  have hrg2 := box16_range w cs hcl
  generalize (w.alloc (.cells uuZ 83)).setCells w.heap.size 0 cs = w1 at hgb hrg2 ⊢
  generalize hA : (((((a.put (some t1) _).put (some t2) _).put (some t3) _).put (some t4) _).put (some d) _) = a1
  have hup : Upd a a1 [t1, t2, t3, t4, d] := by subst hA; exact (((((Upd.refl a _).put t1 _ (by simp)).put t2 _ (by simp)).put t3 _ (by simp)).put t4 _ (by simp)).put d _ (by simp)
  have hdd : sl a1 d = .pointer (some ⟨w.heap.size, 0, none⟩) := by subst hA; exact sl_put_self _ _ _ (by simp only [put_size]; omega)
  have hs1 : a1.tmps.size = E.N := hup.size.trans hsz
  have hds : sl a1 E.ds = sl a E.ds := hup.same _ (by simp only [List.mem_cons, List.not_mem_nil, or_false, not_or]; exact ⟨fun e => d5 e.symm, fun e => d6 e.symm, fun e => d7 e.symm, fun e => d8 e.symm, fun e => d9 e.symm⟩)
  refine wp_region_lit (st_move (st_load16 (b := w.heap.size) (o := 0) (cs := cs) hcl ?_ hrg2 (st_call2 hfn hb hnn ?_)))
  · rw [eval_tmp, sl_put_other _ _ _ _ d2, hdd]
  rw [eval_tmp, sl_put_other _ _ _ _ d3, sl_put_self _ _ _ (by omega), eval_tmp, hds, eval_tmp, sl_put_self _ _ _ (by simp only [put_size]; omega)]
  have hown1 : OwnB w1 base (sl a E.ds) bs := hp.own.grown fun k hk => hgb.block k hk (by simp)
  refine (AppendUuid_any w1 base (sl a E.ds) bs x.s cs.toArray (by rw [hcs]) h16 hown1 (Nat.le_trans hp.le hgb.size) (lim_of hl (by omega))).mono ?_
  rintro e w' ⟨v', rfl, ho, hbel⟩
  refine ⟨v', rfl, st_assign (wpList_nil ⟨?_, ?_, ?_⟩)⟩
  · refine (hup.mono (fun t ht => ?_)).trans ((((Upd.refl a1 _).put t5 _ ?_).put t6 _ ?_).put t7 _ ?_ |>.put E.ds _ ?_)
    · simp only [List.mem_cons, List.not_mem_nil, or_false] at ht
      rcases ht with rfl | rfl | rfl | rfl | rfl <;> simp [writes]
    all_goals simp [writes]
  · exact Below.trans ⟨hgb.os, hgb.tape, hgb.output, hgb.size, fun k hk => hgb.block k (Nat.lt_of_lt_of_le hk hp.le) (by simp)⟩ hbel
  · rw [sl_put_self _ _ _ (by simp only [put_size]; omega), eval_tmp, sl_put_self _ _ _ (by simp only [put_size]; omega)]
    exact ho
end Go.Proofs.Ytmkkpeolldpcfaa

