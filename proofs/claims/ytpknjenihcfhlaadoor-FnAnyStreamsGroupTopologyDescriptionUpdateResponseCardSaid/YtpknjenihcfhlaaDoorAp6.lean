/-
  Code that writes: the tags behind the fields, parts, whole functions. Conditions: none.
-/
import Derived.Test.YtpknjenihcfhlaaDoorAp5
namespace Go.Proofs.YtpknjenihcfhlaaDoor
open Go.RowKit (Below)
open Kz

section
variable {tags : Rel (List (Nat × List UInt8))} {E : WE} {v : Int} {flex ht : Bool}

/-- A list's length. -/
def lenB (flex : Bool) (t : T) : List UInt8 := counted flex false t.l.length 4
theorem Av.lenC {b ptr : Bool} {d : Nat} {c : Code} (h : Av E v flex d (fun t : T => (fun n => counted b false n 4) t.l.length) (ListA ptr) c) : Av E v flex d (lenB b) (ListA ptr) c := h
theorem Av.lenF {id t fs d : Nat} {ty : TypeId} {p : String} {eg : Array Edge} {A B : Code} (hfs : E.fs = some fs) (ht : decide (t < E.N) = true) (hnt : (d :: E.ds :: E.slots).contains t = false)
    (hA : Av E v flex d (lenB true) (ListA false) A) (hB : Av E v flex d (lenB false) (ListA false) B) :
    Av E v flex d (lenB flex) (ListA false) ((Code.region id #[⟨some t, .move (.tmp fs), ty, p, eg, none⟩] false).seq (Code.cond (.tmp t) A B)) := Av.flexG lenB hfs ht hnt hA hB
theorem Av.lenN {d : Nat} {c : Code} (hfl : flex = false) (h : Av E v flex d (lenB false) (ListA false) c) : Av E v flex d (lenB flex) (ListA false) c := by
  subst hfl; exact h

theorem FA.list_w {frm to null tag dflt : Int} {of : Nat} {sub : List F} (hn : null < 0) (t : T) (hl : t.l.length ≤ most) : wr v flex (.mk 11 frm to null tag dflt of sub) t = lenB flex t ++ t.l.flatMap (elW v flex of sub) := by
  have : F.nul ⟨11, frm, to, null, tag, dflt, of, sub⟩ v t = false := by
    have : ¬ (0 ≤ null) := by omega
    simp [F.nul, this]
  simp only [wr, fieldW, if_true, this, Bool.false_eq_true, if_false, List.take_of_length_le hl]
  rfl
/-- 'if isFlexible { dst = AppendUvarint(dst, 0+uint32(v.UnknownTags.Len())); dst = v.UnknownTags.AppendEach(dst) }'. -/
theorem ApTl.tagsE {i0 i1 i2 sp off tf fs f1 f2 f3 t1 t2 t3 t4 t5 t6 t7 t8 u1 u2 u3 u4 u5 TT k c1 c2 A A' : Nat} {y0 y1 y2 y3 y4 y5 y6 y7 y8 y9 z1 z2 z3 z4 z5 z6 : TypeId} {tys1 tys2 tys3 : Array TypeId} {p0 p1 p2 p3 p4 p5 p6 p7 p8 p9 q1 q2 q3 q4 q5 q6 : String} {e0 e1 e2 e3 e4 e5 e6 e7 e8 e9 g1 g2 g3 g4 g5 g6 : Array Edge}
    (hfs : E.fs = some fs) (hf1 : f1 = 52) (hf2 : f2 = 51) (hf3 : f3 = 53) (hc1 : c1 = 3) (hc2 : c2 = 56) (hoff : offOf Tryd.prog TT k = some off)
    (hn : [tf, t1, t2, t3, t4, t5, t6, t7, t8, u1, u2, u3, u4, u5, E.ds].all (· < E.N) = true) (hd : decide ([E.ds, sp, t1, t2, t3, t4, t5, t6, t7, t8].Nodup) = true) (hd2 : decide ([E.ds, sp, u1, u2, u3, u4, u5].Nodup) = true) (hcl : [tf, t1, t2, t3, t4, t5, t6, t7, t8].all (fun t => !(sp :: E.slots).contains t) = true) (htf : (E.ds :: E.slots).contains tf = false)
    (hds : (sp :: E.slots).contains E.ds = false) :
    ApTl TagRep E v flex ht sp off [] ((Code.region i0 #[⟨some tf, .move (.tmp fs), y0, p0, e0, none⟩] false).seq (Code.cond (.tmp tf)
      ((Code.region i1 #[⟨some t1, .move (.tmp E.ds), y1, p1, e1, none⟩, ⟨some t2, .move (.tmp sp), y2, p2, e2, none⟩, ⟨some t3, .nilCheck (.tmp t2), y3, p3, e3, none⟩, ⟨some t4, .fieldAddr TT (.tmp t3) k, y4, p4, e4, none⟩, ⟨some t5, .call { callee := .value (.func f1), args := #[.tmp t4], argTypes := tys1 }, y5, p5, e5, none⟩,
        ⟨some t6, .convert c1 c2 (.tmp t5), y6, p6, e6, none⟩, ⟨some t7, .binOp .add A (.const (.int .u32 0)) (.tmp t6) A', y7, p7, e7, none⟩, ⟨some t8, .call { callee := .value (.func f2), args := #[.tmp t1, .tmp t7], argTypes := tys2 }, y8, p8, e8, none⟩, ⟨some E.ds, .assign (.tmp t8), y9, p9, e9, none⟩] false).seq
       (Code.region i2 #[⟨some u1, .move (.tmp sp), z1, q1, g1, none⟩, ⟨some u2, .nilCheck (.tmp u1), z2, q2, g2, none⟩, ⟨some u3, .fieldAddr TT (.tmp u2) k, z3, q3, g3, none⟩, ⟨some u4, .move (.tmp E.ds), z4, q4, g4, none⟩, ⟨some u5, .call { callee := .value (.func f3), args := #[.tmp u3, .tmp u4], argTypes := tys3 }, z5, q5, g5, none⟩,
        ⟨some E.ds, .assign (.tmp u5), z6, q6, g6, none⟩] false)) Code.skip)) := by
  subst hf1 hf2 hf3 hc1 hc2
  intro base K bs a w cb co x hp hsp hcb hr hl
  simp only [List.all_cons, List.all_nil, Bool.and_true, Bool.and_eq_true, decide_eq_true_eq] at hn
  obtain ⟨n0, n1, n2, n3, n4, n5, n6, n7, n8, m1, m2, m3, m4, m5, nd⟩ := hn
  have hsz := hp.fr.size
  have hclx : ∀ t ∈ sp :: E.slots, t ∉ [tf, t1, t2, t3, t4, t5, t6, t7, t8] := by
    intro t ht hx
    have := List.all_eq_true.1 hcl t hx
    simp only [Bool.not_eq_true', List.contains_eq_mem, decide_eq_false_iff_not] at this
    exact this ht
  have htf' : tf ∉ E.ds :: E.slots := by simpa [List.contains_eq_mem] using htf
  have hds' : E.ds ∉ sp :: E.slots := by simpa [List.contains_eq_mem] using hds
  have hd' := of_decide_eq_true hd
  have hd2' := of_decide_eq_true hd2
  simp only [List.nodup_cons, List.mem_cons, List.not_mem_nil, or_false, not_or, List.nodup_nil, and_true, not_false_eq_true] at hd' hd2'
  obtain ⟨⟨ds_sp, ds1, ds2, ds3, ds4, ds5, ds6, ds7, ds8⟩, ⟨sp1, sp2, sp3, sp4, sp5, sp6, sp7, sp8⟩, ⟨a12, a13, a14, a15, a16, a17, a18⟩, -⟩ := hd'
  obtain ⟨⟨-, du1, du2, du3, du4, du5⟩, ⟨su1, su2, su3, su4, su5⟩, ⟨b12, b13, b14, b15⟩, ⟨b23, b24, b25⟩, ⟨b34, b35⟩, b45⟩ := hd2'
  obtain ⟨-, htl, hu⟩ := hr
  refine wp_seq (reg_move (by omega) fun a1 v1 hs1 => ?_)
  have htest : a1.eval (.tmp tf) = .bool flex := by rw [eval_tmp, hs1, hp.fr.fs _ hfs]
  have hsp1 : sl a1 sp = .pointer (some ⟨cb, co, none⟩) := (v1.same _ (fun h => hclx sp (by simp) (by simp only [List.mem_singleton] at h; simp [h]))).trans hsp
  have hds1 : sl a1 E.ds = sl a E.ds := v1.same _ (fun h => htf' (by simp only [List.mem_singleton] at h; simp [h]))
  have hz1 := v1.size.trans hsz
  cases flex with
  | false =>
    refine wp_cond_false htest (wp_skip ⟨v1.mono (fun t ht => by simp only [writes, List.mem_append]; exact .inl ht), Below.refl _ _, ?_⟩)
    rw [hds1]
    simpa [wrs, plainW] using hp.own
  | true =>
    have hT := htl rfl
    simp only [cellsFs, Nat.zero_add] at hT
    simp only [plainW, if_true, List.nil_append] at hl ⊢
    have hlen : bs.length + (uv x.2.length).length + (x.2.flatMap tagB).length ≤ lim2 := by simp only [tagsB, List.length_append] at hl; omega
    refine wp_cond_true htest (wp_seq ?_)
    obtain ⟨fn1, hfn1, hb1, hnn1⟩ := hasBody_ok (P := Tryd.prog) (f := 52) (by kernel_rfl)
    obtain ⟨fn2, hfn2, hb2, hnn2⟩ := hasBody_ok (P := Tryd.prog) (f := 51) (by kernel_rfl)
    obtain ⟨fn3, hfn3, hb3, hnn3⟩ := hasBody_ok (P := Tryd.prog) (f := 53) (by kernel_rfl)
    have hum : x.2.length ≤ 32767 := hu.1
    refine wp_region_lit (st_move (st_move (st_nil (p := ⟨cb, co, none⟩) ?_ (st_field (b := cb) (o := co) (fieldOff_ok hoff) ?_ (st_call1 hfn1 hb1 hnn1 ?_)))))
    · rw [eval_tmp, sl_put_self _ _ _ (by rw [put_size]; omega), eval_tmp, sl_put_other _ _ _ _ (fun e => sp1 e.symm), hsp1]
    · rw [eval_tmp, sl_put_self _ _ _ (by simp only [put_size]; omega)]
    rw [eval_tmp, sl_put_self _ _ _ (by simp only [put_size]; omega)]
    refine Calls.mono (Len_any w cb (co + off) x.2 K hT) ?_
    rintro e w' ⟨rfl, rfl⟩
    refine ⟨_, rfl, ?_⟩
    generalize hA : ((((a1.put (some t1) (a1.eval (.tmp E.ds))).put (some t2) ((a1.put (some t1) (a1.eval (.tmp E.ds))).eval (.tmp sp))).put (some t3) (.pointer (some ⟨cb, co, none⟩))).put (some t4) (.pointer (some ⟨cb, co + off, none⟩))).put (some t5) (.int .i64 (x.2.length : Int)) = a2
    have v2 : Upd a1 a2 [t1, t2, t3, t4, t5] := by subst hA; exact (((((Upd.refl a1 _).put t1 _ (by simp)).put t2 _ (by simp)).put t3 _ (by simp)).put t4 _ (by simp)).put t5 _ (by simp)
    have k1 : sl a2 t1 = sl a E.ds := by
      subst hA
      rw [sl_put_other _ _ _ _ (fun e => a15 e.symm), sl_put_other _ _ _ _ (fun e => a14 e.symm), sl_put_other _ _ _ _ (fun e => a13 e.symm), sl_put_other _ _ _ _ (fun e => a12 e.symm), sl_put_self _ _ _ (by omega), eval_tmp, hds1]
    have k5 : sl a2 t5 = .int .i64 (x.2.length : Int) := by subst hA; rw [sl_put_self _ _ _ (by simp only [put_size]; omega)]
    have hz2 := v2.size.trans hz1
    refine st_val (v := .int .u32 (x.2.length : Int)) (w' := w') (exec_conv (k := .i64) Tryd.underlying3 Tryd.underlying56 (by rw [eval_tmp, k5]) (by rw [IntKind.wrap_u32]; omega)) ?_
    refine st_val (v := .int .u32 (x.2.length : Int)) (w' := w') (exec_add (k := .u32) (eval_const _ _) (by rw [eval_tmp, sl_put_self _ _ _ (by omega)]) (by rw [IntKind.wrap_u32]; omega)) ?_
    refine st_call2 hfn2 hb2 hnn2 ?_
    rw [eval_tmp, sl_put_other _ _ _ _ (fun e => a17 e.symm), sl_put_other _ _ _ _ (fun e => a16 e.symm), k1, eval_tmp, sl_put_self _ _ _ (by simp only [put_size]; omega)]
    refine Calls.mono (AppendUvarint_any w' base _ bs x.2.length hp.own hp.le (by omega) (by simp only [lim, lim2] at hlen ⊢; omega)) ?_
    rintro e w1 ⟨d1, rfl, ho1, hbel1⟩
    refine ⟨d1, rfl, st_assign (wpList_nil ?_)⟩
    generalize hA3 : ((((a2.put (some t6) (.int .u32 (x.2.length : Int))).put (some t7) (.int .u32 (x.2.length : Int))).put (some t8) d1).put (some E.ds) ((((a2.put (some t6) (.int .u32 (x.2.length : Int))).put (some t7) (.int .u32 (x.2.length : Int))).put (some t8) d1).eval (.tmp t8))) = a3
    have v3 : Upd a2 a3 [t6, t7, t8, E.ds] := by subst hA3; exact ((((Upd.refl a2 _).put t6 _ (by simp)).put t7 _ (by simp)).put t8 _ (by simp)).put E.ds _ (by simp)
    have k3 : sl a3 E.ds = d1 := by subst hA3; rw [sl_put_self _ _ _ (by simp only [put_size]; omega), eval_tmp, sl_put_self _ _ _ (by simp only [put_size]; omega)]
    have hz3 := v3.size.trans hz2
    have hsp3 : sl a3 sp = .pointer (some ⟨cb, co, none⟩) := by
      rw [v3.same sp (by simp only [List.mem_cons, List.not_mem_nil, or_false, not_or]; exact ⟨sp6, sp7, sp8, fun e => hds' (by simp [e])⟩), v2.same sp (by simp only [List.mem_cons, List.not_mem_nil, or_false, not_or]; exact ⟨sp1, sp2, sp3, sp4, sp5⟩)]
      exact hsp1
    -- the second region
    have hT1 : TagRep w1 K (fun j => w1.cell? ⟨cb, co + off + j, none⟩) x.2 := stable_tagRep w' w1 K K _ _ x.2 (fun g hg _ => hbel1.block g (hp.kb g hg)) hbel1.size (fun _ h => h) (fun j _ => below_cell hbel1 hcb) hT
    refine wp_region_lit (st_move (st_nil (p := ⟨cb, co, none⟩) ?_ (st_field (b := cb) (o := co) (fieldOff_ok hoff) ?_ (st_move (st_call2 hfn3 hb3 hnn3 ?_)))))
    · rw [eval_tmp, sl_put_self _ _ _ (by omega), eval_tmp, hsp3]
    · rw [eval_tmp, sl_put_self _ _ _ (by simp only [put_size]; omega)]
    rw [eval_tmp, sl_put_other _ _ _ _ (fun e => b34 e.symm), sl_put_self _ _ _ (by simp only [put_size]; omega), eval_tmp, sl_put_self _ _ _ (by simp only [put_size]; omega), eval_tmp, sl_put_other _ _ _ _ (fun e => du3 e.symm), sl_put_other _ _ _ _ (fun e => du2 e.symm), sl_put_other _ _ _ _ (fun e => du1 e.symm), k3]
    refine Calls.mono (AppendEach_any w1 base cb (co + off) d1 (bs ++ uv x.2.length) x.2 K hT1 hcb ho1 (below_size hbel1 hp.le) hp.kb hu (by simp only [List.length_append]; exact hlen)) ?_
    rintro e w2 ⟨d2, rfl, ho2, hbel2⟩
    refine ⟨d2, rfl, st_assign (wpList_nil ⟨?_, hbel1.trans hbel2, ?_⟩)⟩
    · refine ((v1.mono ?_).trans (v2.mono ?_)).trans ((v3.mono ?_).trans (((((((Upd.refl a3 _).put u1 _ ?_).put u2 _ ?_).put u3 _ ?_).put u4 _ ?_).put u5 _ ?_).put E.ds _ ?_))
      · intro t ht; simp only [List.mem_cons, List.not_mem_nil, or_false] at ht; subst ht; simp [writes]
      · intro t ht; simp only [List.mem_cons, List.not_mem_nil, or_false] at ht; rcases ht with rfl | rfl | rfl | rfl | rfl <;> simp [writes]
      · intro t ht; simp only [List.mem_cons, List.not_mem_nil, or_false] at ht; rcases ht with rfl | rfl | rfl | rfl <;> simp [writes]
      all_goals simp [writes]
    · rw [sl_put_self _ _ _ (by simp only [put_size]; omega), eval_tmp, sl_put_self _ _ _ (by simp only [put_size]; omega)]
      simpa only [tagsB, List.append_assoc] using ho2
end
end Go.Proofs.YtpknjenihcfhlaaDoor
