/-
  Known tags, written: which are written is found out; the whole of a part's tags; parts, messages. Conditions: none.
-/
import Derived.Test.YtoklbgdafnminaaGreatDoorKw2
namespace Go.Proofs.YtoklbgdafnminaaGreatDoor
open Go.RowKit (Below)
open Kz

section
variable (E : WE) (v : Int) (sp off : Nat)
/-- Is a field as usual? -/
def TestF (f : F) (t : Nat) (c : Code) : Prop := ∀ (K : Nat → Prop) (a : Act) (w : World) (cb co : Nat) (x : T) (Q : Exit → Act → World → Prop), FrW E v true a → sl a sp = .pointer (some ⟨cb, co, none⟩) → repF TagRep v true true f w K (fun j => w.cell? ⟨cb, co + off + j, none⟩) x → Fit x →
  (∀ a' w', Upd a a' (writes c) → sl a' t = .bool (!usual f x) → Below w.heap.size w w' → Q .normal a' w') → c.wp Tryz.prog Q a w
def SCountW (te : Nat) (c : Code) : Prop := ∀ (base : Nat) (K : Nat → Prop) (bs : List UInt8) (a : Act) (w : World) (cb co : Nat) (u : List (Nat × List UInt8)) (base0 : Nat) (ks : List Nat), PreA E v true base K bs a w → sl a sp = .pointer (some ⟨cb, co, none⟩) →
  TagRep w K (fun j => w.cell? ⟨cb, co + off + j, none⟩) u → u.length ≤ most → OwnU w base0 (sl a te) ks → ks.length ≤ 1000 → bs.length + 100 ≤ lim → c.wp Tryz.prog (PostA E (writes c) base (bs ++ uv (ks.length + u.length)) a w) a w
def SEachW (c : Code) : Prop := ∀ (base : Nat) (K : Nat → Prop) (bs : List UInt8) (a : Act) (w : World) (cb co : Nat) (u : List (Nat × List UInt8)), PreA E v true base K bs a w → sl a sp = .pointer (some ⟨cb, co, none⟩) → cb < base →
  TagRep w K (fun j => w.cell? ⟨cb, co + off + j, none⟩) u → UOk u → bs.length + (u.flatMap tagB).length ≤ lim2 → c.wp Tryz.prog (PostA E (writes c) base (bs ++ u.flatMap tagB) a w) a w
end
section
variable {E : WE} {v : Int} {sp off : Nat} {fs : List F}
theorem scountW {te id f1 f2 c1 c2 T0 TT k A A' t1 t2 t3 t4 t5 t6 t7 t8 t9 t10 : Nat} {tys1 tys2 : Array TypeId} {y1 y2 y3 y4 y5 y6 y7 y8 y9 y10 y11 : TypeId} {p1 p2 p3 p4 p5 p6 p7 p8 p9 p10 p11 : String} {e1 e2 e3 e4 e5 e6 e7 e8 e9 e10 e11 : Array Edge}
    (hf1 : f1 = 76) (hf2 : f2 = 75) (hc1 : c1 = 3) (hc2 : c2 = 61) (hT0 : T0 = 133) (hoff : offOf Tryz.prog TT k = some off)
    (hn : [t1, t2, t3, t4, t5, t6, t7, t8, t9, t10, E.ds].all (· < E.N) = true) (hd : decide ([E.ds, te, sp, t1, t2, t3, t4, t5, t6, t7, t8, t9, t10].Nodup) = true) :
    SCountW E v sp off te (Code.region id #[⟨some t1, .move (.tmp E.ds), y1, p1, e1, none⟩, ⟨some t2, .move (.tmp te), y2, p2, e2, none⟩, ⟨some t3, .call { callee := .builtin .len, args := #[.tmp t2], argTypes := #[T0] }, y3, p3, e3, none⟩, ⟨some t4, .move (.tmp sp), y4, p4, e4, none⟩,
      ⟨some t5, .nilCheck (.tmp t4), y5, p5, e5, none⟩, ⟨some t6, .fieldAddr TT (.tmp t5) k, y6, p6, e6, none⟩, ⟨some t7, .call { callee := .value (.func f1), args := #[.tmp t6], argTypes := tys1 }, y7, p7, e7, none⟩, ⟨some t8, .binOp .add A (.tmp t3) (.tmp t7) A', y8, p8, e8, none⟩,
      ⟨some t9, .convert c1 c2 (.tmp t8), y9, p9, e9, none⟩, ⟨some t10, .call { callee := .value (.func f2), args := #[.tmp t1, .tmp t9], argTypes := tys2 }, y10, p10, e10, none⟩, ⟨some E.ds, .assign (.tmp t10), y11, p11, e11, none⟩] false) := by
  intro base K bs a w cb co u base0 ks hp hsp hT hu hU hk hl
  subst hf1 hf2 hc1 hc2 hT0
  simp only [List.all_cons, List.all_nil, Bool.and_true, Bool.and_eq_true, decide_eq_true_eq] at hn
  obtain ⟨n1, n2, n3, n4, n5, n6, n7, n8, n9, n10, nd⟩ := hn
  have hd' := of_decide_eq_true hd
  simp only [List.nodup_cons, List.mem_cons, List.not_mem_nil, or_false, not_or, List.nodup_nil, and_true, not_false_eq_true] at hd'
  obtain ⟨⟨-, -, ds1, ds2, ds3, ds4, ds5, ds6, ds7, ds8, ds9, ds10⟩, ⟨-, te1, -⟩, ⟨sp1, sp2, sp3, -⟩, ⟨a12, a13, a14, a15, a16, a17, a18, a19, a1x⟩, ⟨a23, -⟩, ⟨a34, a35, a36, a37, -⟩, ⟨a45, -⟩, ⟨a56, -⟩, ⟨a67, -⟩, ⟨a78, -⟩, ⟨a89, -⟩, a9x⟩ := hd'
  have hsz := hp.fr.size
  have hum : u.length ≤ 32767 := hu
  obtain ⟨p, n, m, hv⟩ : ∃ p m n, sl a te = .slice p n m := by
    rcases hU.2 with ⟨h, -⟩ | ⟨g, cap, cur, h, -⟩
    · exact ⟨_, _, _, h⟩
    · exact ⟨_, _, _, h⟩
  have hnl : m = ks.length := by
    rcases hU.2 with ⟨h, h0⟩ | ⟨g, cap, cur, h, -⟩
    · rw [hv] at h; cases h; exact h0.symm
    · rw [hv] at h; cases h; rfl
  subst hnl
  obtain ⟨fn1, hfn1, hb1, hnn1⟩ := hasBody_ok (P := Tryz.prog) (f := 76) (by kernel_rfl)
  obtain ⟨fn2, hfn2, hb2, hnn2⟩ := hasBody_ok (P := Tryz.prog) (f := 75) (by kernel_rfl)
  refine wp_region_lit (st_move (st_move (st_val (v := .int .i64 (ks.length : Int)) (w' := w) (exec_len_slice (p := p) (c := n) Tryz.underlying133 ?_) (st_move (st_nil (p := ⟨cb, co, none⟩) ?_ (st_field (b := cb) (o := co) (fieldOff_ok hoff) ?_ (st_call1 hfn1 hb1 hnn1 ?_)))))))
  · rw [eval_tmp, sl_put_self _ _ _ (by rw [put_size]; omega), eval_tmp, sl_put_other _ _ _ _ (fun e => te1 e.symm), hv]
  · rw [eval_tmp, sl_put_self _ _ _ (by simp only [put_size]; omega), eval_tmp, sl_put_other _ _ _ _ (fun e => sp3 e.symm), sl_put_other _ _ _ _ (fun e => sp2 e.symm), sl_put_other _ _ _ _ (fun e => sp1 e.symm), hsp]
  · rw [eval_tmp, sl_put_self _ _ _ (by simp only [put_size]; omega)]
  rw [eval_tmp, sl_put_self _ _ _ (by simp only [put_size]; omega)]
  refine Calls.mono (Len_any w cb (co + off) u K hT) ?_
  rintro e w' ⟨rfl, rfl⟩
  refine ⟨_, rfl, ?_⟩
  generalize hA : ((((((a.put (some t1) _).put (some t2) _).put (some t3) _).put (some t4) _).put (some t5) _).put (some t6) _).put (some t7) _ = a2
  have v2 : Upd a a2 [t1, t2, t3, t4, t5, t6, t7] := by subst hA; exact (((((((Upd.refl a _).put t1 _ (by simp)).put t2 _ (by simp)).put t3 _ (by simp)).put t4 _ (by simp)).put t5 _ (by simp)).put t6 _ (by simp)).put t7 _ (by simp)
  have k1 : sl a2 t1 = sl a E.ds := by
    subst hA
    rw [sl_put_other _ _ _ _ (fun e => a17 e.symm), sl_put_other _ _ _ _ (fun e => a16 e.symm), sl_put_other _ _ _ _ (fun e => a15 e.symm), sl_put_other _ _ _ _ (fun e => a14 e.symm), sl_put_other _ _ _ _ (fun e => a13 e.symm), sl_put_other _ _ _ _ (fun e => a12 e.symm), sl_put_self _ _ _ (by omega), eval_tmp]
  have k3 : sl a2 t3 = .int .i64 (ks.length : Int) := by
    subst hA
    rw [sl_put_other _ _ _ _ (fun e => a37 e.symm), sl_put_other _ _ _ _ (fun e => a36 e.symm), sl_put_other _ _ _ _ (fun e => a35 e.symm), sl_put_other _ _ _ _ (fun e => a34 e.symm), sl_put_self _ _ _ (by simp only [put_size]; omega)]
  have k7 : sl a2 t7 = .int .i64 (u.length : Int) := by subst hA; rw [sl_put_self _ _ _ (by simp only [put_size]; omega)]
  clear hA
  have hz2 := v2.size.trans hsz
  refine st_val (v := .int .i64 ((ks.length + u.length : Nat) : Int)) (w' := w') (exec_add (k := .i64) (a := (ks.length : Int)) (b := (u.length : Int)) (by rw [eval_tmp, k3]) (by rw [eval_tmp, k7]) (by rw [wrap_i64 _ (by omega)]; omega)) ?_
  refine st_val (v := .int .u32 ((ks.length + u.length : Nat) : Int)) (w' := w') (exec_conv (k := .i64) Tryz.underlying3 Tryz.underlying61 (by rw [eval_tmp, sl_put_self _ _ _ (by omega)]) (by rw [IntKind.wrap_u32]; omega)) ?_
  refine st_call2 hfn2 hb2 hnn2 ?_
  rw [eval_tmp, sl_put_other _ _ _ _ (fun e => a19 e.symm), sl_put_other _ _ _ _ (fun e => a18 e.symm), k1, eval_tmp, sl_put_self _ _ _ (by simp only [put_size]; omega)]
  refine Calls.mono (AppendUvarint_any w' base _ bs (ks.length + u.length) hp.own hp.le (by omega) (by omega)) ?_
  rintro e w1 ⟨d1, rfl, ho1, hbel1⟩
  refine ⟨d1, rfl, st_assign (wpList_nil ⟨?_, hbel1, ?_⟩)⟩
  · refine (v2.mono (fun t ht => ?_)).trans (((((Upd.refl a2 _).put t8 _ (by simp [writes])).put t9 _ (by simp [writes])).put t10 _ (by simp [writes])).put E.ds _ (by simp [writes]))
    simp only [List.mem_cons, List.not_mem_nil, or_false] at ht
    rcases ht with h | h | h | h | h | h | h <;> simp [writes, h]
  · rw [sl_put_self _ _ _ (by simp only [put_size]; omega), eval_tmp, sl_put_self _ _ _ (by simp only [put_size]; omega)]
    exact ho1
theorem seachW {id f3 TT k u1 u2 u3 u4 u5 : Nat} {tys : Array TypeId} {z1 z2 z3 z4 z5 z6 : TypeId} {q1 q2 q3 q4 q5 q6 : String} {g1 g2 g3 g4 g5 g6 : Array Edge} (hf3 : f3 = 77) (hoff : offOf Tryz.prog TT k = some off)
    (hn : [u1, u2, u3, u4, u5, E.ds].all (· < E.N) = true) (hd : decide ([E.ds, u1, u2, u3, u4, u5].Nodup) = true) :
    SEachW E v sp off (Code.region id #[⟨some u1, .move (.tmp sp), z1, q1, g1, none⟩, ⟨some u2, .nilCheck (.tmp u1), z2, q2, g2, none⟩, ⟨some u3, .fieldAddr TT (.tmp u2) k, z3, q3, g3, none⟩, ⟨some u4, .move (.tmp E.ds), z4, q4, g4, none⟩, ⟨some u5, .call { callee := .value (.func f3), args := #[.tmp u3, .tmp u4], argTypes := tys }, z5, q5, g5, none⟩,
        ⟨some E.ds, .assign (.tmp u5), z6, q6, g6, none⟩] false) := by
  intro base K bs a w cb co u hp hsp hcb hT hu hl
  subst hf3
  simp only [List.all_cons, List.all_nil, Bool.and_true, Bool.and_eq_true, decide_eq_true_eq] at hn
  obtain ⟨m1, m2, m3, m4, m5, nd⟩ := hn
  have hd' := of_decide_eq_true hd
  simp only [List.nodup_cons, List.mem_cons, List.not_mem_nil, or_false, not_or, List.nodup_nil, and_true, not_false_eq_true] at hd'
  obtain ⟨⟨du1, du2, du3, du4, du5⟩, ⟨b12, b13, b14, b15⟩, ⟨b23, b24, b25⟩, ⟨b34, b35⟩, b45⟩ := hd'
  have hsz := hp.fr.size
  obtain ⟨fn3, hfn3, hb3, hnn3⟩ := hasBody_ok (P := Tryz.prog) (f := 77) (by kernel_rfl)
  refine wp_region_lit (st_move (st_nil (p := ⟨cb, co, none⟩) ?_ (st_field (b := cb) (o := co) (fieldOff_ok hoff) ?_ (st_move (st_call2 hfn3 hb3 hnn3 ?_)))))
  · rw [eval_tmp, sl_put_self _ _ _ (by omega), eval_tmp, hsp]
  · rw [eval_tmp, sl_put_self _ _ _ (by simp only [put_size]; omega)]
  rw [eval_tmp, sl_put_other _ _ _ _ (fun e => b34 e.symm), sl_put_self _ _ _ (by simp only [put_size]; omega), eval_tmp, sl_put_self _ _ _ (by simp only [put_size]; omega), eval_tmp, sl_put_other _ _ _ _ (fun e => du3 e.symm), sl_put_other _ _ _ _ (fun e => du2 e.symm), sl_put_other _ _ _ _ (fun e => du1 e.symm)]
  refine Calls.mono (AppendEach_any w base cb (co + off) _ bs u K hT hcb hp.own hp.le hp.kb hu hl) ?_
  rintro e w2 ⟨d2, rfl, ho2, hbel2⟩
  refine ⟨d2, rfl, st_assign (wpList_nil ⟨?_, hbel2, ?_⟩)⟩
  · exact (((((Upd.refl a _).put u1 _ (by simp [writes])).put u2 _ (by simp [writes])).put u3 _ (by simp [writes])).put u4 _ (by simp [writes])).put u5 _ (by simp [writes]) |>.put E.ds _ (by simp [writes])
  · rw [sl_put_self _ _ _ (by simp only [put_size]; omega), eval_tmp, sl_put_self _ _ _ (by simp only [put_size]; omega)]
    exact ho2

/-! ## Which keys -/
/-- What is written of a part's tags. -/
def tagsOut (v : Int) (fs : List F) (x : T) : List UInt8 := tagsB ((keysOf fs x.l (known fs)).map (fun k => (k, wrAt v fs x.l k)) ++ x.u)
/-- The keys below j have been looked at. -/
def TeP (E : WE) (v : Int) (sp off : Nat) (fs : List F) (te j : Nat) (c : Code) : Prop := ∀ (base : Nat) (K : Nat → Prop) (bs : List UInt8) (w0 w : World) (a : Act) (cb co : Nat) (x : T), FrW E v true a → base ≤ w0.heap.size → (∀ g, K g → g < base) → OwnB w base (sl a E.ds) bs → Below w0.heap.size w0 w →
  sl a sp = .pointer (some ⟨cb, co, none⟩) → cb < base → repP TagRep v true true fs w K (fun j => w.cell? ⟨cb, co + off + j, none⟩) x → Fit x → OwnU w w0.heap.size (sl a te) (keysOf fs x.l j) → bs.length + (tagsOut v fs x).length ≤ lim2 → c.wp Tryz.prog (PostA E (writes c) base (bs ++ tagsOut v fs x) a w0) a w
theorem rep_below {w w' : World} {K : Nat → Prop} {cb o base : Nat} {x : T} (hr : repP TagRep v true true fs w K (fun j => w.cell? ⟨cb, o + j, none⟩) x) (hb : ∀ g, g < base → w'.heap[g]? = w.heap[g]?) (hs : w.heap.size ≤ w'.heap.size) (hK : ∀ g, K g → g < base) (hcb : cb < base) :
    repP TagRep v true true fs w' K (fun j => w'.cell? ⟨cb, o + j, none⟩) x :=
  stable_repP (fun _ => rfl) stable_tagRep fs w w' K K _ _ x (fun g hg _ => hb g (hK g hg)) hs (fun _ h => h) (fun _ _ => cell_kept (hb cb hcb)) hr
theorem TeP.step {te i j t : Nat} {f : F} {cT cA c2 : Code} (hix : tagIx j fs = some i) (hf : fs[i]? = some f) (hj : decide (j < 1000) = true) (hT : TestF E v sp (off + offI fs i) f t cT) (hA : SApU E.N te j cA) (hcl : clear (te :: sp :: E.ds :: E.slots) cT = true) (hca : clear (sp :: E.ds :: E.slots) cA = true) (h2 : TeP E v sp off fs te (j + 1) c2) :
    TeP E v sp off fs te j ((cT.seq (Code.cond (.tmp t) cA Code.skip)).seq c2) := by
  intro base K bs w0 w a cb co x hfr hb0 hK ho hbel hsp hcb hr hft hU hl
  have hj := of_decide_eq_true hj
  have htag := tagIx_some hix hf
  have hpl := (plain_iff fs x.l _).1 hr.1
  have hlt : i < x.l.length := by rw [hpl.1]; exact (List.getElem?_eq_some_iff.1 hf).1
  have hx : x.l[i]? = some x.l[i] := List.getElem?_eq_getElem hlt
  have hnu : notUsual fs x.l j = !usual f x.l[i] := by simp only [notUsual, hix, hf, hx]
  have hrf := hpl.2 i f _ hf hx (by
    have : ¬ (f.tag < 0) := by omega
    simp [F.on, this])
  have hcl' := clear_iff hcl
  have hca' := clear_iff hca
  have hrf' : repF TagRep v true true f w K (fun j => w.cell? ⟨cb, co + (off + offI fs i) + j, none⟩) x.l[i] := by
    have e : (fun j => w.cell? ⟨cb, co + off + (offI fs i + j), none⟩) = fun j => w.cell? ⟨cb, co + (off + offI fs i) + j, none⟩ := by funext j; congr 2; omega
    rw [← e]; exact hrf
  refine wp_seq (wp_seq (hT K a w cb co x.l[i] _ hfr hsp hrf' (hft.fa _ (List.getElem_mem hlt)) fun a1 w1 u1 s1 b1 => ?_))
  have hfr1 := hfr.upd u1 (fun t ht => hcl' t (by simp [ht]))
  have hsp1 : sl a1 sp = .pointer (some ⟨cb, co, none⟩) := (u1.same _ (hcl' _ (by simp))).trans hsp
  have hw0 : w0.heap.size ≤ w.heap.size := hbel.size
  have ho1 : OwnB w1 base (sl a1 E.ds) bs := by rw [u1.same _ (hcl' _ (by simp))]; exact ho.grown b1.block
  have hU1 : OwnU w1 w0.heap.size (sl a1 te) (keysOf fs x.l j) := by
    rw [u1.same _ (hcl' _ (by simp))]
    exact hU.kept (row := none) ⟨b1.os, b1.tape, b1.output, b1.size, fun k hk _ => b1.block k hk⟩ (Classical.em _)
  have hbel1 : Below w0.heap.size w0 w1 := ⟨b1.os.trans hbel.os, b1.tape.trans hbel.tape, b1.output.trans hbel.output, Nat.le_trans hbel.size b1.size, fun k hk => (b1.block k (by omega)).trans (hbel.block k hk)⟩
  have hr1 := rep_below hr (w' := w1) (base := base) (fun g hg => b1.block g (by omega)) b1.size hK hcb
  by_cases hq : usual f x.l[i] = true
  · refine wp_cond_false (by rw [eval_tmp, s1, hq]; rfl) (wp_skip ?_)
    have hks : keysOf fs x.l (j + 1) = keysOf fs x.l j := by rw [keysOf_succ, hnu, hq]; simp
    refine wp_mono (h2 base K bs w0 w1 a1 cb co x hfr1 hb0 hK ho1 hbel1 hsp1 hcb hr1 hft (by rw [hks]; exact hU1) hl) ?_
    intro e a2 w2 hq2
    cases e with
    | normal => exact ⟨(u1.mono (fun t ht => by simp only [writes, List.mem_append]; exact .inl (.inl ht))).trans (hq2.1.mono (fun t ht => by simp only [writes, List.mem_append]; exact .inr ht)), hq2.2⟩
    | _ => exact hq2.elim
  · have hq' : usual f x.l[i] = false := by simpa using hq
    have hks : keysOf fs x.l (j + 1) = keysOf fs x.l j ++ [j] := by rw [keysOf_succ, hnu, hq']; simp
    refine wp_cond_true (by rw [eval_tmp, s1, hq']; rfl) (hA a1 w1 _ w0.heap.size _ hfr1.size hU1 hbel1.size (by have := keysOf_le fs x.l j; omega) fun a2 w2 u2 hU2 g2 => ?_)
    have hub := ownU_block hU1
    have hne := ownU_ne hU1 ho1
    have hb2 : ∀ g, g < w0.heap.size → w2.heap[g]? = w1.heap[g]? := fun g hg => g2.block g (Nat.lt_of_lt_of_le hg hbel1.size) (fun e => by have := (hub g e.symm).1; omega)
    have hfr2 := hfr1.upd u2 (fun t ht => hca' t (by simp [ht]))
    have ho2 : OwnB w2 base (sl a2 E.ds) bs := by
      rw [u2.same _ (hca' _ (by simp))]
      refine ho1.kept g2 ?_
      by_cases hn : (sl a1 te).ownBlock = none
      · rw [hn]; exact Classical.em _
      · obtain ⟨g, hg⟩ := Option.ne_none_iff_exists'.1 hn
        exact .inr (by rw [hg]; intro e; exact hne g hg e)
    refine wp_mono (h2 base K bs w0 w2 a2 cb co x hfr2 hb0 hK ho2 ⟨g2.os.trans hbel1.os, g2.tape.trans hbel1.tape, g2.output.trans hbel1.output, Nat.le_trans hbel1.size g2.size, fun k hk => (hb2 k hk).trans (hbel1.block k hk)⟩ ((u2.same _ (hca' _ (by simp))).trans hsp1) hcb (rep_below hr1 (base := base) (fun g hg => hb2 g (by omega)) g2.size hK hcb) hft (by rw [hks]; exact hU2) hl) ?_
    intro e a3 w3 hq3
    cases e with
    | normal => exact ⟨((u1.mono (fun t ht => by simp only [writes, List.mem_append]; exact .inl (.inl ht))).trans (u2.mono (fun t ht => by simp only [writes, List.mem_append]; exact .inl (.inr (.inl ht))))).trans (hq3.1.mono (fun t ht => by simp only [writes, List.mem_append]; exact .inr ht)), hq3.2⟩
    | _ => exact hq3.elim
end
end Go.Proofs.YtoklbgdafnminaaGreatDoor
