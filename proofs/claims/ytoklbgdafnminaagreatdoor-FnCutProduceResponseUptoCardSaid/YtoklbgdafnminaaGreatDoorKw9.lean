/-
  Known tags, written: a struct. Conditions: none.
-/
import Derived.Test.YtoklbgdafnminaaGreatDoorKw8
namespace Go.Proofs.YtoklbgdafnminaaGreatDoor
open Go.RowKit (Below)
open Kz

section
variable {E : WE} {v : Int} {sp off : Nat}
theorem sloadB {id N s d t1 t2 T k offk ty : Nat} {y1 y2 y3 : TypeId} {p1 p2 p3 : String} {e1 e2 e3 : Array Edge} (hf : offOf Tryz.prog T k = some offk) (hl : plainTy Tryz.prog ty = true) (hn : [t1, t2, d].all (· < N) = true) :
    SLoad N s offk d (Code.region id #[⟨some t1, .fieldAddr T (.tmp s) k, y1, p1, e1, none⟩, ⟨some t2, .load ty (.tmp t1), y2, p2, e2, none⟩, ⟨some d, .assign (.tmp t2), y3, p3, e3, none⟩] false) := by
  intro a w Q b o u hN hs hc hq
  simp only [List.all_cons, List.all_nil, Bool.and_true, Bool.and_eq_true, decide_eq_true_eq] at hn
  refine wp_region_lit (st_field (b := b) (o := o) (fieldOff_ok hf) (by rw [eval_tmp, hs]) (st_load (b := b) (o := o + offk) (load1_ok hl) ?_ hc (st_assign (wpList_nil (hq _ ((((Upd.refl a _).put t1 _ (by simp [writes])).put t2 _ (by simp [writes])).put d _ (by simp [writes])) ?_)))))
  · rw [eval_tmp, sl_put_self _ _ _ (by omega)]
  · rw [sl_put_self _ _ _ (by simp only [put_size]; omega), eval_tmp, sl_put_self _ _ _ (by rw [put_size]; omega)]
/-- Unknown tags of a struct of its own block. -/
def TgB (E : WE) (v : Int) (s offt : Nat) (c : Code) : Prop := ∀ (base : Nat) (K : Nat → Prop) (bs : List UInt8) (a : Act) (w : World) (g : Nat) (u : List (Nat × List UInt8)), PreA E v true base K bs a w → sl a s = .pointer (some ⟨g, 0, none⟩) → g < w.heap.size → (∀ w', Bel base w w' → w'.heap[g]? = w.heap[g]?) →
  TagRep w K (fun j => w.cell? ⟨g, offt + j, none⟩) u → UOk u → bs.length + (tagsB u).length ≤ lim2 → c.wp Tryz.prog (PostA E (writes c) base (bs ++ tagsB u) a w) a w
theorem tgB {s offt i0 i1 i2 t0 fs f1 f2 f3 TT k c1 c2 A A' t1 t2 t3 t4 t5 t6 u1 u2 u3 : Nat} {tys1 tys2 tys3 : Array TypeId} {y0 y1 y2 y3 y4 y5 y6 y7 z1 z2 z3 z4 : TypeId} {p0 p1 p2 p3 p4 p5 p6 p7 q1 q2 q3 q4 : String} {e0 e1 e2 e3 e4 e5 e6 e7 g1 g2 g3 g4 : Array Edge}
    (hfs : E.fs = some fs) (hf1 : f1 = 76) (hf2 : f2 = 75) (hf3 : f3 = 77) (hc1 : c1 = 3) (hc2 : c2 = 61) (hoff : offOf Tryz.prog TT k = some offt)
    (hn : [t0, t1, t2, t3, t4, t5, t6, u1, u2, u3, E.ds].all (· < E.N) = true) (hd : decide ([E.ds, s, t0, t1, t2, t3, t4, t5, t6, u1, u2, u3].Nodup) = true) (_hcl : E.slots.all (fun t => ![E.ds, t0, t1, t2, t3, t4, t5, t6, u1, u2, u3].contains t) = true) :
    TgB E v s offt ((Code.region i0 #[⟨some t0, .move (.tmp fs), y0, p0, e0, none⟩] false).seq (Code.cond (.tmp t0) ((Code.region i1 #[⟨some t1, .move (.tmp E.ds), y1, p1, e1, none⟩, ⟨some t2, .fieldAddr TT (.tmp s) k, y2, p2, e2, none⟩, ⟨some t3, .call { callee := .value (.func f1), args := #[.tmp t2], argTypes := tys1 }, y3, p3, e3, none⟩,
        ⟨some t4, .convert c1 c2 (.tmp t3), y4, p4, e4, none⟩, ⟨some t5, .binOp .add A (.const (.int .u32 0)) (.tmp t4) A', y5, p5, e5, none⟩, ⟨some t6, .call { callee := .value (.func f2), args := #[.tmp t1, .tmp t5], argTypes := tys2 }, y6, p6, e6, none⟩, ⟨some E.ds, .assign (.tmp t6), y7, p7, e7, none⟩] false).seq
      (Code.region i2 #[⟨some u1, .fieldAddr TT (.tmp s) k, z1, q1, g1, none⟩, ⟨some u2, .move (.tmp E.ds), z2, q2, g2, none⟩, ⟨some u3, .call { callee := .value (.func f3), args := #[.tmp u1, .tmp u2], argTypes := tys3 }, z3, q3, g3, none⟩, ⟨some E.ds, .assign (.tmp u3), z4, q4, g4, none⟩] false)) Code.skip)) := by
  intro base K bs a w g u hp hs hg hkt hT hu hl
  subst hf1 hf2 hf3 hc1 hc2
  simp only [List.all_cons, List.all_nil, Bool.and_true, Bool.and_eq_true, decide_eq_true_eq] at hn
  obtain ⟨n0, n1, n2, n3, n4, n5, n6, m1, m2, m3, nd⟩ := hn
  have hd' := of_decide_eq_true hd
  simp only [List.nodup_cons, List.mem_cons, List.not_mem_nil, or_false, not_or, List.nodup_nil, and_true, not_false_eq_true] at hd'
  obtain ⟨⟨ds_s, ds0, ds1, ds2, ds3, ds4, ds5, ds6, dsu1, dsu2, dsu3⟩, ⟨s0, s1, s2, s3, s4, s5, s6, su1, su2, su3⟩, ⟨a01, -⟩, ⟨a12, a13, a14, a15, a16, -⟩, ⟨a23, -⟩, ⟨a34, -⟩, ⟨a45, -⟩, ⟨a56, -⟩, -, ⟨b12, b13⟩, b23⟩ := hd'
  have hsz := hp.fr.size
  have hum : u.length ≤ 32767 := hu.1
  have hlb : (tagsB u).length = (uv u.length).length + (u.flatMap tagB).length := by simp [tagsB]
  rw [hlb] at hl
  obtain ⟨fn1, hfn1, hb1, hnn1⟩ := hasBody_ok (P := Tryz.prog) (f := 76) (by kernel_rfl)
  obtain ⟨fn2, hfn2, hb2, hnn2⟩ := hasBody_ok (P := Tryz.prog) (f := 75) (by kernel_rfl)
  obtain ⟨fn3, hfn3, hb3, hnn3⟩ := hasBody_ok (P := Tryz.prog) (f := 77) (by kernel_rfl)
  refine wp_seq (wp_region_lit (st_move (wpList_nil ?_)))
  generalize hA : a.put (some t0) _ = a0
  have v0 : Upd a a0 [t0] := by subst hA; exact (Upd.refl a _).put t0 _ (by simp)
  have k0 : sl a0 t0 = .bool true := by subst hA; rw [sl_put_self _ _ _ (by omega), eval_tmp]; exact hp.fr.fs fs hfs
  clear hA
  have hz0 := v0.size.trans hsz
  have ds_0 : sl a0 E.ds = sl a E.ds := v0.same _ (by simpa using ds0)
  have s_0 : sl a0 s = .pointer (some ⟨g, 0, none⟩) := (v0.same _ (by simpa using s0)).trans hs
  refine wp_cond_true (by rw [eval_tmp, k0]) (wp_seq (wp_region_lit (st_move (st_field (b := g) (o := 0) (fieldOff_ok hoff) ?_ (st_call1 hfn1 hb1 hnn1 ?_)))))
  · rw [eval_tmp, sl_put_other _ _ _ _ (fun e => s1 e.symm), s_0]
  rw [eval_tmp, sl_put_self _ _ _ (by rw [put_size]; omega), Nat.zero_add]
  refine Calls.mono (Len_any w g offt u K hT) ?_
  rintro e w' ⟨rfl, rfl⟩
  refine ⟨_, rfl, ?_⟩
  generalize hA : (((a0.put (some t1) _).put (some t2) _).put (some t3) _) = a3
  have v3 : Upd a0 a3 [t1, t2, t3] := by subst hA; exact ((((Upd.refl a0 _).put t1 _ (by simp)).put t2 _ (by simp)).put t3 _ (by simp))
  have k1 : sl a3 t1 = sl a E.ds := by subst hA; rw [sl_put_other _ _ _ _ (fun e => a13 e.symm), sl_put_other _ _ _ _ (fun e => a12 e.symm), sl_put_self _ _ _ (by omega), eval_tmp, ds_0]
  have k3 : sl a3 t3 = .int .i64 (u.length : Int) := by subst hA; rw [sl_put_self _ _ _ (by simp only [put_size]; omega)]
  clear hA
  have hz3 := v3.size.trans hz0
  refine st_val (v := .int .u32 ((u.length : Nat) : Int)) (w' := w') (exec_conv (k := .i64) Tryz.underlying3 Tryz.underlying61 (by rw [eval_tmp, k3]) (by rw [IntKind.wrap_u32]; omega)) ?_
  refine st_val (v := .int .u32 ((u.length : Nat) : Int)) (w' := w') (exec_add (k := .u32) (a := 0) (b := (u.length : Int)) (eval_const _ _) (by rw [eval_tmp, sl_put_self _ _ _ (by omega)]) (by rw [IntKind.wrap_u32]; omega)) ?_
  refine st_call2 hfn2 hb2 hnn2 ?_
  rw [eval_tmp, sl_put_other _ _ _ _ (fun e => a15 e.symm), sl_put_other _ _ _ _ (fun e => a14 e.symm), k1, eval_tmp, sl_put_self _ _ _ (by simp only [put_size]; omega)]
  refine Calls.mono (AppendUvarint_any w' base _ bs u.length hp.own hp.le (by omega) (by simp only [lim, lim2] at hl ⊢; omega)) ?_
  rintro e w1 ⟨d1, rfl, ho1, hbel1⟩
  refine ⟨d1, rfl, st_assign (wpList_nil ?_)⟩
  generalize hA : ((((a3.put (some t4) _).put (some t5) _).put (some t6) _).put (some E.ds) _) = a5
  have v5 : Upd a3 a5 [t4, t5, t6, E.ds] := by subst hA; exact ((((Upd.refl a3 _).put t4 _ (by simp)).put t5 _ (by simp)).put t6 _ (by simp)).put E.ds _ (by simp)
  have k5 : sl a5 E.ds = d1 := by subst hA; rw [sl_put_self _ _ _ (by simp only [put_size]; omega), eval_tmp, sl_put_self _ _ _ (by simp only [put_size]; omega)]
  clear hA
  have hz5 := v5.size.trans hz3
  have s_5 : sl a5 s = .pointer (some ⟨g, 0, none⟩) := (v5.same _ (by simp only [List.mem_cons, List.not_mem_nil, or_false, not_or]; exact ⟨s4, s5, s6, fun e => ds_s e.symm⟩)).trans ((v3.same _ (by simp only [List.mem_cons, List.not_mem_nil, or_false, not_or]; exact ⟨s1, s2, s3⟩)).trans s_0)
  have hT1 : TagRep w1 K (fun j => w1.cell? ⟨g, offt + j, none⟩) u := stable_tagRep w' w1 K K _ _ u (fun g hg _ => hbel1.block g (hp.kb g hg)) hbel1.size (fun _ h => h) (fun j _ => cell_kept (hkt _ hbel1)) hT
  refine wp_region_lit (st_field (b := g) (o := 0) (fieldOff_ok hoff) (by rw [eval_tmp, s_5]) (st_move (st_call2 hfn3 hb3 hnn3 ?_)))
  rw [eval_tmp, sl_put_other _ _ _ _ (fun e => b12 e.symm), sl_put_self _ _ _ (by omega), eval_tmp, sl_put_self _ _ _ (by rw [put_size]; omega), eval_tmp, sl_put_other _ _ _ _ (fun e => dsu1 e.symm), k5, Nat.zero_add]
  refine Calls.mono (AppendEach_keep w1 base g offt _ _ u K hT1 (Nat.lt_of_lt_of_le hg hbel1.size) (fun w2 h => (hkt _ (hbel1.trans h)).trans (hkt _ hbel1).symm) ho1 (Nat.le_trans hp.le hbel1.size) hp.kb hu (by rw [List.length_append]; omega)) ?_
  rintro e w2 ⟨d2, rfl, ho2, hbel2⟩
  refine ⟨d2, rfl, st_assign (wpList_nil ⟨?_, hbel1.trans hbel2, ?_⟩)⟩
  · refine (((v0.mono (fun t ht => ?_)).trans (v3.mono (fun t ht => ?_))).trans (v5.mono (fun t ht => ?_))).trans ((((Upd.refl a5 _).put u1 _ (by simp [writes])).put u2 _ (by simp [writes])).put u3 _ (by simp [writes]) |>.put E.ds _ (by simp [writes]))
    · simp only [List.mem_cons, List.not_mem_nil, or_false] at ht; simp [writes, ht]
    · simp only [List.mem_cons, List.not_mem_nil, or_false] at ht
      rcases ht with h | h | h <;> simp [writes, h]
    · simp only [List.mem_cons, List.not_mem_nil, or_false] at ht
      rcases ht with h | h | h | h <;> simp [writes, h]
  · rw [sl_put_self _ _ _ (by simp only [put_size]; omega), eval_tmp, sl_put_self _ _ _ (by simp only [put_size]; omega), tagsB, ← List.append_assoc]
    exact ho2

abbrev int1 (d1 : Int) : F := .mk 3 0 (-1) (-1) (-1) d1 0 []
abbrev int2 (kk : Nat) (d2 : Int) : F := .mk kk 0 (-1) (-1) (-1) d2 0 []
theorem two_wr {kk : Nat} {d1 d2 frm to tag dflt : Int} {of : Nat} (hv : 0 ≤ v) (hkk : decide (kk = 3 ∨ kk = 4) = true) {w : World} {K : Nat → Prop} {c : Cells} {x : T} (hr : repP TagRep v true true (twoInts kk d1 d2) w K c x) (hft : Fit x) :
    ∃ (x1 x2 : T) (r : Option Nat), c 0 = some (.int .i32 x1.n) ∧ c 1 = some (.int (ikOf kk) x2.n) ∧ c 2 = some (.map r) ∧ TagRep w K (fun j => c (2 + j)) x.u ∧ (∀ w K, repF TagRep v true true (int1 d1) w K (fun _ => some (.int .i32 x1.n)) x1) ∧ (∀ w K, repF TagRep v true true (int2 kk d2) w K (fun _ => some (.int (ikOf kk) x2.n)) x2) ∧ Fit x1 ∧ Fit x2 ∧
      wr v true (.mk 10 frm to (-1) tag dflt of (twoInts kk d1 d2)) x = wr v true (int1 d1) x1 ++ (wr v true (int2 kk d2) x2 ++ tagsB x.u) := by
  have hkk := of_decide_eq_true hkk
  have hout := part_out (v := v) (fs := twoInts kk d1 d2) (by simp [uniqTags]) hr hft
  obtain ⟨⟨x1, xs1, h1, o1, x2, xs2, h2, o2, h3⟩, ht⟩ := hr
  have h3 : xs2 = [] := h3
  subst h3 h2
  have ht := ht rfl
  have e2 : cellsFs true (twoInts kk d1 d2) = 2 := by rcases hkk with rfl | rfl <;> rfl
  have hT : TagRep w K (fun j => c (2 + j)) x.u := by
    have := ht.1
    rw [e2] at this
    exact this
  obtain ⟨r, hr0, -⟩ := id hT
  have o1 : valRep false 3 (asmRep TagRep v true true [] (repFs TagRep v true true [])) w K c x1 := o1 (by simp [F.on, F.has, hv])
  have o2 := o2 (by simp [F.on, F.has, hv])
  have ex2 : c 1 = some (.int (ikOf kk) x2.n) ∧ ∀ w K, repF TagRep v true true (int2 kk d2) w K (fun _ => some (.int (ikOf kk) x2.n)) x2 := by
    rcases hkk with rfl | rfl
    · have o2 : valRep false 3 (asmRep TagRep v true true [] (repFs TagRep v true true [])) w K (fun j => c (cellsF true (.mk 3 0 (-1) (-1) (-1) d1 0 []) + j)) x2 := o2
      exact ⟨o2.1, fun _ _ => ⟨rfl, o2.2⟩⟩
    · have o2 : valRep false 4 (asmRep TagRep v true true [] (repFs TagRep v true true [])) w K (fun j => c (cellsF true (.mk 3 0 (-1) (-1) (-1) d1 0 []) + j)) x2 := o2
      exact ⟨o2.1, fun _ _ => ⟨rfl, o2.2⟩⟩
  refine ⟨x1, x2, r, o1.1, ex2.1, hr0, hT, fun _ _ => ⟨rfl, o1.2⟩, ex2.2, hft.fa _ (by rw [h1]; simp), hft.fa _ (by rw [h1]; simp), ?_⟩
  have hw : wr v true (.mk 10 frm to (-1) tag dflt of (twoInts kk d1 d2)) x = Kz.part v true (twoInts kk d1 d2) x := rfl
  have hkn : known (twoInts kk d1 d2) = 0 := by rfl
  rw [hw, hout, h1]
  simp only [wrs, plainW, List.headD_cons, List.tail_cons, tagsOut, hkn, keysOf, List.range_zero, List.filter_nil, List.map_nil, List.nil_append, if_true]
  have hh : ∀ kk d, F.has (.mk kk 0 (-1) (-1) (-1) d 0 []) v = true := fun kk d => by simp [F.has, hv]
  simp only [hh, and_true, show ((-1 : Int) < 0) = True by simp, if_true, List.append_nil, List.append_assoc]
theorem FW.structV {id1 s d1 d2 t1 t2 t3 t4 T k T1 T2 T3 kk key of la sz id u1 u2 l : Nat} {frm to tag dflt e1' e2' : Int} {T4 z1 z2 y1 y2 y3 y4 y5 y6 : TypeId} {r1' r2' q1 q2 q3 q4 q5 q6 : String} {g1 g2 e1 e2 e3 e4 e5 e6 : Array Edge} {td : TypeDesc} {Z : Array Value} {cK r1 r2 cM cS a1 a2 b1 b2 cT : Code} (hv : 0 ≤ v) (hkk : decide (kk = 3 ∨ kk = 4) = true)
    (hT2 : T1 = T2) (hT3 : T1 = T3) (hne : decide (T1 ≠ 5 ∧ T1 ≠ 22) = true) (hu : Tryz.prog.underlying T1 = some td) (hrow : td.isRow = true) (hi : (Tryz.prog.info? T1).map (·.size) = some 3) (hz : (Tryz.prog.info? T1).map (fun i => i.zero) = some (some (.agg Z))) (hZ : decide (Z.size = 3) = true) (hf : offOf Tryz.prog T k = some off)
    (hn : [t1, t2, t3, t4, s].all (· < E.N) = true) (hd : decide (s ≠ t4) = true) (hcl : (E.ds :: E.slots).all (fun t => ![t1, t2, t3, t4, s].contains t) = true)
    (hK : Ac E v true (uv key) cK) (hr1 : SConst E.N sz (.bool false) r1) (hr2 : SLenD E la r2) (hM : SMeas E v la cM) (hS : SConst E.N sz (.bool true) cS)
    (ha1 : SLoad E.N s 0 d1 a1) (ha2 : FA TagRep E v true true (int1 e1') d1 a2) (hb1 : SLoad E.N s 1 d2 b1) (hb2 : FA TagRep E v true true (int2 kk e2') d2 b2) (hT : TgB E v s 2 cT)
    (hfl : findLabel ((Code.region id1 #[⟨some t1, .move (.tmp sp), y1, q1, e1, none⟩, ⟨some t2, .nilCheck (.tmp t1), y2, q2, e2, none⟩, ⟨some t3, .fieldAddr T (.tmp t2) k, y3, q3, e3, none⟩, ⟨some t4, .load T1 (.tmp t3), y4, q4, e4, none⟩, ⟨some s, .alloc T2, y5, q5, e5, none⟩, ⟨none, .store T3 (.tmp s) (.tmp t4), y6, q6, e6, none⟩] false).seq
      (cK.seq (r1.seq (r2.seq ((Code.label l).seq ((a1.seq a2).seq ((b1.seq b2).seq (cT.seq (againC id sz u1 u2 l T4 z1 z2 r1' r2' g1 g2 cM cS))))))))) l = some (Code.skip.seq ((a1.seq a2).seq ((b1.seq b2).seq (cT.seq (againC id sz u1 u2 l T4 z1 z2 r1' r2' g1 g2 cM cS))))))
    (hcK : clear (s :: E.slots) cK = true) (hc1' : clear (s :: E.ds :: E.slots) r1 = true) (hc2 : clear (s :: sz :: E.ds :: E.slots) r2 = true) (hcM : clear (s :: sz :: E.slots) cM = true) (hcS : clear (s :: E.ds :: E.slots) cS = true)
    (hca1 : clear (s :: sz :: la :: E.ds :: E.slots) a1 = true) (hca2 : clear (s :: sz :: la :: E.slots) a2 = true) (hcb1 : clear (s :: sz :: la :: E.ds :: E.slots) b1 = true) (hcb2 : clear (s :: sz :: la :: E.slots) b2 = true) (hcT : clear (s :: sz :: la :: E.slots) cT = true)
    (hTt : [u1, u2].all (fun t => decide (t < E.N) && !(s :: sz :: la :: E.ds :: E.slots).contains t) = true) :
    FW E v sp off (.mk 10 frm to (-1) tag dflt of (twoInts kk e1' e2')) key (Code.scope ((Code.region id1 #[⟨some t1, .move (.tmp sp), y1, q1, e1, none⟩, ⟨some t2, .nilCheck (.tmp t1), y2, q2, e2, none⟩, ⟨some t3, .fieldAddr T (.tmp t2) k, y3, q3, e3, none⟩, ⟨some t4, .load T1 (.tmp t3), y4, q4, e4, none⟩, ⟨some s, .alloc T2, y5, q5, e5, none⟩, ⟨none, .store T3 (.tmp s) (.tmp t4), y6, q6, e6, none⟩] false).seq
      (cK.seq (r1.seq (r2.seq ((Code.label l).seq ((a1.seq a2).seq ((b1.seq b2).seq (cT.seq (againC id sz u1 u2 l T4 z1 z2 r1' r2' g1 g2 cM cS)))))))))) := by
  intro base K bs a w cb co x hp hsp hcb hr hft _ hl hl2
  subst hT2 hT3
  have hne := of_decide_eq_true hne
  have hd := of_decide_eq_true hd
  simp only [List.all_cons, List.all_nil, Bool.and_true, Bool.and_eq_true, decide_eq_true_eq] at hn
  obtain ⟨n1, n2, n3, n4, ns⟩ := hn
  have hclx : ∀ t ∈ E.ds :: E.slots, t ∉ [t1, t2, t3, t4, s] := fun t ht hx => by
    have := List.all_eq_true.1 hcl t ht
    simp only [Bool.not_eq_true', List.contains_eq_mem, decide_eq_false_iff_not] at this
    exact this hx
  have ka1 := clear_iff hca1
  have ka2 := clear_iff hca2
  have kb1 := clear_iff hcb1
  have kb2 := clear_iff hcb2
  have kT := clear_iff hcT
  have hsz := hp.fr.size
  obtain ⟨x1, x2, r, c0, c1, c2, hTg, rp1, rp2, ft1, ft2, hw⟩ := two_wr (v := v) (frm := frm) (to := to) (tag := tag) (dflt := dflt) (of := of) hv hkk (c := fun j => w.cell? ⟨cb, co + off + j, none⟩) (x := x) (K := K) (w := w) hr hft
  rw [hw] at hl hl2 ⊢
  have hrange : w.rangeAt cb (co + off) [.int .i32 x1.n, .int (ikOf kk) x2.n, .map r] := fun j u hj => by
    rcases j with _ | _ | _ | j
    · cases hj; exact c0
    · cases hj; exact c1
    · cases hj; exact c2
    · simp at hj
  have hal : (Instr.alloc T1 true (.tuple #[])).run Tryz.prog w = .ok (.pointer (some ⟨w.heap.size, 0, none⟩)) (w.alloc (.cells Z T1)) := by
    obtain ⟨i, hi, hz⟩ := Option.map_eq_some_iff.1 hz
    simp [Instr.alloc, zeroValue, typeInfo, hi, hz, newVar, newRow, Value.cells, Sem.run_bind]
  have hZs := of_decide_eq_true hZ
  have hnew : (w.alloc (.cells Z T1)).heap[w.heap.size]? = some (.cells Z T1 (0, 0)) := Array.getElem?_push_size
  have hth : (w.alloc (.cells Z T1)).there w.heap.size 0 3 := there_row hnew (by omega)
  obtain ⟨cs', hrow', hsz', -⟩ := setCells_row w.heap.size [.int .i32 x1.n, .int (ikOf kk) x2.n, .map r] 0 (w.alloc (.cells Z T1)) Z hnew
  have hrg2 := World.rangeAt_setCells_same (w.alloc (.cells Z T1)) w.heap.size 0 [.int .i32 x1.n, .int (ikOf kk) x2.n, .map r] hth
  have hgb : w.grownBy ((w.alloc (.cells Z T1)).setCells w.heap.size 0 [.int .i32 x1.n, .int (ikOf kk) x2.n, .map r]) none :=
    ⟨(setCells_grown _ _ _ _).os, (setCells_grown _ _ _ _).tape, (setCells_grown _ _ _ _).output, Nat.le_trans (alloc_grown w _).size (setCells_grown _ _ _ _).size, fun k hk _ => (setCells_block _ _ _ _ k (by omega)).trans (alloc_old w _ k hk)⟩
  have bW : Bel base w ((w.alloc (.cells Z T1)).setCells w.heap.size 0 [.int .i32 x1.n, .int (ikOf kk) x2.n, .map r]) := ⟨⟨hgb.os, hgb.tape, hgb.output, hgb.size, fun k hk => hgb.block k (Nat.lt_of_lt_of_le hk hp.le) (by simp)⟩, Keep.of_old fun k hk => hgb.block k hk (by simp)⟩
  refine goto_wp (id := id) (t1 := u1) (t2 := u2) (l := l) (T := T4) (y1 := z1) (y2 := z2) (p1 := r1') (p2 := r2') (e1 := g1) (e2 := g2) (d := s) (cM := cM) (cS := cS) (Inv := fun a' w' => sl a' s = .pointer (some ⟨w.heap.size, 0, none⟩) ∧ w'.heap[w.heap.size]? = some (.cells cs' T1 (0, 0)) ∧ TagRep w' K (fun j => w'.cell? ⟨w.heap.size, 2 + j, none⟩) x.u) (WX := (writes a1 ++ writes a2) ++ ((writes b1 ++ writes b2) ++ writes cT)) hp ?_ ?_ hK hr1 hr2 hM hS ?_ hfl hcK hc1' hc2 hcM hcS ?_ hTt (fun t ht => ?_) (fun t ht => ?_) hl hl2
  · rintro a w1 a' w2 ⟨h1, h2, h3⟩ hs hb
    have h2' := hb.keep T1 hne.1 hne.2 _ _ _ h2
    exact ⟨hs.trans h1, h2', stable_tagRep w1 w2 K K _ _ x.u (fun g hg _ => hb.block g (hp.kb g hg)) hb.size (fun _ h => h) (fun j _ => cell_kept (h2'.trans h2.symm)) h3⟩
  · intro Q hq
    refine wp_region_lit (reg_at hf (by rw [hsz]; exact ⟨n1, n2, n3⟩) hsp fun a0 u0 s0 => wpList_load_mid rfl T1 (.tmp t3) rfl cb (co + off) (by rw [eval_tmp, s0]) _ td hrange hu hrow (by rw [hi]; rfl) (st_val (v := .pointer (some ⟨w.heap.size, 0, none⟩)) (w' := w.alloc (.cells Z T1)) (by unfold execOp; simp only [Sem.run_bind, hal, Result.andThen_ok, Sem.run_pure]) (wpList_store_mid rfl T1 (.tmp s) (.tmp t4) rfl w.heap.size 0 #[.int .i32 x1.n, .int (ikOf kk) x2.n, .map r] ?_ ?_ hth (by rw [hi]; rfl) (by simp [Value.oneCell']) (wpList_nil (hq _ _ ?_ ?_ bW ⟨?_, hrow', ?_⟩)))))
    · rw [eval_tmp, sl_put_self _ _ _ (by rw [put_size, u0.size]; omega)]
    · rw [eval_tmp, sl_put_other _ _ _ _ hd, sl_put_self _ _ _ (by rw [u0.size]; omega)]
    · exact (u0.mono (fun t ht => by simp only [List.mem_cons, List.not_mem_nil, or_false] at ht; rcases ht with h | h | h <;> simp [writes, h])).trans (((Upd.refl a0 _).put t4 _ (by simp [writes])).put s _ (by simp [writes]))
    · have uu : Upd a ((a0.put (some t4) (.agg #[.int .i32 x1.n, .int (ikOf kk) x2.n, .map r])).put (some s) (.pointer (some ⟨w.heap.size, 0, none⟩))) [t1, t2, t3, t4, s] := (u0.mono (fun t ht => by simp only [List.mem_cons, List.not_mem_nil, or_false] at ht ⊢; rcases ht with h | h | h <;> simp [h])).trans (((Upd.refl a0 _).put t4 _ (by simp)).put s _ (by simp))
      have ho : OwnB ((w.alloc (.cells Z T1)).setCells w.heap.size 0 [.int .i32 x1.n, .int (ikOf kk) x2.n, .map r]) base (sl ((a0.put (some t4) (.agg #[.int .i32 x1.n, .int (ikOf kk) x2.n, .map r])).put (some s) (.pointer (some ⟨w.heap.size, 0, none⟩))) E.ds) bs := by rw [uu.same _ (hclx _ (by simp))]; exact hp.own.grown fun k hk => hgb.block k hk (by simp)
      exact hp.next uu (fun t ht => hclx t (by simp [ht])) bW ho
    · exact sl_put_self _ _ _ (by rw [put_size, u0.size]; omega)
    · refine stable_tagRep w _ K K _ _ x.u (fun g hg _ => hgb.block g (Nat.lt_of_lt_of_le (hp.kb g hg) hp.le) (by simp)) hgb.size (fun _ h => h) (fun j hj => ?_) hTg
      obtain rfl : j = 0 := by omega
      exact (hrg2 2 _ rfl).trans c2.symm
  · intro bs a w1 Q hp1 hi1 hl1 hq
    obtain ⟨i1, i2, i3⟩ := hi1
    simp only [List.length_append] at hl1
    have cell1 : ∀ (w2 : World), w2.heap[w.heap.size]? = some (.cells cs' T1 (0, 0)) → w2.cell? ⟨w.heap.size, 0, none⟩ = some (.int .i32 x1.n) ∧ w2.cell? ⟨w.heap.size, 1, none⟩ = some (.int (ikOf kk) x2.n) := fun w2 h => by
      have e := h.trans hrow'.symm
      exact ⟨by rw [cell_kept e]; exact hrg2 0 _ rfl, by rw [cell_kept e]; exact hrg2 1 _ rfl⟩
    refine wp_seq (wp_seq (ha1 a w1 _ w.heap.size 0 _ hp1.fr.size i1 (cell1 w1 i2).1 fun a2 u2 s2 => ?_))
    have hp2 : PreA E v true base K bs a2 w1 := hp1.next u2 (fun t ht => ka1 t (by simp [ht])) (Bel.refl _ _) (by rw [u2.same _ (ka1 _ (by simp))]; exact hp1.own)
    refine wp_mono (ha2 base K bs a2 w1 x1 hp2 ⟨by rw [s2]; exact rp1 _ _, ft1⟩ (by omega)) ?_
    intro e a3 w3 hq3
    cases e with
    | normal =>
      obtain ⟨u3, b3, o3⟩ := hq3
      have hp3 : PreA E v true base K _ a3 w3 := hp2.next u3 (fun t ht => ka2 t (by simp [ht])) b3 o3
      have j3 : sl a3 s = .pointer (some ⟨w.heap.size, 0, none⟩) := (u3.same _ (ka2 _ (by simp))).trans ((u2.same _ (ka1 _ (by simp))).trans i1)
      have h3 := b3.keep T1 hne.1 hne.2 _ _ _ i2
      refine wp_seq (wp_seq (hb1 a3 w3 _ w.heap.size 0 _ hp3.fr.size j3 (cell1 w3 h3).2 fun a4 u4 s4 => ?_))
      have hp4 : PreA E v true base K _ a4 w3 := hp3.next u4 (fun t ht => kb1 t (by simp [ht])) (Bel.refl _ _) (by rw [u4.same _ (kb1 _ (by simp))]; exact hp3.own)
      refine wp_mono (hb2 base K _ a4 w3 x2 hp4 ⟨by rw [s4]; exact rp2 _ _, ft2⟩ (by rw [List.length_append]; omega)) ?_
      intro e a5 w5 hq5
      cases e with
      | normal =>
        obtain ⟨u5, b5, o5⟩ := hq5
        have hp5 : PreA E v true base K _ a5 w5 := hp4.next u5 (fun t ht => kb2 t (by simp [ht])) b5 o5
        have j5 : sl a5 s = .pointer (some ⟨w.heap.size, 0, none⟩) := (u5.same _ (kb2 _ (by simp))).trans ((u4.same _ (kb1 _ (by simp))).trans j3)
        have h5 := b5.keep T1 hne.1 hne.2 _ _ _ h3
        have hT5 : TagRep w5 K (fun j => w5.cell? ⟨w.heap.size, 2 + j, none⟩) x.u := stable_tagRep w1 w5 K K _ _ x.u (fun g hg _ => (b3.trans b5).block g (hp.kb g hg)) (b3.trans b5).size (fun _ h => h) (fun j _ => cell_kept (h5.trans i2.symm)) i3
        refine wp_seq (wp_mono (hT base K _ a5 w5 w.heap.size x.u hp5 j5 (Array.getElem?_eq_some_iff.1 h5).1 (fun w' h => (h.keep T1 hne.1 hne.2 _ _ _ h5).trans h5.symm) hT5 ⟨hft.fu, hft.fx⟩ (by simp only [List.length_append]; omega)) ?_)
        intro e a6 w6 hq6
        cases e with
        | normal =>
          obtain ⟨u6, b6, o6⟩ := hq6
          have h6 := b6.keep T1 hne.1 hne.2 _ _ _ h5
          refine hq a6 w6 ?_ ?_ ((b3.trans b5).trans b6) ⟨(u6.same _ (kT _ (by simp))).trans j5, h6, stable_tagRep w5 w6 K K _ _ x.u (fun g hg _ => b6.block g (hp.kb g hg)) b6.size (fun _ h => h) (fun j _ => cell_kept (h6.trans h5.symm)) hT5⟩
          · exact ((((u2.mono (fun t ht => by simp [ht])).trans (u3.mono (fun t ht => by simp [ht]))).trans (u4.mono (fun t ht => by simp [ht]))).trans (u5.mono (fun t ht => by simp [ht]))).trans (u6.mono (fun t ht => by simp [ht]))
          · have := hp5.next u6 (fun t ht => kT t (by simp [ht])) b6 o6
            simpa only [List.append_assoc] using this
        | _ => exact hq6.elim
      | _ => exact hq5.elim
    | _ => exact hq3.elim
  · refine List.all_eq_true.2 fun t ht => ?_
    simp only [Bool.not_eq_true', List.contains_eq_mem, decide_eq_false_iff_not, List.mem_append, not_or]
    have ht' : t ∈ s :: sz :: la :: E.ds :: E.slots := by simp only [List.mem_cons] at ht ⊢; rcases ht with h | h | h | h <;> simp [h]
    exact ⟨⟨ka1 t ht', ka2 t ht⟩, ⟨kb1 t ht', kb2 t ht⟩, kT t ht⟩
  · simp only [writes, List.mem_append] at ht ⊢
    rcases ht with (h | h) | (h | h) | h
    · exact .inl (.inl h)
    · exact .inl (.inr h)
    · exact .inr (.inl (.inl h))
    · exact .inr (.inl (.inr h))
    · exact .inr (.inr (.inl h))
  · simp only [writes, List.mem_append, List.append_nil]
    refine .inr (.inr (.inr ?_))
    rcases ht with h | h | h
    · exact .inl (by simpa using h)
    · exact .inr (.inl h)
    · exact .inr (.inr h)
end
end Go.Proofs.YtoklbgdafnminaaGreatDoor
