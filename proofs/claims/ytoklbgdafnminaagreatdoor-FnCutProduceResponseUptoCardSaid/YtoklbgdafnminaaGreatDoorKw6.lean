/-
  Known tags, written: a key and a size ahead of a value; octets that are measured afterwards. Conditions: none.
-/
import Derived.Test.YtoklbgdafnminaaGreatDoorKw5
import Derived.ScopeJumps
import Derived.StillTail
namespace Go.Proofs.YtoklbgdafnminaaGreatDoor
open Go.RowKit (Below)
open Kz

section
variable {E : WE} {v : Int} {sp off : Nat}
/-- A code that writes octets that are known. -/
def Ac (E : WE) (v : Int) (flex : Bool) (out : List UInt8) (c : Code) : Prop := ∀ (base : Nat) (K : Nat → Prop) (bs : List UInt8) (a : Act) (w : World), PreA E v flex base K bs a w → bs.length + out.length ≤ lim2 → c.wp Tryz.prog (PostA E (writes c) base (bs ++ out) a w) a w
theorem acU {flex : Bool} {id f t1 t2 n : Nat} {nI : Int} {tys : Array TypeId} {y1 y2 y3 : TypeId} {p1 p2 p3 : String} {e1 e2 e3 : Array Edge} (hf : f = 75) (hI : decide (nI = (n : Int) ∧ n < 4294967296) = true) (hn : [t1, t2, E.ds].all (· < E.N) = true) :
    Ac E v flex (uv n) (Code.region id #[⟨some t1, .move (.tmp E.ds), y1, p1, e1, none⟩, ⟨some t2, .call { callee := .value (.func f), args := #[.tmp t1, .const (.int .u32 nI)], argTypes := tys }, y2, p2, e2, none⟩, ⟨some E.ds, .assign (.tmp t2), y3, p3, e3, none⟩] false) := by
  intro base K bs a w hp hl
  subst hf
  obtain ⟨rfl, hlt⟩ := of_decide_eq_true hI
  simp only [List.all_cons, List.all_nil, Bool.and_true, Bool.and_eq_true, decide_eq_true_eq] at hn
  have hsz := hp.fr.size
  obtain ⟨fn, hfn, hb, hnn⟩ := hasBody_ok (P := Tryz.prog) (f := 75) (by kernel_rfl)
  refine wp_region_lit (st_move (st_call2 hfn hb hnn ?_))
  rw [eval_tmp, sl_put_self _ _ _ (by omega), eval_const, eval_tmp]
  refine Calls.mono (AppendUvarint_any w base _ bs n hp.own hp.le hlt (by simp only [lim, lim2] at hl ⊢; omega)) ?_
  rintro e w1 ⟨d1, rfl, ho1, hb1⟩
  refine ⟨d1, rfl, st_assign (wpList_nil ⟨?_, hb1, ?_⟩)⟩
  · exact (((Upd.refl a _).put t1 _ (by simp [writes])).put t2 _ (by simp [writes])).put E.ds _ (by simp [writes])
  · rw [sl_put_self _ _ _ (by simp only [put_size]; omega), eval_tmp, sl_put_self _ _ _ (by simp only [put_size]; omega)]
    exact ho1
/-- A value of a size that is known. -/
theorem FW.fixedN {f : F} {d key n : Nat} {c1 cK cN cV : Code} (h1 : SLoad E.N sp off d c1) (hK : Ac E v true (uv key) cK) (hN : Ac E v true (uv n) cN) (hV : FA TagRep E v true true f d cV) (h1f : oneF f = true) (hlen : ∀ x, (wr v true f x).length = n)
    (hcl : clear (E.ds :: E.slots) c1 = true) (hck : clear (d :: E.slots) cK = true) (hcn : clear (d :: E.slots) cN = true) : FW E v sp off f key (c1.seq (cK.seq (cN.seq cV))) := by
  intro base K bs a w cb co x hp hsp hcb hr hft hu hl hl2
  obtain ⟨u, hu0, hru⟩ := rep_one h1f hr
  have hcl' := clear_iff hcl
  have hck' := clear_iff hck
  have hcn' := clear_iff hcn
  have htb : tagB (key, wr v true f x) = uv key ++ (uv n ++ wr v true f x) := by simp only [tagB, hlen, List.append_assoc]
  rw [htb] at hl ⊢
  simp only [List.length_append] at hl
  refine wp_seq (h1 a w _ cb co u hp.fr.size hsp (by simpa using hu0) fun a1 u1 s1 => ?_)
  have hp1 : PreA E v true base K bs a1 w := hp.next u1 (fun t ht => hcl' t (by simp [ht])) (Bel.refl _ _) (by rw [u1.same _ (hcl' _ (by simp))]; exact hp.own)
  refine wp_seq (wp_mono (hK base K bs a1 w hp1 (by omega)) ?_)
  intro e a2 w2 hq2
  cases e with
  | normal =>
    obtain ⟨u2, b2, o2⟩ := hq2
    have hp2 : PreA E v true base K _ a2 w2 := hp1.next u2 (fun t ht => hck' t (by simp [ht])) b2 o2
    refine wp_seq (wp_mono (hN base K _ a2 w2 hp2 (by rw [List.length_append]; omega)) ?_)
    intro e a3 w3 hq3
    cases e with
    | normal =>
      obtain ⟨u3, b3, o3⟩ := hq3
      have hp3 : PreA E v true base K _ a3 w3 := hp2.next u3 (fun t ht => hcn' t (by simp [ht])) b3 o3
      have s3 : sl a3 d = u := (u3.same _ (hcn' _ (by simp))).trans ((u2.same _ (hck' _ (by simp))).trans s1)
      have b23 := b2.trans b3
      have hr3 : repF TagRep v true true f w3 K (fun _ => some u) x := stable_repF (fun _ => rfl) stable_tagRep f w w3 K K _ _ x (fun g hg _ => b23.block g (hp.kb g hg)) b23.size (fun _ h => h) (fun _ _ => rfl) hru
      refine wp_mono (hV base K _ a3 w3 x hp3 ⟨by rw [s3]; exact hr3, hft⟩ (by simp only [List.length_append]; omega)) ?_
      intro e a4 w4 hq4
      cases e with
      | normal =>
        obtain ⟨u4, b4, o4⟩ := hq4
        refine ⟨(((u1.mono (fun t ht => by simp only [writes, List.mem_append]; exact .inl ht)).trans (u2.mono (fun t ht => by simp only [writes, List.mem_append]; exact .inr (.inl ht)))).trans (u3.mono (fun t ht => by simp only [writes, List.mem_append]; exact .inr (.inr (.inl ht))))).trans (u4.mono (fun t ht => by simp only [writes, List.mem_append]; exact .inr (.inr (.inr ht)))), b23.trans b4, ?_⟩
        rw [← List.append_assoc, ← List.append_assoc]
        exact o4
      | _ => exact hq4.elim
    | _ => exact hq3.elim
  | _ => exact hq2.elim

/-! ## What has been written is measured -/
theorem still_val {P : Program} {ops : Array Oper} {w : World} {Q : Act → Prop} {rest : List Oper} {a : Act} {d : Nat} {op : Op} {ty : TypeId} {pos : String} {aft : Array Edge} {u : Value} (hr : (execOp a.eval ⟨some d, op, ty, pos, aft, none⟩).run P w = .ok (.value u) w) (h : wpStill P ops w Q rest (a.put (some d) u)) :
    wpStill P ops w Q (⟨some d, op, ty, pos, aft, none⟩ :: rest) a :=
  wpStill_step fun K hK => by
    rw [if_pos (by simp [Region.wanted])]
    unfold Oper.still
    rw [hr, Oper.stillUpon_value]
    exact hK _ h
theorem run_cutTo (w : World) (g n c h : Nat) (hh : h ≤ n) (hc : n ≤ c) : (Instr.sliceAt 22 (.slice (some ⟨g, 0, none⟩) n c) none (some (.int .i64 (h : Int))) none).run Tryz.prog w = .ok (.slice (some ⟨g, 0, none⟩) h c) w := by
  obtain ⟨i, hi, -⟩ : ∃ i, Tryz.prog.info? 5 = some i ∧ i.size = 1 := by
    have : (Tryz.prog.info? 5).map (·.size) = some 1 := by kernel_rfl
    exact Option.map_eq_some_iff.1 this
  have e1 : (0 : Int) ≤ h ∧ (h : Int) ≤ c := by omega
  simp [Instr.sliceAt, run_underlying Tryz.underlying22, Instr.slice, Instr.sliceBounds, go_sem, sizeOf, typeInfo, hi]
  omega
theorem run_cutFrom (w : World) (g n c l : Nat) (hh : l ≤ n) (_hc : n ≤ c) : ∃ p, (Instr.sliceAt 22 (.slice (some ⟨g, 0, none⟩) n c) (some (.int .i64 (l : Int))) none none).run Tryz.prog w = .ok (.slice p (n - l) (c - l)) w := by
  obtain ⟨i, hi, hz⟩ : ∃ i, Tryz.prog.info? 5 = some i ∧ i.size = 1 := by
    have : (Tryz.prog.info? 5).map (·.size) = some 1 := by kernel_rfl
    exact Option.map_eq_some_iff.1 this
  refine ⟨if c = l then some ⟨g, 0, none⟩ else some ⟨g, l, none⟩, ?_⟩
  simp [Instr.sliceAt, run_underlying Tryz.underlying22, Instr.slice, Instr.sliceBounds, go_sem, sizeOf, typeInfo, hi, Addr.add_mid, hz]
  omega

/-- The count of what stands behind a place is put there, in its stead. -/
def SMeas (E : WE) (v : Int) (la : Nat) (c : Code) : Prop := ∀ (base : Nat) (K : Nat → Prop) (b0 out : List UInt8) (a : Act) (w : World), PreA E v true base K (b0 ++ out) a w → b0 ≠ [] → sl a la = .int .i64 (b0.length : Int) → b0.length + out.length + 100 ≤ lim → out.length < 4294967296 →
  c.wp Tryz.prog (PostA E (writes c) base (b0 ++ uv out.length) a w) a w
set_option maxRecDepth 8000 in
theorem smeas {la id f TS TS' TS2 c1 c2 t1 t2 t3 t4 t5 t6 t7 t8 t9 : Nat} {tys : Array TypeId} {y1 y2 y3 y4 y5 y6 y7 y8 y9 y10 : TypeId} {p1 p2 p3 p4 p5 p6 p7 p8 p9 p10 : String} {e1 e2 e3 e4 e5 e6 e7 e8 e9 e10 : Array Edge}
    (hf : f = 75) (hTS : TS = 22) (hTS' : TS' = 22) (hTS2 : TS2 = 22) (hc1 : c1 = 3) (hc2 : c2 = 61)
    (hn : [t1, t2, t3, t4, t5, t6, t7, t8, t9, E.ds].all (· < E.N) = true) (hd : decide ([E.ds, la, t1, t2, t3, t4, t5, t6, t7, t8, t9].Nodup) = true)
    (hB : Region.lexTailB .any #[⟨some t1, .move (.tmp E.ds), y1, p1, e1, none⟩, ⟨some t2, .move (.tmp la), y2, p2, e2, none⟩, ⟨some t3, .slice TS (.tmp t1) none (some (.tmp t2)) none, y3, p3, e3, none⟩, ⟨some t4, .move (.tmp E.ds), y4, p4, e4, none⟩, ⟨some t5, .move (.tmp la), y5, p5, e5, none⟩,
      ⟨some t6, .slice TS' (.tmp t4) (some (.tmp t5)) none none, y6, p6, e6, none⟩, ⟨some t7, .call { callee := .builtin .len, args := #[.tmp t6], argTypes := #[TS2] }, y7, p7, e7, none⟩, ⟨some t8, .convert c1 c2 (.tmp t7), y8, p8, e8, none⟩, ⟨some t9, .call { callee := .value (.func f), args := #[.tmp t3, .tmp t8], argTypes := tys }, y9, p9, e9, none⟩, ⟨some E.ds, .assign (.tmp t9), y10, p10, e10, none⟩] 8 = true) :
    SMeas E v la (Code.region id #[⟨some t1, .move (.tmp E.ds), y1, p1, e1, none⟩, ⟨some t2, .move (.tmp la), y2, p2, e2, none⟩, ⟨some t3, .slice TS (.tmp t1) none (some (.tmp t2)) none, y3, p3, e3, none⟩, ⟨some t4, .move (.tmp E.ds), y4, p4, e4, none⟩, ⟨some t5, .move (.tmp la), y5, p5, e5, none⟩,
      ⟨some t6, .slice TS' (.tmp t4) (some (.tmp t5)) none none, y6, p6, e6, none⟩, ⟨some t7, .call { callee := .builtin .len, args := #[.tmp t6], argTypes := #[TS2] }, y7, p7, e7, none⟩, ⟨some t8, .convert c1 c2 (.tmp t7), y8, p8, e8, none⟩, ⟨some t9, .call { callee := .value (.func f), args := #[.tmp t3, .tmp t8], argTypes := tys }, y9, p9, e9, none⟩, ⟨some E.ds, .assign (.tmp t9), y10, p10, e10, none⟩] true) := by
  intro base K b0 out a w hp hne hla hl hl2
  subst hf hTS hTS' hTS2 hc1 hc2
  simp only [List.all_cons, List.all_nil, Bool.and_true, Bool.and_eq_true, decide_eq_true_eq] at hn
  obtain ⟨n1, n2, n3, n4, n5, n6, n7, n8, n9, nd⟩ := hn
  have hd' := of_decide_eq_true hd
  simp only [List.nodup_cons, List.mem_cons, List.not_mem_nil, or_false, not_or, List.nodup_nil, and_true, not_false_eq_true] at hd'
  obtain ⟨⟨-, ds1, ds2, ds3, ds4, ds5, ds6, ds7, ds8, ds9⟩, ⟨la1, la2, la3, la4, la5, la6, la7, la8, la9⟩, ⟨a12, -⟩, ⟨a23, -⟩, ⟨a34, a35, a36, a37, a38, a39⟩, ⟨a45, -⟩, ⟨a56, -⟩, ⟨a67, -⟩, ⟨a78, -⟩, a89⟩ := hd'
  have hsz := hp.fr.size
  have hbl : 0 < b0.length := List.length_pos_iff.2 hne
  obtain ⟨fn, hfn, hb, hnn⟩ := hasBody_ok (P := Tryz.prog) (f := 75) (by kernel_rfl)
  rcases hp.own.2 with ⟨-, h0⟩ | ⟨g, cap, cur, hv, hbg, hcur, h1, h2, h3, h4⟩
  · rw [List.length_append] at h0; omega
  have hv' : sl a E.ds = .slice (some ⟨g, 0, none⟩) (b0.length + out.length) cap := by rw [hv, List.length_append]
  rw [List.length_append] at h1 h4
  have hown : OwnB w base (.slice (some ⟨g, 0, none⟩) b0.length cap) b0 := by
    refine ⟨by simp, .inr ⟨g, cap, cur, rfl, hbg, hcur, by omega, h2, h3, ?_⟩⟩
    have := congrArg (List.take (b0.length * 1)) h4
    rw [List.take_take, List.map_append, List.take_append_of_le_length (by simp)] at this
    rw [show min (b0.length * 1) ((b0.length + out.length) * 1) = b0.length * 1 by omega] at this
    rw [this, List.take_of_length_le (by simp)]
  obtain ⟨pf, hcf⟩ := run_cutFrom (World.drawn1 w) g (b0.length + out.length) cap b0.length (by omega) h1
  have hct := run_cutTo (World.drawn1 w) g (b0.length + out.length) cap b0.length (by omega) h1
  rw [Nat.add_sub_cancel_left] at hcf
  refine wp_region_still_tail 8 (by kernel_rfl) hB ?_
  refine still_val (u := sl a E.ds) (by unfold execOp; simp only [Sem.run_pure, eval_tmp]) ?_
  refine still_val (u := sl a la) (by unfold execOp; simp only [Sem.run_pure, eval_tmp]; rw [sl_put_other _ _ _ _ (fun e => la1 e.symm)]) ?_
  refine still_val (u := .slice (some ⟨g, 0, none⟩) b0.length cap) ?_ ?_
  · have k1 : (((a.put (some t1) (sl a E.ds)).put (some t2) (sl a la)).eval (.tmp t1)) = .slice (some ⟨g, 0, none⟩) (b0.length + out.length) cap := by rw [eval_tmp, sl_put_other _ _ _ _ (fun e => a12 e.symm), sl_put_self _ _ _ (by omega), hv']
    have k2 : (((a.put (some t1) (sl a E.ds)).put (some t2) (sl a la)).eval (.tmp t2)) = .int .i64 (b0.length : Int) := by rw [eval_tmp, sl_put_self _ _ _ (by rw [put_size]; omega), hla]
    unfold execOp
    simp only [k1, k2, Option.map_none, Option.map_some, Sem.run_bind, hct, Result.andThen_ok, Sem.run_pure]
  generalize hA : ((a.put (some t1) _).put (some t2) _).put (some t3) _ = a3
  have u3 : Upd a a3 [t1, t2, t3] := by subst hA; exact (((Upd.refl a _).put t1 _ (by simp)).put t2 _ (by simp)).put t3 _ (by simp)
  have s3 : sl a3 t3 = .slice (some ⟨g, 0, none⟩) b0.length cap := by subst hA; exact sl_put_self _ _ _ (by simp only [put_size]; omega)
  clear hA
  have hz3 := u3.size.trans hsz
  have sd3 : sl a3 E.ds = sl a E.ds := u3.same _ (by simp only [List.mem_cons, List.not_mem_nil, or_false, not_or]; exact ⟨ds1, ds2, ds3⟩)
  have sl3 : sl a3 la = sl a la := u3.same _ (by simp only [List.mem_cons, List.not_mem_nil, or_false, not_or]; exact ⟨la1, la2, la3⟩)
  refine still_val (u := sl a3 E.ds) (by unfold execOp; simp only [Sem.run_pure, eval_tmp]) ?_
  refine still_val (u := sl a3 la) (by unfold execOp; simp only [Sem.run_pure, eval_tmp]; rw [sl_put_other _ _ _ _ (fun e => la4 e.symm)]) ?_
  refine still_val (u := .slice pf out.length (cap - b0.length)) ?_ ?_
  · have k1 : (((a3.put (some t4) (sl a3 E.ds)).put (some t5) (sl a3 la)).eval (.tmp t4)) = .slice (some ⟨g, 0, none⟩) (b0.length + out.length) cap := by rw [eval_tmp, sl_put_other _ _ _ _ (fun e => a45 e.symm), sl_put_self _ _ _ (by omega), sd3, hv']
    have k2 : (((a3.put (some t4) (sl a3 E.ds)).put (some t5) (sl a3 la)).eval (.tmp t5)) = .int .i64 (b0.length : Int) := by rw [eval_tmp, sl_put_self _ _ _ (by rw [put_size]; omega), sl3, hla]
    unfold execOp
    simp only [k1, k2, Option.map_none, Option.map_some, Sem.run_bind, hcf, Result.andThen_ok, Sem.run_pure]
  refine still_val (u := .int .i64 (out.length : Int)) (exec_len_slice (p := pf) (c := cap - b0.length) Tryz.underlying22 (by rw [eval_tmp, sl_put_self _ _ _ (by simp only [put_size]; omega)])) ?_
  refine still_val (u := .int .u32 (out.length : Int)) (exec_conv (k := .i64) Tryz.underlying3 Tryz.underlying61 (by rw [eval_tmp, sl_put_self _ _ _ (by simp only [put_size]; omega)]) (by rw [IntKind.wrap_u32]; omega)) ?_
  generalize hA : ((((a3.put (some t4) _).put (some t5) _).put (some t6) _).put (some t7) _).put (some t8) _ = a8
  have u8 : Upd a3 a8 [t4, t5, t6, t7, t8] := by subst hA; exact (((((Upd.refl a3 _).put t4 _ (by simp)).put t5 _ (by simp)).put t6 _ (by simp)).put t7 _ (by simp)).put t8 _ (by simp)
  have s8 : sl a8 t8 = .int .u32 (out.length : Int) := by subst hA; exact sl_put_self _ _ _ (by simp only [put_size]; omega)
  clear hA
  have s83 : sl a8 t3 = .slice (some ⟨g, 0, none⟩) b0.length cap := (u8.same _ (by simp only [List.mem_cons, List.not_mem_nil, or_false, not_or]; exact ⟨a34, a35, a36, a37, a38⟩)).trans s3
  have hz8 := u8.size.trans hz3
  refine wpStill_nil (st_call2 hfn hb hnn ?_)
  rw [eval_tmp, s83, eval_tmp, s8]
  refine Calls.mono (AppendUvarint_any (World.drawn1 w) base _ b0 out.length hown hp.le hl2 (by omega)) ?_
  rintro e w1 ⟨d1, rfl, ho1, hb1⟩
  refine ⟨d1, rfl, st_assign (wpList_nil ⟨?_, ⟨⟨hb1.os, hb1.tape, hb1.output, hb1.size, hb1.block⟩, hb1.keep⟩, ?_⟩)⟩
  · refine ((u3.mono (fun t ht => ?_)).trans (u8.mono (fun t ht => ?_))).trans (((Upd.refl a8 _).put t9 _ (by simp [writes])).put E.ds _ (by simp [writes]))
    · simp only [List.mem_cons, List.not_mem_nil, or_false] at ht
      rcases ht with h | h | h <;> simp [writes, h]
    · simp only [List.mem_cons, List.not_mem_nil, or_false] at ht
      rcases ht with h | h | h | h | h <;> simp [writes, h]
  · rw [sl_put_self _ _ _ (by simp only [put_size]; omega), eval_tmp, sl_put_self _ _ _ (by omega)]
    exact ho1
end
end Go.Proofs.YtoklbgdafnminaaGreatDoor
