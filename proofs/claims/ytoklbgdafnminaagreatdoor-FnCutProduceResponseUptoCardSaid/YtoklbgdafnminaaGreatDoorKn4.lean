/-
  Known tags, read: a tag's own reader, its code, the loop over the tags. Conditions: none.
-/
import Derived.Test.YtoklbgdafnminaaGreatDoorKn3
namespace Go.Proofs.YtoklbgdafnminaaGreatDoor
open Go.RowKit (Below)
open Kz

/-! ## Steps -/
/-- 'b := kbin.Reader{Src: b.Span(int(b.Uvarint()))}'. -/
def STag (E : RE) (rn : Nat) (c : Code) : Prop := ∀ (a : Act) (w : World) (Q : Exit → Act → World → Prop) (S : Nat → Prop) (rb : Nat) (st : St), a.tmps.size = E.N → sl a E.rs = .pointer (some ⟨rb, 0, none⟩) → RdIs w S rb st → (∀ g, S g → g < w.heap.size) →
  (∀ a' w' rb', Upd a a' (writes c) → sl a' rn = .pointer (some ⟨rb', 0, none⟩) → w.heap.size ≤ rb' → RdIs w' S rb (spanOf st).2 → RdIs w' S rb' (some (spanOf st).1) → w.grownBy w' (some rb) → Q .normal a' w') → c.wp Tryz.prog Q a w
theorem stag {E : RE} {id t1 t2 t3 t4 rn f1 f2 c1 c2 ty : Nat} {tys1 tys2 : Array TypeId} {y1 y2 y3 y4 y5 y6 : TypeId} {p1 p2 p3 p4 p5 p6 : String} {e1 e2 e3 e4 e5 e6 : Array Edge}
    (hf1 : f1 = 141) (hf2 : f2 = 143) (hc1 : c1 = 61) (hc2 : c2 = 3) (hty : ty = 168)
    (hn : [t1, t2, t3, t4, rn].all (· < E.N) = true) (hd : decide ([E.rs, t1, t2, t3, t4, rn].Nodup) = true) :
    STag E rn (Code.region id #[⟨some t1, .call { callee := .value (.func f1), args := #[.tmp E.rs], argTypes := tys1 }, y1, p1, e1, none⟩, ⟨some t2, .convert c1 c2 (.tmp t1), y2, p2, e2, none⟩, ⟨some t3, .call { callee := .value (.func f2), args := #[.tmp E.rs, .tmp t2], argTypes := tys2 }, y3, p3, e3, none⟩,
      ⟨some t4, .build ty #[(0, .tmp t3)], y4, p4, e4, none⟩, ⟨some rn, .alloc ty, y5, p5, e5, none⟩, ⟨none, .store ty (.tmp rn) (.tmp t4), y6, p6, e6, none⟩] false) := by
  intro a w Q S rb st hN hrs hr hold hq
  subst hf1 hf2 hc1 hc2 hty
  simp only [List.all_cons, List.all_nil, Bool.and_true, Bool.and_eq_true, decide_eq_true_eq] at hn
  obtain ⟨n1, n2, n3, n4, n5⟩ := hn
  have hd' := of_decide_eq_true hd
  simp only [List.nodup_cons, List.mem_cons, List.not_mem_nil, or_false, not_or, List.nodup_nil, and_true, not_false_eq_true] at hd'
  obtain ⟨⟨r1, r2, r3, r4, r5⟩, ⟨a12, a13, a14, a15⟩, ⟨a23, a24, a25⟩, ⟨a34, a35⟩, a45⟩ := hd'
  obtain ⟨fn1, hfn1, hb1, hnn1⟩ := hasBody_ok (P := Tryz.prog) (f := 141) (by kernel_rfl)
  obtain ⟨fn2, hfn2, hb2, hnn2⟩ := hasBody_ok (P := Tryz.prog) (f := 143) (by kernel_rfl)
  refine wp_region_lit (st_call1 hfn1 hb1 hnn1 ?_)
  rw [eval_tmp, hrs]
  refine Calls.mono (RUvarint_any w S rb st hr) ?_
  rintro e w1 ⟨rfl, hr1, hg1⟩
  have hbd := rdV_bounds st
  refine ⟨_, rfl, st_val (v := .int .i64 ((rdV st).1 : Int)) (w' := w1) (exec_conv (k := .u32) (n := ((rdV st).1 : Int)) Tryz.underlying61 Tryz.underlying3 (by rw [eval_tmp, sl_put_self _ _ _ (by omega)]) (by rw [wrap_i64 _ (by omega)])) (st_call2 hfn2 hb2 hnn2 ?_)⟩
  rw [eval_tmp, sl_put_other _ _ _ _ (fun e => r2 e.symm), sl_put_other _ _ _ _ (fun e => r1 e.symm), hrs, eval_tmp, sl_put_self _ _ _ (by rw [put_size]; omega)]
  refine Calls.mono (Span_any w1 S rb _ _ hr1 (by omega) (by omega)) ?_
  rintro e w2 ⟨v, rfl, hv, hr2, hg2⟩
  obtain ⟨p, c, rfl⟩ := bytes_len hv
  refine ⟨_, rfl, ?_⟩
  generalize hnl : (rdSpan (↑(rdV st).1) (rdV st).2).1.length = nl at hv ⊢
  have hg := grownBy_trans hg1 hg2
  refine st_val (v := .agg #[.slice p nl c, .bool false]) (w' := w2) ?_ (st_val (v := .pointer (some ⟨w2.heap.size, 0, none⟩)) (w' := w2.alloc (.cells #[.slice none 0 0, .bool false] 168)) ?_ ?_)
  · have : (((a.put (some t1) (.int .u32 ((rdV st).1 : Int))).put (some t2) (.int .i64 ((rdV st).1 : Int))).put (some t3) (.slice p nl c)).eval (.tmp t3) = .slice p nl c := by rw [eval_tmp, sl_put_self _ _ _ (by simp only [put_size]; omega)]
    simp only [execOp, List.map_toArray, List.map_cons, List.map_nil, this, Sem.run_bind, build_reader, Result.andThen_ok, Sem.run_pure]
  · simp only [execOp, Sem.run_bind, alloc_reader, Result.andThen_ok, Sem.run_pure]
  · have hnew : (w2.alloc (.cells #[.slice none 0 0, .bool false] 168)).heap[w2.heap.size]? = some (.cells #[.slice none 0 0, .bool false] 168 (0, 0)) := alloc_new _ _
    refine wpList_store_mid rfl 168 _ _ rfl w2.heap.size 0 #[.slice p nl c, .bool false] ?_ ?_ ?_ (by kernel_rfl) (by simp [Value.oneCell']) (wpList_nil ?_)
    · rw [eval_tmp, sl_put_self _ _ _ (by simp only [put_size]; omega)]
    · rw [eval_tmp, sl_put_other _ _ _ _ (fun e => a45 e.symm), sl_put_self _ _ _ (by simp only [put_size]; omega)]
    · intro j hj
      simp at hj
      refine ⟨?_, by simp only [World.frozen?, hnew]; simp⟩
      rw [cell_of_row _ _ _ _ _ _ hnew]
      simp
      omega
    · have hh : ((w2.alloc (.cells #[.slice none 0 0, .bool false] 168)).setCells w2.heap.size 0 (#[Value.slice p nl c, Value.bool false] : Array Value).toList).heap = w2.heap.push (.cells #[.slice p nl c, .bool false] 168 (0, 0)) := by
        apply Array.ext_getElem?
        intro i
        simp only [World.setCells]
        by_cases hi : i = w2.heap.size
        · subst hi
          rw [heap_setCell_row (heap_setCell_row hnew)]
          simp
        · rw [Below.heap_setCell _ _ _ _ hi, Below.heap_setCell _ _ _ _ hi]
          simp only [World.alloc, Array.getElem?_push, if_neg hi]
      have hos : ((w2.alloc (.cells #[.slice none 0 0, .bool false] 168)).setCells w2.heap.size 0 (#[Value.slice p nl c, Value.bool false] : Array Value).toList).os = w2.os ∧ ((w2.alloc (.cells #[.slice none 0 0, .bool false] 168)).setCells w2.heap.size 0 (#[Value.slice p nl c, Value.bool false] : Array Value).toList).tape = w2.tape ∧
        ((w2.alloc (.cells #[.slice none 0 0, .bool false] 168)).setCells w2.heap.size 0 (#[Value.slice p nl c, Value.bool false] : Array Value).toList).output = w2.output := ⟨rfl, rfl, rfl⟩
      generalize (w2.alloc (.cells #[.slice none 0 0, .bool false] 168)).setCells w2.heap.size 0 (#[Value.slice p nl c, Value.bool false] : Array Value).toList = w3 at hh hos ⊢
      have hold3 : ∀ g, g < w2.heap.size → w3.heap[g]? = w2.heap[g]? := fun g hg => by rw [hh, Array.getElem?_push]; simp; omega
      have hsz3 : w3.heap.size = w2.heap.size + 1 := by rw [hh]; simp
      have hg3 : w2.grownBy w3 none := ⟨hos.1, hos.2.1, hos.2.2, by omega, fun g hg _ => hold3 g hg⟩
      have hU : Upd a (((((a.put (some t1) (.int .u32 ((rdV st).1 : Int))).put (some t2) (.int .i64 ((rdV st).1 : Int))).put (some t3) (.slice p nl c)).put (some t4) (.agg #[.slice p nl c, .bool false])).put (some rn) (.pointer (some ⟨w2.heap.size, 0, none⟩))) [t1, t2, t3, t4, rn] :=
        (((((Upd.refl a _).put t1 _ (by simp)).put t2 _ (by simp)).put t3 _ (by simp)).put t4 _ (by simp)).put rn _ (by simp)
      have hS : sl (((((a.put (some t1) (.int .u32 ((rdV st).1 : Int))).put (some t2) (.int .i64 ((rdV st).1 : Int))).put (some t3) (.slice p nl c)).put (some t4) (.agg #[.slice p nl c, .bool false])).put (some rn) (.pointer (some ⟨w2.heap.size, 0, none⟩))) rn = .pointer (some ⟨w2.heap.size, 0, none⟩) := sl_put_self _ _ _ (by simp only [put_size]; omega)
      have hrr : RdIs w3 S w2.heap.size (some (spanOf st).1) := ⟨fun h => by have := hold _ h; have := hg.size; omega, .slice p nl c, by rw [hh]; simp, hv.kept hg3 (fun g _ e => by cases e)⟩
      have hro : RdIs w3 S rb (spanOf st).2 := hr2.kept hg3 (fun g _ e => by cases e) (fun e => by cases e)
      have hgg : w.grownBy w3 (some rb) := ⟨hg3.os.trans hg.os, hg3.tape.trans hg.tape, hg3.output.trans hg.output, Nat.le_trans hg.size hg3.size, fun k hk hkr => (hold3 k (Nat.lt_of_lt_of_le hk hg.size)).trans (hg.block k hk hkr)⟩
      refine hq _ w3 w2.heap.size ?_ ?_ hg.size hro hrr hgg
      · rw [put_none]; exact hU.mono (fun t ht => by simpa [writes] using ht)
      · rw [put_none]; exact hS

/-- 't := err != nil'. -/
def SErr (N x t : Nat) (c : Code) : Prop := ∀ (a : Act) (w : World) (Q : Exit → Act → World → Prop) (st : St), a.tmps.size = N → ErrV st (sl a x) → (∀ a', Upd a a' (writes c) → sl a' t = .bool st.isNone → Q .normal a' w) → c.wp Tryz.prog Q a w
theorem serr {id N x t1 t2 TE TE' : Nat} {ty1 ty2 : TypeId} {p1 p2 : String} {e1 e2 : Array Edge} (hTE : TE = 52) (hn : [t1, t2].all (· < N) = true) :
    SErr N x t2 (Code.region id #[⟨some t1, .move (.tmp x), ty1, p1, e1, none⟩, ⟨some t2, .binOp .neq TE (.tmp t1) (.const .nilIface) TE', ty2, p2, e2, none⟩] false) := by
  intro a w Q st hN hv hq
  subst hTE
  simp only [List.all_cons, List.all_nil, Bool.and_true, Bool.and_eq_true, decide_eq_true_eq] at hn
  cases st with
  | none =>
    obtain ⟨t, y, hx⟩ : ∃ t y, sl a x = .iface t y := by simpa [ErrV] using hv
    refine wp_region_lit (st_move (st_val (v := .bool true) (w' := w) (exec_binR (by rw [eval_tmp, sl_put_self _ _ _ (by omega), eval_tmp, hx]) (eval_const _ _) (eqGuard_at_iface ..) (neq_err _ _ _)) (wpList_nil (hq _ (((Upd.refl a _).put t1 _ (by simp [writes])).put t2 _ (by simp [writes])) ?_))))
    rw [sl_put_self _ _ _ (by rw [put_size]; omega)]; rfl
  | some bs =>
    have hx : sl a x = .nilIface := by simpa [ErrV] using hv
    refine wp_region_lit (st_move (st_val (v := .bool false) (w' := w) (exec_binR (by rw [eval_tmp, sl_put_self _ _ _ (by omega), eval_tmp, hx]) (eval_const _ _) (eqGuard_nil_constR ..) (neq_nil _)) (wpList_nil (hq _ (((Upd.refl a _).put t1 _ (by simp [writes])).put t2 _ (by simp [writes])) ?_))))
    rw [sl_put_self _ _ _ (by rw [put_size]; omega)]; rfl

/-! ## A tag's code -/
/-- A code that reads, with code behind it; what is to hold ahead may hang on what is left. -/
def RdKp {α : Type} (E : RE) (v : Int) (flex : Bool) (sp off n : Nat) (pre : St → Cells → Prop) (g : St → α × St) (R : Rel α) (L c : Code) : Prop :=
  ∀ rb S st cb co cells T a w (Q : Exit → Act → World → Prop), Pre E v flex sp off n (pre st) rb S st cb co cells T a w →
    (∀ a1 w1 cells1, Upd a a1 (writes c) → Fr E rb v flex a1 → sl a1 sp = .pointer (some ⟨cb, co, none⟩) → RdIs w1 S rb (g st).2 → Md w w1 rb cb (co + off) n → w1.heap[cb]? = some (.cells cells1 T (0, 0)) →
      R w1 (fun g => S g ∨ w.heap.size ≤ g) (fun j => cells1[co + off + j]?) (g st).1 → L.wp Tryz.prog Q a1 w1) →
    (∀ a1 w1, (g st).2 = none → a1.tmps.size = E.N → a1.defers = [] → (∃ t x, sl a1 E.res = .iface t x) → Md w w1 rb cb (co + off) n → Q .ret a1 w1) → c.wp Tryz.prog Q a w
theorem RdK.p {α : Type} {E : RE} {v : Int} {flex : Bool} {sp off n : Nat} {ini : Cells → Prop} {g : St → α × St} {R : Rel α} {L c : Code} (h : RdK E v flex sp off n ini g R L c) : RdKp E v flex sp off n (fun _ => ini) g R L c := h
/-- The end of a tag's code. -/
abbrev tagEnd (tN : Nat) (cF cT cM : Code) : Code := cF.seq (cT.seq (Code.cond (.tmp tN) (cM.seq Code.ret) Code.skip))

section
variable {E : RE} {v : Int} {sp off : Nat} {fs : List F} {needs : List Nat}
theorem MapIs.kept {w w' : World} {base n : Nat} {r : Option Nat} {l : List (Nat × Value)} (h : MapIs w base n r l) (hb : ∀ b, r = some b → b < w.heap.size → base ≤ b → w'.heap[b]? = w.heap[b]?) : MapIs w' base n r l := by
  cases r with
  | none => exact h
  | some b => exact ⟨h.1, h.2.1, ownsMap_block h.2.2 (hb b rfl h.2.2.lt h.2.1)⟩
theorem CaseP.mk {key i rn tN er : Nat} {f : F} {pre : St → Cells → Prop} {cR cX cF cT cM : Code} (hix : tagIx key fs = some i) (hf : fs[i]? = some f) (hR : STag E rn cR)
    (hX : RdKp { E with rs := rn } v true sp (off + offI fs i) (cellsF true f) pre (rd v true f) (repF TagRep v true true f) (tagEnd tN cF cT cM) cX) (hF : SFail { E with rs := rn, res := er } cF) (hT : SErr E.N er tN cT) (hM : SCopy E.N er E.res cM)
    (hpre : ∀ (c : Cells) (st : St) (seen : List Nat), (key ∉ seen → iniF true f c) → (key ∈ needs → key ∈ seen → (rdLen true st).2 = none) → pre st c)
    (hcl : clear (sp :: E.slots) cR = true) (hce : clear [er] cT = true) (hw : (writes (tagEnd tN cF cT cM)).all (fun t => (writes cX).contains t) = true) : CaseP E v sp off fs needs key (cR.seq cX) := by
  intro S rb cb co Ty base a w cells ts u st n r seen hfr hsp hti hc hn4 hneed
  have htag := tagIx_some hix hf
  have hfind : findTag key fs (rds v true fs) = some (i, rd v true f) := by rw [findTag_ix, hix]; simp [hf]
  have hfit := offI_fit fs i f hf
  have hff := hti.fit
  have hold : ∀ g, S g → g < w.heap.size := fun g hg => Nat.lt_of_lt_of_le (hc.hS g hg) hti.size
  have hy : tagK fs (rds v true fs) key (ts, u, st) = (ts.set i (rd v true f (some (spanOf st).1)).1, u, if (rd v true f (some (spanOf st).1)).2.isNone then none else (spanOf st).2) := by unfold tagK; rw [hfind]
  rw [hy]
  have hcl' := clear_iff hcl
  have hw' : ∀ t ∈ writes (tagEnd tN cF cT cM), t ∈ writes cX := fun t ht => by
    have := List.all_eq_true.1 hw t ht
    simpa [List.contains_eq_mem] using this
  refine wp_seq (hR a w _ S rb st hfr.size hfr.rs hti.rd hold fun a1 w1 rb' u1 s1 hlt hr1 hr1' hg1 => ?_)
  have hrb' : base ≤ rb' := Nat.le_trans hti.size hlt
  have hcbw : cb < w.heap.size := (Array.getElem?_eq_some_iff.1 hti.row).1
  have hrow1 : w1.heap[cb]? = some (.cells cells Ty (0, 0)) := by rw [hg1.block cb hcbw (fun e => hc.ne (Option.some.inj e))]; exact hti.row
  have hfr1 : Fr { E with rs := rn } rb' v true a1 := {
    size := u1.size.trans hfr.size
    defers := u1.defers.trans hfr.defers
    rs := s1
    vs := (u1.same _ (hcl' _ (by simp [RE.slots]))).trans hfr.vs
    us := (u1.same _ (hcl' _ (by simp [RE.slots]))).trans hfr.us
    fs := fun t ht => (u1.same _ (hcl' _ (by have ht : E.fs = some t := ht; simp [RE.slots, ht]))).trans (hfr.fs t ht) }
  have herr1 : ErrOk w1 := hti.err.kept hg1 (fun e => hc.rbe (Option.some.inj e))
  have hp : Pre { E with rs := rn } v true sp (off + offI fs i) (cellsF true f) (pre (some (spanOf st).1)) rb' S (some (spanOf st).1) cb co cells Ty a1 w1 := {
    fr := hfr1
    ptr := (u1.same _ (hcl' _ (by simp))).trans hsp
    rd := hr1'
    err := herr1
    rbe := fun e => by have := hc.err; rw [← e] at this; omega
    cbe := hc.cbe
    ne := fun e => by have := hc.cbl; omega
    src := hc.src
    old := fun g hg => Nat.lt_of_lt_of_le (hold g hg) hg1.size
    row := hrow1
    fit := by omega
    ini := by
      refine hpre _ _ seen (fun hs => ?_) hneed
      have := hti.ini i f hf (by omega) (by rw [htag]; simpa using hs)
      have e : (fun j => cells[co + off + offI fs i + j]?) = fun j => cells[co + (off + offI fs i) + j]? := by funext j; congr 1; omega
      rw [← e]; exact this }
  have hrbx : ∀ b, r = some b → base ≤ b ∧ b < w.heap.size := fun b e => by
    obtain ⟨l, -, -, hm⟩ := hti.map
    subst e; exact ⟨hm.2.1, hm.2.2.lt⟩
  have hbig : ∀ {w2 : World}, Md w1 w2 rb' cb (co + (off + offI fs i)) (cellsF true f) → MdB base w w2 rb cb (co + off) (cellsFs true fs + 1) := fun {w2} hm => {
    os := hm.os.trans hg1.os
    tape := hm.tape.trans hg1.tape
    output := hm.output.trans hg1.output
    size := Nat.le_trans hg1.size hm.size
    block := fun k hk hr hcb => (hm.block k (Nat.lt_of_lt_of_le (Nat.lt_of_lt_of_le hk hti.size) hg1.size) (fun e => by omega) hcb).trans (hg1.block k (Nat.lt_of_lt_of_le hk hti.size) (fun e => hr (Option.some.inj e)))
    row := fun cs T0 hw => by
      rw [hti.row] at hw
      cases hw
      obtain ⟨c2, e2, s2, q2⟩ := hm.row cells Ty hrow1
      exact ⟨c2, e2, s2, fun j hj => q2 j (by omega)⟩ }
  refine hX rb' S (some (spanOf st).1) cb co cells Ty a1 w1 _ hp (fun a2 w2 cells2 u2 f2 p2 r2 m2 row2 rep2 => ?_) (fun a2 w2 hn2 hs2 hd2 hv2 hm2 => ?_)
  · have hrest : RdIs w2 S rb (spanOf st).2 := hr1.mdx m2 (fun e => by have := hc.rbl; omega) (fun e => hc.ne e.symm) hr1'.1 hc.src
    have herr2 : ErrOk w2 := herr1.md m2 (fun e => by have := hc.err; rw [← e] at this; omega) hc.cbe
    refine wp_seq (hF a2 w2 _ S rb' _ f2.size f2.rs r2 herr2 fun a3 u3 hv3 => ?_)
    refine wp_seq (hT a3 w2 _ _ (u3.size.trans f2.size) hv3 fun a4 u4 ht4 => ?_)
    have hz4 : a4.tmps.size = E.N := u4.size.trans (u3.size.trans f2.size)
    have he4 : sl a4 er = sl a3 er := upd_of u4 hce er (by simp)
    cases hst : (rd v true f (some (spanOf st).1)).2 with
    | none =>
      rw [hst] at ht4 hv3
      refine wp_cond_true (by rw [eval_tmp, ht4]; rfl) (wp_seq (hM a4 w2 _ hz4 fun a5 u5 s5 => wp_ret ?_))
      refine ⟨by simp, u5.size.trans hz4, u5.defers.trans (u4.defers.trans (u3.defers.trans f2.defers)), ?_, hbig m2⟩
      rw [s5, he4]
      simpa [ErrV] using hv3
    | some bs =>
      rw [hst] at ht4
      refine wp_cond_false (by rw [eval_tmp, ht4]; rfl) (wp_skip ?_)
      obtain ⟨cells2', row2', sz2, same2⟩ := m2.row cells Ty hrow1
      rw [row2] at row2'
      cases row2'
      have hb2 : ∀ g, g < w.heap.size → g ≠ rb → g ≠ cb → w2.heap[g]? = w.heap[g]? := fun g hg hgr hgc => (m2.block g (Nat.lt_of_lt_of_le hg hg1.size) (fun e => by omega) hgc).trans (hg1.block g hg (fun e => hgr (Option.some.inj e)))
      have hmb : ∀ g, S g ∨ base ≤ g → g ≠ rb ∧ g ≠ cb := fun g hg => by
        refine ⟨fun e => ?_, fun e => ?_⟩
        · subst e; rcases hg with h | h
          · exact hti.rd.1 h
          · have := hc.rbl; omega
        · subst e; rcases hg with h | h
          · exact hc.src h
          · have := hc.cbl; omega
      refine ⟨?_, hbig m2, by simp, cells2, n, r, by omega, { rd := by simpa using hrest, err := herr2, row := row2, fit := by rw [sz2]; exact hti.fit, tag := ?_, map := ?_, keys := hti.keys, reps := ?_, ini := fun j g hg h0 hs => ?_, size := Nat.le_trans hti.size (Nat.le_trans hg1.size m2.size) }⟩
      · refine (u1.mono ?_).trans (((u2.mono ?_).trans (u3.mono ?_)).trans (u4.mono ?_))
        · intro t ht; exact mem_writes_seq.2 (.inl ht)
        · intro t ht; exact mem_writes_seq.2 (.inr ht)
        · intro t ht; exact mem_writes_seq.2 (.inr (hw' t (mem_writes_seq.2 (.inl ht))))
        · intro t ht; exact mem_writes_seq.2 (.inr (hw' t (mem_writes_seq.2 (.inr (mem_writes_seq.2 (.inl ht))))))
      · rw [same2 _ (.inr (by omega))]; exact hti.tag
      · obtain ⟨l, hl, hta, hm⟩ := hti.map
        exact ⟨l, hl, tagsAt_kept (fun g hg hgl => hb2 g hgl (hmb g (.inl hg)).1 (hmb g (.inl hg)).2) (Nat.le_trans hg1.size m2.size) (fun _ h => h) l u hta, hm.kept fun b _ hb hbb => hb2 b hb (hmb b (.inr hbb)).1 (hmb b (.inr hbb)).2⟩
      · have hold1 := (plain_iff fs ts _).1 hti.reps
        refine (plain_iff fs _ _).2 ⟨by rw [List.length_set]; exact hold1.1, fun j g x hg hx ho => ?_⟩
        by_cases hji : j = i
        · subst hji
          rw [hf] at hg
          cases hg
          have hlt : j < ts.length := by rw [hold1.1]; exact (List.getElem?_eq_some_iff.1 hf).1
          rw [List.getElem?_set_self hlt] at hx
          cases hx
          refine stable_repF (fun _ => rfl) stable_tagRep f w2 w2 _ _ _ _ _ (fun _ _ _ => rfl) (Nat.le_refl _) (fun g hg => ?_) (fun j' _ => ?_) rep2
          · rcases hg with hg | hg
            · exact ⟨.inl hg, fun e => by have := hrbx g e; have := hc.hS g hg; omega⟩
            · refine ⟨.inr (by have := hti.size; have := hg1.size; omega), fun e => ?_⟩
              have := hrbx g e; have := hg1.size; omega
          · show cells2[co + off + (offI fs j + j')]? = cells2[co + (off + offI fs j) + j']?
            congr 1; omega
        · rw [List.getElem?_set_ne (fun e => hji e.symm)] at hx
          have h1 := hold1.2 j g x hg hx ho
          have hgf := offI_fit fs j g hg
          have hap : offI fs j + cellsF true g ≤ offI fs i ∨ offI fs i + cellsF true f ≤ offI fs j := by
            rcases Nat.lt_or_gt_of_ne hji with h | h
            · exact .inl (offI_apart fs j i g f hg hf h)
            · exact .inr (offI_apart fs i j f g hf hg h)
          have hB := bnd_repF (v := v) (flex := true) (ht := true) bnd_tagRep g w _ _ _ h1
          refine stable_repF (fun _ => rfl) stable_tagRep g w w2 _ _ _ _ x (fun g' hg' hgl => hb2 g' hgl (hmb g' hg'.1.1).1 (hmb g' hg'.1.1).2) (Nat.le_trans hg1.size m2.size) (fun g' hg' => hg'.1) (fun j' hj' => ?_) hB
          show cells2[co + off + (offI fs j + j')]? = cells[co + off + (offI fs j + j')]?
          refine same2 _ ?_
          omega
      · have hji : j ≠ i := fun e => by
          subst e
          rw [hf] at hg
          cases hg
          exact hs (by rw [htag]; simp)
        have hgf := offI_fit fs j g hg
        have hap : offI fs j + cellsF true g ≤ offI fs i ∨ offI fs i + cellsF true f ≤ offI fs j := by
          rcases Nat.lt_or_gt_of_ne hji with h | h
          · exact .inl (offI_apart fs j i g f hg hf h)
          · exact .inr (offI_apart fs i j f g hf hg h)
        refine ini_locF true g _ _ (fun j' hj' => same2 _ ?_) (hti.ini j g hg h0 (fun h => hs (List.mem_cons_of_mem _ h)))
        omega
  · exact ⟨by simp only [hn2]; simp, hs2, hd2, hv2, hbig hm2⟩
end
end Go.Proofs.YtoklbgdafnminaaGreatDoor
