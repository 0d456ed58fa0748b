/-
  Known tags, written: the switch, the loop over the keys, the whole of a part's tags. Conditions: none.
-/
import Derived.Test.YtoklbgdafnminaaGreatDoorKw1
namespace Go.Proofs.YtoklbgdafnminaaGreatDoor
open Go.RowKit (Below)
open Kz

/-! ## The switch -/
section
variable (E : WE) (v : Int) (sp off : Nat)
/-- A field is written as a tag. -/
def FW (f : F) (key : Nat) (c : Code) : Prop := ∀ (base : Nat) (K : Nat → Prop) (bs : List UInt8) (a : Act) (w : World) (cb co : Nat) (x : T), PreA E v true base K bs a w → sl a sp = .pointer (some ⟨cb, co, none⟩) → cb < base →
  repF TagRep v true true f w K (fun j => w.cell? ⟨cb, co + off + j, none⟩) x → Fit x → usual f x = false → bs.length + (tagB (key, wr v true f x)).length ≤ lim2 → (wr v true f x).length < 4294967296 → c.wp Tryz.prog (PostA E (writes c) base (bs ++ tagB (key, wr v true f x)) a w) a w
def CaseW (fs : List F) (key : Nat) (c : Code) : Prop := ∀ (base : Nat) (K : Nat → Prop) (bs : List UInt8) (a : Act) (w : World) (cb co : Nat) (x : T), PreA E v true base K bs a w → sl a sp = .pointer (some ⟨cb, co, none⟩) → cb < base →
  repP TagRep v true true fs w K (fun j => w.cell? ⟨cb, co + off + j, none⟩) x → Fit x → notUsual fs x.l key = true → bs.length + (tagB (key, wrAt v fs x.l key)).length ≤ lim2 → (wrAt v fs x.l key).length < 4294967296 → c.wp Tryz.prog (PostA E (writes c) base (bs ++ tagB (key, wrAt v fs x.l key)) a w) a w
def SwW (fs : List F) (tk : Nat) (nots : List Nat) (c : Code) : Prop := ∀ (base : Nat) (K : Nat → Prop) (bs : List UInt8) (a : Act) (w : World) (cb co : Nat) (x : T) (key : Nat), PreA E v true base K bs a w → sl a sp = .pointer (some ⟨cb, co, none⟩) → cb < base →
  repP TagRep v true true fs w K (fun j => w.cell? ⟨cb, co + off + j, none⟩) x → Fit x → sl a tk = .int .u32 (key : Int) → key ∉ nots → notUsual fs x.l key = true → bs.length + (tagB (key, wrAt v fs x.l key)).length ≤ lim2 → (wrAt v fs x.l key).length < 4294967296 →
  c.wp Tryz.prog (PostA E (writes c) base (bs ++ tagB (key, wrAt v fs x.l key)) a w) a w
end
section
variable {E : WE} {v : Int} {sp off : Nat} {fs : List F} {tk : Nat}
theorem CaseW.of {key i : Nat} {f : F} {c : Code} (hix : tagIx key fs = some i) (hf : fs[i]? = some f) (h : FW E v sp (off + offI fs i) f key c) : CaseW E v sp off fs key c := by
  intro base K bs a w cb co x hp hsp hcb hr hft hnu hl hl2
  have htag := tagIx_some hix hf
  have hpl := (plain_iff fs x.l _).1 hr.1
  have hlt : i < x.l.length := by rw [hpl.1]; exact (List.getElem?_eq_some_iff.1 hf).1
  have hx : x.l[i]? = some x.l[i] := List.getElem?_eq_getElem hlt
  have hw : wrAt v fs x.l key = wr v true f x.l[i] := by simp only [wrAt, hix, hf, hx]
  have hu : usual f x.l[i] = false := by simpa only [notUsual, hix, hf, hx, Bool.not_eq_true'] using hnu
  rw [hw] at hl hl2 ⊢
  have hrf := hpl.2 i f _ hf hx (by
    have : ¬ (f.tag < 0) := by omega
    simp [F.on, this])
  refine h base K bs a w cb co x.l[i] hp hsp hcb ?_ (hft.fa _ (List.getElem_mem hlt)) hu hl hl2
  have e : (fun j => w.cell? ⟨cb, co + off + (offI fs i + j), none⟩) = fun j => w.cell? ⟨cb, co + (off + offI fs i) + j, none⟩ := by funext j; congr 2; omega
  rw [← e]; exact hrf
theorem SwW.case {id t1 t2 key : Nat} {keyI : Int} {TT T' ty1 ty2 : TypeId} {p1 p2 : String} {e1 e2 : Array Edge} {nots : List Nat} {cC cR : Code} (hkey : decide (keyI = (key : Int)) = true) (hn : [t1, t2].all (· < E.N) = true) (hcl : [t1, t2].all (fun t => !(sp :: tk :: E.ds :: E.slots).contains t) = true)
    (hC : CaseW E v sp off fs key cC) (hR : SwW E v sp off fs tk (key :: nots) cR) :
    SwW E v sp off fs tk nots ((Code.region id #[⟨some t1, .binOp .eql TT (.tmp tk) (.const (.int .u32 keyI)) T', ty1, p1, e1, none⟩, ⟨some t2, .assign (.tmp t1), ty2, p2, e2, none⟩] false).seq (Code.cond (.tmp t2) cC cR)) := by
  intro base K bs a w cb co x k hp hsp hcb hr hft htk hnot hnu hl hl2
  obtain rfl := of_decide_eq_true hkey
  simp only [List.all_cons, List.all_nil, Bool.and_true, Bool.and_eq_true, decide_eq_true_eq] at hn
  have hclx : ∀ t ∈ sp :: tk :: E.ds :: E.slots, t ∉ [t1, t2] := by
    intro t ht hx
    have := List.all_eq_true.1 hcl t hx
    simp only [Bool.not_eq_true', List.contains_eq_mem, decide_eq_false_iff_not] at this
    exact this ht
  have hsz := hp.fr.size
  refine wp_seq (wp_region_lit (st_val (v := .bool (decide (k = key))) (w' := w) (exec_bin (u := .int .u32 (k : Int)) (z := .int .u32 (key : Int)) (by rw [eval_tmp, htk]) (eval_const _ _) (eqGuard_at_int ..) ?_) (st_assign (wpList_nil ?_))))
  · rw [binOp_eql]
    have : ((k : Int) == (key : Int)) = decide (k = key) := by
      by_cases h : k = key
      · simp [h]
      · have : ¬ ((k : Int) = (key : Int)) := by omega
        simp [h, this]
    rw [this]
  generalize hA : ((a.put (some t1) _).put (some t2) _) = a1
  have hu : Upd a a1 [t1, t2] := by subst hA; exact ((Upd.refl a _).put t1 _ (by simp)).put t2 _ (by simp)
  have hb : a1.eval (.tmp t2) = .bool (decide (k = key)) := by subst hA; rw [eval_tmp, sl_put_self _ _ _ (by rw [put_size]; omega), eval_tmp, sl_put_self _ _ _ (by omega)]
  have hp1 : PreA E v true base K bs a1 w := hp.next hu (fun t ht => hclx t (by simp [ht])) (Bel.refl _ _) (by rw [hu.same _ (hclx _ (by simp))]; exact hp.own)
  have hsp1 : sl a1 sp = .pointer (some ⟨cb, co, none⟩) := (hu.same sp (hclx sp (by simp))).trans hsp
  by_cases hkk' : k = key
  · subst hkk'
    refine wp_cond_true (by rw [hb]; simp) (wp_mono (hC base K bs a1 w cb co x hp1 hsp1 hcb hr hft hnu hl hl2) ?_)
    exact PostA.after hu (Bel.refl _ _) (fun t ht => by simp only [writes, List.mem_append]; exact .inl (by simpa [writes] using ht)) (fun t ht => by simp only [writes, List.mem_append]; exact .inr (.inl ht))
  · refine wp_cond_false (by rw [hb]; simp [hkk']) (wp_mono (hR base K bs a1 w cb co x k hp1 hsp1 hcb hr hft ((hu.same tk (hclx tk (by simp))).trans htk) (by simp [hkk', hnot]) hnu hl hl2) ?_)
    exact PostA.after hu (Bel.refl _ _) (fun t ht => by simp only [writes, List.mem_append]; exact .inl (by simpa [writes] using ht)) (fun t ht => by simp only [writes, List.mem_append]; exact .inr (.inr ht))
theorem SwW.done {nots : List Nat} (hnots : fs.all (fun f => decide (f.tag < 0) || nots.contains f.tag.toNat) = true) : SwW E v sp off fs tk nots Code.skip := by
  intro base K bs a w cb co x key hp hsp hcb hr hft htk hnot hnu hl hl2
  have hix : tagIx key fs = none := tagIx_none fun f hf e => by
    have := List.all_eq_true.1 hnots f hf
    simp only [Bool.or_eq_true, decide_eq_true_eq, List.contains_eq_mem] at this
    rcases this with h | h
    · omega
    · rw [e] at h; exact hnot (by simpa using h)
  simp only [notUsual, hix] at hnu
  cases hnu

/-! ## The loop over the keys -/
/-- What is written of some keys. -/
abbrev keysB (v : Int) (fs : List F) (ts : List T) (ks : List Nat) : List UInt8 := ks.flatMap fun k => tagB (k, wrAt v fs ts k)
/-- The code that goes over the keys. -/
def KeysW (E : WE) (v : Int) (sp off : Nat) (fs : List F) (te : Nat) (c : Code) : Prop := ∀ (base : Nat) (K : Nat → Prop) (bs : List UInt8) (a : Act) (w : World) (cb co : Nat) (x : T) (base0 : Nat) (ks : List Nat), PreA E v true base K bs a w → sl a sp = .pointer (some ⟨cb, co, none⟩) → cb < base →
  repP TagRep v true true fs w K (fun j => w.cell? ⟨cb, co + off + j, none⟩) x → Fit x → OwnU w base0 (sl a te) ks → ks.length ≤ 1000 → (∀ k ∈ ks, k < 1000 ∧ notUsual fs x.l k = true ∧ (wrAt v fs x.l k).length < 4294967296) → bs.length + (keysB v fs x.l ks).length ≤ lim2 →
  c.wp Tryz.prog (PostA E (writes c) base (bs ++ keysB v fs x.l ks) a w) a w
set_option maxHeartbeats 1000000 in
theorem KeysW.mk {te i0 i1 i2 i3 i4 b1 b2 b3 tA tB tC t1 t2 t3 tg u1 TS T0 T1' T2' T3 T4 T5 : Nat} {y1 y2 y3 y4 y5 y6 y7 y8 y9 y10 : TypeId} {p1 p2 p3 p4 p5 p6 p7 p8 p9 p10 : String} {e1 e2 e3 e4 e5 e6 e7 e8 e9 e10 : Array Edge} {cS : Code}
    (hTS : TS = 133) (hT0 : T0 = 133) (hT3 : T3 = 61) (hS : SwW E v sp off fs tk [] cS) (hn : [tA, tB, tC, t1, t2, t3, tg, tk, u1].all (· < E.N) = true) (hd : decide ([te, tA, tB, tC, t1, t2, t3, tg, tk, u1].Nodup) = true)
    (hcl : [tA, tB, tC, t1, t2, t3, tg, tk, u1].all (fun t => !(sp :: E.ds :: E.slots).contains t) = true) (hcs : clear (tA :: tB :: tC :: sp :: E.slots) cS = true) :
    KeysW E v sp off fs te ((Code.region i0 #[⟨some tA, .move (.tmp te), y1, p1, e1, none⟩, ⟨some tB, .call { callee := .builtin .len, args := #[.tmp tA], argTypes := #[T0] }, y2, p2, e2, none⟩, ⟨some tC, .move (.const (.int .i64 0)), y3, p3, e3, none⟩] false).seq
      (Code.block b1 (Code.loop ((Code.region i1 #[⟨some t1, .binOp .lss T1' (.tmp tC) (.tmp tB) T2', y4, p4, e4, none⟩] false).seq ((Code.cond (.tmp t1) Code.skip (Code.exit b1)).seq
        ((Code.block b2 ((Code.region i2 #[⟨some t2, .indexAddr TS (.tmp tA) (.tmp tC), y5, p5, e5, none⟩, ⟨some t3, .load T3 (.tmp t2), y6, p6, e6, none⟩, ⟨some tg, .assign (.tmp t3), y7, p7, e7, none⟩] false).seq
          ((Code.region i3 #[⟨some tk, .move (.tmp tg), y8, p8, e8, none⟩] false).seq (Code.block b3 cS)))).seq
        (Code.region i4 #[⟨some u1, .binOp .add T4 (.tmp tC) (.const (.int .i64 1)) T5, y9, p9, e9, none⟩, ⟨some tC, .move (.tmp u1), y10, p10, e10, none⟩] false))))))) := by
  intro base K bs a w cb co x base0 ks hp hsp hcb hr hft hU hk1 hks hl
  subst hTS hT0 hT3
  simp only [List.all_cons, List.all_nil, Bool.and_true, Bool.and_eq_true, decide_eq_true_eq] at hn
  obtain ⟨nA, nB, nC, n1, n2, n3, ng, nk, nu⟩ := hn
  have hd' := of_decide_eq_true hd
  simp only [List.nodup_cons, List.mem_cons, List.not_mem_nil, or_false, not_or, List.nodup_nil, and_true, not_false_eq_true] at hd'
  obtain ⟨⟨teA, teB, teC, -, -, -, -, -, -⟩, ⟨AB, AC, A1, A2, A3, Ag, Ak, Au⟩, ⟨BC, B1, B2, B3, Bg, Bk, Bu⟩, ⟨C1, C2, C3, Cg, Ck, Cu⟩, ⟨d12, d13, d1g, d1k, d1u⟩, ⟨d23, d2g, d2k, d2u⟩, ⟨d3g, d3k, d3u⟩, ⟨dgk, dgu⟩, dku⟩ := hd'
  have hclx : ∀ t ∈ sp :: E.ds :: E.slots, t ∉ [tA, tB, tC, t1, t2, t3, tg, tk, u1] := by
    intro t ht hx
    have := List.all_eq_true.1 hcl t hx
    simp only [Bool.not_eq_true', List.contains_eq_mem, decide_eq_false_iff_not] at this
    exact this ht
  have hcs' := clear_iff hcs
  have hsz := hp.fr.size
  obtain ⟨p, n, m, hv⟩ : ∃ p m n, sl a te = .slice p n m := by
    rcases hU.2 with ⟨h, -⟩ | ⟨g, cap, cur, h, -⟩
    · exact ⟨_, _, _, h⟩
    · exact ⟨_, _, _, h⟩
  have hnl : m = ks.length := by
    rcases hU.2 with ⟨h, h0⟩ | ⟨g, cap, cur, h, -⟩
    · rw [hv] at h; cases h; exact h0.symm
    · rw [hv] at h; cases h; rfl
  subst hnl
  generalize hWW : writes ((Code.region i0 #[⟨some tA, .move (.tmp te), y1, p1, e1, none⟩, ⟨some tB, .call { callee := .builtin .len, args := #[.tmp tA], argTypes := #[133] }, y2, p2, e2, none⟩, ⟨some tC, .move (.const (.int .i64 0)), y3, p3, e3, none⟩] false).seq
      (Code.block b1 (Code.loop ((Code.region i1 #[⟨some t1, .binOp .lss T1' (.tmp tC) (.tmp tB) T2', y4, p4, e4, none⟩] false).seq ((Code.cond (.tmp t1) Code.skip (Code.exit b1)).seq
        ((Code.block b2 ((Code.region i2 #[⟨some t2, .indexAddr 133 (.tmp tA) (.tmp tC), y5, p5, e5, none⟩, ⟨some t3, .load 61 (.tmp t2), y6, p6, e6, none⟩, ⟨some tg, .assign (.tmp t3), y7, p7, e7, none⟩] false).seq
          ((Code.region i3 #[⟨some tk, .move (.tmp tg), y8, p8, e8, none⟩] false).seq (Code.block b3 cS)))).seq
        (Code.region i4 #[⟨some u1, .binOp .add T4 (.tmp tC) (.const (.int .i64 1)) T5, y9, p9, e9, none⟩, ⟨some tC, .move (.tmp u1), y10, p10, e10, none⟩] false))))))) = WW
  have hW : ∀ t, t ∈ [tA, tB, tC, t1, t2, t3, tg, tk, u1] ∨ t ∈ writes cS → t ∈ WW := by
    intro t ht
    rw [← hWW]
    simp only [List.mem_cons, List.not_mem_nil, or_false] at ht
    simp only [writes, List.mem_append]
    simp
    rcases ht with (h | h | h | h | h | h | h | h | h) | h <;> simp [h]
  refine wp_seq (wp_region_lit (st_move (st_val (v := .int .i64 (ks.length : Int)) (w' := w) (exec_len_slice (p := p) (c := n) Tryz.underlying133 ?_) (st_move (wpList_nil ?_)))))
  · rw [eval_tmp, sl_put_self _ _ _ (by omega), eval_tmp, hv]
  generalize hA : ((a.put (some tA) _).put (some tB) _).put (some tC) _ = a1
  have u1' : Upd a a1 [tA, tB, tC] := by subst hA; exact (((Upd.refl a _).put tA _ (by simp)).put tB _ (by simp)).put tC _ (by simp)
  have sA : sl a1 tA = .slice p ks.length n := by subst hA; rw [sl_put_other _ _ _ _ (fun e => AC e.symm), sl_put_other _ _ _ _ (fun e => AB e.symm), sl_put_self _ _ _ (by omega), eval_tmp, hv]
  have sB : sl a1 tB = .int .i64 (ks.length : Int) := by subst hA; rw [sl_put_other _ _ _ _ (fun e => BC e.symm), sl_put_self _ _ _ (by rw [put_size]; omega)]
  have sC : sl a1 tC = .int .i64 0 := by subst hA; rw [sl_put_self _ _ _ (by simp only [put_size]; omega), eval_const]
  clear hA
  have hkeep1 : ∀ t ∈ sp :: E.ds :: E.slots, sl a1 t = sl a t := fun t ht => u1'.same t (fun hx => hclx t ht (by simp only [List.mem_cons, List.not_mem_nil, or_false] at hx ⊢; rcases hx with h | h | h <;> simp [h]))
  refine wp_block ?_
  refine wp_loop (I := fun a' w' => ∃ (j : Nat), j ≤ ks.length ∧ Upd a a' WW ∧ sl a' tA = .slice p ks.length n ∧ sl a' tB = .int .i64 (ks.length : Int) ∧ sl a' tC = .int .i64 (j : Int) ∧ (∀ t ∈ sp :: E.slots, sl a' t = sl a t) ∧ Bel base w w' ∧ OwnB w' base (sl a' E.ds) (bs ++ keysB v fs x.l (ks.take j)))
    (μ := fun a' _ => match sl a' tC with | .int _ i => ks.length - i.toNat | _ => 0)
    ⟨0, Nat.zero_le _, u1'.mono (fun t ht => hW t (.inl (by simp only [List.mem_cons, List.not_mem_nil, or_false] at ht ⊢; rcases ht with h | h | h <;> simp [h]))), sA, sB, sC, fun t ht => hkeep1 t (by simp only [List.mem_cons] at ht ⊢; rcases ht with h | h <;> simp [h]), Bel.refl _ _, by rw [hkeep1 _ (by simp)]; simpa using hp.own⟩ ?_
  rintro a2 w2 ⟨j, hj, v2, sA2, sB2, sC2, keep2, hb2, ho2⟩
  have hz2 : a2.tmps.size = E.N := v2.size.trans hsz
  refine wp_seq (wp_region_lit (st_val (v := .bool (decide (j < ks.length))) (w' := w2) (exec_bin (u := .int .i64 (j : Int)) (z := .int .i64 (ks.length : Int)) (by rw [eval_tmp, sC2]) (by rw [eval_tmp, sB2]) (eqGuard_at_int ..) (by rw [binOp_lss]; simp)) (wpList_nil ?_)))
  generalize hA3 : a2.put (some t1) _ = a3
  have u3 : Upd a2 a3 [t1] := by subst hA3; exact (Upd.refl a2 _).put t1 _ (by simp)
  have s3 : a3.eval (.tmp t1) = .bool (decide (j < ks.length)) := by subst hA3; rw [eval_tmp, sl_put_self _ _ _ (by omega)]
  clear hA3
  have keep3 : ∀ t, t ≠ t1 → sl a3 t = sl a2 t := fun t ht => u3.same t (by simpa using ht)
  have hdsn : E.ds ∉ [tA, tB, tC, t1, t2, t3, tg, tk, u1] := hclx _ (by simp)
  have hspn : ∀ t ∈ sp :: E.slots, t ∉ [tA, tB, tC, t1, t2, t3, tg, tk, u1] := fun t ht => hclx t (by simp only [List.mem_cons] at ht ⊢; rcases ht with h | h <;> simp [h])
  have v3 := v2.trans (u3.mono (fun t ht => hW t (.inl (by simp only [List.mem_cons, List.not_mem_nil, or_false] at ht ⊢; simp [ht]))))
  have ds3 : sl a3 E.ds = sl a2 E.ds := keep3 _ (fun e => hdsn (by simp [e]))
  by_cases hlt : j < ks.length
  · refine wp_seq (wp_cond_true (by rw [s3]; simp [hlt]) (wp_skip ?_))
    obtain ⟨k, hk⟩ : ∃ k, ks[j]? = some k := ⟨ks[j], List.getElem?_eq_getElem hlt⟩
    have hkm : k ∈ ks := List.mem_of_getElem? hk
    obtain ⟨hk4, hnu, hlw⟩ := hks k hkm
    rcases hU.2 with ⟨h, h0⟩ | ⟨g, cap, cur, h, hbg, hcur, h1, h2, h3, h4⟩
    · omega
    rw [hv] at h
    cases h
    have hcur2 : w2.heap[g]? = some (.cells cur 61 (0, 0)) := hb2.keep 61 (by decide) (by decide) g cur (0, 0) hcur
    have hcj : cur[j]? = some (keyV k) := by
      have e1 : (cur.toList.take (ks.length * 1))[j]? = (ks.map keyV)[j]? := by rw [h4]
      rw [List.getElem?_take_of_lt (by omega)] at e1
      rw [← Array.getElem?_toList, e1]
      simp [hk]
    have hsplit : keysB v fs x.l (ks.take (j + 1)) = keysB v fs x.l (ks.take j) ++ tagB (k, wrAt v fs x.l k) := by
      rw [List.take_add_one, hk]; simp [keysB]
    have hroom : (bs ++ keysB v fs x.l (ks.take j)).length + (tagB (k, wrAt v fs x.l k)).length ≤ lim2 := by
      have e : ks = ks.take (j + 1) ++ ks.drop (j + 1) := (List.take_append_drop _ _).symm
      have h0 := hl
      rw [e] at h0
      simp only [keysB] at h0 hsplit ⊢
      rw [List.flatMap_append, hsplit] at h0
      simp only [List.length_append] at h0 ⊢
      omega
    have hix : IndexOffK Tryz.prog .i64 133 1 := by
      obtain ⟨i0, hi, hz0, hz1, hz2⟩ := info_parts info32
      exact indexOffK_of .i64 Tryz.underlying133 hi hz1
    have hbody : (Code.block b2 ((Code.region i2 #[⟨some t2, .indexAddr 133 (.tmp tA) (.tmp tC), y5, p5, e5, none⟩, ⟨some t3, .load 61 (.tmp t2), y6, p6, e6, none⟩, ⟨some tg, .assign (.tmp t3), y7, p7, e7, none⟩] false).seq
          ((Code.region i3 #[⟨some tk, .move (.tmp tg), y8, p8, e8, none⟩] false).seq (Code.block b3 cS)))).wp Tryz.prog (PostA E ([t2, t3, tg, tk] ++ writes cS) base ((bs ++ keysB v fs x.l (ks.take j)) ++ tagB (k, wrAt v fs x.l k)) a3 w2) a3 w2 := by
      refine wp_inBlock (wp_seq (wp_region_lit (st_val (v := .pointer (some ⟨g, j, none⟩)) (w' := w2) ?_ (st_load (b := g) (o := j) (v := keyV k) (load1_of Tryz.underlying61 rfl) ?_ ?_ (st_assign (wpList_nil ?_)))))) (fun _ _ h => h)
      · have k1 : a3.eval (.tmp tA) = .slice (some ⟨g, 0, none⟩) ks.length n := by rw [eval_tmp, keep3 _ A1, sA2]
        have k2 : a3.eval (.tmp tC) = .int .i64 (j : Int) := by rw [eval_tmp, keep3 _ C1, sC2]
        have := hix w2 g 0 ks.length n j hlt
        rw [Nat.zero_add, Nat.mul_one] at this
        simp only [execOp, k1, k2, Sem.run_bind, this, Result.andThen_ok, Sem.run_pure]
      · rw [eval_tmp, sl_put_self _ _ _ (by rw [u3.size]; omega)]
      · rw [cell_of_row w2 g j _ _ _ hcur2]; exact hcj
      generalize hA4 : ((a3.put (some t2) _).put (some t3) _).put (some tg) _ = a4
      have u4 : Upd a3 a4 [t2, t3, tg] := by subst hA4; exact (((Upd.refl a3 _).put t2 _ (by simp)).put t3 _ (by simp)).put tg _ (by simp)
      have s4 : sl a4 tg = keyV k := by subst hA4; rw [sl_put_self _ _ _ (by simp only [put_size]; rw [u3.size]; omega), eval_tmp, sl_put_self _ _ _ (by simp only [put_size]; rw [u3.size]; omega)]
      clear hA4
      refine wp_seq (reg_move (by rw [u4.size, u3.size]; omega) fun a5 u5 s5 => ?_)
      have u35 : Upd a3 a5 [t2, t3, tg, tk] := (u4.mono (fun t ht => by simp only [List.mem_cons, List.not_mem_nil, or_false] at ht ⊢; rcases ht with h | h | h <;> simp [h])).trans (u5.mono (fun t ht => by simp only [List.mem_cons, List.not_mem_nil, or_false] at ht ⊢; simp [ht]))
      have keep5 : ∀ t ∈ sp :: E.slots, sl a5 t = sl a t := fun t ht => (u35.same t (fun hx => hspn t ht (by simp only [List.mem_cons, List.not_mem_nil, or_false] at hx ⊢; rcases hx with h | h | h | h <;> simp [h]))).trans ((keep3 t (fun e => hspn t ht (by simp [e]))).trans (keep2 t ht))
      have ds5 : sl a5 E.ds = sl a2 E.ds := (u35.same _ (fun hx => hdsn (by simp only [List.mem_cons, List.not_mem_nil, or_false] at hx ⊢; rcases hx with h | h | h | h <;> simp [h]))).trans ds3
      have hp5 : PreA E v true base K (bs ++ keysB v fs x.l (ks.take j)) a5 w2 := {
        fr := { size := u35.size.trans (u3.size.trans hz2), defers := u35.defers.trans (u3.defers.trans (v2.defers.trans hp.fr.defers)), vs := (keep5 _ (by simp [WE.slots])).trans hp.fr.vs, fs := fun t ht => (keep5 _ (by simp [WE.slots, ht])).trans (hp.fr.fs t ht) }
        le := Nat.le_trans hp.le hb2.size
        kb := hp.kb
        own := by rw [ds5]; exact ho2 }
      have hr5 : repP TagRep v true true fs w2 K (fun j => w2.cell? ⟨cb, co + off + j, none⟩) x := stable_repP (fun _ => rfl) stable_tagRep fs w w2 K K _ _ x (fun g hg _ => hb2.block g (hp.kb g hg)) hb2.size (fun _ h => h) (fun j _ => below_cell hb2 hcb) hr
      refine wp_inBlock (wp_mono (hS base K _ a5 w2 cb co x k hp5 ((keep5 sp (by simp)).trans hsp) hcb hr5 hft (by rw [s5, s4]) (by simp) hnu hroom hlw) ?_) (fun _ _ h => h)
      exact PostA.after u35 (Bel.refl _ _) (fun t ht => List.mem_append_left _ ht) (fun t ht => List.mem_append_right _ ht)
    refine wp_seq (wp_mono hbody ?_)
    intro e a6 w6 hq
    cases e with
    | normal =>
      obtain ⟨u6, hb6, ho6⟩ := hq
      have hn6 : ∀ t, t ∈ [t2, t3, tg, tk] ++ writes cS → t ∈ WW := fun t ht => by
        simp only [List.mem_append] at ht
        rcases ht with h | h
        · exact hW t (.inl (by simp only [List.mem_cons, List.not_mem_nil, or_false] at h ⊢; rcases h with h | h | h | h <;> simp [h]))
        · exact hW t (.inr h)
      have keep6 : ∀ t ∈ tA :: tB :: tC :: sp :: E.slots, sl a6 t = sl a3 t := fun t ht => u6.same t (fun hx => by
        simp only [List.mem_append] at hx
        rcases hx with h | h
        · simp only [List.mem_cons, List.not_mem_nil, or_false] at h
          simp only [List.mem_cons] at ht
          rcases ht with rfl | rfl | rfl | ht
          · rcases h with h | h | h | h
            · exact A2 h
            · exact A3 h
            · exact Ag h
            · exact Ak h
          · rcases h with h | h | h | h
            · exact B2 h
            · exact B3 h
            · exact Bg h
            · exact Bk h
          · rcases h with h | h | h | h
            · exact C2 h
            · exact C3 h
            · exact Cg h
            · exact Ck h
          · exact hspn t (by simpa using ht) (by simp only [List.mem_cons, List.not_mem_nil, or_false]; rcases h with h | h | h | h <;> simp [h])
        · exact hcs' t ht h)
      have s6 : sl a6 tC = .int .i64 (j : Int) := (keep6 tC (by simp)).trans ((keep3 _ C1).trans sC2)
      refine wp_region_lit (st_val (v := .int .i64 ((j + 1 : Nat) : Int)) (w' := w6) (exec_add (k := .i64) (a := (j : Int)) (b := 1) (by rw [eval_tmp, s6]) (eval_const _ _) (by rw [wrap_i64 _ (by omega)]; omega)) (st_move (wpList_nil ?_)))
      generalize hA7 : (a6.put (some u1) _).put (some tC) _ = a7
      have u7 : Upd a6 a7 [u1, tC] := by subst hA7; exact ((Upd.refl a6 _).put u1 _ (by simp)).put tC _ (by simp)
      have s7 : sl a7 tC = .int .i64 ((j + 1 : Nat) : Int) := by subst hA7; rw [sl_put_self _ _ _ (by rw [put_size, u6.size, u3.size]; omega), eval_tmp, sl_put_self _ _ _ (by rw [u6.size, u3.size]; omega)]
      clear hA7
      have keep7 : ∀ t, t ≠ u1 → t ≠ tC → sl a7 t = sl a6 t := fun t h1 h2 => u7.same t (by simp [h1, h2])
      refine ⟨⟨j + 1, hlt, (v3.trans (u6.mono hn6)).trans (u7.mono (fun t ht => hW t (.inl (by simp only [List.mem_cons, List.not_mem_nil, or_false] at ht ⊢; rcases ht with h | h <;> simp [h])))), ?_, ?_, s7, fun t ht => ?_, hb2.trans hb6, ?_⟩, ?_⟩
      · rw [keep7 _ Au AC, keep6 tA (by simp), keep3 _ A1]; exact sA2
      · rw [keep7 _ Bu BC, keep6 tB (by simp), keep3 _ B1]; exact sB2
      · rw [keep7 t (fun e => hspn t ht (by simp [e])) (fun e => hspn t ht (by simp [e])), keep6 t (by simp only [List.mem_cons] at ht ⊢; rcases ht with h | h <;> simp [h]), keep3 t (fun e => hspn t ht (by simp [e]))]
        exact keep2 t ht
      · rw [keep7 _ (fun e => hdsn (by simp [e])) (fun e => hdsn (by simp [e])), hsplit, ← List.append_assoc]
        exact ho6
      · rw [s7, sC2]
        simp only [Int.toNat_natCast]
        omega
    | _ => exact hq.elim
  · refine wp_seq (wp_cond_false (by rw [s3]; simp [hlt]) (wp_exit ?_))
    simp only [Exit.then, Exit.inBlock, if_pos]
    obtain rfl : j = ks.length := by omega
    refine ⟨v3, hb2, ?_⟩
    rw [ds3]
    rw [List.take_length] at ho2
    exact ho2
end
end Go.Proofs.YtoklbgdafnminaaGreatDoor
