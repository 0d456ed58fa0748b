/-
  Octets that may be null, the last thing of what is kept within, read. Conditions: none.
-/
import Derived.Test.YtodmlklfjinonaaDoorKl
import Derived.Test.YtodmlklfjinonaaDoorY8
namespace Go.Proofs.YtodmlklfjinonaaDoor
open Go.RowKit (Below)
open Kz

/-- The reader's slice is not nil. -/
def NN (w : World) (rb : Nat) : Prop := ∃ ad n c, w.heap[rb]? = some (.cells #[.slice (some ad) n c, .bool false] 98 (0, 0))
theorem Int32_nn (w : World) (S : Nat → Prop) (rb : Nat) (st : St) (h : RdIs w S rb st) : Calls Tryd.prog 75 #[.pointer (some ⟨rb, 0, none⟩)] w fun e w' =>
    e = .returned (.int .i32 (rdI 4 st).1) ∧ RdIs w' S rb (rdI 4 st).2 ∧ w.grownBy w' (some rb) ∧ ((rdI 4 st).2.isSome = true → NN w' rb) := by
  have hlt := h.lt
  cases st with
  | none =>
    obtain ⟨hv, h0, c0, c1, f0, f1⟩ := rd_parts_none h
    refine (Int32_short w rb 0 0 none true (by decide) c0 c1 f0 f1).mono ?_
    rintro e w' ⟨rfl, rfl⟩
    exact ⟨rfl, (rd_fail h0 (grownBy_refl _ _) hv).1, (rd_fail h0 (grownBy_refl _ _) hv).2, fun h => by cases h⟩
  | some bs =>
    obtain ⟨v, hv, hb, h0, c0, c1, f0, f1⟩ := rd_parts h
    by_cases hl : bs.length < 4
    · obtain ⟨ad, c, rfl⟩ := bytes_len hb
      refine (Int32_short w rb bs.length c ad false hl c0 c1 f0 f1).mono ?_
      rintro e w' ⟨rfl, rfl⟩
      have e1 : rdI 4 (some bs) = (0, none) := rdN_less _ _ _ _ (by omega)
      rw [e1]
      exact ⟨rfl, (rd_fail h0 (grownBy_refl _ _) hv).1, (rd_fail h0 (grownBy_refl _ _) hv).2, fun h => by cases h⟩
    · clear h
      obtain ⟨b0, r0, rfl⟩ : ∃ b l, bs = b :: l := by cases bs with | nil => simp at hl | cons b l => exact ⟨b, l, rfl⟩
      obtain ⟨b1, r1, rfl⟩ : ∃ b l, r0 = b :: l := by cases r0 with | nil => simp at hl | cons b l => exact ⟨b, l, rfl⟩
      obtain ⟨b2, r2, rfl⟩ : ∃ b l, r1 = b :: l := by cases r1 with | nil => simp at hl | cons b l => exact ⟨b, l, rfl⟩
      obtain ⟨b3, r3, rfl⟩ : ∃ b l, r2 = b :: l := by cases r2 with | nil => simp at hl | cons b l => exact ⟨b, l, rfl⟩
      obtain ⟨g, o, c, rfl, h2, h3, h4, h5, h6⟩ := bytes_some hb
      simp only [List.length_cons] at h2 hl c0 hv
      have e1 : rdI 4 (some (b0 :: b1 :: b2 :: b3 :: r3)) = (sgn 4 (Kz.beNat [b0, b1, b2, b3]), some r3) := by
        unfold rdI
        rw [rdN_some _ _ _ _ (by simp only [List.length_cons]; omega)]
        simp only [List.take_succ_cons, List.take_zero, List.drop_succ_cons, List.drop_zero]
      refine (Int32_good w rb (r3.length + 4) c g o b0 b1 b2 b3 (by omega) (by omega) h3 hlt (by rw [c0]) f0 (h6 0 b0 rfl) (h6 1 b1 rfl) (h6 2 b2 rfl) (h6 3 b3 rfl)).mono ?_
      rintro e w' ⟨rfl, w1, ad, hw1, had, rfl⟩
      have hg := below_grown hw1 (some rb)
      have hv1 : w1.heap[rb]? = some (.cells #[_, .bool false] 98 (0, 0)) := (hw1.block rb hlt).trans hv
      have hb1 := hb.kept hg (fun g hg e => h0 (by rw [← Option.some.inj e]; exact hg))
      rcases hb1 with ⟨hbad, -⟩ | ⟨g', o', c', k1, k2, k3, k4, k5, k6⟩
      · cases hbad
      simp only [Value.slice.injEq, Option.some.injEq, Addr.mk.injEq, and_true] at k1
      obtain ⟨⟨rfl, rfl⟩, -, rfl⟩ := k1
      have hd := BytesAt.drop (S := S) 4 (by simp only [List.length_cons]; omega) (show r3.length + 4 = (b0 :: b1 :: b2 :: b3 :: r3).length by simp only [List.length_cons]) k2 k3 k4 k5 k6 ad had
      rw [e1]
      refine ⟨?_, (rd_on h0 hg hv1 hd).1, (rd_on h0 hg hv1 hd).2, fun _ => ⟨ad, _, _, heap_setCell_row hv1⟩⟩
      rw [show RowKit.wrap32 (Lib.beNat [b0, b1, b2, b3]) = sgn 4 (Kz.beNat [b0, b1, b2, b3]) by rw [beNat_lib]; exact wrap32_sgn _ (by have := beNat_lt [b0, b1, b2, b3]; simpa using this)]
theorem Span_nn (w : World) (S : Nat → Prop) (rb : Nat) (st : St) (l : Int) (h : RdIs w S rb st) (hnn : st.isSome = true → NN w rb) (hb1 : -9223372036854775808 ≤ l) (hb2 : l ≤ 9223372036854775807) :
    Calls Tryd.prog 97 #[.pointer (some ⟨rb, 0, none⟩), .int .i64 l] w fun e w' =>
    ∃ v, e = .returned v ∧ BytesAt w' S v (rdSpan l st).1 ∧ RdIs w' S rb (rdSpan l st).2 ∧ w.grownBy w' (some rb) ∧ ((rdSpan l st).2.isSome = true → ∃ p n m, v = .slice (some p) n m) := by
  cases st with
  | none =>
    obtain ⟨hv, h0, c0, c1, f0, f1⟩ := rd_parts_none h
    by_cases hl : l = 0
    · subst hl
      refine (Span_nil w rb c0 f0).mono ?_
      rintro e w' ⟨rfl, rfl⟩
      exact ⟨_, rfl, .inl ⟨rfl, rfl⟩, ⟨h0, heap_setCell_row hv⟩, grown_setCell (grownBy_refl _ _) 0 _, fun h => by cases h⟩
    · refine (Span_no w rb 0 0 none true l (by omega) hb1 hb2 c0 c1 f0 f1).mono ?_
      rintro e w' ⟨rfl, rfl⟩
      exact ⟨_, rfl, .inl ⟨rfl, rfl⟩, (rd_fail h0 (grownBy_refl _ _) hv).1, (rd_fail h0 (grownBy_refl _ _) hv).2, fun h => by cases h⟩
  | some bs =>
    obtain ⟨v, hv, hb, h0, c0, c1, f0, f1⟩ := rd_parts h
    by_cases hl : 0 ≤ l ∧ l ≤ bs.length
    · rw [rdSpan_yes l bs hl]
      obtain ⟨k, rfl⟩ : ∃ k : Nat, l = k := ⟨l.toNat, by omega⟩
      rw [Int.toNat_natCast]
      rcases hb with ⟨rfl, rfl⟩ | ⟨g, o, c, rfl, h2, h3, h4, h5, h6⟩
      · obtain rfl : k = 0 := by simp at hl; omega
        obtain ⟨ad, n', c', hnn⟩ := hnn rfl
        rw [hv] at hnn
        cases hnn
      · refine (Span_yes w rb bs.length c g o k (by omega) h2 h3 c0 f0).mono ?_
        rintro e w' ⟨rfl, ad, had, rfl⟩
        have hd := BytesAt.drop (S := S) k (by omega) rfl h2 h3 h4 h5 h6 ad had
        have ho := rd_on h0 (grownBy_refl _ _) hv hd
        exact ⟨_, rfl, (BytesAt.take (S := S) k (by omega) h2 h3 h4 h5 h6).kept ho.2 (fun g hg e => h0 (by rw [← Option.some.inj e]; exact hg)), ho.1, ho.2, fun _ => ⟨_, _, _, rfl⟩⟩
    · rw [rdSpan_not l bs hl]
      obtain ⟨ad, c, rfl⟩ := bytes_len hb
      refine (Span_no w rb bs.length c ad false l (by omega) hb1 hb2 c0 c1 f0 f1).mono ?_
      rintro e w' ⟨rfl, rfl⟩
      exact ⟨_, rfl, .inl ⟨rfl, rfl⟩, (rd_fail h0 (grownBy_refl _ _) hv).1, (rd_fail h0 (grownBy_refl _ _) hv).2, fun h => by cases h⟩

theorem rdText_nb (st : St) : rdText false true 4 st = if (rdI 4 st).1 < 0 then (Tnull, (rdI 4 st).2) else (Ts (rdSpan (rdI 4 st).1 (rdI 4 st).2).1, (rdSpan (rdI 4 st).1 (rdI 4 st).2).2) := by
  simp only [rdText, rdCount, Bool.false_eq_true, if_false, true_and]
/-- Octets that may be null. -/
def IsNB (w : World) (K : Nat → Prop) (u : Value) (t : T) : Prop := BytesAt w K u t.s ∧ if t.null then u = .slice none 0 0 else ∃ p n m, u = .slice (some p) n m
theorem NullableBytes_any (w : World) (S : Nat → Prop) (rb : Nat) (st : St) (h : RdIs w S rb st) : Calls Tryd.prog 87 #[.pointer (some ⟨rb, 0, none⟩)] w fun e w' =>
    ∃ v, e = .returned v ∧ v.oneCell' = true ∧ RdIs w' S rb (rdText false true 4 st).2 ∧ w.grownBy w' (some rb) ∧ ((rdText false true 4 st).2.isSome = true → IsNB w' S v (rdText false true 4 st).1) := by
  rw [rdText_nb]
  obtain ⟨u, hu⟩ : ∃ u, u = (rdI 4 st).1 := ⟨_, rfl⟩
  obtain ⟨s1, hs1⟩ : ∃ s, s = (rdI 4 st).2 := ⟨_, rfl⟩
  have u1 : -2147483648 ≤ u := by rw [hu]; exact (rdI4_b st).1
  have u2 : u ≤ 2147483647 := by rw [hu]; exact (rdI4_b st).2
  have hcall : Calls Tryd.prog 75 #[.pointer (some ⟨rb, 0, none⟩)] w fun e w' => e = .returned (.int .i32 u) ∧ RdIs w' S rb s1 ∧ w.grownBy w' (some rb) ∧ (s1.isSome = true → NN w' rb) := by
    rw [hu, hs1]; exact Int32_nn w S rb st h
  rw [← hu, ← hs1]
  clear hu hs1 h
  have H := Lib.hid hcall
  clear hcall
  by_cases hn : u < 0
  · rw [if_pos hn]
    have t0 : decide (u < 0) = true := by simpa using hn
    clear hn
    go_enter Tryd.func87, Tryd.ntmps87
    go_wp2_with fail
    refine H.out.mono ?_
    rintro e w1 ⟨rfl, h1, g1, -⟩
    have H1 := Lib.hid h1
    clear h1 H
    go_wp2
    go_ret
    exact ⟨_, rfl, rfl, H1.out, g1, fun _ => ⟨.inl ⟨rfl, rfl⟩, rfl⟩⟩
  · rw [if_neg hn]
    have t0 : decide (u < 0) = false := by simpa using hn
    clear hn
    go_enter Tryd.func87, Tryd.ntmps87
    go_wp2_with fail
    refine H.out.mono ?_
    rintro e w1 ⟨rfl, h1, g1, n1⟩
    have H1 := Lib.hid h1
    have N1 := Lib.hid n1
    clear h1 n1 H
    go_wp2_with fail
    refine (Span_nn w1 S rb _ u H1.out N1.out (by omega) (by omega)).mono ?_
    rintro e w2 ⟨v, rfl, hv, h2, g2, n2⟩
    obtain ⟨ad, c, rfl⟩ := bytes_len hv
    have HV := Lib.hid hv
    have H2 := Lib.hid h2
    have N2 := Lib.hid n2
    clear hv h2 n2
    go_wp2
    go_ret
    exact ⟨_, rfl, rfl, H2.out, grownBy_trans g1 g2, fun hs => ⟨HV.out, by
      rw [if_neg (by simp [Ts])]
      obtain ⟨p, n, m, e⟩ := N2.out hs
      exact ⟨p, n, m, e⟩⟩⟩

section
variable {tags : Rel (List (Nat × List UInt8))} {E : RE} {v : Int} {flex ht : Bool}
/-- 'd := b.NullableBytes()'. -/
def RvB (E : RE) (v : Int) (flex : Bool) (d : Nat) (c : Code) : Prop := ∀ rb S st a w (Q : Exit → Act → World → Prop), Fr E rb v flex a → RdIs w S rb st →
  (∀ a' w', Upd a a' (writes c) → (sl a' d).oneCell' = true → RdIs w' S rb (rdText false true 4 st).2 → w.grownBy w' (some rb) → ((rdText false true 4 st).2.isSome = true → IsNB w' S (sl a' d) (rdText false true 4 st).1) → Q .normal a' w') → c.wp Tryd.prog Q a w
theorem rvB {id f d1 d : Nat} {tys : Array TypeId} {t1 t2 : TypeId} {p1 p2 : String} {e1 e2 : Array Edge} (hf : f = 87) (h : decide (d1 < E.N ∧ d < E.N) = true) :
    RvB E v flex d (Code.region id #[⟨some d1, .call { callee := .value (.func f), args := #[.tmp E.rs], argTypes := tys }, t1, p1, e1, none⟩, ⟨some d, .assign (.tmp d1), t2, p2, e2, none⟩] false) := by
  subst hf
  intro rb S st a w Q hfr hr hq
  have h' := of_decide_eq_true h
  obtain ⟨fn, hfn, hb, hn⟩ := hasBody_ok (P := Tryd.prog) (f := 87) (by kernel_rfl)
  refine reg_call1 hfn hb hn (by rw [hfr.size]; exact h'.1) (by rw [hfr.size]; exact h'.2) ?_
  rw [hfr.rs]
  refine Calls.mono (NullableBytes_any w S rb st hr) ?_
  rintro e w' ⟨x, rfl, ho, hr', hg, hret⟩
  exact ⟨x, rfl, fun a' hu hd => hq a' w' hu (by rw [hd]; exact ho) hr' hg (by rw [hd]; exact hret)⟩

/-- Octets that may be null, the last field of all, and the function's end. -/
theorem RdTE.lastN {sp off d t : Nat} {q : Bool} {frm to null tag dflt : Int} {of : Nat} {sub : List F} {r cV cS cF : Code} (hht : ht = false) (hfl : flex = false) (hT : Test E v flex t q r) (hq : F.has ⟨9, frm, to, null, tag, dflt, of, sub⟩ v = q) (htg : tag < 0) (hnn : q = true → 0 ≤ null ∧ null ≤ v)
    (hsp : clear [sp] r = true) (hV : RvB E v flex d cV) (hclV : clear (sp :: E.slots) cV = true) (hS : SStore E.N sp off d cS) (hclS : clear E.slots cS = true) (hF : SFail E cF) :
    RdTE tags E v flex ht sp off [⟨9, frm, to, null, tag, dflt, of, sub⟩] ((r.seq (Code.cond (.tmp t) (cV.seq cS) Code.skip)).seq (cF.seq Code.ret)) := by
  subst hht hfl
  intro rb S st cb co cells Ty a w hp
  have hcl := clear_iff hT.1
  have hone : cellsP false [⟨9, frm, to, null, tag, dflt, of, sub⟩] = 1 := rfl
  have hfit := hp.fit
  rw [hone] at hfit
  have hcb : cb < w.heap.size := (Array.getElem?_eq_some_iff.1 hp.row).1
  refine wp_seq (wp_seq (hT.2 rb a w _ hp.fr fun a1 u1 s1 => ?_))
  have f1 := hp.fr.upd u1 hcl
  have sp1 : sl a1 sp = .pointer (some ⟨cb, co, none⟩) := by rw [upd_of u1 hsp sp (by simp)]; exact hp.ptr
  cases q with
  | true =>
    obtain ⟨hn0, hnv⟩ := hnn rfl
    have hg : (plainR v [⟨9, frm, to, null, tag, dflt, of, sub⟩] (rds v false [⟨9, frm, to, null, tag, dflt, of, sub⟩]) (dfltOf [⟨9, frm, to, null, tag, dflt, of, sub⟩]) st) = ([(rdText false true 4 st).1], (rdText false true 4 st).2) := by
      simp [plainR, rds, dfltOf, htg, hq, rd, fieldR, valR, F.may, hn0, hnv]
    refine wp_cond_true (by rw [eval_tmp, s1]) (wp_seq (hV rb S st a1 w _ f1 hp.rd fun a2 w2 u2 one2 r2 g2 nb2 => ?_))
    have f2 := f1.upd u2 (fun t ht => clear_iff hclV t (List.mem_cons_of_mem _ ht))
    have sp2 : sl a2 sp = .pointer (some ⟨cb, co, none⟩) := by rw [upd_of u2 hclV sp (by simp)]; exact sp1
    have row2 : w2.heap[cb]? = some (.cells cells Ty (0, 0)) := by rw [g2.block cb hcb (fun e => hp.ne (Option.some.inj e))]; exact hp.row
    have hlt : co + off < cells.size := by omega
    refine hS a2 w2 _ cb co cells[co + off] f2.size sp2 one2 (by rw [cell_of_row w2 cb _ _ _ _ row2]; simp [hlt]) (by simp [World.frozen?, row2]) fun a3 u3 => ?_
    have f3 := f2.upd u3 (clear_iff hclS)
    have g3 : w2.grownBy (w2.setCell ⟨cb, co + off, none⟩ (sl a2 d)) (some cb) := ⟨rfl, rfl, rfl, by simp [World.setCell], fun k _ hk => Below.heap_setCell _ _ _ _ (fun e => hk (by rw [e]))⟩
    have r3 := r2.kept g3 (fun g hg e => hp.src (by rw [← Option.some.inj e]; exact hg)) (fun e => hp.ne (Option.some.inj e).symm)
    have he3 := (hp.err.kept g2 (fun e => hp.rbe (Option.some.inj e))).kept g3 (fun e => hp.cbe (Option.some.inj e))
    have row3 : (w2.setCell ⟨cb, co + off, none⟩ (sl a2 d)).heap[cb]? = some (.cells (cells.setIfInBounds (co + off) (sl a2 d)) Ty (0, 0)) := heap_setCell_row row2
    have md : Md w (w2.setCell ⟨cb, co + off, none⟩ (sl a2 d)) rb cb (co + off) 1 := (Md.of_grown g2 hp.ne (co + off) 1).trans (lo := co + off) (n := 1) (lo2 := co + off) (n2 := 1) (Md.of_set _ ⟨by omega, by omega⟩) (by omega) (by omega)
    refine wp_seq (hF a3 _ _ S rb _ f3.size f3.rs r3 he3 fun a4 u4 hv => wp_ret ?_)
    refine ⟨u4.size.trans f3.size, u4.defers.trans f3.defers, by rw [hone]; exact md, ?_, fun hs => ?_⟩
    · show ErrV (plainR v [⟨9, frm, to, null, tag, dflt, of, sub⟩] (rds v false [⟨9, frm, to, null, tag, dflt, of, sub⟩]) (dfltOf [⟨9, frm, to, null, tag, dflt, of, sub⟩]) st).2 _
      rw [hg]; exact hv
    · have hs' : (rdText false true 4 st).2.isSome = true := by
        have : (plainR v [⟨9, frm, to, null, tag, dflt, of, sub⟩] (rds v false [⟨9, frm, to, null, tag, dflt, of, sub⟩]) (dfltOf [⟨9, frm, to, null, tag, dflt, of, sub⟩]) st).2.isSome = true := hs
        rw [hg] at this; exact this
      obtain ⟨nb, nn⟩ := nb2 hs'
      refine ⟨_, row3, ?_, fun h => by cases h⟩
      show plainRep v false false [⟨9, frm, to, null, tag, dflt, of, sub⟩] (repFs tags v false false [⟨9, frm, to, null, tag, dflt, of, sub⟩]) _ _ _ (plainR v [⟨9, frm, to, null, tag, dflt, of, sub⟩] (rds v false [⟨9, frm, to, null, tag, dflt, of, sub⟩]) (dfltOf [⟨9, frm, to, null, tag, dflt, of, sub⟩]) st).1
      rw [hg]
      refine ⟨_, [], rfl, fun _ => ?_, rfl⟩
      simp only [repF, fieldRep, valRep, show ¬ (9 : Nat) = 11 by decide, show ¬ (9 : Nat) = 0 by decide, show ¬ (9 : Nat) = 7 by decide, show ¬ (9 : Nat) = 8 by decide, if_false, if_true, hn0, decide_true]
      refine ⟨sl a2 d, by simp [hlt], ?_, nn⟩
      exact (nb.kept g3 (fun g hg e => hp.src (by rw [← Option.some.inj e]; exact hg))).mono (fun g hg => .inl hg)
  | false =>
    have hg : (plainR v [⟨9, frm, to, null, tag, dflt, of, sub⟩] (rds v false [⟨9, frm, to, null, tag, dflt, of, sub⟩]) (dfltOf [⟨9, frm, to, null, tag, dflt, of, sub⟩]) st) = ([dfltF ⟨9, frm, to, null, tag, dflt, of, sub⟩], st) := by
      simp [plainR, rds, dfltOf, hq]
    refine wp_cond_false (by rw [eval_tmp, s1]) (wp_skip (wp_seq (hF a1 w _ S rb st f1.size f1.rs hp.rd hp.err fun a4 u4 hv => wp_ret ?_)))
    refine ⟨u4.size.trans f1.size, u4.defers.trans f1.defers, Md.refl _ _ _ _ _, ?_, fun hs => ?_⟩
    · show ErrV (plainR v [⟨9, frm, to, null, tag, dflt, of, sub⟩] (rds v false [⟨9, frm, to, null, tag, dflt, of, sub⟩]) (dfltOf [⟨9, frm, to, null, tag, dflt, of, sub⟩]) st).2 _
      rw [hg]; exact hv
    · refine ⟨_, hp.row, ?_, fun h => by cases h⟩
      show plainRep v false false [⟨9, frm, to, null, tag, dflt, of, sub⟩] (repFs tags v false false [⟨9, frm, to, null, tag, dflt, of, sub⟩]) _ _ _ (plainR v [⟨9, frm, to, null, tag, dflt, of, sub⟩] (rds v false [⟨9, frm, to, null, tag, dflt, of, sub⟩]) (dfltOf [⟨9, frm, to, null, tag, dflt, of, sub⟩]) st).1
      rw [hg]
      refine ⟨_, [], rfl, fun ho => ?_, rfl⟩
      simp [F.on, htg, hq] at ho
end
/-- Octets that may be null, written. -/
def NbA (w : World) (K : Nat → Prop) (u : Value) (t : T) : Prop := t.s.length ≤ most ∧ BytesAt w K u t.s ∧ if t.null then u = .slice none 0 0 else ∃ p n m, u = .slice (some p) n m
def nbB (t : T) : List UInt8 := if t.null then fixed (-1) 4 else textB 4 false t
theorem wr_NullableBytes : Writes 68 nbB NbA := ⟨by kernel_rfl, fun base K bs w v u x ho hb hK ha hl => by
  obtain ⟨h0, hby, ha⟩ := ha
  cases hn : x.null with
  | true =>
    rw [hn, if_pos rfl] at ha
    subst ha
    have e : nbB x = fixed (-1) 4 := by simp [nbB, hn]
    rw [e] at hl ⊢
    exact AppendNullableBytes_nil w base v bs ho hb (lim_of hl (by decide))
  | false =>
    rw [hn, if_neg (by simp)] at ha
    obtain ⟨p, n, m, rfl⟩ := ha
    have e : nbB x = fixed (x.s.length : Int) 4 ++ x.s := by simp [nbB, hn, textB, counted]
    rw [e] at hl ⊢
    exact AppendNullableBytes_some w base v bs x.s p n m K hby hK ho hb (by simp only [most] at h0; omega) hl⟩
theorem FA.noctets {tags : Rel (List (Nat × List UInt8))} {E : WE} {v : Int} {ht : Bool} {frm to null tag dflt : Int} {of : Nat} {sub : List F} {d : Nat} {c : Code} (hn : decide (0 ≤ null) = true) (hv : null ≤ v) (h : Av E v false d nbB NbA c) : FA tags E v false ht (.mk 9 frm to null tag dflt of sub) d c := by
  have hn' := of_decide_eq_true hn
  refine Av.conv h id (fun w K u t ht => ?_) (fun w K u t ht => ?_)
  · have := ht.1
    simp only [repF, fieldRep, valRep, show ¬ (9 : Nat) = 11 by decide, show ¬ (9 : Nat) = 0 by decide, show ¬ (9 : Nat) = 7 by decide, show ¬ (9 : Nat) = 8 by decide, if_false, if_true, hn', decide_true] at this
    obtain ⟨x, hx, h1, h2⟩ := this
    simp only [Option.some.injEq] at hx
    subst hx
    exact ⟨ht.2.fs, h1, h2⟩
  · show wr v false _ t = nbB t
    simp only [wr, fieldW, valW, F.nul, hn', hv, decide_true, Bool.and_true, nbB, textB, take_fit ht.2.fs, counted, show ¬ (9 : Nat) = 11 by decide, show ¬ (9 : Nat) = 10 by decide, false_and, show ¬ (9 : Nat) = 0 by decide, show ¬ (9 : Nat) = 7 by decide, show ¬ (9 : Nat) = 8 by decide, if_false, if_true, Bool.false_eq_true]
end Go.Proofs.YtodmlklfjinonaaDoor
