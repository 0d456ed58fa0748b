/-
  Known tags, read: sixteen octets, lists, with code behind them. Conditions: none.
-/
import Derived.Test.YtoklbgdafnminaaGreatDoorKn7
namespace Go.Proofs.YtoklbgdafnminaaGreatDoor
open Go.RowKit (Below)
open Kz

set_option maxHeartbeats 400000 in
theorem RdKp.sixteen {L : Code} {E : RE} {v : Int} {flex : Bool} {id1 id2 sp off x d t1 t2 t3 t4 T k : Nat} {tys : Array TypeId} {y1 y2 y3 y4 y5 y6 y7 y8 : TypeId} {q1 q2 q3 q4 q5 q6 q7 q8 : String} {e1 e2 e3 e4 e5 e6 e7 e8 : Array Edge} {frm to null tag dflt : Int} {of : Nat} {sub : List F}
    (hf : offOf Tryz.prog T k = some off) (hn : [x, d, t1, t2, t3, t4].all (· < E.N) = true) (hd : decide (d ≠ x ∧ t1 ≠ d ∧ t2 ≠ t1 ∧ t3 ≠ t2 ∧ t4 ≠ t2) = true) (hcl : [x, d].all (fun t => !(sp :: E.slots).contains t) = true) (hct : [t1, t2, t3, t4].all (fun t => !(sp :: E.slots).contains t) = true) :
    RdKp E v flex sp off (cellsF true (.mk 7 frm to null tag dflt of sub)) (fun _ _ => True) (rd v flex (.mk 7 frm to null tag dflt of sub)) (repF TagRep v flex true (.mk 7 frm to null tag dflt of sub)) L ((Code.region id1 #[⟨some x, .call { callee := .value (.func 133), args := #[.tmp E.rs], argTypes := tys }, y1, q1, e1, none⟩, ⟨some d, .alloc 109, y2, q2, e2, none⟩, ⟨none, .store 109 (.tmp d) (.tmp x), y3, q3, e3, none⟩] false).seq
      ((Code.region id2 #[⟨some t1, .move (.tmp sp), y4, q4, e4, none⟩, ⟨some t2, .load 109 (.tmp d), y5, q5, e5, none⟩, ⟨some t3, .nilCheck (.tmp t1), y6, q6, e6, none⟩, ⟨some t4, .fieldAddr T (.tmp t3) k, y7, q7, e7, none⟩, ⟨none, .store 109 (.tmp t4) (.tmp t2), y8, q8, e8, none⟩] false).seq L)) := by
  have hc16 : cellsF true (.mk 7 frm to null tag dflt of sub) = 16 := by simp [cellsF, fieldCells, valCells]
  rw [hc16]
  intro rb S st cb co cells Ty a w Q hp hq _
  simp only [List.all_cons, List.all_nil, Bool.and_true, Bool.and_eq_true, decide_eq_true_eq, Bool.not_eq_true', List.contains_eq_mem, decide_eq_false_iff_not] at hn hd hcl
  obtain ⟨n1, n2, n3, n4, n5, n6⟩ := hn
  obtain ⟨d1, d2, d3, d4, d5⟩ := hd
  have hsz := hp.fr.size
  have hbody : hasBody Tryz.prog 133 = true := by kernel_rfl
  obtain ⟨fn, hfn, hb, hnn⟩ := hasBody_ok hbody
  have hg : rd v flex (.mk 7 frm to null tag dflt of sub) st = (Ts (uuid (rdSpan 16 st).1), (rdSpan 16 st).2) := by simp [rd, fieldR, valR]
  refine wp_seq (wp_region_lit (st_call1 hfn hb hnn ?_))
  rw [eval_tmp, hp.fr.rs]
  refine (Uuid_any w S rb st hp.rd hp.old).mono ?_
  rintro e w1 ⟨rfl, hrd1, hg1⟩
  refine ⟨_, rfl, ?_⟩
  have hl := uuCells_length (rdSpan 16 st).1
  have h1 := uuCells_one (rdSpan 16 st).1
  generalize hcs : uuCells (rdSpan 16 st).1 = cs at hl h1 ⊢
  refine st_alloc16 (st_store16 (b := w1.heap.size) (o := 0) (cs := cs) hl h1 ?_ ?_ (box16_there w1) (wpList_nil ?_))
  · rw [eval_tmp, sl_put_self _ _ _ (by rw [put_size]; omega)]
  · rw [eval_tmp, sl_put_other _ _ _ _ d1, sl_put_self _ _ _ (by omega)]
  have hgb := box16 w1 cs
  have hrg := box16_range w1 cs hl
  generalize (w1.alloc (.cells uuZ 109)).setCells w1.heap.size 0 cs = w2 at hgb hrg ⊢
  have hcb := (Array.getElem?_eq_some_iff.1 hp.row).1
  have hcb1 : cb < w1.heap.size := Nat.lt_of_lt_of_le hcb hg1.size
  have hrow1 : w1.heap[cb]? = some (.cells cells Ty (0, 0)) := by rw [hg1.block cb hcb (fun e => hp.ne (Option.some.inj e))]; exact hp.row
  have hrow2 : w2.heap[cb]? = some (.cells cells Ty (0, 0)) := by rw [hgb.block cb hcb1 (by simp)]; exact hrow1
  have hfit := hp.fit
  have hth : w2.there cb (co + off) 16 := there_row hrow2 hfit
  have hsp : sl ((a.put (some x) (.agg cs.toArray)).put (some d) (.pointer (some ⟨w1.heap.size, 0, none⟩))) sp = .pointer (some ⟨cb, co, none⟩) := by
    rw [sl_put_other _ _ _ _ (fun e => hcl.2 (by rw [e]; exact List.mem_cons_self)), sl_put_other _ _ _ _ (fun e => hcl.1 (by rw [e]; exact List.mem_cons_self))]
    exact hp.ptr
  have hdd : sl ((a.put (some x) (.agg cs.toArray)).put (some d) (.pointer (some ⟨w1.heap.size, 0, none⟩))) d = .pointer (some ⟨w1.heap.size, 0, none⟩) := sl_put_self _ _ _ (by rw [put_size]; omega)
  have hup : Upd a ((a.put (some x) (.agg cs.toArray)).put (some d) (.pointer (some ⟨w1.heap.size, 0, none⟩))) [x, d] := ((Upd.refl a _).put x _ (by simp)).put d _ (by simp)
  generalize (a.put (some x) (.agg cs.toArray)).put (some d) (.pointer (some ⟨w1.heap.size, 0, none⟩)) = a1 at hsp hdd hup ⊢
  have hs1 : a1.tmps.size = E.N := hup.size.trans hsz
  have f1 : Fr E rb v flex a1 := hp.fr.upd hup (fun t ht hx => by
    simp only [List.mem_cons, List.not_mem_nil, or_false] at hx
    rcases hx with rfl | rfl
    · exact hcl.1 (List.mem_cons_of_mem _ ht)
    · exact hcl.2 (List.mem_cons_of_mem _ ht))
  have hct' : ∀ t ∈ sp :: E.slots, t ∉ [t1, t2, t3, t4] := by
    intro t ht hx
    have := List.all_eq_true.1 hct t hx
    simp only [Bool.not_eq_true', List.contains_eq_mem, decide_eq_false_iff_not] at this
    exact this ht
  refine wp_seq (wp_region_lit (st_move ?_))
  rw [eval_tmp, hsp]
  refine st_load16 (b := w1.heap.size) (o := 0) (cs := cs) hl ?_ hrg (st_nil (p := ⟨cb, co, none⟩) ?_ (st_field (b := cb) (o := co) (fieldOff_ok hf) ?_ (st_store16 (b := cb) (o := co + off) (cs := cs) hl h1 ?_ ?_ hth (wpList_nil ?_))))
  · rw [eval_tmp, sl_put_other _ _ _ _ d2, hdd]
  · rw [eval_tmp, sl_put_other _ _ _ _ d3, sl_put_self _ _ _ (by omega)]
  · rw [eval_tmp, sl_put_self _ _ _ (by simp only [put_size]; omega)]
  · rw [eval_tmp, sl_put_self _ _ _ (by simp only [put_size]; omega)]
  · rw [eval_tmp, sl_put_other _ _ _ _ d5, sl_put_other _ _ _ _ d4, sl_put_self _ _ _ (by simp only [put_size]; omega)]
  obtain ⟨cells', hc1, hc2, -⟩ := setCells_row cb cs (co + off) w2 cells hrow2
  have hrs : (w2.setCells cb (co + off) cs).rangeAt cb (co + off) cs := World.rangeAt_setCells_same _ _ _ _ (by rw [hl]; exact hth)
  generalize hA2 : ((((a1.put (some t1) _).put (some t2) _).put (some t3) _).put (some t4) _) = a2
  have u2 : Upd a1 a2 [t1, t2, t3, t4] := by subst hA2; exact ((((Upd.refl a1 _).put t1 _ (by simp)).put t2 _ (by simp)).put t3 _ (by simp)).put t4 _ (by simp)
  refine hq a2 _ cells' ?_ (f1.upd u2 (fun t ht => hct' t (List.mem_cons_of_mem _ ht))) ((u2.same _ (hct' _ (by simp))).trans hsp) ?_ ?_ hc1 ?_
  · refine (hup.mono (fun t ht => ?_)).trans (u2.mono (fun t ht => ?_))
    · simp only [List.mem_cons, List.not_mem_nil, or_false] at ht
      rcases ht with rfl | rfl <;> simp [writes]
    · simp only [List.mem_cons, List.not_mem_nil, or_false] at ht
      rcases ht with rfl | rfl | rfl | rfl <;> simp [writes]
  · rw [hg]
    exact (hrd1.kept hgb (fun g _ e => by cases e) (by simp)).kept (setCells_grown cb cs (co + off) w2) (fun g hgS e => hp.src (by rw [← Option.some.inj e]; exact hgS)) (fun e => hp.ne (Option.some.inj e).symm)
  · have hm1 : Md w w2 rb cb (co + off) 16 := (Md.of_grown hg1 hp.ne (co + off) 16).trans (Md.of_none (lo := co + off) (n := 16) hgb) (by omega) (by omega)
    have hm2 : Md w2 (w2.setCells cb (co + off) cs) rb cb (co + off) 16 := Md.of_cells cs hl
    exact hm1.trans hm2 (by omega) (by omega)
  · rw [hg]
    simp only [repF, fieldRep]
    simp only [show ¬ (7 : Nat) = 11 by decide, if_false]
    intro i b hb
    have hb' : (Kz.uuid (rdSpan 16 st).1)[i]? = some b := by
      have e : Kz.uuid (Kz.uuid (rdSpan 16 st).1) = Kz.uuid (rdSpan 16 st).1 := uuid_of _ (uuid_length _)
      rw [← e]; exact hb
    have hj : cs[i]? = some (bv b) := by rw [← hcs, uuCells, List.getElem?_map, hb']; rfl
    have := hrs i _ hj
    rw [cell_of_row _ _ _ _ _ _ hc1] at this
    exact this

section
variable {E : RE} {v : Int} {flex : Bool}
theorem RdKp.list {L : Code} {sp off d0 da dl di tN tP of : Nat} {frm to null tag dflt : Int} {sub : List F} {z : Array Value} {c1 c2 c3 cL cN cF c6 cP cA c0 cLoop c9 c10 : Code} {inie : Cells → Prop} (hloc : ∀ c c' : Cells, (∀ j, j < valCells of (cellsP true sub) → c' j = c j) → inie c → inie c') (hnull : null < 0)
    (h1 : SLoad E.N sp off d0 c1) (h2 : SCopy E.N d0 da c2) (h3 : SConst E.N dl (.int .i32 0) c3) (hL : Rv E v flex dl (rdLen flex) (IsInt .i32) cL) (hN : SNotOk E tN cN) (hF : SFail E cF) (h6 : SSlice0 E.N da c6) (hP : SPos E.N dl tP cP)
    (hA : SApp E.N da dl z cA) (h0 : SConst E.N di (.int .i32 0) c0) (hl : SLoop E v flex da di dl (valCells of (cellsP true sub)) (elG v flex of sub) (elR TagRep v flex true of sub) inie cLoop) (h9 : SCopy E.N da d0 c9) (h10 : SStore E.N sp off d0 c10)
    (hz : z.size = valCells of (cellsP true sub)) (hini : inie (fun j => z[j]?))
    (hcl : clear (sp :: E.slots) (c1.seq (c2.seq (c3.seq (cL.seq (cN.seq (c6.seq (cP.seq (cA.seq (c0.seq (cLoop.seq (c9.seq c10))))))))))) = true)
    (hca : clear [da] (c3.seq (cL.seq (cN.seq (cP.seq (c0.seq cLoop))))) = true) (hcd : clear [dl] (cN.seq (c6.seq (cP.seq (cA.seq c0)))) = true) :
    RdKp E v flex sp off (cellsF true (.mk 11 frm to null tag dflt of sub)) (fun st c => c 0 = some (.slice none 0 0) ∨ (rdLen flex st).2 = none) (rd v flex (.mk 11 frm to null tag dflt of sub)) (repF TagRep v flex true (.mk 11 frm to null tag dflt of sub)) L
      (c1.seq (c2.seq (c3.seq (cL.seq ((cN.seq (Code.cond (.tmp tN) (cF.seq Code.ret) Code.skip)).seq (c6.seq ((cP.seq (Code.cond (.tmp tP) cA Code.skip)).seq ((c0.seq cLoop).seq (c9.seq (c10.seq L)))))))))) := by
  intro rb S st cb co cells Ty a w Q hp hq hret
  simp only [clear_seq] at hcl hca hcd
  obtain ⟨k1, k2, k3, kL, kN, k6, kP, kA, k0, kl, k9, k10⟩ := hcl
  obtain ⟨a3, aL, aN, aP, a0, al⟩ := hca
  obtain ⟨dN, d6, dP, dA, d0'⟩ := hcd
  have hfit := hp.fit
  simp only [cellsF, fieldCells, valCells] at hfit
  simp at hfit
  have hpre := hp.ini
  obtain ⟨u0, hini0⟩ : ∃ u, cells[co + off]? = some u := ⟨cells[co + off], by simp [show co + off < cells.size by omega]⟩
  have hcell : ∀ {w' : World}, w'.heap[cb]? = some (.cells cells Ty (0, 0)) → w'.cell? ⟨cb, co + off, none⟩ = some u0 := fun h => by rw [cell_of_row _ cb _ _ _ _ h]; exact hini0
  refine wp_seq (h1 a w _ cb co _ hp.fr.size hp.ptr (hcell hp.row) fun a1 u1 s1 => ?_)
  refine wp_seq (h2 a1 w _ (u1.size.trans hp.fr.size) fun a2 u2 s2 => ?_)
  refine wp_seq (h3 a2 w _ (u2.size.trans (u1.size.trans hp.fr.size)) fun a3' u3 s3 => ?_)
  have f1 := hp.fr.upd u1 (fun t ht => clear_iff k1 t (List.mem_cons_of_mem _ ht))
  have f2 := f1.upd u2 (fun t ht => clear_iff k2 t (List.mem_cons_of_mem _ ht))
  have f3 := f2.upd u3 (fun t ht => clear_iff k3 t (List.mem_cons_of_mem _ ht))
  have hsp3 : sl a3' sp = .pointer (some ⟨cb, co, none⟩) := by rw [upd_of u3 k3 sp (by simp), upd_of u2 k2 sp (by simp), upd_of u1 k1 sp (by simp)]; exact hp.ptr
  have hda3 : sl a3' da = u0 := by rw [upd_of u3 a3 da (by simp), s2, s1]
  refine wp_seq (wp_mono (hL rb S st a3' w f3 hp.rd hp.err) ?_)
  intro e a4 w4 hq4
  cases e with
  | normal => ?_
  | _ => exact hq4.elim
  obtain ⟨u4, r4, g4, -, hlen⟩ := hq4
  simp only [IsInt] at hlen
  have f4 := f3.upd u4 (fun t ht => clear_iff kL t (List.mem_cons_of_mem _ ht))
  have hsp4 : sl a4 sp = .pointer (some ⟨cb, co, none⟩) := by rw [upd_of u4 kL sp (by simp)]; exact hsp3
  have hda4 : sl a4 da = u0 := by rw [upd_of u4 aL da (by simp)]; exact hda3
  have he4 : ErrOk w4 := hp.err.kept g4 (fun e => hp.rbe (Option.some.inj e))
  refine wp_seq (wp_seq (hN a4 w4 _ S rb _ f4.size f4.rs r4 fun a5 u5 s5 => ?_))
  have f5 := f4.upd u5 (fun t ht => clear_iff kN t (List.mem_cons_of_mem _ ht))
  have hmd4 : Md w w4 rb cb (co + off) (cellsF true (.mk 11 frm to null tag dflt of sub)) := Md.of_grown g4 hp.ne _ _
  have hrow4 : w4.heap[cb]? = some (.cells cells Ty (0, 0)) := by rw [g4.block cb (Array.getElem?_eq_some_iff.1 hp.row).1 (fun e => hp.ne (Option.some.inj e))]; exact hp.row
  have hgst : rd v flex (.mk 11 frm to null tag dflt of sub) st = listR false (elG v flex of sub) (rdLen flex st) := by
    have : ¬ (0 ≤ null) := by omega
    simp [rd, fieldR, F.may, this]
    rfl
  cases hok : (rdLen flex st).2 with
  | none =>
    rw [hok] at s5 r4
    refine wp_cond_true (by rw [eval_tmp, s5]; rfl) (wp_seq (hF a5 w4 _ S rb none f5.size f5.rs r4 he4 fun a6 u6 s6 => wp_ret ?_))
    have hv : ∃ t x, sl a6 E.res = .iface t x := by simpa [ErrV] using s6
    refine hret _ _ ?_ (u6.size.trans f5.size) (u6.defers.trans f5.defers) hv hmd4
    rw [hgst]
    simp [listR, hok]
  | some bs => ?_
  have hu0 : u0 = .slice none 0 0 := by
    rcases hpre with h | h
    · have h : cells[co + off + 0]? = some (.slice none 0 0) := h
      rw [Nat.add_zero, hini0] at h
      exact Option.some.inj h
    · rw [hok] at h; cases h
  subst hu0
  rw [hok] at s5 r4
  refine wp_cond_false (by rw [eval_tmp, s5]; rfl) (wp_skip ?_)
  have hl5 : sl a5 dl = .int .i32 (rdLen flex st).1 := by rw [upd_of u5 dN dl (by simp)]; exact hlen
  have hda5 : sl a5 da = .slice none 0 0 := by rw [upd_of u5 aN da (by simp)]; exact hda4
  refine wp_seq (h6 a5 w4 _ _ _ _ f5.size hda5 fun a6 u6 s6 => ?_)
  have f6 := f5.upd u6 (fun t ht => clear_iff k6 t (List.mem_cons_of_mem _ ht))
  have hl6 : sl a6 dl = .int .i32 (rdLen flex st).1 := by rw [upd_of u6 d6 dl (by simp)]; exact hl5
  refine wp_seq (wp_seq (hP a6 w4 _ _ f6.size hl6 fun a7 u7 s7 => ?_))
  have f7 := f6.upd u7 (fun t ht => clear_iff kP t (List.mem_cons_of_mem _ ht))
  have hl7 : sl a7 dl = .int .i32 (rdLen flex st).1 := by rw [upd_of u7 dP dl (by simp)]; exact hl6
  have hda7 : sl a7 da = .slice none 0 0 := by rw [upd_of u7 aP da (by simp)]; exact s6
  have hsp7 : sl a7 sp = .pointer (some ⟨cb, co, none⟩) := by rw [upd_of u7 kP sp (by simp), upd_of u6 k6 sp (by simp), upd_of u5 kN sp (by simp)]; exact hsp4
  have hlt := rdLen_le flex st
  generalize hr : (rdLen flex st).1 = r at *
  -- what holds behind the list's loop
  have hend : ∀ (a8 : Act) (w8 : World) (ts : List T) (st' : St), Fr E rb v flex a8 → sl a8 sp = .pointer (some ⟨cb, co, none⟩) → Upd a a8 (writes (c1.seq (c2.seq (c3.seq (cL.seq ((cN.seq (Code.cond (.tmp tN) (cF.seq Code.ret) Code.skip)).seq (c6.seq ((cP.seq (Code.cond (.tmp tP) cA Code.skip)).seq ((c0.seq cLoop).seq (c9.seq (c10.seq L))))))))))) →
      RdIs w8 S rb st' → w.grownBy w8 (some rb) → w8.heap[cb]? = some (.cells cells Ty (0, 0)) → rd v flex (.mk 11 frm to null tag dflt of sub) st = (Tl ts, st') → (sl a8 da).oneCell' = true →
      (∀ c : Cells, c 0 = some (sl a8 da) → repF TagRep v flex true (.mk 11 frm to null tag dflt of sub) w8 (fun g => S g ∨ w.heap.size ≤ g) c (Tl ts)) →
      (c9.seq (c10.seq L)).wp Tryz.prog Q a8 w8 := by
    intro a8 w8 ts st' f8 hsp8 hu8 r8 g8 hrow8 hrd8 hone hrep
    refine wp_seq (h9 a8 w8 _ f8.size fun a9 u9 s9 => ?_)
    have f9 := f8.upd u9 (fun t ht => clear_iff k9 t (List.mem_cons_of_mem _ ht))
    have hc0 : (co + off) < cells.size := by omega
    refine wp_seq (h10 a9 w8 _ cb co _ f9.size (by rw [upd_of u9 k9 sp (by simp)]; exact hsp8) (by rw [s9]; exact hone) (hcell hrow8) (by simp [World.frozen?, hrow8]) fun a10 u10 => ?_)
    have hmd : Md w8 (w8.setCell ⟨cb, co + off, none⟩ (sl a9 d0)) rb cb (co + off) (cellsF true (.mk 11 frm to null tag dflt of sub)) := Md.of_set _ (by simp [cellsF, fieldCells, valCells])
    refine hq a10 _ (cells.setIfInBounds (co + off) (sl a9 d0)) ((hu8.trans (u9.mono ?_)).trans (u10.mono ?_)) (f9.upd u10 (fun t ht => clear_iff k10 t (List.mem_cons_of_mem _ ht))) (by rw [upd_of u10 k10 sp (by simp), upd_of u9 k9 sp (by simp)]; exact hsp8) ?_
      ((Md.of_grown g8 hp.ne (co + off) (cellsF true (.mk 11 frm to null tag dflt of sub))).trans hmd (by omega) (by omega)) (heap_setCell_row hrow8) ?_
    · intro t ht; simp only [mem_writes_seq, ht]; simp
    · intro t ht; simp only [mem_writes_seq, ht]; simp
    · rw [hrd8]
      exact r8.kept (row := some cb) ⟨rfl, rfl, rfl, by simp [World.setCell], fun k _ hk => Below.heap_setCell _ _ _ _ (fun e => hk (by rw [e]))⟩ (fun g hg e => hp.src (by rw [← Option.some.inj e]; exact hg)) (fun e => hp.ne (Option.some.inj e).symm)
    · rw [hrd8]
      refine stable_repF (fun _ => rfl) stable_tagRep (.mk 11 frm to null tag dflt of sub) w8 _ _ _ (fun j => (cells.setIfInBounds (co + off) (sl a9 d0))[co + off + j]?) _ _ (fun g hg hlt => ?_) (by simp [World.setCell]) (fun g hg => hg) (fun j hj => rfl) (hrep _ ?_)
      · refine Below.heap_setCell _ _ _ _ ?_
        rintro rfl
        rcases hg with hg | hg
        · exact hp.src hg
        · have := (Array.getElem?_eq_some_iff.1 hp.row).1; omega
      · rw [← s9]; simp [hc0]
  have hu7 : Upd a a7 (writes (c1.seq (c2.seq (c3.seq (cL.seq ((cN.seq (Code.cond (.tmp tN) (cF.seq Code.ret) Code.skip)).seq (c6.seq ((cP.seq (Code.cond (.tmp tP) cA Code.skip)).seq ((c0.seq cLoop).seq (c9.seq (c10.seq L))))))))))) := by
    refine ((((((u1.mono ?_).trans (u2.mono ?_)).trans (u3.mono ?_)).trans (u4.mono ?_)).trans (u5.mono ?_)).trans (u6.mono ?_)).trans (u7.mono ?_) <;> (intro t ht; simp only [mem_writes_seq, ht]; simp)
  by_cases hpos : 0 < r
  · refine wp_cond_true (by rw [eval_tmp, s7]; simp [hpos]) ?_
    obtain ⟨n, rfl⟩ : ∃ n : Nat, r = n := ⟨r.toNat, by omega⟩
    refine hA a7 w4 _ n f7.size hda7 hl7 (by omega) (by omega) fun a8 w8 m arr Te u8 s8 hh8 ho8 ht8 hp8 hsz8 hat8 => ?_
    have f8 := f7.upd u8 (fun t ht => clear_iff kA t (List.mem_cons_of_mem _ ht))
    have hl8 : sl a8 dl = .int .i32 (n : Int) := by rw [upd_of u8 dA dl (by simp)]; exact hl7
    have hG8 : w8.heap[w4.heap.size]? = some (.cells arr Te (0, 0)) := by rw [hh8]; simp
    have hold : ∀ k, k < w4.heap.size → w8.heap[k]? = w4.heap[k]? := fun k hk => by rw [hh8, Array.getElem?_push]; simp; omega
    have hsz84 : w8.heap.size = w4.heap.size + 1 := by rw [hh8]; simp
    have hg48 : w4.grownBy w8 (some rb) := ⟨ho8, ht8, hp8, by omega, fun k hk _ => hold k hk⟩
    have r8 : RdIs w8 S rb (some bs) := r4.kept (row := none) ⟨ho8, ht8, hp8, by omega, fun k hk _ => hold k hk⟩ (fun g _ e => by cases e) (fun e => by cases e)
    have he8 : ErrOk w8 := he4.kept (row := none) ⟨ho8, ht8, hp8, by omega, fun k hk _ => hold k hk⟩ (fun e => by cases e)
    refine wp_seq (wp_seq (h0 a8 w8 _ f8.size fun a9 u9 s9 => ?_))
    have f9 := f8.upd u9 (fun t ht => clear_iff k0 t (List.mem_cons_of_mem _ ht))
    have hold8 : ∀ g, S g → g < w4.heap.size := fun g hg => Nat.lt_of_lt_of_le (hp.old g hg) g4.size
    obtain ⟨hloop, -⟩ := hl rb S (some bs) n a9 w8 f9 r8 he8 hp.rbe (fun g hg => by have := hold8 g hg; omega) s9 (by omega)
    have hne4 : w4.heap.size ≠ 1 := by
      obtain ⟨t, x, hx⟩ := he4
      have : 1 < w4.heap.size := World.block_lt_of_cell? w4 _ hx
      omega
    have hcb : cb < w4.heap.size := (Array.getElem?_eq_some_iff.1 hrow4).1
    have hrdg : rd v flex (.mk 11 frm to null tag dflt of sub) st = (Tl (rdMany (elG v flex of sub) n (some bs)).1, (rdMany (elG v flex of sub) n (some bs)).2) := by
      rw [hgst]
      simp only [listR, hok, hr, Int.toNat_natCast]
      rfl
    refine hloop w4.heap.size 0 m arr Te _ (by rw [upd_of u9 d0' dl (by simp)]; exact hl8) hne4 ?_ ?_ (by rw [upd_of u9 a0 da (by simp)]; exact s8) hG8 (by rw [← hz]; omega) ?_ ?_ ?_
    · exact fun e => absurd r4.lt (by omega)
    · exact fun hS => absurd (hold8 _ hS) (by omega)
    · intro i hi
      refine hloc _ _ (fun j hj => ?_) hini
      rw [← hz] at hj ⊢
      rw [Nat.zero_add]
      exact hat8 i j hi hj
    · intro a10 w10 u10 r10 m10 hR10
      have f10 := f9.upd u10 (fun t ht => clear_iff kl t (List.mem_cons_of_mem _ ht))
      have hsp10 : sl a10 sp = .pointer (some ⟨cb, co, none⟩) := by rw [upd_of u10 kl sp (by simp), upd_of u9 k0 sp (by simp), upd_of u8 kA sp (by simp)]; exact hsp7
      have hda10 : sl a10 da = .slice (some ⟨w4.heap.size, 0, none⟩) n m := by rw [upd_of u10 al da (by simp), upd_of u9 a0 da (by simp)]; exact s8
      have hg410 : w4.grownBy w10 (some rb) := ⟨m10.os.trans ho8, m10.tape.trans ht8, m10.output.trans hp8, Nat.le_trans hg48.size m10.size, fun k hk hr => (m10.block k (by omega) (fun e => hr (by rw [e])) (by omega)).trans (hold k hk)⟩
      refine hend a10 w10 _ _ f10 hsp10 ?_ r10 (grownBy_trans g4 hg410) ?_ hrdg (by rw [hda10]; rfl) ?_
      · refine ((hu7.trans (u8.mono ?_)).trans (u9.mono ?_)).trans (u10.mono ?_) <;> (intro t ht; simp only [mem_writes_seq, writes_cond, List.mem_append, ht]; simp)
      · rw [hg410.block cb hcb (fun e => hp.ne (Option.some.inj e))]; exact hrow4
      · intro c hc
        simp only [repF, fieldRep, if_pos, listRep]
        rw [if_neg (by have : ¬ (0 ≤ null) := by omega
                       simp [this])]
        refine ⟨fun _ => rfl, .inr ⟨w4.heap.size, 0, m, ?_, .inr g4.size, by have := m10.size; omega, fun k x hx => ?_⟩⟩
        · rw [hc, hda10]; simp [Tl, rdMany_len]
        · have := hR10 k x hx
          exact elR_stable (fun _ => rfl) stable_tagRep of sub w10 w10 _ _ _ _ x (fun _ _ _ => rfl) (Nat.le_refl _) (fun g hg => hg.imp (fun h => h) (fun h => by have := g4.size; omega)) (fun _ _ => rfl) this
    · intro a10 w10 hn10 hs10 hd10 hv10 m10
      refine hret _ _ (by rw [hrdg]; exact hn10) hs10 hd10 hv10 ?_
      have hg410 : w4.grownBy w10 (some rb) := ⟨m10.os.trans ho8, m10.tape.trans ht8, m10.output.trans hp8, Nat.le_trans hg48.size m10.size, fun k hk hr => (m10.block k (by omega) (fun e => hr (by rw [e])) (by omega)).trans (hold k hk)⟩
      exact Md.of_grown (grownBy_trans g4 hg410) hp.ne _ _
  · refine wp_cond_false (by rw [eval_tmp, s7]; simp [hpos]) (wp_skip ?_)
    refine wp_seq (wp_seq (h0 a7 w4 _ f7.size fun a9 u9 s9 => ?_))
    have f9 := f7.upd u9 (fun t ht => clear_iff k0 t (List.mem_cons_of_mem _ ht))
    obtain ⟨-, hloop⟩ := hl rb S (some bs) 0 a9 w4 f9 r4 he4 hp.rbe (fun g hg => Nat.lt_of_lt_of_le (hp.old g hg) g4.size) s9 (by omega)
    refine hloop r _ (by rw [upd_of u9 d0' dl (by simp)]; exact hl7) (by omega) fun a10 u10 => ?_
    have f10 := f9.upd u10 (fun t ht => clear_iff kl t (List.mem_cons_of_mem _ ht))
    have hsp10 : sl a10 sp = .pointer (some ⟨cb, co, none⟩) := by rw [upd_of u10 kl sp (by simp), upd_of u9 k0 sp (by simp)]; exact hsp7
    have hda10 : sl a10 da = .slice none 0 0 := by rw [upd_of u10 al da (by simp), upd_of u9 a0 da (by simp)]; exact hda7
    refine hend a10 w4 [] (some bs) f10 hsp10 ?_ r4 g4 hrow4 ?_ (by rw [hda10]; rfl) ?_
    · refine (hu7.trans (u9.mono ?_)).trans (u10.mono ?_) <;> (intro t ht; simp only [mem_writes_seq, ht]; simp)
    · rw [hgst]
      have : r.toNat = 0 := by omega
      simp [listR, hok, hr, this, rdMany]
    · intro c hc
      simp only [repF, fieldRep, if_pos, listRep]
      rw [if_neg (by have : ¬ (0 ≤ null) := by omega
                     simp [this])]
      exact ⟨fun _ => rfl, .inl ⟨by have : ¬ (0 ≤ null) := by omega
                                    simp [this], by rw [hc, hda10], rfl⟩⟩

end
end Go.Proofs.YtoklbgdafnminaaGreatDoor
