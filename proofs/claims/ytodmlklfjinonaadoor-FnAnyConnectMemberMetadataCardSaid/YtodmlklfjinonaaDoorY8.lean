/-
  Lists that may be null, structs: read and written. Conditions: none.
-/
import Derived.Test.YtodmlklfjinonaaDoorY5
import Derived.Laws.Pointers
/-
  Lists that may be null, read. Conditions: none.
-/
namespace Go.Proofs.YtodmlklfjinonaaDoor
open Go.RowKit (Below)
open Kz

/-- A list that is made anew where it is empty. -/
def SNew (E : RE) (v : Int) (da dl : Nat) (c : Code) : Prop := 0 ≤ v → ∀ (a : Act) (w : World) (Q : Exit → Act → World → Prop) (l : Int), a.tmps.size = E.N → sl a E.vs = .int .i16 v → sl a dl = .int .i32 l → sl a da = .slice none 0 0 →
  (∀ a' w', Upd a a' (writes c) → w.grownBy w' none → (l ≠ 0 → sl a' da = .slice none 0 0) → (l = 0 → ∃ g m, sl a' da = .slice (some ⟨g, 0, none⟩) 0 m ∧ w.heap.size ≤ g ∧ g < w'.heap.size) → Q .normal a' w') → c.wp Tryd.prog Q a w

section
variable {tags : Rel (List (Nat × List UInt8))} {E : RE} {v : Int} {flex ht : Bool}

/-- 'if version < k || l == 0 { a = []T{} }', k at most 0. -/
theorem snew {i1 i2 t1 t2 t3 t4 t5 t6 t7 da dl T1 T1' T2 T2' TS Te ty1 ty2 ty3 ty4 ty5 ty6 ty7 ty8 : Nat} {k : Int} {p1 p2 p3 p4 p5 p6 p7 p8 : String} {e1 e2 e3 e4 e5 e6 e7 e8 : Array Edge} (hk : decide (k ≤ 0) = true)
    (hn : [t1, t2, t3, t4, t5, t6, t7, da].all (· < E.N) = true) (hd : decide ([E.vs, dl, t1, t2, t3, t4, t5, t6].Nodup) = true) (hda : [t1, t2, t3, t4, t5, t6].contains da = false)
    (hB : ∀ w : World, (Instr.buildSlice TS 0 #[]).run Tryd.prog w = .ok (.slice (some ⟨w.heap.size, 0, none⟩) 0 0) (w.alloc (.cells #[] Te))) :
    SNew E v da dl ((Code.region i1 #[⟨some t1, .move (.tmp E.vs), ty1, p1, e1, none⟩, ⟨some t2, .binOp .lss T1 (.tmp t1) (.const (.int .i16 k)) T1', ty2, p2, e2, none⟩, ⟨some t3, .move (.tmp t2), ty3, p3, e3, none⟩,
      ⟨some t4, .move (.tmp dl), ty4, p4, e4, some (2, false)⟩, ⟨some t5, .binOp .eql T2 (.tmp t4) (.const (.int .i32 0)) T2', ty5, p5, e5, some (2, false)⟩, ⟨some t6, .pick (.tmp t3) (.const (.bool true)) (.tmp t5), ty6, p6, e6, none⟩] false).seq
      (Code.cond (.tmp t6) (Code.region i2 #[⟨some t7, .buildSlice TS 0 #[], ty7, p7, e7, none⟩, ⟨some da, .assign (.tmp t7), ty8, p8, e8, none⟩] false) Code.skip)) := by
  intro hv0 a w Q l hN hvs hl hda0 hq
  have hk' := of_decide_eq_true hk
  simp only [List.all_cons, List.all_nil, Bool.and_true, Bool.and_eq_true, decide_eq_true_eq] at hn
  obtain ⟨n1, n2, n3, n4, n5, n6, n7, n8⟩ := hn
  have hd' := of_decide_eq_true hd
  simp only [List.nodup_cons, List.mem_cons, List.not_mem_nil, or_false, not_or, List.nodup_nil, and_true, not_false_eq_true] at hd'
  obtain ⟨⟨-, x1, x2, x3, -, -, -⟩, ⟨w1, w2, w3, w4, w5, w6⟩, ⟨y2, y3, y4, y5, y6⟩, ⟨z3, z4, z5, z6⟩, ⟨u4, u5, u6⟩, ⟨v5, v6⟩, r6⟩ := hd'
  simp only [List.contains_eq_mem, decide_eq_false_iff_not, List.mem_cons, List.not_mem_nil, or_false, not_or] at hda
  obtain ⟨a1, a2, a3, a4, a5, a6⟩ := hda
  have hneg : ¬ (v < k) := by omega
  refine wp_seq (wp_region_lit (st_move (st_val (v := .bool (decide (v < k))) (w' := w) (exec_bin (u := .int .i16 v) (by rw [eval_tmp, sl_put_self _ _ _ (by omega), eval_tmp, hvs]) (eval_const _ _) (eqGuard_lss ..) (binOp_lss ..)) (st_move ?_))))
  rw [eval_tmp, eval_tmp, sl_put_self _ _ _ (by simp only [put_size]; omega)]
  generalize hA : ((a.put (some t1) (sl a E.vs)).put (some t2) (.bool (decide (v < k)))).put (some t3) (.bool (decide (v < k))) = A
  have hu : Upd a A [t1, t2, t3, t4, t5, t6] := by subst hA; exact (((Upd.refl a _).put t1 _ (by simp)).put t2 _ (by simp)).put t3 _ (by simp)
  have s3 : sl A t3 = .bool false := by subst hA; rw [sl_put_self _ _ _ (by simp only [put_size]; omega)]; simp [hneg]
  have sdl : sl A dl = .int .i32 l := by subst hA; rw [sl_put_other _ _ _ _ (fun e => w3 e.symm), sl_put_other _ _ _ _ (fun e => w2 e.symm), sl_put_other _ _ _ _ (fun e => w1 e.symm), hl]
  have hsz := hu.size
  refine st_want (t := t3) rfl rfl (by omega) (by rw [s3]) (v := .int .i32 l) (w' := w) (by simp only [execOp, Sem.run_pure, eval_tmp, sdl]) ?_
  refine st_want (t := t3) rfl rfl (by rw [put_size]; omega) (by rw [sl_put_other _ _ _ _ (fun e => u4 e.symm), s3]) (v := .bool (l == 0)) (w' := w)
    (exec_bin (u := .int .i32 l) (by rw [eval_tmp, sl_put_self _ _ _ (by omega)]) (eval_const _ _) (eqGuard_at_int ..) (binOp_eql ..)) ?_
  refine st_val (v := .bool (l == 0)) (w' := w) ?_ (wpList_nil ?_)
  · have q3 : ((A.put (some t4) (.int .i32 l)).put (some t5) (.bool (l == 0))).eval (.tmp t3) = .bool false := by
      rw [eval_tmp, sl_put_other _ _ _ _ (fun e => u5 e.symm), sl_put_other _ _ _ _ (fun e => u4 e.symm), s3]
    have q5 : ((A.put (some t4) (.int .i32 l)).put (some t5) (.bool (l == 0))).eval (.tmp t5) = .bool (l == 0) := by rw [eval_tmp, sl_put_self _ _ _ (by rw [put_size]; omega)]
    simp [execOp, q3, q5, asBool]
  generalize hA6 : ((A.put (some t4) (.int .i32 l)).put (some t5) (.bool (l == 0))).put (some t6) (.bool (l == 0)) = A6
  have hu6 : Upd a A6 [t1, t2, t3, t4, t5, t6] := by subst hA6; exact ((hu.put t4 _ (by simp)).put t5 _ (by simp)).put t6 _ (by simp)
  have s6 : sl A6 t6 = .bool (l == 0) := by subst hA6; rw [sl_put_self _ _ _ (by simp only [put_size]; omega)]
  have sda : sl A6 da = .slice none 0 0 := (hu6.same da (by simp; exact ⟨a1, a2, a3, a4, a5, a6⟩)).trans hda0
  have hsz6 := hu6.size
  by_cases h0 : l = 0
  · refine wp_cond_true (by rw [eval_tmp, s6]; simp [h0]) (wp_region_lit (st_val (v := .slice (some ⟨w.heap.size, 0, none⟩) 0 0) (w' := w.alloc (.cells #[] Te)) ?_ (st_assign (wpList_nil (hq _ _ ?_ ?_ (fun h => absurd h0 h) (fun _ => ⟨w.heap.size, 0, ?_, Nat.le_refl _, ?_⟩))))))
    · simp only [execOp, Array.map_empty, Sem.run_bind, hB, Result.andThen_ok, Sem.run_pure]
    · refine ((hu6.mono ?_).put t7 _ (by simp [writes])).put da _ (by simp [writes])
      intro t ht; simp only [List.mem_cons, List.not_mem_nil, or_false] at ht; rcases ht with rfl | rfl | rfl | rfl | rfl | rfl <;> simp [writes]
    · exact ⟨rfl, rfl, rfl, by rw [World.size_alloc]; omega, fun k hk _ => alloc_old _ _ _ hk⟩
    · rw [sl_put_self _ _ _ (by simp only [put_size]; omega), eval_tmp, sl_put_self _ _ _ (by omega)]
    · rw [World.size_alloc]; omega
  · refine wp_cond_false (by rw [eval_tmp, s6]; simp [h0]) (wp_skip (hq _ _ (hu6.mono ?_) (grownBy_refl _ _) (fun _ => sda) (fun h => absurd h h0)))
    intro t ht; simp only [List.mem_cons, List.not_mem_nil, or_false] at ht; rcases ht with rfl | rfl | rfl | rfl | rfl | rfl <;> simp [writes]
/-- A list that may be null. -/
theorem RdV.listN (htg : flex = true → ht = true) (hT : Stable 1 tags) {sp off d0 da dl di tN tP of : Nat} {frm to null tag dflt : Int} {sub : List F} {z : Array Value} {c1 c2 c3 cL cE cN cF c6 cP cA c0 cLoop c9 c10 : Code} (hnull : 0 ≤ null) (hnv : null ≤ v) (hv0 : 0 ≤ v)
    (h1 : SLoad E.N sp off d0 c1) (h2 : SCopy E.N d0 da c2) (h3 : SConst E.N dl (.int .i32 0) c3) (hL : Rv E v flex dl (rdLen flex) (IsInt .i32) cL) (hE : SNew E v da dl cE) (hN : SNotOk E tN cN) (hF : SFail E cF) (h6 : SSlice0 E.N da c6) (hP : SPos E.N dl tP cP)
    (hA : SApp E.N da dl z cA) (h0 : SConst E.N di (.int .i32 0) c0) (hl : SLoop E v flex da di dl (valCells of (cellsP ht sub)) (elG v flex of sub) (elR tags v flex ht of sub) (elIni ht of sub) cLoop) (h9 : SCopy E.N da d0 c9) (h10 : SStore E.N sp off d0 c10)
    (hz : z.size = valCells of (cellsP ht sub)) (hini : elIni ht of sub (fun j => z[j]?))
    (hcl : clear (sp :: E.slots) (c1.seq (c2.seq (c3.seq (cL.seq (cE.seq (cN.seq (c6.seq (cP.seq (cA.seq (c0.seq (cLoop.seq c9))))))))))) = true)
    (hca : clear [da] (c3.seq (cL.seq (cN.seq (cP.seq (c0.seq cLoop))))) = true) (hcd : clear [dl] (cE.seq (cN.seq (c6.seq (cP.seq (cA.seq c0))))) = true) :
    RdV tags E v flex ht sp off (.mk 11 frm to null tag dflt of sub)
      (c1.seq (c2.seq (c3.seq (cL.seq (cE.seq ((cN.seq (Code.cond (.tmp tN) (cF.seq Code.ret) Code.skip)).seq (c6.seq ((cP.seq (Code.cond (.tmp tP) cA Code.skip)).seq ((c0.seq cLoop).seq (c9.seq c10)))))))))) := by
  intro rb S st cb co cells Ty a w hp
  simp only [clear_seq] at hcl hca hcd
  obtain ⟨k1, k2, k3, kL, kE, kN, k6, kP, kA, k0, kl, k9⟩ := hcl
  obtain ⟨a3, aL, aN, aP, a0, al⟩ := hca
  obtain ⟨dE, dN, d6, dP, dA, d0'⟩ := hcd
  have hfit := hp.fit
  simp only [cellsF, fieldCells, valCells] at hfit
  simp at hfit
  have hini0 : cells[co + off]? = some (.slice none 0 0) := by have := hp.ini; simp only [iniF] at this; exact this.1 trivial
  have hcell : ∀ {w' : World}, w'.heap[cb]? = some (.cells cells Ty (0, 0)) → w'.cell? ⟨cb, co + off, none⟩ = some (.slice none 0 0) := fun h => by rw [cell_of_row _ cb _ _ _ _ h]; exact hini0
  refine wp_seq (h1 a w _ cb co _ hp.fr.size hp.ptr (hcell hp.row) fun a1 u1 s1 => ?_)
  refine wp_seq (h2 a1 w _ (u1.size.trans hp.fr.size) fun a2 u2 s2 => ?_)
  refine wp_seq (h3 a2 w _ (u2.size.trans (u1.size.trans hp.fr.size)) fun a3' u3 s3 => ?_)
  have f1 := hp.fr.upd u1 (fun t ht => clear_iff k1 t (List.mem_cons_of_mem _ ht))
  have f2 := f1.upd u2 (fun t ht => clear_iff k2 t (List.mem_cons_of_mem _ ht))
  have f3 := f2.upd u3 (fun t ht => clear_iff k3 t (List.mem_cons_of_mem _ ht))
  have hsp3 : sl a3' sp = .pointer (some ⟨cb, co, none⟩) := by rw [upd_of u3 k3 sp (by simp), upd_of u2 k2 sp (by simp), upd_of u1 k1 sp (by simp)]; exact hp.ptr
  have hda3 : sl a3' da = .slice none 0 0 := by rw [upd_of u3 a3 da (by simp), s2, s1]
  refine wp_seq (wp_mono (hL rb S st a3' w f3 hp.rd hp.err) ?_)
  intro e aL0 wL hq4
  cases e with
  | normal => ?_
  | _ => exact hq4.elim
  obtain ⟨uL, rL, gL, -, hlen⟩ := hq4
  simp only [IsInt] at hlen
  have fL := f3.upd uL (fun t ht => clear_iff kL t (List.mem_cons_of_mem _ ht))
  have hdaL : sl aL0 da = .slice none 0 0 := by rw [upd_of uL aL da (by simp)]; exact hda3
  have heL : ErrOk wL := hp.err.kept gL (fun e => hp.rbe (Option.some.inj e))
  refine wp_seq (hE hv0 aL0 wL _ _ fL.size fL.vs hlen hdaL fun a4 w4 u4 gE hnz hz0 => ?_)
  have f4 := fL.upd u4 (fun t ht => clear_iff kE t (List.mem_cons_of_mem _ ht))
  have hsp4 : sl a4 sp = .pointer (some ⟨cb, co, none⟩) := by rw [upd_of u4 kE sp (by simp), upd_of uL kL sp (by simp)]; exact hsp3
  have g4 : w.grownBy w4 (some rb) := grownBy_trans gL ⟨gE.os, gE.tape, gE.output, gE.size, fun k hk _ => gE.block k hk (by simp)⟩
  have r4 : RdIs w4 S rb (rdLen flex st).2 := rL.kept gE (fun g _ e => by cases e) (fun e => by cases e)
  have he4 : ErrOk w4 := heL.kept gE (fun e => by cases e)
  have hgL := gL.size
  refine wp_seq (wp_seq (hN a4 w4 _ S rb _ f4.size f4.rs r4 fun a5 u5 s5 => ?_))
  have f5 := f4.upd u5 (fun t ht => clear_iff kN t (List.mem_cons_of_mem _ ht))
  have hmd4 : Md w w4 rb cb (co + off) (cellsF ht (.mk 11 frm to null tag dflt of sub)) := Md.of_grown g4 hp.ne _ _
  have hrow4 : w4.heap[cb]? = some (.cells cells Ty (0, 0)) := by rw [g4.block cb (Array.getElem?_eq_some_iff.1 hp.row).1 (fun e => hp.ne (Option.some.inj e))]; exact hp.row
  have hgst : rd v flex (.mk 11 frm to null tag dflt of sub) st = listR true (elG v flex of sub) (rdLen flex st) := by
    simp [rd, fieldR, F.may, hnull, hnv]
    rfl
  cases hok : (rdLen flex st).2 with
  | none =>
    rw [hok] at s5 r4
    refine wp_cond_true (by rw [eval_tmp, s5]; rfl) (wp_seq (hF a5 w4 _ S rb none f5.size f5.rs r4 he4 fun a6 u6 s6 => wp_ret ?_))
    have hv : ∃ t x, sl a6 E.res = .iface t x := by simpa [ErrV] using s6
    refine ⟨?_, u6.size.trans f5.size, u6.defers.trans f5.defers, hv, hmd4⟩
    rw [hgst]
    simp [listR, hok]
  | some bs => ?_
  rw [hok] at s5 r4
  refine wp_cond_false (by rw [eval_tmp, s5]; rfl) (wp_skip ?_)
  have hl5 : sl a5 dl = .int .i32 (rdLen flex st).1 := by rw [upd_of u5 dN dl (by simp), upd_of u4 dE dl (by simp)]; exact hlen
  have hda5 : ∃ p m, sl a5 da = .slice p 0 m ∧ ((rdLen flex st).1 ≠ 0 → p = none ∧ m = 0) ∧ ((rdLen flex st).1 = 0 → ∃ g, p = some ⟨g, 0, none⟩ ∧ w.heap.size ≤ g ∧ g < w4.heap.size) := by
    rw [upd_of u5 aN da (by simp)]
    by_cases hl0 : (rdLen flex st).1 = 0
    · obtain ⟨g, m, h1, h2, h3⟩ := hz0 hl0
      exact ⟨_, m, h1, fun h => absurd hl0 h, fun _ => ⟨g, rfl, by omega, h3⟩⟩
    · exact ⟨_, _, hnz hl0, fun _ => ⟨rfl, rfl⟩, fun h => absurd h hl0⟩
  obtain ⟨pN, mN, hda5, hpn, hpz⟩ := hda5
  refine wp_seq (h6 a5 w4 _ _ _ _ f5.size hda5 fun a6 u6 s6 => ?_)
  have f6 := f5.upd u6 (fun t ht => clear_iff k6 t (List.mem_cons_of_mem _ ht))
  have hl6 : sl a6 dl = .int .i32 (rdLen flex st).1 := by rw [upd_of u6 d6 dl (by simp)]; exact hl5
  refine wp_seq (wp_seq (hP a6 w4 _ _ f6.size hl6 fun a7 u7 s7 => ?_))
  have f7 := f6.upd u7 (fun t ht => clear_iff kP t (List.mem_cons_of_mem _ ht))
  have hl7 : sl a7 dl = .int .i32 (rdLen flex st).1 := by rw [upd_of u7 dP dl (by simp)]; exact hl6
  have hda7 : sl a7 da = .slice pN 0 mN := by rw [upd_of u7 aP da (by simp)]; exact s6
  have hsp7 : sl a7 sp = .pointer (some ⟨cb, co, none⟩) := by rw [upd_of u7 kP sp (by simp), upd_of u6 k6 sp (by simp), upd_of u5 kN sp (by simp)]; exact hsp4
  have hlt := rdLen_le flex st
  generalize hr : (rdLen flex st).1 = r at *
  -- what holds behind the list's loop
  have hend : ∀ (a8 : Act) (w8 : World) (ts : T) (st' : St), Fr E rb v flex a8 → sl a8 sp = .pointer (some ⟨cb, co, none⟩) → Upd a a8 (writes (c1.seq (c2.seq (c3.seq (cL.seq (cE.seq ((cN.seq (Code.cond (.tmp tN) (cF.seq Code.ret) Code.skip)).seq (c6.seq ((cP.seq (Code.cond (.tmp tP) cA Code.skip)).seq ((c0.seq cLoop).seq (c9.seq c10))))))))))) →
      RdIs w8 S rb st' → w.grownBy w8 (some rb) → w8.heap[cb]? = some (.cells cells Ty (0, 0)) → rd v flex (.mk 11 frm to null tag dflt of sub) st = (ts, st') → (sl a8 da).oneCell' = true →
      (∀ c : Cells, c 0 = some (sl a8 da) → repF tags v flex ht (.mk 11 frm to null tag dflt of sub) w8 (fun g => S g ∨ w.heap.size ≤ g) c ts) →
      (c9.seq c10).wp Tryd.prog (Post E off (cellsF ht (.mk 11 frm to null tag dflt of sub)) (writes (c1.seq (c2.seq (c3.seq (cL.seq (cE.seq ((cN.seq (Code.cond (.tmp tN) (cF.seq Code.ret) Code.skip)).seq (c6.seq ((cP.seq (Code.cond (.tmp tP) cA Code.skip)).seq ((c0.seq cLoop).seq (c9.seq c10))))))))))) (rd v flex (.mk 11 frm to null tag dflt of sub)) (repF tags v flex ht (.mk 11 frm to null tag dflt of sub)) rb S st cb co Ty a w) a8 w8 := by
    intro a8 w8 ts st' f8 hsp8 hu8 r8 g8 hrow8 hrd8 hone hrep
    refine wp_seq (h9 a8 w8 _ f8.size fun a9 u9 s9 => ?_)
    have f9 := f8.upd u9 (fun t ht => clear_iff k9 t (List.mem_cons_of_mem _ ht))
    have hc0 : (co + off) < cells.size := by omega
    refine h10 a9 w8 _ cb co _ f9.size (by rw [upd_of u9 k9 sp (by simp)]; exact hsp8) (by rw [s9]; exact hone) (hcell hrow8) (by simp [World.frozen?, hrow8]) fun a10 u10 => ?_
    have hmd : Md w8 (w8.setCell ⟨cb, co + off, none⟩ (sl a9 d0)) rb cb (co + off) (cellsF ht (.mk 11 frm to null tag dflt of sub)) := Md.of_set _ (by simp [cellsF, fieldCells, valCells])
    refine ⟨(hu8.trans (u9.mono ?_)).trans (u10.mono ?_), ?_, (Md.of_grown g8 hp.ne (co + off) (cellsF ht (.mk 11 frm to null tag dflt of sub))).trans hmd (by omega) (by omega), cells.setIfInBounds (co + off) (sl a9 d0), heap_setCell_row hrow8, ?_⟩
    · intro t ht; simp only [mem_writes_seq, ht]; simp
    · intro t ht; simp only [mem_writes_seq, ht]; simp
    · rw [hrd8]
      exact r8.kept (row := some cb) ⟨rfl, rfl, rfl, by simp [World.setCell], fun k _ hk => Below.heap_setCell _ _ _ _ (fun e => hk (by rw [e]))⟩ (fun g hg e => hp.src (by rw [← Option.some.inj e]; exact hg)) (fun e => hp.ne (Option.some.inj e).symm)
    · rw [hrd8]
      refine stable_repF htg hT (.mk 11 frm to null tag dflt of sub) w8 _ _ _ (fun j => (cells.setIfInBounds (co + off) (sl a9 d0))[co + off + j]?) _ _ (fun g hg hlt => ?_) (by simp [World.setCell]) (fun g hg => hg) (fun j hj => rfl) (hrep _ ?_)
      · refine Below.heap_setCell _ _ _ _ ?_
        rintro rfl
        rcases hg with hg | hg
        · exact hp.src hg
        · have := (Array.getElem?_eq_some_iff.1 hp.row).1; omega
      · rw [← s9]; simp [hc0]
  have hu7 : Upd a a7 (writes (c1.seq (c2.seq (c3.seq (cL.seq (cE.seq ((cN.seq (Code.cond (.tmp tN) (cF.seq Code.ret) Code.skip)).seq (c6.seq ((cP.seq (Code.cond (.tmp tP) cA Code.skip)).seq ((c0.seq cLoop).seq (c9.seq c10))))))))))) := by
    refine (((((((u1.mono ?_).trans (u2.mono ?_)).trans (u3.mono ?_)).trans (uL.mono ?_)).trans (u4.mono ?_)).trans (u5.mono ?_)).trans (u6.mono ?_)).trans (u7.mono ?_) <;> (intro t ht; simp only [mem_writes_seq, ht]; simp)
  by_cases hpos : 0 < r
  · refine wp_cond_true (by rw [eval_tmp, s7]; simp [hpos]) ?_
    obtain ⟨n, rfl⟩ : ∃ n : Nat, r = n := ⟨r.toNat, by omega⟩
    obtain ⟨rfl, rfl⟩ := hpn (by omega)
    refine hA a7 w4 _ n f7.size hda7 hl7 (by omega) (by omega) fun a8 w8 m arr Te u8 s8 hh8 ho8 ht8 hp8 hsz8 hat8 => ?_
    have f8 := f7.upd u8 (fun t ht => clear_iff kA t (List.mem_cons_of_mem _ ht))
    have hl8 : sl a8 dl = .int .i32 (n : Int) := by rw [upd_of u8 dA dl (by simp)]; exact hl7
    have hG8 : w8.heap[w4.heap.size]? = some (.cells arr Te (0, 0)) := by rw [hh8]; simp
    have hold : ∀ k, k < w4.heap.size → w8.heap[k]? = w4.heap[k]? := fun k hk => by rw [hh8, Array.getElem?_push]; simp; omega
    have hsz84 : w8.heap.size = w4.heap.size + 1 := by rw [hh8]; simp
    have hg48 : w4.grownBy w8 (some rb) := ⟨ho8, ht8, hp8, by omega, fun k hk _ => hold k hk⟩
    have r8 : RdIs w8 S rb (some bs) := r4.kept (row := none) ⟨ho8, ht8, hp8, by omega, fun k hk _ => hold k hk⟩ (fun g _ e => by cases e) (fun e => by cases e)
    have he8 : ErrOk w8 := he4.kept (row := none) ⟨ho8, ht8, hp8, by omega, fun k hk _ => hold k hk⟩ (fun e => by cases e)
    refine wp_seq (wp_seq (h0 a8 w8 _ f8.size fun a9 u9 s9 => ?_))
    have f9 := f8.upd u9 (fun t ht => clear_iff k0 t (List.mem_cons_of_mem _ ht))
    have hold8 : ∀ g, S g → g < w4.heap.size := fun g hg => Nat.lt_of_lt_of_le (hp.old g hg) g4.size
    obtain ⟨hloop, -⟩ := hl rb S (some bs) n a9 w8 f9 r8 he8 hp.rbe (fun g hg => by have := hold8 g hg; omega) s9 (by omega)
    have hne4 : w4.heap.size ≠ 1 := by
      obtain ⟨t, x, hx⟩ := he4
      have : 1 < w4.heap.size := World.block_lt_of_cell? w4 _ hx
      omega
    have hcb : cb < w4.heap.size := (Array.getElem?_eq_some_iff.1 hrow4).1
    have hrdg : rd v flex (.mk 11 frm to null tag dflt of sub) st = (Tl (rdMany (elG v flex of sub) n (some bs)).1, (rdMany (elG v flex of sub) n (some bs)).2) := by
      rw [hgst]
      simp only [listR, hok, hr, Int.toNat_natCast]
      rw [if_neg (by simp), if_neg (by omega)]
    refine hloop w4.heap.size 0 m arr Te _ (by rw [upd_of u9 d0' dl (by simp)]; exact hl8) hne4 ?_ ?_ (by rw [upd_of u9 a0 da (by simp)]; exact s8) hG8 (by rw [← hz]; omega) ?_ ?_ ?_
    · exact fun e => absurd r4.lt (by omega)
    · exact fun hS => absurd (hold8 _ hS) (by omega)
    · intro i hi
      refine elIni_loc ht of sub _ _ (fun j hj => ?_) hini
      rw [← hz] at hj ⊢
      rw [Nat.zero_add]
      exact hat8 i j hi hj
    · intro a10 w10 u10 r10 m10 hR10
      have f10 := f9.upd u10 (fun t ht => clear_iff kl t (List.mem_cons_of_mem _ ht))
      have hsp10 : sl a10 sp = .pointer (some ⟨cb, co, none⟩) := by rw [upd_of u10 kl sp (by simp), upd_of u9 k0 sp (by simp), upd_of u8 kA sp (by simp)]; exact hsp7
      have hda10 : sl a10 da = .slice (some ⟨w4.heap.size, 0, none⟩) n m := by rw [upd_of u10 al da (by simp), upd_of u9 a0 da (by simp)]; exact s8
      have hg410 : w4.grownBy w10 (some rb) := ⟨m10.os.trans ho8, m10.tape.trans ht8, m10.output.trans hp8, Nat.le_trans hg48.size m10.size, fun k hk hr => (m10.block k (by omega) (fun e => hr (by rw [e])) (by omega)).trans (hold k hk)⟩
      refine hend a10 w10 _ _ f10 hsp10 ?_ r10 (grownBy_trans g4 hg410) ?_ hrdg (by rw [hda10]; rfl) ?_
      · refine ((hu7.trans (u8.mono ?_)).trans (u9.mono ?_)).trans (u10.mono ?_) <;> (intro t ht; simp only [mem_writes_seq, writes_cond, List.mem_append, ht]; simp)
      · rw [hg410.block cb hcb (fun e => hp.ne (Option.some.inj e))]; exact hrow4
      · intro c hc
        simp only [repF, fieldRep, if_pos, listRep]
        rw [if_neg (by simp [Tl])]
        refine ⟨fun _ => rfl, .inr ⟨w4.heap.size, 0, m, ?_, .inr g4.size, by have := m10.size; omega, fun k x hx => ?_⟩⟩
        · rw [hc, hda10]; simp [Tl, rdMany_len]
        · have := hR10 k x hx
          exact elR_stable htg hT of sub w10 w10 _ _ _ _ x (fun _ _ _ => rfl) (Nat.le_refl _) (fun g hg => hg.imp (fun h => h) (fun h => by have := g4.size; omega)) (fun _ _ => rfl) this
    · intro a10 w10 hn10 hs10 hd10 hv10 m10
      refine ⟨by rw [hrdg]; exact hn10, hs10, hd10, hv10, ?_⟩
      have hg410 : w4.grownBy w10 (some rb) := ⟨m10.os.trans ho8, m10.tape.trans ht8, m10.output.trans hp8, Nat.le_trans hg48.size m10.size, fun k hk hr => (m10.block k (by omega) (fun e => hr (by rw [e])) (by omega)).trans (hold k hk)⟩
      exact Md.of_grown (grownBy_trans g4 hg410) hp.ne _ _
  · refine wp_cond_false (by rw [eval_tmp, s7]; simp [hpos]) (wp_skip ?_)
    refine wp_seq (wp_seq (h0 a7 w4 _ f7.size fun a9 u9 s9 => ?_))
    have f9 := f7.upd u9 (fun t ht => clear_iff k0 t (List.mem_cons_of_mem _ ht))
    obtain ⟨-, hloop⟩ := hl rb S (some bs) 0 a9 w4 f9 r4 he4 hp.rbe (fun g hg => Nat.lt_of_lt_of_le (hp.old g hg) g4.size) s9 (by omega)
    refine hloop r _ (by rw [upd_of u9 d0' dl (by simp)]; exact hl7) (by omega) fun a10 u10 => ?_
    have f10 := f9.upd u10 (fun t ht => clear_iff kl t (List.mem_cons_of_mem _ ht))
    have hsp10 : sl a10 sp = .pointer (some ⟨cb, co, none⟩) := by rw [upd_of u10 kl sp (by simp), upd_of u9 k0 sp (by simp)]; exact hsp7
    have hda10 : sl a10 da = .slice pN 0 mN := by rw [upd_of u10 al da (by simp), upd_of u9 a0 da (by simp)]; exact hda7
    refine hend a10 w4 (if r < 0 then Tnull else Tl []) (some bs) f10 hsp10 ?_ r4 g4 hrow4 ?_ (by rw [hda10]; rfl) ?_
    · refine (hu7.trans (u9.mono ?_)).trans (u10.mono ?_) <;> (intro t ht; simp only [mem_writes_seq, ht]; simp)
    · rw [hgst]
      have : r.toNat = 0 := by omega
      by_cases hneg : r < 0 <;> simp [listR, hok, hr, this, rdMany, hneg]
    · intro c hc
      simp only [repF, fieldRep, if_pos, listRep]
      by_cases hneg : r < 0
      · obtain ⟨rfl, rfl⟩ := hpn (by omega)
        rw [if_pos hneg, if_pos ⟨by simp [hnull], rfl⟩]
        exact ⟨by rw [hc, hda10], rfl⟩
      · obtain ⟨g, rfl, hg1, hg2⟩ := hpz (by omega)
        rw [if_neg hneg, if_neg (by simp [Tl])]
        refine ⟨fun _ => rfl, .inr ⟨g, 0, mN, by rw [hc, hda10]; rfl, .inr hg1, hg2, fun i x hx => by simp [Tl] at hx⟩⟩
end
end Go.Proofs.YtodmlklfjinonaaDoor
/-
  Structs, read: those that may be null, those that lie in the struct itself. Conditions: none.
-/
namespace Go.Proofs.YtodmlklfjinonaaDoor
open Go.RowKit (Below)
open Kz

/-- A new struct: its pointer is put into a field. -/
def SNewAt (N sp off : Nat) (z : Array Value) (c : Code) : Prop := ∀ (a : Act) (w : World) (Q : Exit → Act → World → Prop) (b o : Nat) (u : Value), a.tmps.size = N → sl a sp = .pointer (some ⟨b, o, none⟩) → w.cell? ⟨b, o + off, none⟩ = some u →
  w.frozen? ⟨b, o + off, none⟩ = false → (∀ a' Ty, Upd a a' (writes c) → Q .normal a' ((w.alloc (.cells z Ty)).setCell ⟨b, o + off, none⟩ (.pointer (some ⟨w.heap.size, 0, none⟩)))) → c.wp Tryd.prog Q a w
/-- Is a struct there? -/
def SPres (E : RE) (dp t : Nat) (c : Code) : Prop := ∀ (a : Act) (w : World) (Q : Exit → Act → World → Prop) (S : Nat → Prop) (rb : Nat) (st : St) (p : Int), a.tmps.size = E.N → sl a E.rs = .pointer (some ⟨rb, 0, none⟩) → RdIs w S rb st → sl a dp = .int .i8 p →
  (∀ a', Upd a a' (writes c) → sl a' t = .bool (decide (p ≠ -1) && st.isSome) → Q .normal a' w) → c.wp Tryd.prog Q a w
/-- 'v := &s.F'. -/
def SAddr (N sp off d : Nat) (c : Code) : Prop := ∀ (a : Act) (w : World) (Q : Exit → Act → World → Prop) (b o : Nat), a.tmps.size = N → sl a sp = .pointer (some ⟨b, o, none⟩) →
  (∀ a', Upd a a' (writes c) → sl a' d = .pointer (some ⟨b, o + off, none⟩) → Q .normal a' w) → c.wp Tryd.prog Q a w

section
variable {tags : Rel (List (Nat × List UInt8))} {E : RE} {v : Int} {flex ht : Bool}

theorem rd_structN {frm to null tag dflt : Int} {of : Nat} {sub : List F} (hnull : 0 ≤ null) (st : St) : rd v flex (.mk 10 frm to null tag dflt of sub) st = if (rdI 1 st).1 ≠ -1 ∧ (rdI 1 st).2.isSome then rdPart v flex sub (rdI 1 st).2 else (Tnull, (rdI 1 st).2) := by
  simp [rd, fieldR, hnull, rdPart]
theorem rd_structV {frm to null tag dflt : Int} {of : Nat} {sub : List F} (hnull : null < 0) : rd v flex (.mk 10 frm to null tag dflt of sub) = rdPart v flex sub := by
  funext st
  have : ¬ (0 ≤ null) := by omega
  simp [rd, fieldR, this, rdPart, valR]
theorem repF_structN {frm to null tag dflt : Int} {of : Nat} {sub : List F} (hnull : 0 ≤ null) (w : World) (K : Nat → Prop) (c : Cells) (t : T) : repF tags v flex ht (.mk 10 frm to null tag dflt of sub) w K c t =
    (if t.null then c 0 = some (.pointer none) else ∃ g o, c 0 = some (.pointer (some ⟨g, o, none⟩)) ∧ K g ∧ g < w.heap.size ∧ repP tags v flex ht sub w K (fun j => w.cell? ⟨g, o + j, none⟩) t) := by
  simp [repF, fieldRep, valRep, hnull, repP]
theorem repF_structV {frm to null tag dflt : Int} {of : Nat} {sub : List F} (hnull : null < 0) : repF tags v flex ht (.mk 10 frm to null tag dflt of sub) = repP tags v flex ht sub := by
  funext w K c t
  have : ¬ (0 ≤ null) := by omega
  simp [repF, fieldRep, valRep, this, repP]

theorem rdPart_null (fs : List F) (st : St) : (rdPart v flex fs st).1.null = false := by
  simp only [rdPart, asmR]
  split <;> rfl

/-- A struct that may be null. -/
theorem RdV.structN (htg : flex = true → ht = true) (hT : Stable 1 tags) {sp off dp tP dn s : Nat} {frm to null tag dflt : Int} {of : Nat} {sub : List F} {z : Array Value} {cP cT cN cL cD cS c : Code} (hnull : 0 ≤ null)
    (hP : Rv E v flex dp (rdI 1) (IsInt .i8) cP) (hQ : SPres E dp tP cT) (hN : SNewAt E.N sp off z cN) (hL : SLoad E.N sp off dn cL) (hD : SDefault E.N dn (cellsP ht sub) (iniFs ht sub) cD) (hS : SCopy E.N dn s cS) (h : RdP tags E v flex ht s 0 sub c)
    (hz : z.size = cellsP ht sub) (hini : iniFs ht sub (fun j => z[j]?))
    (hcl : clear (sp :: E.slots) (cP.seq (cT.seq (cN.seq (cL.seq (cD.seq cS))))) = true) (hdn : clear [dn] cD = true) :
    RdV tags E v flex ht sp off (.mk 10 frm to null tag dflt of sub) (cP.seq (cT.seq (Code.cond (.tmp tP) (cN.seq (cL.seq (cD.seq (cS.seq c)))) Code.skip))) := by
  intro rb S st cb co cells Ty a w hp
  simp only [clear_seq] at hcl
  obtain ⟨kP, kT, kN, kL, kD, kS⟩ := hcl
  have hone : cellsF ht (.mk 10 frm to null tag dflt of sub) = 1 := by simp [cellsF, fieldCells, hnull]
  have hfit := hp.fit
  rw [hone] at hfit
  have hini0 : cells[co + off]? = some (.pointer none) := by have := hp.ini; simp only [iniF] at this; exact this.2.2 ⟨trivial, hnull⟩
  have hcb : cb < w.heap.size := (Array.getElem?_eq_some_iff.1 hp.row).1
  refine wp_seq (wp_mono (hP rb S st a w hp.fr hp.rd hp.err) ?_)
  intro e a1 w1 hq1
  cases e with
  | normal => ?_
  | _ => exact hq1.elim
  obtain ⟨u1, r1, g1, -, hlen⟩ := hq1
  simp only [IsInt] at hlen
  have f1 := hp.fr.upd u1 (fun t ht => clear_iff kP t (List.mem_cons_of_mem _ ht))
  have hsp1 : sl a1 sp = .pointer (some ⟨cb, co, none⟩) := by rw [upd_of u1 kP sp (by simp)]; exact hp.ptr
  have he1 : ErrOk w1 := hp.err.kept g1 (fun e => hp.rbe (Option.some.inj e))
  have hrow1 : w1.heap[cb]? = some (.cells cells Ty (0, 0)) := by rw [g1.block cb hcb (fun e => hp.ne (Option.some.inj e))]; exact hp.row
  have hmd1 : Md w w1 rb cb (co + off) 1 := Md.of_grown g1 hp.ne _ _
  refine wp_seq (hQ a1 w1 _ S rb _ _ f1.size f1.rs r1 hlen fun a2 u2 s2 => ?_)
  have f2 := f1.upd u2 (fun t ht => clear_iff kT t (List.mem_cons_of_mem _ ht))
  have hsp2 : sl a2 sp = .pointer (some ⟨cb, co, none⟩) := by rw [upd_of u2 kT sp (by simp)]; exact hsp1
  have hw2 : Upd a a2 (writes (cP.seq (cT.seq (Code.cond (.tmp tP) (cN.seq (cL.seq (cD.seq (cS.seq c)))) Code.skip)))) := by
    refine (u1.mono ?_).trans (u2.mono ?_) <;> (intro t ht; simp only [mem_writes_seq, ht]; simp)
  by_cases hpr : (rdI 1 st).1 ≠ -1 ∧ (rdI 1 st).2.isSome = true
  · refine wp_cond_true (by rw [eval_tmp, s2]; simp [hpr.1, hpr.2]) ?_
    have hrdg : rd v flex (.mk 10 frm to null tag dflt of sub) st = rdPart v flex sub (rdI 1 st).2 := by rw [rd_structN hnull, if_pos hpr]
    have hcell1 : w1.cell? ⟨cb, co + off, none⟩ = some (.pointer none) := by rw [cell_of_row w1 cb _ _ _ _ hrow1]; exact hini0
    refine wp_seq (hN a2 w1 _ cb co _ f2.size hsp2 hcell1 (by simp [World.frozen?, hrow1]) fun a3 Tn u3 => ?_)
    have f3 := f2.upd u3 (fun t ht => clear_iff kN t (List.mem_cons_of_mem _ ht))
    have hsp3 : sl a3 sp = .pointer (some ⟨cb, co, none⟩) := by rw [upd_of u3 kN sp (by simp)]; exact hsp2
    have hcb1 : cb < w1.heap.size := Nat.lt_of_lt_of_le hcb g1.size
    generalize hw3 : (w1.alloc (.cells z Tn)).setCell ⟨cb, co + off, none⟩ (.pointer (some ⟨w1.heap.size, 0, none⟩)) = w3
    have hsz3 : w3.heap.size = w1.heap.size + 1 := by subst hw3; exact size_newSet _ _ _ _
    have hnew3 : w3.heap[w1.heap.size]? = some (.cells z Tn (0, 0)) := by
      subst hw3
      rw [Below.heap_setCell _ _ _ _ (by show w1.heap.size ≠ cb; omega)]
      exact alloc_new w1 _
    have hrow3 : w3.heap[cb]? = some (.cells (cells.setIfInBounds (co + off) (.pointer (some ⟨w1.heap.size, 0, none⟩))) Ty (0, 0)) := by
      subst hw3
      exact heap_setCell_row (by rw [alloc_old _ _ _ hcb1]; exact hrow1)
    have g3 : w1.grownBy w3 (some cb) := by
      subst hw3
      refine ⟨rfl, rfl, rfl, by rw [size_newSet]; omega, fun k hk hr => ?_⟩
      rw [Below.heap_setCell _ _ _ _ (fun e => hr (by rw [e])), alloc_old _ _ _ hk]
    have hcs : co + off < cells.size := by omega
    have hcell3 : w3.cell? ⟨cb, co + off, none⟩ = some (.pointer (some ⟨w1.heap.size, 0, none⟩)) := by rw [cell_of_row w3 cb _ _ _ _ hrow3]; simp [hcs]
    clear hw3
    refine wp_seq (hL a3 w3 _ cb co _ f3.size hsp3 hcell3 fun a4 u4 s4 => ?_)
    have f4 := f3.upd u4 (fun t ht => clear_iff kL t (List.mem_cons_of_mem _ ht))
    refine wp_seq (hD a4 w3 _ w1.heap.size 0 z Tn f4.size s4 hnew3 (by omega) (by simpa using hini) fun a5 w5 cells5 u5 g5 row5 sz5 same5 ini5 => ?_)
    have f5 := f4.upd u5 (fun t ht => clear_iff kD t (List.mem_cons_of_mem _ ht))
    refine wp_seq (hS a5 w5 _ f5.size fun a6 u6 s6 => ?_)
    have f6 := f5.upd u6 (fun t ht => clear_iff kS t (List.mem_cons_of_mem _ ht))
    have r3 : RdIs w3 S rb (rdI 1 st).2 := r1.kept g3 (fun g hg e => hp.src (by rw [← Option.some.inj e]; exact hg)) (fun e => hp.ne (Option.some.inj e).symm)
    have hrlt := r1.lt
    have hold1 : ∀ g, S g → g < w1.heap.size := fun g hg => Nat.lt_of_lt_of_le (hp.old g hg) g1.size
    have r5 : RdIs w5 S rb (rdI 1 st).2 := r3.kept g5 (fun g hg e => by have := hold1 g hg; have := Option.some.inj e; omega) (fun e => by have := Option.some.inj e; omega)
    have he3 : ErrOk w3 := he1.kept g3 (fun e => hp.cbe (Option.some.inj e))
    have hne1 : w1.heap.size ≠ 1 := by
      obtain ⟨t, x, hx⟩ := he1
      have : 1 < w1.heap.size := World.block_lt_of_cell? w1 _ hx
      omega
    have he5 : ErrOk w5 := he3.kept g5 (fun e => hne1 (Option.some.inj e))
    have hu6 : Upd a a6 (writes (cP.seq (cT.seq (Code.cond (.tmp tP) (cN.seq (cL.seq (cD.seq (cS.seq c)))) Code.skip)))) := by
      refine (((hw2.trans (u3.mono ?_)).trans (u4.mono ?_)).trans (u5.mono ?_)).trans (u6.mono ?_) <;> (intro t ht; simp only [mem_writes_seq, writes_cond, List.mem_append, ht]; simp)
    -- the world since the field's pointer was laid
    have hmd : ∀ {w7 : World}, Md w5 w7 rb w1.heap.size (0 + 0) (cellsP ht sub) → Md w w7 rb cb (co + off) 1 ∧ w7.heap[cb]? = w3.heap[cb]? := by
      intro w7 m7
      have hb7 : ∀ k, k < w1.heap.size → k ≠ rb → w7.heap[k]? = w3.heap[k]? := fun k hk hkr => by
        rw [m7.block k (by have := g5.size; omega) hkr (by omega), g5.block k (by omega) (fun e => by have := Option.some.inj e; omega)]
      have e := hb7 cb hcb1 hp.ne
      refine ⟨⟨m7.os.trans (g5.os.trans (g3.os.trans g1.os)), m7.tape.trans (g5.tape.trans (g3.tape.trans g1.tape)), m7.output.trans (g5.output.trans (g3.output.trans g1.output)), by have := m7.size; have := g5.size; have := g1.size; omega, fun k hk hkr hkc => ?_, fun cs T hw => ?_⟩, e⟩
      · have hk1 : k < w1.heap.size := Nat.lt_of_lt_of_le hk g1.size
        rw [hb7 k hk1 hkr, g3.block k hk1 (fun e => hkc (Option.some.inj e)), g1.block k hk (fun e => hkr (Option.some.inj e))]
      · rw [hp.row] at hw
        cases hw
        exact ⟨_, e.trans hrow3, by simp, fun i hi => by rw [Array.getElem?_setIfInBounds_ne (by omega)]⟩
    refine wp_mono (h rb S (rdI 1 st).2 w1.heap.size 0 cells5 Tn a6 w5 { fr := f6, ptr := ?_, rd := r5, err := he5, rbe := hp.rbe, cbe := hne1, ne := by omega, src := fun hS => absurd (hold1 _ hS) (by omega), old := fun g hg => by have := hold1 g hg; have := g5.size; omega, row := row5, fit := by rw [sz5, hz]; omega, ini := by simpa using ini5 }) ?_
    · rw [s6, upd_of u5 hdn dn (by simp), s4]
    · intro e a7 w7 hq
      cases e with
      | normal =>
        obtain ⟨u7, r7, m7, cells7, row7, rep7⟩ := hq
        obtain ⟨md, e7⟩ := hmd m7
        rw [hrow3] at e7
        refine ⟨hu6.trans (u7.mono ?_), by rw [hrdg]; exact r7, by rw [hone]; exact md, _, e7, ?_⟩
        · intro t ht; simp only [mem_writes_seq, writes_cond, List.mem_append, ht]; simp
        · rw [hrdg, repF_structN hnull, rdPart_null, if_neg (by simp)]
          refine ⟨w1.heap.size, 0, by simp [hcs], .inr g1.size, by have := m7.size; have := g5.size; omega, ?_⟩
          refine stable_repP htg hT sub w7 w7 _ _ _ _ _ (fun _ _ _ => rfl) (Nat.le_refl _) (fun g hg => hg.imp (fun h => h) (fun h => by have := g5.size; have := g1.size; omega)) (fun j _ => ?_) rep7
          rw [cell_of_row w7 _ _ _ _ _ row7]
      | ret =>
        obtain ⟨n7, s7, d7, v7, m7⟩ := hq
        exact ⟨by rw [hrdg]; exact n7, s7, d7, v7, by rw [hone]; exact (hmd m7).1⟩
      | exit id => exact hq
      | goto l => exact hq
      | panic ch => exact hq
      | outgrown => exact hq
  · refine wp_cond_false (by
      have e : (decide ((rdI 1 st).1 ≠ -1) && (rdI 1 st).2.isSome) = false := by
        rw [Bool.eq_false_iff]; intro h; rw [Bool.and_eq_true, decide_eq_true_eq] at h; exact hpr h
      rw [eval_tmp, s2, e]) (wp_skip ?_)
    have hrdg : rd v flex (.mk 10 frm to null tag dflt of sub) st = (Tnull, (rdI 1 st).2) := by rw [rd_structN hnull, if_neg hpr]
    refine ⟨hw2, by rw [hrdg]; exact r1, by rw [hone]; exact hmd1, cells, hrow1, ?_⟩
    rw [hrdg, repF_structN hnull]
    exact hini0

/-- A struct that lies in the struct itself. -/
theorem RdV.structV (htg : flex = true → ht = true) (hT : Stable 1 tags) {sp off dn s : Nat} {frm to null tag dflt : Int} {of : Nat} {sub : List F} {cA cD cS c : Code} (hnull : null < 0)
    (hA : SAddr E.N sp off dn cA) (hD : SDefault E.N dn (cellsP ht sub) (iniFs ht sub) cD) (hS : SCopy E.N dn s cS) (h : RdP tags E v flex ht s 0 sub c)
    (hcl : clear (sp :: E.slots) (cA.seq (cD.seq cS)) = true) (hdn : clear [dn] cD = true) :
    RdV tags E v flex ht sp off (.mk 10 frm to null tag dflt of sub) (cA.seq (cD.seq (cS.seq c))) := by
  intro rb S st cb co cells Ty a w hp
  simp only [clear_seq] at hcl
  obtain ⟨kA, kD, kS⟩ := hcl
  have hn0 : ¬ (0 ≤ null) := by omega
  have hone : cellsF ht (.mk 10 frm to null tag dflt of sub) = cellsP ht sub := by simp [cellsF, fieldCells, valCells, hn0, cellsP]
  have hfit := hp.fit
  rw [hone] at hfit
  have hini0 : iniFs ht sub (fun j => cells[co + off + j]?) := by have := hp.ini; simp only [iniF] at this; exact this.2.1 ⟨trivial, hnull⟩
  refine wp_seq (hA a w _ cb co hp.fr.size hp.ptr fun a1 u1 s1 => ?_)
  have f1 := hp.fr.upd u1 (fun t ht => clear_iff kA t (List.mem_cons_of_mem _ ht))
  refine wp_seq (hD a1 w _ cb (co + off) cells Ty f1.size s1 hp.row (by omega) hini0 fun a2 w2 cells2 u2 g2 row2 sz2 same2 ini2 => ?_)
  have f2 := f1.upd u2 (fun t ht => clear_iff kD t (List.mem_cons_of_mem _ ht))
  refine wp_seq (hS a2 w2 _ f2.size fun a3 u3 s3 => ?_)
  have f3 := f2.upd u3 (fun t ht => clear_iff kS t (List.mem_cons_of_mem _ ht))
  have hrd2 : RdIs w2 S rb st := hp.rd.kept g2 (fun g hg e => hp.src (by rw [← Option.some.inj e]; exact hg)) (fun e => hp.ne (Option.some.inj e).symm)
  have her2 : ErrOk w2 := hp.err.kept g2 (fun e => hp.cbe (Option.some.inj e))
  have hmd2 : Md w w2 rb cb (co + off) (cellsP ht sub) := ⟨g2.os, g2.tape, g2.output, g2.size, fun k hk _ hc => g2.block k hk (fun e => hc (Option.some.inj e)), fun cs T hw => by
    rw [hp.row] at hw
    cases hw
    exact ⟨cells2, row2, sz2, same2⟩⟩
  have hrdg := rd_structV (v := v) (flex := flex) (frm := frm) (to := to) (tag := tag) (dflt := dflt) (of := of) (sub := sub) hnull
  have hrep := repF_structV (tags := tags) (v := v) (flex := flex) (ht := ht) (frm := frm) (to := to) (tag := tag) (dflt := dflt) (of := of) (sub := sub) hnull
  refine wp_mono (h rb S st cb (co + off) cells2 Ty a3 w2 { fr := f3, ptr := ?_, rd := hrd2, err := her2, rbe := hp.rbe, cbe := hp.cbe, ne := hp.ne, src := hp.src, old := fun g hg => Nat.lt_of_lt_of_le (hp.old g hg) g2.size, row := row2, fit := by omega, ini := by simpa using ini2 }) ?_
  · rw [s3, upd_of u2 hdn dn (by simp), s1]
  · intro e a4 w4 hq
    cases e with
    | normal =>
      obtain ⟨u4, r4, m4, cells4, row4, rep4⟩ := hq
      rw [Nat.add_zero] at m4 rep4
      refine ⟨((u1.mono ?_).trans (u2.mono ?_)).trans ((u3.mono ?_).trans (u4.mono ?_)), by rw [hrdg]; exact r4, by rw [hone]; exact hmd2.trans m4 (by omega) (by omega), cells4, row4, ?_⟩
      · intro t ht; simp only [mem_writes_seq, ht]; simp
      · intro t ht; simp only [mem_writes_seq, ht]; simp
      · intro t ht; simp only [mem_writes_seq, ht]; simp
      · intro t ht; simp only [mem_writes_seq, ht]; simp
      · rw [hrdg, hrep]
        exact stable_repP htg hT sub w4 w4 _ _ _ _ _ (fun _ _ _ => rfl) (Nat.le_refl _) (fun g hg => hg.imp (fun h => h) (fun h => Nat.le_trans g2.size h)) (fun j _ => rfl) rep4
    | ret =>
      obtain ⟨n4, s4, d4, v4, m4⟩ := hq
      rw [Nat.add_zero] at m4
      exact ⟨by rw [hrdg]; exact n4, s4, d4, v4, by rw [hone]; exact hmd2.trans m4 (by omega) (by omega)⟩
    | exit id => exact hq
    | goto l => exact hq
    | panic ch => exact hq
    | outgrown => exact hq
end
end Go.Proofs.YtodmlklfjinonaaDoor
/-
  Structs, written: those that may be null, those that lie in the struct itself. Conditions: none.
-/
namespace Go.Proofs.YtodmlklfjinonaaDoor
open Go.RowKit (Below)
open Kz

/-- 'v == nil', of a pointer. -/
def SIsNil (N d t : Nat) (c : Code) : Prop := ∀ (a : Act) (w : World) (Q : Exit → Act → World → Prop) (p : Option Addr), a.tmps.size = N → sl a d = .pointer p → (∀ a', Upd a a' (writes c) → sl a' t = .bool p.isNone → Q .normal a' w) → c.wp Tryd.prog Q a w
/-- 'dst = append(dst, u)'. -/
def SApp1 (E : WE) (u : UInt8) (c : Code) : Prop := ∀ (base : Nat) (bs : List UInt8) (a : Act) (w : World) (Q : Exit → Act → World → Prop), a.tmps.size = E.N → base ≤ w.heap.size → OwnB w base (sl a E.ds) bs → bs.length + 1 ≤ lim2 →
  (∀ a' w', Upd a a' (writes c) → Below base w w' → OwnB w' base (sl a' E.ds) (bs ++ [u]) → Q .normal a' w') → c.wp Tryd.prog Q a w

section
variable {tags : Rel (List (Nat × List UInt8))} {E : WE} {v : Int} {flex ht : Bool}

theorem wr_structN {frm to null tag dflt : Int} {of : Nat} {sub : List F} (hnull : 0 ≤ null) (hnv : null ≤ v) (t : T) : wr v flex (.mk 10 frm to null tag dflt of sub) t = if t.null then [255] else 1 :: Kz.part v flex sub t := by
  have e1 : fixed (-1) 1 = [255] := by decide
  have e2 : fixed 1 1 = [1] := by decide
  simp [wr, fieldW, F.nul, hnull, hnv, e1, e2, Kz.part]
theorem wr_structV {frm to null tag dflt : Int} {of : Nat} {sub : List F} (hnull : null < 0) : wr v flex (.mk 10 frm to null tag dflt of sub) = Kz.part v flex sub := by
  funext t
  have : ¬ (0 ≤ null) := by omega
  simp [wr, fieldW, this, valW, Kz.part]

/-- A struct that may be null. -/
theorem ApV.structN (htg : flex = true → ht = true) (hT : Stable 1 tags) {sp off d t : Nat} {frm to null tag dflt : Int} {of : Nat} {sub : List F} {c1 cT cA cB c : Code} (hnull : 0 ≤ null) (hnv : null ≤ v)
    (h1 : SLoad E.N sp off d c1) (hQ : SIsNil E.N d t cT) (hA : SApp1 E 255 cA) (hB : SApp1 E 1 cB) (h : ApP tags E v flex ht d 0 sub c)
    (hcl : clear (E.ds :: E.slots) (c1.seq cT) = true) (hclB : clear (d :: E.slots) (cT.seq cB) = true) :
    ApV tags E v flex ht sp off (.mk 10 frm to null tag dflt of sub) (c1.seq (cT.seq (Code.cond (.tmp t) cA (cB.seq c)))) := by
  intro base K bs a w cb co x hp hsp hcb hr hl
  simp only [clear_seq] at hcl hclB
  obtain ⟨k1, kT⟩ := hcl
  obtain ⟨kTd, kB⟩ := hclB
  rw [wr_structN hnull hnv] at hl ⊢
  obtain ⟨hrep, hfit⟩ := hr
  rw [repF_structN hnull] at hrep
  have hptr : ∃ p, w.cell? ⟨cb, co + off, none⟩ = some (.pointer p) ∧ (p.isNone = x.null) ∧ (x.null = false → ∃ g o, p = some ⟨g, o, none⟩ ∧ K g ∧ repP tags v flex ht sub w K (fun j => w.cell? ⟨g, o + j, none⟩) x) := by
    cases hn : x.null with
    | true =>
      rw [hn, if_pos rfl] at hrep
      exact ⟨none, hrep, rfl, fun h => by cases h⟩
    | false =>
      rw [hn, if_neg (by simp)] at hrep
      obtain ⟨g, o, e1, e2, -, e4⟩ := hrep
      exact ⟨_, e1, rfl, fun _ => ⟨g, o, rfl, e2, e4⟩⟩
  obtain ⟨p, hc0, hpn, hps⟩ := hptr
  refine wp_seq (h1 a w _ cb co _ hp.fr.size hsp hc0 fun a1 u1 s1 => ?_)
  have hp1 : PreA E v flex base K bs a1 w := hp.next u1 (fun t ht => clear_iff k1 t (List.mem_cons_of_mem _ ht)) (Below.refl _ _) (by rw [upd_of u1 k1 E.ds (by simp)]; exact hp.own)
  refine wp_seq (hQ a1 w _ p hp1.fr.size s1 fun a2 u2 s2 => ?_)
  have hp2 : PreA E v flex base K bs a2 w := hp1.next u2 (fun t ht => clear_iff kT t (List.mem_cons_of_mem _ ht)) (Below.refl _ _) (by rw [upd_of u2 kT E.ds (by simp)]; exact hp1.own)
  have hw2 : Upd a a2 (writes (c1.seq (cT.seq (Code.cond (.tmp t) cA (cB.seq c))))) := by
    refine (u1.mono ?_).trans (u2.mono ?_) <;> (intro t ht; simp only [mem_writes_seq, ht]; simp)
  cases hn : x.null with
  | true =>
    rw [hn, if_pos rfl] at hl
    refine wp_cond_true (by rw [eval_tmp, s2, hpn, hn]) (hA base bs a2 w _ hp2.fr.size hp2.le hp2.own (by simpa using hl) fun a3 w3 u3 b3 o3 => ?_)
    rw [if_pos rfl]
    refine ⟨hw2.trans (u3.mono ?_), b3, o3⟩
    intro t ht; simp only [mem_writes_seq, writes_cond, List.mem_append, ht]; simp
  | false =>
    rw [hn, if_neg (by simp), List.length_cons] at hl
    obtain ⟨g, o, rfl, hK, hrp⟩ := hps hn
    refine wp_cond_false (by rw [eval_tmp, s2, hpn, hn]) (wp_seq (hB base bs a2 w _ hp2.fr.size hp2.le hp2.own (by omega) fun a3 w3 u3 b3 o3 => ?_))
    have hp3 : PreA E v flex base K (bs ++ [1]) a3 w3 := hp2.next u3 (fun t ht => clear_iff kB t (List.mem_cons_of_mem _ ht)) b3 o3
    have hs3 : sl a3 d = .pointer (some ⟨g, o, none⟩) := by rw [upd_of u3 kB d (by simp), upd_of u2 kTd d (by simp), s1]
    refine wp_mono (h base K (bs ++ [1]) a3 w3 g o x hp3 hs3 (hp.kb g hK) ⟨?_, hfit⟩ (by rw [List.length_append, List.length_singleton]; omega)) ?_
    · refine stable_repP htg hT sub w w3 K K _ _ _ (fun g' hg _ => b3.block g' (hp.kb g' hg)) b3.size (fun g' hg => hg) (fun j _ => ?_) hrp
      rw [below_cell b3 (hp.kb g hK), Nat.add_zero]
    · intro e a4 w4 hq
      have := PostA.after (W := writes (c1.seq (cT.seq (Code.cond (.tmp t) cA (cB.seq c))))) (hw2.trans (u3.mono (fun t ht => by simp only [mem_writes_seq, writes_cond, List.mem_append, ht]; simp))) b3 (fun t ht => ht) (fun t ht => by simp only [mem_writes_seq, writes_cond, List.mem_append, ht]; simp) e a4 w4 hq
      rw [if_neg (by simp)]
      rw [List.append_assoc] at this
      exact this

/-- A struct that lies in the struct itself. -/
theorem ApV.structV {sp off d : Nat} {frm to null tag dflt : Int} {of : Nat} {sub : List F} {c1 c : Code} (hnull : null < 0) (h1 : SAddr E.N sp off d c1) (h : ApP tags E v flex ht d 0 sub c) (hcl : clear (E.ds :: E.slots) c1 = true) :
    ApV tags E v flex ht sp off (.mk 10 frm to null tag dflt of sub) (c1.seq c) := by
  intro base K bs a w cb co x hp hsp hcb hr hl
  rw [wr_structV hnull] at hl ⊢
  rw [repF_structV hnull] at hr
  refine wp_seq (h1 a w _ cb co hp.fr.size hsp fun a1 u1 s1 => ?_)
  have hp1 : PreA E v flex base K bs a1 w := hp.next u1 (fun t ht => clear_iff hcl t (List.mem_cons_of_mem _ ht)) (Below.refl _ _) (by rw [upd_of u1 hcl E.ds (by simp)]; exact hp.own)
  refine wp_mono (h base K bs a1 w cb (co + off) x hp1 s1 hcb (by simpa using hr) hl) ?_
  intro e a2 w2 hq
  exact PostA.after u1 (Below.refl _ _) (fun t ht => List.mem_append_left _ ht) (fun t ht => List.mem_append_right _ ht) e a2 w2 hq
end
end Go.Proofs.YtodmlklfjinonaaDoor
/-
  The code pieces of structs: their addresses, new ones, are they there, the octet ahead of them. Conditions: none.
-/
namespace Go.Proofs.YtodmlklfjinonaaDoor
open Go.RowKit (Below)
open Kz

section
variable {P : Program} {ops : Array Oper} {Q : Exit → Act → World → Prop} {rest : List Oper} {a : Act} {w : World} {d : Nat} {ty : TypeId} {pos : String} {aft : Array Edge} {j t : Nat} {want : Bool}
/-- A call under a condition that is met. -/
theorem st_want_call1 {f : FuncId} {x : Operand} {tys : Array TypeId} {fn : Func} {oj : Oper} (ho : ops[j]? = some oj) (hd : oj.dst = some t) (ht : t < a.tmps.size) (hv : sl a t = .bool want)
    (hfn : P.funcs[f]? = some fn) (hb : fn.body.isSome = true) (hn : (fn.name == "runtime.NumGoroutine") = false)
    (h : Calls P f #[a.eval x] w fun e w' => ∃ v, e = .returned v ∧ wpList P ops Q rest (a.put (some d) v) w') :
    wpList P ops Q (⟨some d, .call { callee := .value (.func f), args := #[x], argTypes := tys }, ty, pos, aft, some (j, want)⟩ :: rest) a w :=
  wpList_step fun K hK => by
    have f' : a.tmps[t]? = some (.bool want) := by
      rw [sl, Array.getD_eq_getD_getElem?, Array.getElem?_eq_getElem ht] at hv
      rw [Array.getElem?_eq_getElem ht]
      exact congrArg some hv
    rw [if_pos (by simp [Region.wanted, yielded, ho, hd, f'])]
    have hb' : fn.body.isNone = false := by cases hx : fn.body <;> simp_all
    unfold Oper.wp execOp
    simp only [resolve, Act.eval, Deferred.ofValue, invoke, callFunc, Sem.run_bind, Sem.run_pure, Result.andThen_ok, Array.append_empty, program, Sem.run, hfn, hn, hb', Bool.false_eq_true, if_false, Oper.upon_enter]
    rw [Array.empty_append]
    have e : (#[x] : Array Operand).map a.eval = #[a.eval x] := by simp
    rw [show (#[x] : Array Operand).map (fun o => Act.eval a o) = #[a.eval x] from e]
    refine Calls.mono h ?_
    rintro e w' ⟨v, rfl, hw⟩
    exact hK _ _ hw
end

/-- 'v := &s.F'. -/
theorem saddr {id N sp off d t1 t2 t3 T k : Nat} {y1 y2 y3 y4 : TypeId} {p1 p2 p3 p4 : String} {e1 e2 e3 e4 : Array Edge} (hf : offOf Tryd.prog T k = some off) (hn : [t1, t2, t3, d].all (· < N) = true) :
    SAddr N sp off d (Code.region id #[⟨some t1, .move (.tmp sp), y1, p1, e1, none⟩, ⟨some t2, .nilCheck (.tmp t1), y2, p2, e2, none⟩, ⟨some t3, .fieldAddr T (.tmp t2) k, y3, p3, e3, none⟩, ⟨some d, .assign (.tmp t3), y4, p4, e4, none⟩] false) := by
  intro a w Q b o hN hsp hq
  simp only [List.all_cons, List.all_nil, Bool.and_true, Bool.and_eq_true, decide_eq_true_eq] at hn
  refine wp_region_lit (st_move (st_nil (p := ⟨b, o, none⟩) ?_ (st_field (b := b) (o := o) (fieldOff_ok hf) ?_ (st_assign (wpList_nil (hq _ ?_ ?_))))))
  · rw [eval_tmp, sl_put_self _ _ _ (by omega), eval_tmp, hsp]
  · rw [eval_tmp, sl_put_self _ _ _ (by simp only [put_size]; omega)]
  · exact ((((Upd.refl a _).put t1 _ (by simp [writes])).put t2 _ (by simp [writes])).put t3 _ (by simp [writes])).put d _ (by simp [writes])
  · rw [sl_put_self _ _ _ (by simp only [put_size]; omega), eval_tmp, sl_put_self _ _ _ (by simp only [put_size]; omega)]

theorem frozen_alloc (w : World) (o : Obj) (b i : Nat) (h : b < w.heap.size) : (w.alloc o).frozen? ⟨b, i, none⟩ = w.frozen? ⟨b, i, none⟩ := by
  unfold World.frozen?
  rw [alloc_old _ _ _ h]

/-- 's.F = new(T)'. -/
theorem snewat {id N sp off t1 t2 t3 t4 T Te k ty : Nat} {z : Array Value} {y1 y2 y3 y4 y5 : TypeId} {p1 p2 p3 p4 p5 : String} {e1 e2 e3 e4 e5 : Array Edge} (hf : offOf Tryd.prog T k = some off) (hty : sizeIs Tryd.prog ty 1 = true) (hn : [t1, t2, t3, t4].all (· < N) = true) (hd : decide (t2 ≠ t1 ∧ t2 ≠ t3 ∧ t2 ≠ t4) = true)
    (ha : ∀ w : World, (Instr.alloc Te true (.tuple #[])).run Tryd.prog w = .ok (.pointer (some ⟨w.heap.size, 0, none⟩)) (w.alloc (.cells z Te))) :
    SNewAt N sp off z (Code.region id #[⟨some t1, .move (.tmp sp), y1, p1, e1, none⟩, ⟨some t2, .alloc Te, y2, p2, e2, none⟩, ⟨some t3, .nilCheck (.tmp t1), y3, p3, e3, none⟩, ⟨some t4, .fieldAddr T (.tmp t3) k, y4, p4, e4, none⟩, ⟨none, .store ty (.tmp t4) (.tmp t2), y5, p5, e5, none⟩] false) := by
  intro a w Q b o u hN hsp hc hfz hq
  simp only [List.all_cons, List.all_nil, Bool.and_true, Bool.and_eq_true, decide_eq_true_eq] at hn hd
  have hb : b < w.heap.size := World.block_lt_of_cell? w _ hc
  refine wp_region_lit (st_move (st_val (v := .pointer (some ⟨w.heap.size, 0, none⟩)) (w' := w.alloc (.cells z Te)) (by simp only [execOp, Sem.run_bind, ha, Result.andThen_ok, Sem.run_pure])
    (st_nil (p := ⟨b, o, none⟩) ?_ (st_field (b := b) (o := o) (fieldOff_ok hf) ?_ (st_store (b := b) (o := o + off) (u := u) (v := .pointer (some ⟨w.heap.size, 0, none⟩)) ?_ ?_ (store1_ok hty rfl) ?_ ?_ (wpList_nil (hq _ Te ?_)))))))
  · rw [eval_tmp, sl_put_other _ _ _ _ hd.1, sl_put_self _ _ _ (by omega), eval_tmp, hsp]
  · rw [eval_tmp, sl_put_self _ _ _ (by simp only [put_size]; omega)]
  · rw [eval_tmp, sl_put_self _ _ _ (by simp only [put_size]; omega)]
  · rw [eval_tmp, sl_put_other _ _ _ _ (fun e => hd.2.2 e.symm), sl_put_other _ _ _ _ (fun e => hd.2.1 e.symm), sl_put_self _ _ _ (by simp only [put_size]; omega)]
  · rw [World.cell?_of_block (w := w) (alloc_old _ _ _ hb)]; exact hc
  · rw [frozen_alloc _ _ _ _ hb]; exact hfz
  · exact ((((Upd.refl a _).put t1 _ (by simp [writes])).put t2 _ (by simp [writes])).put t3 _ (by simp [writes])).put t4 _ (by simp [writes])


/-- 'v := &s.F; _ = v'. -/
theorem DS.sub0 {id id2 N sp s sz t1 t2 t3 t4 T k : Nat} {y1 y2 y3 y4 y5 : TypeId} {p1 p2 p3 p4 p5 : String} {e1 e2 e3 e4 e5 : Array Edge} (hf : (offOf Tryd.prog T k).isSome = true) (hn : [t1, t2, t3, s, t4].all (· < N) = true) :
    DS N sp sz [] ((Code.region id #[⟨some t1, .move (.tmp sp), y1, p1, e1, none⟩, ⟨some t2, .nilCheck (.tmp t1), y2, p2, e2, none⟩, ⟨some t3, .fieldAddr T (.tmp t2) k, y3, p3, e3, none⟩, ⟨some s, .assign (.tmp t3), y4, p4, e4, none⟩] false).seq
      (Code.region id2 #[⟨some t4, .move (.tmp s), y5, p5, e5, none⟩] false)) := by
  intro a w Q G p cells Ty hN hsp hrow hfit hq
  simp only [List.all_cons, List.all_nil, Bool.and_true, Bool.and_eq_true, decide_eq_true_eq] at hn
  obtain ⟨off, hoff⟩ := Option.isSome_iff_exists.1 hf
  refine wp_seq (wp_region_lit (st_move (st_nil (p := ⟨G, p, none⟩) ?_ (st_field (b := G) (o := p) (fieldOff_ok hoff) ?_ (st_assign (wpList_nil ?_))))))
  · rw [eval_tmp, sl_put_self _ _ _ (by omega), eval_tmp, hsp]
  · rw [eval_tmp, sl_put_self _ _ _ (by simp only [put_size]; omega)]
  generalize hA : (((a.put (some t1) (a.eval (.tmp sp))).put (some t2) (.pointer (some ⟨G, p, none⟩))).put (some t3) (.pointer (some ⟨G, p + off, none⟩))).put (some s) _ = a1
  have u1 : Upd a a1 [t1, t2, t3, s] := by subst hA; exact ((((Upd.refl a _).put t1 _ (by simp)).put t2 _ (by simp)).put t3 _ (by simp)).put s _ (by simp)
  refine reg_move (by rw [u1.size]; omega) fun a2 u2 _ => hq a2 ((u1.mono ?_).trans (u2.mono ?_))
  · intro t ht; simp only [List.mem_cons, List.not_mem_nil, or_false] at ht; rcases ht with rfl | rfl | rfl | rfl <;> simp [writes]
  · intro t ht; simp only [List.mem_singleton] at ht; subst ht; simp [writes]

/-- 'v == nil'. -/
theorem sisnil {id N d t1 t T T' : Nat} {y1 y2 : TypeId} {p1 p2 : String} {e1 e2 : Array Edge} (hT : Tryd.prog.underlying T = some (.pointer (Tryd.prog.pointee T))) (hn : [t1, t].all (· < N) = true) :
    SIsNil N d t (Code.region id #[⟨some t1, .move (.tmp d), y1, p1, e1, none⟩, ⟨some t, .binOp .eql T (.tmp t1) (.const (.pointer none)) T', y2, p2, e2, none⟩] false) := by
  intro a w Q p hN hd hq
  simp only [List.all_cons, List.all_nil, Bool.and_true, Bool.and_eq_true, decide_eq_true_eq] at hn
  refine wp_region_lit (st_move (st_val (v := .bool p.isNone) (w' := w) (exec_binR (u := .pointer p) (z := .pointer none) (by rw [eval_tmp, sl_put_self _ _ _ (by omega), eval_tmp, hd]) (eval_const _ _) (by cases p <;> rfl) ?_) (wpList_nil (hq _ ?_ ?_))))
  · rw [run_eql_pointer_nil w T p hT]
  · exact ((Upd.refl a _).put t1 _ (by simp [writes])).put t _ (by simp [writes])
  · rw [sl_put_self _ _ _ (by simp only [put_size]; omega)]

/-- 'dst = append(dst, u)'. -/
theorem sapp1 {E : WE} {id t1 t2 t3 : Nat} {u : UInt8} {n : Int} {y1 y2 y3 y4 : TypeId} {p1 p2 p3 p4 : String} {e1 e2 e3 e4 : Array Edge} (hu : (u.toNat : Int) = n) (hn : [t1, t2, t3, E.ds].all (· < E.N) = true) (hd : decide (t1 ≠ t2) = true)
    (hB : ∀ w : World, (Instr.buildSlice 22 1 #[(0, .int .u8 n)]).run Tryd.prog w = .ok (.slice (some ⟨w.heap.size, 0, none⟩) 1 1) (w.alloc (.cells #[.int .u8 n] 5))) :
    SApp1 E u (Code.region id #[⟨some t1, .move (.tmp E.ds), y1, p1, e1, none⟩, ⟨some t2, .buildSlice 22 1 #[(0, .const (.int .u8 n))], y2, p2, e2, none⟩, ⟨some t3, .call { callee := .builtin .append, args := #[.tmp t1, .tmp t2], argTypes := #[22, 22] }, y3, p3, e3, none⟩,
      ⟨some E.ds, .assign (.tmp t3), y4, p4, e4, none⟩] false) := by
  intro base bs a w Q hN hb ho hl hq
  simp only [List.all_cons, List.all_nil, Bool.and_true, Bool.and_eq_true, decide_eq_true_eq] at hn
  have hd' := of_decide_eq_true hd
  refine wp_region_lit (st_move (st_val (v := .slice (some ⟨w.heap.size, 0, none⟩) 1 1) (w' := w.alloc (.cells #[.int .u8 n] 5)) (by
    have e : (#[(0, Operand.const (.int .u8 n))] : Array (Nat × Operand)).map (fun (i, x) => (i, (a.put (some t1) (a.eval (.tmp E.ds))).eval x)) = #[(0, .int .u8 n)] := by simp [eval_const]
    simp only [execOp, e, Sem.run_bind, hB, Result.andThen_ok, Sem.run_pure]) ?_))
  have ho1 : OwnB (w.alloc (.cells #[.int .u8 n] 5)) base (sl a E.ds) bs := ho.grown (fun k hk => alloc_old w _ k hk)
  refine wpList_append_bytes rfl _ _ rfl base (sl a E.ds) bs [u] w.heap.size 0 1 1 ?_ ?_ ho1 rfl ?_ ?_ (by rw [World.size_alloc]; omega) fun v' w' ho' hg => ?_
  · rw [eval_tmp, sl_put_other _ _ _ _ (fun e => hd' e.symm), sl_put_self _ _ _ (by omega), eval_tmp]
  · rw [eval_tmp, sl_put_self _ _ _ (by simp only [put_size]; omega)]
  · intro j b hj
    have := row_new (w := w) (cs := #[.int .u8 n]) (t := 5) (out := [u]) (by simp [bv, hu]) j b hj
    exact this
  · simp only [List.length_singleton, lim, lim2] at hl ⊢; omega
  · refine st_assign (wpList_nil (hq _ w' ?_ (below_alloc ho hb hg) ?_))
    · exact ((((Upd.refl a _).put t1 _ (by simp [writes])).put t2 _ (by simp [writes])).put t3 _ (by simp [writes])).put E.ds _ (by simp [writes])
    · rw [sl_put_self _ _ _ (by simp only [put_size]; omega), eval_tmp, sl_put_self _ _ _ (by simp only [put_size]; omega)]
      exact ho'
end Go.Proofs.YtodmlklfjinonaaDoor
