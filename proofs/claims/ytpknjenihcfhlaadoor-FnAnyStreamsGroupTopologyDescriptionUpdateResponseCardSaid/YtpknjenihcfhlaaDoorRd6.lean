/-
  Lists, read: the whole code of a list; its elements. Conditions: none.
-/
import Derived.Test.YtpknjenihcfhlaaDoorRd5
namespace Go.Proofs.YtpknjenihcfhlaaDoor
open Go.RowKit (Below)
open Kz

section
variable {tags : Rel (List (Nat × List UInt8))} {E : RE} {v : Int} {flex ht : Bool}

/-- A loop over the elements. -/
def SLoop (E : RE) (v : Int) (flex : Bool) (da di dl sz : Nat) (g : St → T × St) (R : Rel T) (ini : Cells → Prop) (c : Code) : Prop :=
  ∀ (rb : Nat) (S : Nat → Prop) (st : St) (n : Nat) (a0 : Act) (w0 : World), Fr E rb v flex a0 → RdIs w0 S rb st → ErrOk w0 → rb ≠ 1 → (∀ g, S g → g < w0.heap.size) → sl a0 di = .int .i32 0 → n ≤ 2147483647 →
    (∀ (G o m : Nat) (cells : Array Value) (Ty : TypeId) (Q : Exit → Act → World → Prop), sl a0 dl = .int .i32 (n : Int) → G ≠ 1 → G ≠ rb → ¬ S G → sl a0 da = .slice (some ⟨G, o, none⟩) n m →
      w0.heap[G]? = some (.cells cells Ty (0, 0)) → o + n * sz ≤ cells.size → (∀ i, i < n → ini (fun j => cells[o + i * sz + j]?)) →
      (∀ a' w', Upd a0 a' (writes c) → RdIs w' S rb (rdMany g n st).2 → Md w0 w' rb G o (n * sz) →
        (∀ (k : Nat) x, (rdMany g n st).1[k]? = some x → R w' (fun g => S g ∨ w0.heap.size ≤ g) (fun j => w'.cell? ⟨G, o + k * sz + j, none⟩) x) → Q .normal a' w') →
      (∀ a' w', (rdMany g n st).2 = none → a'.tmps.size = E.N → a'.defers = [] → (∃ t x, sl a' E.res = .iface t x) → Md w0 w' rb G o (n * sz) → Q .ret a' w') →
      c.wp Tryd.prog Q a0 w0) ∧
    ∀ (l : Int) (Q : Exit → Act → World → Prop), sl a0 dl = .int .i32 l → l ≤ 0 → (∀ a', Upd a0 a' (writes c) → Q .normal a' w0) → c.wp Tryd.prog Q a0 w0

theorem sloop {id i1 i2 da di dl t1 t2 t3 u1 u2 sz : Nat} {T' TT T2 T2' ty1 ty2 ty3 ty4 ty5 ty6 : TypeId} {p1 p2 p3 p4 p5 p6 : String} {e1 e2 e3 e4 e5 e6 : Array Edge} {body : Code} {g : St → T × St} {R : Rel T} {ini : Cells → Prop}
    (hE : ElB E v flex da di sz g R ini body) (hs : Strict g) (hst : Stable sz R) (hloc : ∀ c c' : Cells, (∀ j, j < sz → c' j = c j) → ini c → ini c')
    (hb : clear (da :: dl :: di :: E.slots) body = true) (hn : [t1, t2, t3, u1, u2, di].all (· < E.N) = true) (hd : decide (t1 ≠ t2 ∧ t1 ≠ dl) = true)
    (hcl : [t1, t2, t3, u1, u2].all (fun t => !(da :: dl :: di :: E.slots).contains t) = true) (hdi : (da :: dl :: E.slots).contains di = false) :
    SLoop E v flex da di dl sz g R ini (loopC id i1 i2 di dl t1 t2 t3 u1 u2 T' TT T2 T2' ty1 ty2 ty3 ty4 ty5 ty6 p1 p2 p3 p4 p5 p6 e1 e2 e3 e4 e5 e6 body) := by
  have hdi' : di ∉ da :: dl :: E.slots := by simpa [List.contains_eq_mem] using hdi
  refine fun rb S st n a0 w0 hfr hrd her hr1 hold hdi0 hn31 => ⟨fun G o m cells Ty Q hdl hG1 hG hSG hda hrow hfit hini hq hret => loop_list hE hs hst hb hn hd hcl hdi' hfr hrd her hr1 hG1 hG hSG hold hda hdl hdi0 hn31 hrow hfit hini hloc hq hret,
    fun l Q hdl hl hq => ?_⟩
  simp only [List.all_cons, List.all_nil, Bool.and_true, Bool.and_eq_true, decide_eq_true_eq] at hn hd
  have hsz := hfr.size
  refine wp_block (wp_loop (I := fun a w => a = a0 ∧ w = w0) (μ := fun _ _ => 0) ⟨rfl, rfl⟩ ?_)
  rintro a w ⟨rfl, rfl⟩
  refine wp_seq (wp_seq (reg_cmp2 (r := false) (by omega) (by omega) (by omega) hd.1 hd.2 (fun x y => eqGuard_lss ..) ?_ fun a1 hu1 hs1 => ?_))
  · rw [hdi0, hdl, binOp_lss]
    have : ¬ (0 < l) := by omega
    simp [this]
  · refine wp_cond_false (by rw [eval_tmp, hs1]) (wp_exit ?_)
    simp only [Exit.then, Exit.inBlock, if_pos]
    exact hq a1 (hu1.mono (fun t ht => by simp only [List.mem_cons, List.not_mem_nil, or_false] at ht; rcases ht with rfl | rfl | rfl <;> simp [writes]))

theorem mem_writes_seq {a b : Code} {t : Nat} : t ∈ writes (a.seq b) ↔ t ∈ writes a ∨ t ∈ writes b := by simp [writes]
theorem writes_cond {x : Operand} {a b : Code} : writes (Code.cond x a b) = writes a ++ writes b := rfl
theorem clear_seq {l : List Nat} {a b : Code} : clear l (a.seq b) = true ↔ clear l a = true ∧ clear l b = true := by
  simp only [clear, List.all_eq_true, Bool.not_eq_true', List.contains_eq_mem, decide_eq_false_iff_not, mem_writes_seq, not_or]
  exact ⟨fun h => ⟨fun t ht => (h t ht).1, fun t ht => (h t ht).2⟩, fun h t ht => ⟨h.1 t ht, h.2 t ht⟩⟩
theorem clear_cond {l : List Nat} {x : Operand} {a b : Code} : clear l (Code.cond x a b) = true ↔ clear l a = true ∧ clear l b = true := by
  simp only [clear, List.all_eq_true, Bool.not_eq_true', List.contains_eq_mem, decide_eq_false_iff_not, writes, List.mem_append, not_or]
  exact ⟨fun h => ⟨fun t ht => (h t ht).1, fun t ht => (h t ht).2⟩, fun h t ht => ⟨h.1 t ht, h.2 t ht⟩⟩
theorem upd_of {a a' : Act} {c : Code} {l : List Nat} (hu : Upd a a' (writes c)) (hc : clear l c = true) : ∀ t ∈ l, sl a' t = sl a t := fun t ht => hu.same t (clear_iff hc t ht)

theorem rdLen_le (flex : Bool) (st : St) : (rdLen flex st).1 ≤ 2147483647 := by
  have h0 : (rdLen0 flex st).1 ≤ 2147483647 := by
    unfold rdLen0
    split
    · simp only [wrap32]; omega
    · exact (rdI4_b st).2
  unfold rdLen
  cases h : (rdLen0 flex st).2 with
  | none => exact h0
  | some bs =>
    simp only [chkLen]
    split
    · simp
    · exact h0

/-- The element's part of a list. -/
abbrev elR (tags : Rel (List (Nat × List UInt8))) (v : Int) (flex ht : Bool) (of : Nat) (sub : List F) : Rel T := valRep false of (repP tags v flex ht sub)
abbrev elG (v : Int) (flex : Bool) (of : Nat) (sub : List F) : St → T × St := valR of (rdPart v flex sub) false flex
def elIni (ht : Bool) (of : Nat) (sub : List F) (c : Cells) : Prop := of = 10 → iniFs ht sub c
theorem elIni_loc (ht : Bool) (of : Nat) (sub : List F) : ∀ c c' : Cells, (∀ j, j < valCells of (cellsP ht sub) → c' j = c j) → elIni ht of sub c → elIni ht of sub c' := by
  intro c c' hc h h10
  refine ini_locFs ht sub c c' (fun j hj => hc j ?_) (h h10)
  subst h10
  simp only [valCells, cellsP]
  simp
  omega
theorem elG_strict (v : Int) (flex : Bool) (of : Nat) (sub : List F) : Strict (elG v flex of sub) := by
  refine strict_valR _ _ _ _ ?_
  have h := strict_rd v flex (.mk 10 0 0 (-1) 0 0 0 sub)
  have e : rd v flex (.mk 10 0 0 (-1) 0 0 0 sub) = rdPart v flex sub := by
    funext st
    simp [rd, fieldR, valR, rdPart]
  rw [e] at h
  exact h
theorem elR_stable (htg : flex = true → ht = true) (hT : Stable 1 tags) (of : Nat) (sub : List F) : Stable (valCells of (cellsP ht sub)) (elR tags v flex ht of sub) := by
  have := stable_val (ptr := false) (kind := of) (stable_repP htg hT (v := v) sub)
  simpa [fieldCells] using this

/-- A list that may not be null. -/
theorem RdV.list (htg : flex = true → ht = true) (hT : Stable 1 tags) {sp off d0 da dl di tN tP of : Nat} {frm to null tag dflt : Int} {sub : List F} {z : Array Value} {c1 c2 c3 cL cN cF c6 cP cA c0 cLoop c9 c10 : Code} (hnull : null < 0)
    (h1 : SLoad E.N sp off d0 c1) (h2 : SCopy E.N d0 da c2) (h3 : SConst E.N dl (.int .i32 0) c3) (hL : Rv E v flex dl (rdLen flex) (IsInt .i32) cL) (hN : SNotOk E tN cN) (hF : SFail E cF) (h6 : SSlice0 E.N da c6) (hP : SPos E.N dl tP cP)
    (hA : SApp E.N da dl z cA) (h0 : SConst E.N di (.int .i32 0) c0) (hl : SLoop E v flex da di dl (valCells of (cellsP ht sub)) (elG v flex of sub) (elR tags v flex ht of sub) (elIni ht of sub) cLoop) (h9 : SCopy E.N da d0 c9) (h10 : SStore E.N sp off d0 c10)
    (hz : z.size = valCells of (cellsP ht sub)) (hini : elIni ht of sub (fun j => z[j]?))
    (hcl : clear (sp :: E.slots) (c1.seq (c2.seq (c3.seq (cL.seq (cN.seq (c6.seq (cP.seq (cA.seq (c0.seq (cLoop.seq c9)))))))))) = true)
    (hca : clear [da] (c3.seq (cL.seq (cN.seq (cP.seq (c0.seq cLoop))))) = true) (hcd : clear [dl] (cN.seq (c6.seq (cP.seq (cA.seq c0)))) = true) :
    RdV tags E v flex ht sp off (.mk 11 frm to null tag dflt of sub)
      (c1.seq (c2.seq (c3.seq (cL.seq ((cN.seq (Code.cond (.tmp tN) (cF.seq Code.ret) Code.skip)).seq (c6.seq ((cP.seq (Code.cond (.tmp tP) cA Code.skip)).seq ((c0.seq cLoop).seq (c9.seq c10))))))))) := by
  intro rb S st cb co cells Ty a w hp
  simp only [clear_seq] at hcl hca hcd
  obtain ⟨k1, k2, k3, kL, kN, k6, kP, kA, k0, kl, k9⟩ := hcl
  obtain ⟨a3, aL, aN, aP, a0, al⟩ := hca
  obtain ⟨dN, d6, dP, dA, d0'⟩ := hcd
  have hfit := hp.fit
  simp only [cellsF, fieldCells, valCells] at hfit
  simp at hfit
  have hini0 : cells[co + off]? = some (.slice none 0 0) := by have := hp.ini; simp only [iniF] at this; exact this.1 trivial
  have hcell : ∀ {w' : World}, w'.heap[cb]? = some (.cells cells Ty (0, 0)) → w'.cell? ⟨cb, co + off, none⟩ = some (.slice none 0 0) := fun h => by rw [cell_of_row _ cb _ _ _ _ h]; exact hini0
  refine wp_seq (h1 a w _ cb co _ hp.fr.size hp.ptr (hcell hp.row) fun a1 u1 s1 => ?_)
  refine wp_seq (h2 a1 w _ (u1.size.trans hp.fr.size) fun a2 u2 s2 => ?_)
  refine wp_seq (h3 a2 w _ (u2.size.trans (u1.size.trans hp.fr.size)) fun a3' u3 s3 => ?_)
  have f1 := hp.fr.upd u1 (fun t ht => clear_iff k1 t (List.mem_cons_of_mem _ ht))
  have f2 := f1.upd u2 (fun t ht => clear_iff k2 t (List.mem_cons_of_mem _ ht))
  have f3 := f2.upd u3 (fun t ht => clear_iff k3 t (List.mem_cons_of_mem _ ht))
  have hsp3 : sl a3' sp = .pointer (some ⟨cb, co, none⟩) := by rw [upd_of u3 k3 sp (by simp), upd_of u2 k2 sp (by simp), upd_of u1 k1 sp (by simp)]; exact hp.ptr
  have hda3 : sl a3' da = .slice none 0 0 := by rw [upd_of u3 a3 da (by simp), s2, s1]
  refine wp_seq (wp_mono (hL rb S st a3' w f3 hp.rd hp.err) ?_)
  intro e a4 w4 hq4
  cases e with
  | normal => ?_
  | _ => exact hq4.elim
  obtain ⟨u4, r4, g4, -, hlen⟩ := hq4
  simp only [IsInt] at hlen
  have f4 := f3.upd u4 (fun t ht => clear_iff kL t (List.mem_cons_of_mem _ ht))
  have hsp4 : sl a4 sp = .pointer (some ⟨cb, co, none⟩) := by rw [upd_of u4 kL sp (by simp)]; exact hsp3
  have hda4 : sl a4 da = .slice none 0 0 := by rw [upd_of u4 aL da (by simp)]; exact hda3
  have he4 : ErrOk w4 := hp.err.kept g4 (fun e => hp.rbe (Option.some.inj e))
  refine wp_seq (wp_seq (hN a4 w4 _ S rb _ f4.size f4.rs r4 fun a5 u5 s5 => ?_))
  have f5 := f4.upd u5 (fun t ht => clear_iff kN t (List.mem_cons_of_mem _ ht))
  have hmd4 : Md w w4 rb cb (co + off) (cellsF ht (.mk 11 frm to null tag dflt of sub)) := Md.of_grown g4 hp.ne _ _
  have hrow4 : w4.heap[cb]? = some (.cells cells Ty (0, 0)) := by rw [g4.block cb (Array.getElem?_eq_some_iff.1 hp.row).1 (fun e => hp.ne (Option.some.inj e))]; exact hp.row
  have hgst : rd v flex (.mk 11 frm to null tag dflt of sub) st = listR false (elG v flex of sub) (rdLen flex st) := by
    have : ¬ (0 ≤ null) := by omega
    simp [rd, fieldR, F.may, this]
    rfl
  cases hok : (rdLen flex st).2 with
  | none =>
    rw [hok] at s5 r4
    refine wp_cond_true (by rw [eval_tmp, s5]; rfl) (wp_seq (hF a5 w4 _ S rb none f5.size f5.rs r4 he4 fun a6 u6 s6 => wp_ret ?_))
    have hv : ∃ t x, sl a6 E.res = .iface t x := by simpa [ErrV] using s6
    refine ⟨?_, u6.size.trans f5.size, u6.defers.trans f5.defers, hv, hmd4⟩
    rw [hgst]
    simp [listR, hok]
  | some bs => ?_
  rw [hok] at s5 r4
  refine wp_cond_false (by rw [eval_tmp, s5]; rfl) (wp_skip ?_)
  have hl5 : sl a5 dl = .int .i32 (rdLen flex st).1 := by rw [upd_of u5 dN dl (by simp)]; exact hlen
  have hda5 : sl a5 da = .slice none 0 0 := by rw [upd_of u5 aN da (by simp)]; exact hda4
  refine wp_seq (h6 a5 w4 _ _ _ _ f5.size hda5 fun a6 u6 s6 => ?_)
  have f6 := f5.upd u6 (fun t ht => clear_iff k6 t (List.mem_cons_of_mem _ ht))
  have hl6 : sl a6 dl = .int .i32 (rdLen flex st).1 := by rw [upd_of u6 d6 dl (by simp)]; exact hl5
  refine wp_seq (wp_seq (hP a6 w4 _ _ f6.size hl6 fun a7 u7 s7 => ?_))
  have f7 := f6.upd u7 (fun t ht => clear_iff kP t (List.mem_cons_of_mem _ ht))
  have hl7 : sl a7 dl = .int .i32 (rdLen flex st).1 := by rw [upd_of u7 dP dl (by simp)]; exact hl6
  have hda7 : sl a7 da = .slice none 0 0 := by rw [upd_of u7 aP da (by simp)]; exact s6
  have hsp7 : sl a7 sp = .pointer (some ⟨cb, co, none⟩) := by rw [upd_of u7 kP sp (by simp), upd_of u6 k6 sp (by simp), upd_of u5 kN sp (by simp)]; exact hsp4
  have hlt := rdLen_le flex st
  generalize hr : (rdLen flex st).1 = r at *
  -- what holds behind the list's loop
  have hend : ∀ (a8 : Act) (w8 : World) (ts : List T) (st' : St), Fr E rb v flex a8 → sl a8 sp = .pointer (some ⟨cb, co, none⟩) → Upd a a8 (writes (c1.seq (c2.seq (c3.seq (cL.seq ((cN.seq (Code.cond (.tmp tN) (cF.seq Code.ret) Code.skip)).seq (c6.seq ((cP.seq (Code.cond (.tmp tP) cA Code.skip)).seq ((c0.seq cLoop).seq (c9.seq c10)))))))))) →
      RdIs w8 S rb st' → w.grownBy w8 (some rb) → w8.heap[cb]? = some (.cells cells Ty (0, 0)) → rd v flex (.mk 11 frm to null tag dflt of sub) st = (Tl ts, st') → (sl a8 da).oneCell' = true →
      (∀ c : Cells, c 0 = some (sl a8 da) → repF tags v flex ht (.mk 11 frm to null tag dflt of sub) w8 (fun g => S g ∨ w.heap.size ≤ g) c (Tl ts)) →
      (c9.seq c10).wp Tryd.prog (Post E off (cellsF ht (.mk 11 frm to null tag dflt of sub)) (writes (c1.seq (c2.seq (c3.seq (cL.seq ((cN.seq (Code.cond (.tmp tN) (cF.seq Code.ret) Code.skip)).seq (c6.seq ((cP.seq (Code.cond (.tmp tP) cA Code.skip)).seq ((c0.seq cLoop).seq (c9.seq c10)))))))))) (rd v flex (.mk 11 frm to null tag dflt of sub)) (repF tags v flex ht (.mk 11 frm to null tag dflt of sub)) rb S st cb co Ty a w) a8 w8 := by
    intro a8 w8 ts st' f8 hsp8 hu8 r8 g8 hrow8 hrd8 hone hrep
    refine wp_seq (h9 a8 w8 _ f8.size fun a9 u9 s9 => ?_)
    have f9 := f8.upd u9 (fun t ht => clear_iff k9 t (List.mem_cons_of_mem _ ht))
    have hc0 : (co + off) < cells.size := by omega
    refine h10 a9 w8 _ cb co _ f9.size (by rw [upd_of u9 k9 sp (by simp)]; exact hsp8) (by rw [s9]; exact hone) (hcell hrow8) (by simp [World.frozen?, hrow8]) fun a10 u10 => ?_
    have hmd : Md w8 (w8.setCell ⟨cb, co + off, none⟩ (sl a9 d0)) rb cb (co + off) (cellsF ht (.mk 11 frm to null tag dflt of sub)) := Md.of_set _ (by simp [cellsF, fieldCells, valCells])
    refine ⟨(hu8.trans (u9.mono ?_)).trans (u10.mono ?_), ?_, (Md.of_grown g8 hp.ne (co + off) (cellsF ht (.mk 11 frm to null tag dflt of sub))).trans hmd (by omega) (by omega), cells.setIfInBounds (co + off) (sl a9 d0), heap_setCell_row hrow8, ?_⟩
    · intro t ht; simp only [mem_writes_seq, ht]; simp
    · intro t ht; simp only [mem_writes_seq, ht]; simp
    · rw [hrd8]
      exact r8.kept (row := some cb) ⟨rfl, rfl, rfl, by simp [World.setCell], fun k _ hk => Below.heap_setCell _ _ _ _ (fun e => hk (by rw [e]))⟩ (fun g hg e => hp.src (by rw [← Option.some.inj e]; exact hg)) (fun e => hp.ne (Option.some.inj e).symm)
    · rw [hrd8]
      refine stable_repF htg hT (.mk 11 frm to null tag dflt of sub) w8 _ _ _ (fun j => (cells.setIfInBounds (co + off) (sl a9 d0))[co + off + j]?) _ _ (fun g hg hlt => ?_) (by simp [World.setCell]) (fun g hg => hg) (fun j hj => rfl) (hrep _ ?_)
      · refine Below.heap_setCell _ _ _ _ ?_
        rintro rfl
        rcases hg with hg | hg
        · exact hp.src hg
        · have := (Array.getElem?_eq_some_iff.1 hp.row).1; omega
      · rw [← s9]; simp [hc0]
  have hu7 : Upd a a7 (writes (c1.seq (c2.seq (c3.seq (cL.seq ((cN.seq (Code.cond (.tmp tN) (cF.seq Code.ret) Code.skip)).seq (c6.seq ((cP.seq (Code.cond (.tmp tP) cA Code.skip)).seq ((c0.seq cLoop).seq (c9.seq c10)))))))))) := by
    refine ((((((u1.mono ?_).trans (u2.mono ?_)).trans (u3.mono ?_)).trans (u4.mono ?_)).trans (u5.mono ?_)).trans (u6.mono ?_)).trans (u7.mono ?_) <;> (intro t ht; simp only [mem_writes_seq, ht]; simp)
  by_cases hpos : 0 < r
  · refine wp_cond_true (by rw [eval_tmp, s7]; simp [hpos]) ?_
    obtain ⟨n, rfl⟩ : ∃ n : Nat, r = n := ⟨r.toNat, by omega⟩
    refine hA a7 w4 _ n f7.size hda7 hl7 (by omega) (by omega) fun a8 w8 m arr Te u8 s8 hh8 ho8 ht8 hp8 hsz8 hat8 => ?_
    have f8 := f7.upd u8 (fun t ht => clear_iff kA t (List.mem_cons_of_mem _ ht))
    have hl8 : sl a8 dl = .int .i32 (n : Int) := by rw [upd_of u8 dA dl (by simp)]; exact hl7
    have hG8 : w8.heap[w4.heap.size]? = some (.cells arr Te (0, 0)) := by rw [hh8]; simp
    have hold : ∀ k, k < w4.heap.size → w8.heap[k]? = w4.heap[k]? := fun k hk => by rw [hh8, Array.getElem?_push]; simp; omega
    have hsz84 : w8.heap.size = w4.heap.size + 1 := by rw [hh8]; simp
    have hg48 : w4.grownBy w8 (some rb) := ⟨ho8, ht8, hp8, by omega, fun k hk _ => hold k hk⟩
    have r8 : RdIs w8 S rb (some bs) := r4.kept (row := none) ⟨ho8, ht8, hp8, by omega, fun k hk _ => hold k hk⟩ (fun g _ e => by cases e) (fun e => by cases e)
    have he8 : ErrOk w8 := he4.kept (row := none) ⟨ho8, ht8, hp8, by omega, fun k hk _ => hold k hk⟩ (fun e => by cases e)
    refine wp_seq (wp_seq (h0 a8 w8 _ f8.size fun a9 u9 s9 => ?_))
    have f9 := f8.upd u9 (fun t ht => clear_iff k0 t (List.mem_cons_of_mem _ ht))
    have hold8 : ∀ g, S g → g < w4.heap.size := fun g hg => Nat.lt_of_lt_of_le (hp.old g hg) g4.size
    obtain ⟨hloop, -⟩ := hl rb S (some bs) n a9 w8 f9 r8 he8 hp.rbe (fun g hg => by have := hold8 g hg; omega) s9 (by omega)
    have hne4 : w4.heap.size ≠ 1 := by
      obtain ⟨t, x, hx⟩ := he4
      have : 1 < w4.heap.size := World.block_lt_of_cell? w4 _ hx
      omega
    have hcb : cb < w4.heap.size := (Array.getElem?_eq_some_iff.1 hrow4).1
    have hrdg : rd v flex (.mk 11 frm to null tag dflt of sub) st = (Tl (rdMany (elG v flex of sub) n (some bs)).1, (rdMany (elG v flex of sub) n (some bs)).2) := by
      rw [hgst]
      simp only [listR, hok, hr, Int.toNat_natCast]
      rfl
    refine hloop w4.heap.size 0 m arr Te _ (by rw [upd_of u9 d0' dl (by simp)]; exact hl8) hne4 ?_ ?_ (by rw [upd_of u9 a0 da (by simp)]; exact s8) hG8 (by rw [← hz]; omega) ?_ ?_ ?_
    · exact fun e => absurd r4.lt (by omega)
    · exact fun hS => absurd (hold8 _ hS) (by omega)
    · intro i hi
      refine elIni_loc ht of sub _ _ (fun j hj => ?_) hini
      rw [← hz] at hj ⊢
      rw [Nat.zero_add]
      exact hat8 i j hi hj
    · intro a10 w10 u10 r10 m10 hR10
      have f10 := f9.upd u10 (fun t ht => clear_iff kl t (List.mem_cons_of_mem _ ht))
      have hsp10 : sl a10 sp = .pointer (some ⟨cb, co, none⟩) := by rw [upd_of u10 kl sp (by simp), upd_of u9 k0 sp (by simp), upd_of u8 kA sp (by simp)]; exact hsp7
      have hda10 : sl a10 da = .slice (some ⟨w4.heap.size, 0, none⟩) n m := by rw [upd_of u10 al da (by simp), upd_of u9 a0 da (by simp)]; exact s8
      have hg410 : w4.grownBy w10 (some rb) := ⟨m10.os.trans ho8, m10.tape.trans ht8, m10.output.trans hp8, Nat.le_trans hg48.size m10.size, fun k hk hr => (m10.block k (by omega) (fun e => hr (by rw [e])) (by omega)).trans (hold k hk)⟩
      refine hend a10 w10 _ _ f10 hsp10 ?_ r10 (grownBy_trans g4 hg410) ?_ hrdg (by rw [hda10]; rfl) ?_
      · refine ((hu7.trans (u8.mono ?_)).trans (u9.mono ?_)).trans (u10.mono ?_) <;> (intro t ht; simp only [mem_writes_seq, writes_cond, List.mem_append, ht]; simp)
      · rw [hg410.block cb hcb (fun e => hp.ne (Option.some.inj e))]; exact hrow4
      · intro c hc
        simp only [repF, fieldRep, if_pos, listRep]
        rw [if_neg (by have : ¬ (0 ≤ null) := by omega
                       simp [this])]
        refine ⟨fun _ => rfl, .inr ⟨w4.heap.size, 0, m, ?_, .inr g4.size, by have := m10.size; omega, fun k x hx => ?_⟩⟩
        · rw [hc, hda10]; simp [Tl, rdMany_len]
        · have := hR10 k x hx
          exact elR_stable htg hT of sub w10 w10 _ _ _ _ x (fun _ _ _ => rfl) (Nat.le_refl _) (fun g hg => hg.imp (fun h => h) (fun h => by have := g4.size; omega)) (fun _ _ => rfl) this
    · intro a10 w10 hn10 hs10 hd10 hv10 m10
      refine ⟨by rw [hrdg]; exact hn10, hs10, hd10, hv10, ?_⟩
      have hg410 : w4.grownBy w10 (some rb) := ⟨m10.os.trans ho8, m10.tape.trans ht8, m10.output.trans hp8, Nat.le_trans hg48.size m10.size, fun k hk hr => (m10.block k (by omega) (fun e => hr (by rw [e])) (by omega)).trans (hold k hk)⟩
      exact Md.of_grown (grownBy_trans g4 hg410) hp.ne _ _
  · refine wp_cond_false (by rw [eval_tmp, s7]; simp [hpos]) (wp_skip ?_)
    refine wp_seq (wp_seq (h0 a7 w4 _ f7.size fun a9 u9 s9 => ?_))
    have f9 := f7.upd u9 (fun t ht => clear_iff k0 t (List.mem_cons_of_mem _ ht))
    obtain ⟨-, hloop⟩ := hl rb S (some bs) 0 a9 w4 f9 r4 he4 hp.rbe (fun g hg => Nat.lt_of_lt_of_le (hp.old g hg) g4.size) s9 (by omega)
    refine hloop r _ (by rw [upd_of u9 d0' dl (by simp)]; exact hl7) (by omega) fun a10 u10 => ?_
    have f10 := f9.upd u10 (fun t ht => clear_iff kl t (List.mem_cons_of_mem _ ht))
    have hsp10 : sl a10 sp = .pointer (some ⟨cb, co, none⟩) := by rw [upd_of u10 kl sp (by simp), upd_of u9 k0 sp (by simp)]; exact hsp7
    have hda10 : sl a10 da = .slice none 0 0 := by rw [upd_of u10 al da (by simp), upd_of u9 a0 da (by simp)]; exact hda7
    refine hend a10 w4 [] (some bs) f10 hsp10 ?_ r4 g4 hrow4 ?_ (by rw [hda10]; rfl) ?_
    · refine (hu7.trans (u9.mono ?_)).trans (u10.mono ?_) <;> (intro t ht; simp only [mem_writes_seq, ht]; simp)
    · rw [hgst]
      have : r.toNat = 0 := by omega
      simp [listR, hok, hr, this, rdMany]
    · intro c hc
      simp only [repF, fieldRep, if_pos, listRep]
      rw [if_neg (by have : ¬ (0 ≤ null) := by omega
                     simp [this])]
      exact ⟨fun _ => rfl, .inl ⟨by have : ¬ (0 ≤ null) := by omega
                                    simp [this], by rw [hc, hda10], rfl⟩⟩
end
end Go.Proofs.YtpknjenihcfhlaaDoor
