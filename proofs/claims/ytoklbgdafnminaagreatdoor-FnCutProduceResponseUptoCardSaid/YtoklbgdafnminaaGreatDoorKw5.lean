/-
  Known tags, written: is a field as usual? Conditions: none.
-/
import Derived.Test.YtoklbgdafnminaaGreatDoorKw4
import Derived.Stop.BytesEq
namespace Go.Proofs.YtoklbgdafnminaaGreatDoor
open Go.RowKit (Below)
open Kz

theorem fixed_eq8 {n d : Int} (hn : -9223372036854775808 ≤ n ∧ n ≤ 9223372036854775807) (hd : -9223372036854775808 ≤ d ∧ d ≤ 9223372036854775807) : (fixed n 8 == fixed d 8) = (n == d) := by
  by_cases h : n = d
  · simp [h]
  · have : ¬ fixed n 8 = fixed d 8 := fun e => h (by
      have h1 := beNat_fixed n 8
      have h2 := beNat_fixed d 8
      rw [e] at h1
      have h3 := h1.symm.trans h2
      have e : (2 : Int) ^ (8 * 8) = 18446744073709551616 := by decide
      rw [e] at h3
      omega)
    rw [beq_eq_false_iff_ne.2 this, beq_eq_false_iff_ne.2 h]
theorem fixed_eq4 {n d : Int} (hn : -2147483648 ≤ n ∧ n ≤ 2147483647) (hd : -2147483648 ≤ d ∧ d ≤ 2147483647) : (fixed n 4 == fixed d 4) = (n == d) := by
  by_cases h : n = d
  · simp [h]
  · have : ¬ fixed n 4 = fixed d 4 := fun e => h (by
      have h1 := beNat_fixed n 4
      have h2 := beNat_fixed d 4
      rw [e] at h1
      have h3 := h1.symm.trans h2
      have e : (2 : Int) ^ (8 * 4) = 4294967296 := by decide
      rw [e] at h3
      omega)
    rw [beq_eq_false_iff_ne.2 this, beq_eq_false_iff_ne.2 h]
theorem uuid_zero (s : List UInt8) : (uuid s == List.replicate 16 0) = (s.take 16).all (· == 0) := by
  have hl : (s.take 16).length + (16 - s.length) = 16 := by simp; omega
  have e : List.replicate 16 (0 : UInt8) = List.replicate (s.take 16).length 0 ++ List.replicate (16 - s.length) 0 := by rw [List.replicate_append_replicate, hl]
  rw [uuid, e, Bool.eq_iff_iff]
  simp only [beq_iff_eq, List.all_eq_true, List.append_cancel_right_eq]
  constructor
  · intro h x hx
    rw [h] at hx
    exact (List.mem_replicate.1 hx).2
  · intro h
    exact List.eq_replicate_of_mem h
section
variable {E : WE} {v : Int} {sp off : Nat}
/-- A field's place, and what is there. -/
theorem reg_at {a : Act} {w : World} {Q : Exit → Act → World → Prop} {ops : Array Oper} {rest : List Oper} {t1 t2 t3 TT k cb co : Nat} {y1 y2 y3 : TypeId} {p1 p2 p3 : String} {e1 e2 e3 : Array Edge} (hoff : offOf Tryz.prog TT k = some off) (hn : t1 < a.tmps.size ∧ t2 < a.tmps.size ∧ t3 < a.tmps.size) (hsp : sl a sp = .pointer (some ⟨cb, co, none⟩))
    (h : ∀ a1, Upd a a1 [t1, t2, t3] → sl a1 t3 = .pointer (some ⟨cb, co + off, none⟩) → wpList Tryz.prog ops Q rest a1 w) :
    wpList Tryz.prog ops Q (⟨some t1, .move (.tmp sp), y1, p1, e1, none⟩ :: ⟨some t2, .nilCheck (.tmp t1), y2, p2, e2, none⟩ :: ⟨some t3, .fieldAddr TT (.tmp t2) k, y3, p3, e3, none⟩ :: rest) a w := by
  refine st_move (st_nil (p := ⟨cb, co, none⟩) ?_ (st_field (b := cb) (o := co) (fieldOff_ok hoff) ?_ (h _ ((((Upd.refl a _).put t1 _ (by simp)).put t2 _ (by simp)).put t3 _ (by simp)) ?_)))
  · rw [eval_tmp, sl_put_self _ _ _ hn.1, eval_tmp, hsp]
  · rw [eval_tmp, sl_put_self _ _ _ (by rw [put_size]; exact hn.2.1)]
  · rw [sl_put_self _ _ _ (by simp only [put_size]; exact hn.2.2)]
theorem testI {id t1 t2 t3 t4 t T TT k T' T'' of : Nat} {frm to null tag dflt dd : Int} {sub : List F} {y1 y2 y3 y4 y5 : TypeId} {p1 p2 p3 p4 p5 : String} {e1 e2 e3 e4 e5 : Array Edge}
    (hT : T = 2) (hoff : offOf Tryz.prog TT k = some off) (hd : decide (dd = dflt ∧ -9223372036854775808 ≤ dflt ∧ dflt ≤ 9223372036854775807) = true) (hn : [t1, t2, t3, t4, t].all (· < E.N) = true) :
    TestF E v sp off (.mk 4 frm to null tag dflt of sub) t (Code.region id #[⟨some t1, .move (.tmp sp), y1, p1, e1, none⟩, ⟨some t2, .nilCheck (.tmp t1), y2, p2, e2, none⟩, ⟨some t3, .fieldAddr TT (.tmp t2) k, y3, p3, e3, none⟩, ⟨some t4, .load T (.tmp t3), y4, p4, e4, none⟩, ⟨some t, .binOp .neq T' (.tmp t4) (.const (.int .i64 dd)) T'', y5, p5, e5, none⟩] false) := by
  intro K a w cb co x Q hfr hsp hr hft hq
  subst hT
  obtain ⟨rfl, hb⟩ := of_decide_eq_true hd
  simp only [List.all_cons, List.all_nil, Bool.and_true, Bool.and_eq_true, decide_eq_true_eq] at hn
  obtain ⟨n1, n2, n3, n4, nt⟩ := hn
  have hsz := hfr.size
  have hr' : w.cell? ⟨cb, co + off + 0, none⟩ = some (.int .i64 x.n) ∧ _ := hr
  have hxb := hr'.2.2.2 rfl
  have hus : usual (.mk 4 frm to null tag dd of sub) x = (x.n == dd) := fixed_eq8 hxb hb
  refine wp_region_lit (reg_at hoff (by rw [hsz]; exact ⟨n1, n2, n3⟩) hsp fun a1 u1 s1 => ?_)
  refine st_load (b := cb) (o := co + off) (load1_of Tryz.underlying2 rfl) (by rw [eval_tmp, s1]) hr'.1 ?_
  refine st_val (v := .bool (x.n != dd)) (w' := w) (exec_bin (u := .int .i64 x.n) (z := .int .i64 dd) (by rw [eval_tmp, sl_put_self _ _ _ (by rw [u1.size]; omega)]) (eval_const _ _) (eqGuard_at_int ..) (binOp_neq ..)) (wpList_nil (hq _ w ?_ ?_ (Below.refl _ _)))
  · exact (u1.mono (fun t ht => by simp only [List.mem_cons, List.not_mem_nil, or_false] at ht; rcases ht with h | h | h <;> simp [writes, h])).trans (((Upd.refl a1 _).put t4 _ (by simp [writes])).put t _ (by simp [writes]))
  · rw [sl_put_self _ _ _ (by rw [put_size, u1.size]; omega), hus]
    rfl
theorem exec_bin2 {P : Program} {ρ : Operand → Value} {d : Option Nat} {op : BinOp} {T T' ty : TypeId} {x y : Operand} {u z r : Value} {pos : String} {aft : Array Edge} {g : Option (Nat × Bool)} {w : World} (hx : ρ x = u) (hy : ρ y = z) (hg : (eqGuard op T x y u z).run P w = .ok () w) (hb : (binOp op T u z).run P w = .ok r w) :
    (execOp ρ ⟨d, .binOp op T x y T', ty, pos, aft, g⟩).run P w = .ok (.value r) w := by
  simp only [execOp, hx, hy, Sem.run_bind, hg, hb, Result.andThen_ok, Sem.run_pure]
theorem build_uu (w : World) : (Instr.build 109 #[]).run Tryz.prog w = .ok (.agg uuZ) w := by kernel_rfl
theorem uu_guard (w : World) {x y : Operand} {xs ys : Array Value} : (eqGuard .neq 109 x y (.agg xs) (.agg ys)).run Tryz.prog w = .ok () w := run_eqGuard_agg w _ _ _ _ _ _ (by kernel_rfl)
theorem uu_neq (w : World) (s : List UInt8) : (binOp .neq 109 (.agg (uuCells s).toArray) (.agg uuZ)).run Tryz.prog w = .ok (.bool (!(s.take 16).all (· == 0))) w := by
  rw [run_neq_struct]
  have e : uuZ = ((List.replicate 16 (0 : UInt8)).map Extern.Stop.cell).toArray := by rfl
  have e2 : uuCells s = (uuid s).map Extern.Stop.cell := rfl
  rw [e, e2, run_equalIn_bytes w 9998 109 5 16 uu_under Tryz.underlying5 (fun w => by kernel_rfl) _ _ (uuid_length s) (by simp), uuid_zero]
  rfl
set_option maxRecDepth 8000 in
theorem testU {id t1 t2 t3 t4 t5 t T TT k T2 T' T'' of : Nat} {frm to null tag dflt : Int} {sub : List F} {y1 y2 y3 y4 y5 y6 : TypeId} {p1 p2 p3 p4 p5 p6 : String} {e1 e2 e3 e4 e5 e6 : Array Edge}
    (hT : T = 109) (hT2 : T2 = 109) (hT' : T' = 109) (hoff : offOf Tryz.prog TT k = some off) (hn : [t1, t2, t3, t4, t5, t].all (· < E.N) = true) (hd : decide (t4 ≠ t5) = true) :
    TestF E v sp off (.mk 7 frm to null tag dflt of sub) t (Code.region id #[⟨some t1, .move (.tmp sp), y1, p1, e1, none⟩, ⟨some t2, .nilCheck (.tmp t1), y2, p2, e2, none⟩, ⟨some t3, .fieldAddr TT (.tmp t2) k, y3, p3, e3, none⟩, ⟨some t4, .load T (.tmp t3), y4, p4, e4, none⟩, ⟨some t5, .build T2 #[], y5, p5, e5, none⟩, ⟨some t, .binOp .neq T' (.tmp t4) (.tmp t5) T'', y6, p6, e6, none⟩] false) := by
  intro K a w cb co x Q hfr hsp hr hft hq
  subst hT hT2 hT'
  have hd := of_decide_eq_true hd
  simp only [List.all_cons, List.all_nil, Bool.and_true, Bool.and_eq_true, decide_eq_true_eq] at hn
  obtain ⟨n1, n2, n3, n4, n5, nt⟩ := hn
  have hsz := hfr.size
  have hr' : ∀ i b, (uuid x.s)[i]? = some b → w.cell? ⟨cb, co + off + i, none⟩ = some (bv b) := hr
  have hrange : w.rangeAt cb (co + off) (uuCells x.s) := fun j u hj => by
    simp only [uuCells, List.getElem?_map, Option.map_eq_some_iff] at hj
    obtain ⟨b, hb, rfl⟩ := hj
    exact hr' j b hb
  have hus : usual (.mk 7 frm to null tag dflt of sub) x = (x.s.take 16).all (· == 0) := rfl
  refine wp_region_lit (reg_at hoff (by rw [hsz]; exact ⟨n1, n2, n3⟩) hsp fun a1 u1 s1 => ?_)
  refine st_load16 (b := cb) (o := co + off) (uuCells_length x.s) (by rw [eval_tmp, s1]) hrange ?_
  refine st_val (v := .agg uuZ) (w' := w) (by unfold execOp; simp only [List.map_toArray, List.map_nil, Sem.run_bind, build_uu, Result.andThen_ok, Sem.run_pure]) ?_
  refine st_val (v := .bool (!(x.s.take 16).all (· == 0))) (w' := w) (exec_bin2 (u := .agg (uuCells x.s).toArray) (z := .agg uuZ) (by rw [eval_tmp, sl_put_other _ _ _ _ (fun e => hd e.symm), sl_put_self _ _ _ (by rw [u1.size]; omega)]) (by rw [eval_tmp, sl_put_self _ _ _ (by rw [put_size, u1.size]; omega)]) (uu_guard w) (uu_neq w x.s)) (wpList_nil (hq _ w ?_ ?_ (Below.refl _ _)))
  · exact (u1.mono (fun t ht => by simp only [List.mem_cons, List.not_mem_nil, or_false] at ht; rcases ht with h | h | h <;> simp [writes, h])).trans ((((Upd.refl a1 _).put t4 _ (by simp [writes])).put t5 _ (by simp [writes])).put t _ (by simp [writes]))
  · rw [sl_put_self _ _ _ (by simp only [put_size]; rw [u1.size]; omega), hus]
theorem testP {id t1 t2 t3 t4 t T TT k T' T'' of : Nat} {frm to null tag dflt : Int} {sub : List F} {y1 y2 y3 y4 y5 : TypeId} {p1 p2 p3 p4 p5 : String} {e1 e2 e3 e4 e5 : Array Edge}
    (hT : T = 65) (hT' : T' = 65) (hnull : decide (0 ≤ null) = true) (hoff : offOf Tryz.prog TT k = some off) (hn : [t1, t2, t3, t4, t].all (· < E.N) = true) :
    TestF E v sp off (.mk 8 frm to null tag dflt of sub) t (Code.region id #[⟨some t1, .move (.tmp sp), y1, p1, e1, none⟩, ⟨some t2, .nilCheck (.tmp t1), y2, p2, e2, none⟩, ⟨some t3, .fieldAddr TT (.tmp t2) k, y3, p3, e3, none⟩, ⟨some t4, .load T (.tmp t3), y4, p4, e4, none⟩, ⟨some t, .binOp .neq T' (.tmp t4) (.const (.pointer none)) T'', y5, p5, e5, none⟩] false) := by
  intro K a w cb co x Q hfr hsp hr hft hq
  subst hT hT'
  have hnull := of_decide_eq_true hnull
  simp only [List.all_cons, List.all_nil, Bool.and_true, Bool.and_eq_true, decide_eq_true_eq] at hn
  obtain ⟨n1, n2, n3, n4, nt⟩ := hn
  have hsz := hfr.size
  have hr' : valRep (decide (0 ≤ null)) 8 (asmRep TagRep v true true sub (repFs TagRep v true true sub)) w K (fun j => w.cell? ⟨cb, co + off + j, none⟩) x := hr
  simp only [valRep, hnull, decide_true, if_true] at hr'
  have hc : ∃ p : Option Addr, w.cell? ⟨cb, co + off, none⟩ = some (.pointer p) ∧ p.isNone = x.null := by
    by_cases hx : x.null = true
    · have := hr'
      simp [hx] at this
      exact ⟨none, this.1, by simp [hx]⟩
    · have := hr'
      simp [hx] at this
      obtain ⟨g, o, h1, -⟩ := this
      exact ⟨_, h1, by simpa using hx⟩
  obtain ⟨p, hc, hpn⟩ := hc
  have hus : usual (.mk 8 frm to null tag dflt of sub) x = x.null := by simp [usual, hnull]
  refine wp_region_lit (reg_at hoff (by rw [hsz]; exact ⟨n1, n2, n3⟩) hsp fun a1 u1 s1 => ?_)
  refine st_load (b := cb) (o := co + off) (load1_of Tryz.underlying65 rfl) (by rw [eval_tmp, s1]) hc ?_
  refine st_val (v := .bool (!p.isNone)) (w' := w) (exec_binR (u := .pointer p) (z := .pointer none) (by rw [eval_tmp, sl_put_self _ _ _ (by rw [u1.size]; omega)]) (eval_const _ _) (by cases p <;> rfl) (run_neq_pointer_nil w _ _ (by kernel_rfl))) (wpList_nil (hq _ w ?_ ?_ (Below.refl _ _)))
  · exact (u1.mono (fun t ht => by simp only [List.mem_cons, List.not_mem_nil, or_false] at ht; rcases ht with h | h | h <;> simp [writes, h])).trans (((Upd.refl a1 _).put t4 _ (by simp [writes])).put t _ (by simp [writes]))
  · rw [sl_put_self _ _ _ (by rw [put_size, u1.size]; omega), hus, hpn]

theorem testL {id t1 t2 t3 t4 t5 t T TS TT k T' T'' of e : Nat} {frm to tag dflt : Int} {sub : List F} {y1 y2 y3 y4 y5 y6 : TypeId} {p1 p2 p3 p4 p5 p6 : String} {e1 e2 e3 e4 e5 e6 : Array Edge}
    (hTS : T = TS) (hT : sliceOf Tryz.prog TS = some e) (hoff : offOf Tryz.prog TT k = some off) (hn : [t1, t2, t3, t4, t5, t].all (· < E.N) = true) :
    TestF E v sp off (.mk 11 frm to (-1) tag dflt of sub) t (Code.region id #[⟨some t1, .move (.tmp sp), y1, p1, e1, none⟩, ⟨some t2, .nilCheck (.tmp t1), y2, p2, e2, none⟩, ⟨some t3, .fieldAddr TT (.tmp t2) k, y3, p3, e3, none⟩, ⟨some t4, .load T (.tmp t3), y4, p4, e4, none⟩, ⟨some t5, .call { callee := .builtin .len, args := #[.tmp t4], argTypes := #[TS] }, y5, p5, e5, none⟩, ⟨some t, .binOp .gtr T' (.tmp t5) (.const (.int .i64 0)) T'', y6, p6, e6, none⟩] false) := by
  intro K a w cb co x Q hfr hsp hr hft hq
  subst hTS
  simp only [List.all_cons, List.all_nil, Bool.and_true, Bool.and_eq_true, decide_eq_true_eq] at hn
  obtain ⟨n1, n2, n3, n4, n5, nt⟩ := hn
  have hsz := hfr.size
  have hr' : listRep false (valCells of (cellsP true sub)) (valRep false of (asmRep TagRep v true true sub (repFs TagRep v true true sub))) w K (fun j => w.cell? ⟨cb, co + off + j, none⟩) x := hr
  have hc : ∃ p m, w.cell? ⟨cb, co + off, none⟩ = some (.slice p x.l.length m) := by
    simp only [listRep, Bool.false_eq_true, false_and, if_false] at hr'
    rcases hr'.2 with ⟨-, h, hl⟩ | ⟨g, o, m, h, -⟩
    · exact ⟨none, 0, by rw [hl]; exact h⟩
    · exact ⟨_, m, h⟩
  obtain ⟨p, m, hc⟩ := hc
  have hus : usual (.mk 11 frm to (-1) tag dflt of sub) x = x.l.isEmpty := rfl
  refine wp_region_lit (reg_at hoff (by rw [hsz]; exact ⟨n1, n2, n3⟩) hsp fun a1 u1 s1 => ?_)
  refine st_load (b := cb) (o := co + off) (load1_of (sliceOf_ok hT) rfl) (by rw [eval_tmp, s1]) hc ?_
  refine st_val (v := .int .i64 (x.l.length : Int)) (w' := w) (exec_len_slice (p := p) (c := m) (sliceOf_ok hT) (by rw [eval_tmp, sl_put_self _ _ _ (by rw [u1.size]; omega)])) ?_
  refine st_val (v := .bool (decide ((x.l.length : Int) > 0))) (w' := w) (exec_bin (u := .int .i64 (x.l.length : Int)) (z := .int .i64 0) (by rw [eval_tmp, sl_put_self _ _ _ (by rw [put_size, u1.size]; omega)]) (eval_const _ _) (eqGuard_at_int ..) (binOp_gtr ..)) (wpList_nil (hq _ w ?_ ?_ (Below.refl _ _)))
  · exact (u1.mono (fun t ht => by simp only [List.mem_cons, List.not_mem_nil, or_false] at ht; rcases ht with h | h | h <;> simp [writes, h])).trans ((((Upd.refl a1 _).put t4 _ (by simp [writes])).put t5 _ (by simp [writes])).put t _ (by simp [writes]))
  · rw [sl_put_self _ _ _ (by simp only [put_size]; rw [u1.size]; omega), hus]
    cases hx : x.l with
    | nil => rfl
    | cons y ys => simp
/-! ## A struct -/
def NewC (f : Nat) (D : Array Value) : Prop := ∀ w : World, Calls Tryz.prog f #[] w fun e w' => e = .returned (.agg D) ∧ Below w.heap.size w w'
def SameC (f : Nat) (k1 k2 : IntKind) : Prop := ∀ (w : World) (n1 n2 d1 d2 : Int) (r : Option Nat), Calls Tryz.prog f #[.agg #[.int k1 n1, .int k2 n2, .map r], .agg #[.int k1 d1, .int k2 d2, .map none]] w fun e w' => e = .returned (.bool (n1 == d1 && n2 == d2 && r.isNone)) ∧ Below w.heap.size w w'
def mark7 (k : Nat) : Array Bool := #[Nat.blt 0 k, Nat.blt 1 k, Nat.blt 2 k, Nat.blt 3 k, Nat.blt 4 k, Nat.blt 5 k, Nat.blt 6 k]
/-- The order in which such a region may be taken. -/
def sameOk (ops : Array Oper) : Bool :=
  Region.noSelect ops && decide (ops.size = 7) &&
  ((Region.ready .any ops (mark7 0)).contains 0 && Region.free .any ops (mark7 0) 0) && ((Region.ready .any ops (mark7 1)).contains 1 && Region.free .any ops (mark7 1) 1) &&
  ((Region.ready .any ops (mark7 2)).contains 2 && Region.free .any ops (mark7 2) 2) && ((Region.ready .any ops (mark7 3)).contains 3 && Region.free .any ops (mark7 3) 3) &&
  decide (Region.ready .any ops (mark7 4) = [4]) && decide (Region.ready .any ops (mark7 5) = [5]) && decide (Region.ready .any ops (mark7 6) = [6]) && decide (Region.ready .any ops (mark7 7) = [])
theorem mark7_set : ∀ k, k < 7 → (mark7 k).setIfInBounds k true = mark7 (k + 1) := fun k hk => by
  rcases (by omega : k = 0 ∨ k = 1 ∨ k = 2 ∨ k = 3 ∨ k = 4 ∨ k = 5 ∨ k = 6) with rfl | rfl | rfl | rfl | rfl | rfl | rfl <;> rfl
theorem mark7_none : Array.replicate 7 false = mark7 0 := rfl
abbrev twoInts (kk : Nat) (d1 d2 : Int) : List F := [.mk 3 0 (-1) (-1) (-1) d1 0 [], .mk kk 0 (-1) (-1) (-1) d2 0 []]
theorem two_rep {kk : Nat} {d1 d2 : Int} (hv : 0 ≤ v) (hkk : decide (kk = 3 ∧ -2147483648 ≤ d2 ∧ d2 ≤ 2147483647 ∨ kk = 4 ∧ -9223372036854775808 ≤ d2 ∧ d2 ≤ 9223372036854775807) = true) (hd1 : decide (-2147483648 ≤ d1 ∧ d1 ≤ 2147483647) = true) {w : World} {K : Nat → Prop} {c : Cells} {x : T} (hr : repP TagRep v true true (twoInts kk d1 d2) w K c x) (hft : Fit x) :
    ∃ n1 n2 r, c 0 = some (.int .i32 n1) ∧ c 1 = some (.int (ikOf kk) n2) ∧ c 2 = some (.map r) ∧ (allUsual (usuals (twoInts kk d1 d2)) x.l && (unknown (known (twoInts kk d1 d2)) x.u).isEmpty) = (n1 == d1 && n2 == d2 && r.isNone) := by
  have hd1 := of_decide_eq_true hd1
  have hkk := of_decide_eq_true hkk
  obtain ⟨⟨x1, xs1, h1, o1, x2, xs2, h2, o2, h3⟩, ht⟩ := hr
  have h3 : xs2 = [] := h3
  subst h3 h2
  have ht := ht rfl
  have hs := tagRep_sorted ht.1
  obtain ⟨r, hr0, hr1⟩ := ht.1
  have e1 : (c 0 = some (.int .i32 x1.n)) ∧ (-2147483648 ≤ x1.n ∧ x1.n ≤ 2147483647) := by
    have : valRep false 3 (asmRep TagRep v true true [] (repFs TagRep v true true [])) w K c x1 := o1 (by simp [F.on, F.has, hv])
    exact ⟨this.1, this.2.2.1 rfl⟩
  have on2 : Kz.F.on (.mk kk 0 (-1) (-1) (-1) d2 0 []) v true = true := by simp [F.on, F.has, hv]
  have e2 : (c 1 = some (.int (ikOf kk) x2.n)) ∧ (fixed x2.n (width kk) == fixed d2 (width kk)) = (x2.n == d2) := by
    rcases hkk with ⟨rfl, b1, b2⟩ | ⟨rfl, b1, b2⟩
    · have : valRep false 3 (asmRep TagRep v true true [] (repFs TagRep v true true [])) w K (fun j => c (cellsF true (.mk 3 0 (-1) (-1) (-1) d1 0 []) + j)) x2 := o2 on2
      exact ⟨this.1, fixed_eq4 (this.2.2.1 rfl) ⟨b1, b2⟩⟩
    · have : valRep false 4 (asmRep TagRep v true true [] (repFs TagRep v true true [])) w K (fun j => c (cellsF true (.mk 3 0 (-1) (-1) (-1) d1 0 []) + j)) x2 := o2 on2
      exact ⟨this.1, fixed_eq8 (this.2.2.2 rfl) ⟨b1, b2⟩⟩
  have hu2 : usual (.mk kk 0 (-1) (-1) (-1) d2 0 []) x2 = (fixed x2.n (width kk) == fixed d2 (width kk)) := by
    rcases hkk with ⟨rfl, -⟩ | ⟨rfl, -⟩ <;> rfl
  have hu1 : usual (.mk 3 0 (-1) (-1) (-1) d1 0 []) x1 = (x1.n == d1) := fixed_eq4 e1.2 hd1
  have hc2 : c 2 = some (.map r) := by
    have e : cellsFs true (twoInts kk d1 d2) = 2 := by rcases hkk with ⟨rfl, -⟩ | ⟨rfl, -⟩ <;> rfl
    have := hr0
    simp only [e] at this
    exact this
  refine ⟨x1.n, x2.n, r, e1.1, e2.1, hc2, ?_⟩
  rw [unknown_sorted _ x.u hs hft.fu ht.2, h1]
  have hrn : r.isNone = x.u.isEmpty := by
    cases r with
    | none => have : x.u = [] := hr1; simp [this]
    | some b =>
      obtain ⟨-, l, n, hl, -, -, -, hT⟩ := hr1
      cases hx : x.u with
      | nil =>
        rw [hx] at hT
        cases l with
        | nil => exact absurd rfl hl
        | cons _ _ => simp [TagsAt] at hT
      | cons _ _ => rfl
  simp only [usuals, allUsual, List.headD_cons, List.tail_cons, hu1, hu2, e2.2, hrn, Bool.and_true, Bool.and_assoc]
set_option maxRecDepth 8000 in
theorem testS {id t1 t2 t3 t4 t5 t6 t f1 f2 TS TT k T' kk of : Nat} {frm to tag dflt d1 d2 : Int} {tys1 tys2 : Array TypeId} {y1 y2 y3 y4 y5 y6 y7 : TypeId} {p1 p2 p3 p4 p5 p6 p7 : String} {e1 e2 e3 e4 e5 e6 e7 : Array Edge} {td : TypeDesc} (hv : 0 ≤ v)
    (hkk : decide (kk = 3 ∧ -2147483648 ≤ d2 ∧ d2 ≤ 2147483647 ∨ kk = 4 ∧ -9223372036854775808 ≤ d2 ∧ d2 ≤ 9223372036854775807) = true) (hd1 : decide (-2147483648 ≤ d1 ∧ d1 ≤ 2147483647) = true)
    (hN : NewC f1 #[.int .i32 d1, .int (ikOf kk) d2, .map none]) (hS : SameC f2 .i32 (ikOf kk)) (hg1 : hasBody Tryz.prog f1 = true) (hg2 : hasBody Tryz.prog f2 = true) (hu : Tryz.prog.underlying TS = some td) (hrow : td.isRow = true) (hi : (Tryz.prog.info? TS).map (·.size) = some 3) (hoff : offOf Tryz.prog TT k = some off)
    (hB : sameOk #[⟨some t1, .move (.tmp sp), y1, p1, e1, none⟩, ⟨some t2, .nilCheck (.tmp t1), y2, p2, e2, none⟩, ⟨some t3, .fieldAddr TT (.tmp t2) k, y3, p3, e3, none⟩, ⟨some t4, .load TS (.tmp t3), y4, p4, e4, none⟩, ⟨some t5, .call { callee := .value (.func f1), args := #[], argTypes := tys1 }, y5, p5, e5, none⟩,
      ⟨some t6, .call { callee := .value (.func f2), args := #[.tmp t4, .tmp t5], argTypes := tys2 }, y6, p6, e6, none⟩, ⟨some t, .unOp .not T' (.tmp t6), y7, p7, e7, none⟩] = true)
    (hn : [t1, t2, t3, t4, t5, t6, t].all (· < E.N) = true) (hd : decide (t4 ≠ t5) = true) :
    TestF E v sp off (.mk 10 frm to (-1) tag dflt of (twoInts kk d1 d2)) t (Code.region id #[⟨some t1, .move (.tmp sp), y1, p1, e1, none⟩, ⟨some t2, .nilCheck (.tmp t1), y2, p2, e2, none⟩, ⟨some t3, .fieldAddr TT (.tmp t2) k, y3, p3, e3, none⟩, ⟨some t4, .load TS (.tmp t3), y4, p4, e4, none⟩, ⟨some t5, .call { callee := .value (.func f1), args := #[], argTypes := tys1 }, y5, p5, e5, none⟩,
      ⟨some t6, .call { callee := .value (.func f2), args := #[.tmp t4, .tmp t5], argTypes := tys2 }, y6, p6, e6, none⟩, ⟨some t, .unOp .not T' (.tmp t6), y7, p7, e7, none⟩] true) := by
  intro K a w cb co x Q hfr hsp hr hft hq
  have hd := of_decide_eq_true hd
  simp only [List.all_cons, List.all_nil, Bool.and_true, Bool.and_eq_true, decide_eq_true_eq] at hn
  obtain ⟨n1, n2, n3, n4, n5, n6, nt⟩ := hn
  have hsz := hfr.size
  obtain ⟨m1, m2, r, c0, c1, c2, hus⟩ := two_rep (v := v) hv hkk hd1 (c := fun j => w.cell? ⟨cb, co + off + j, none⟩) (x := x) (K := K) (w := w) hr hft
  have hus : usual (.mk 10 frm to (-1) tag dflt of (twoInts kk d1 d2)) x = (m1 == d1 && m2 == d2 && r.isNone) := hus
  have hrange : w.rangeAt cb (co + off) [.int .i32 m1, .int (ikOf kk) m2, .map r] := fun j u hj => by
    rcases j with _ | _ | _ | j
    · cases hj; exact c0
    · cases hj; exact c1
    · cases hj; exact c2
    · simp at hj
  have hlt : cb < w.heap.size := World.block_lt_of_cell? w _ c0
  obtain ⟨fn1, hfn1, hb1, hnn1⟩ := hasBody_ok hg1
  obtain ⟨fn2, hfn2, hb2, hnn2⟩ := hasBody_ok hg2
  refine wp_region_noPanic (wp_region_held (S := fun w' => w'.rangeAt cb (co + off) [.int .i32 m1, .int (ikOf kk) m2, .map r]) (by kernel_rfl) ?_)
  have hq' : ∀ a' w', Upd a a' [t1, t2, t3, t4, t5, t6, t] → sl a' t = .bool (!usual (.mk 10 frm to (-1) tag dflt of (twoInts kk d1 d2)) x) → Below w.heap.size w w' → Q .normal a' w' := fun a' w' u => hq a' w' (u.mono (fun z hz => by simpa [writes] using hz))
  clear hq
  generalize hops : (#[⟨some t1, .move (.tmp sp), y1, p1, e1, none⟩, ⟨some t2, .nilCheck (.tmp t1), y2, p2, e2, none⟩, ⟨some t3, .fieldAddr TT (.tmp t2) k, y3, p3, e3, none⟩, ⟨some t4, .load TS (.tmp t3), y4, p4, e4, none⟩, ⟨some t5, .call { callee := .value (.func f1), args := #[], argTypes := tys1 }, y5, p5, e5, none⟩,
      ⟨some t6, .call { callee := .value (.func f2), args := #[.tmp t4, .tmp t5], argTypes := tys2 }, y6, p6, e6, none⟩, ⟨some t, .unOp .not T' (.tmp t6), y7, p7, e7, none⟩] : Array Oper) = ops at hB ⊢
  have o0 : ops[0]? = some ⟨some t1, .move (.tmp sp), y1, p1, e1, none⟩ := by rw [← hops]; rfl
  have o1 : ops[1]? = some ⟨some t2, .nilCheck (.tmp t1), y2, p2, e2, none⟩ := by rw [← hops]; rfl
  have o2 : ops[2]? = some ⟨some t3, .fieldAddr TT (.tmp t2) k, y3, p3, e3, none⟩ := by rw [← hops]; rfl
  have o3 : ops[3]? = some ⟨some t4, .load TS (.tmp t3), y4, p4, e4, none⟩ := by rw [← hops]; rfl
  have o4 : ops[4]? = some ⟨some t5, .call { callee := .value (.func f1), args := #[], argTypes := tys1 }, y5, p5, e5, none⟩ := by rw [← hops]; rfl
  have o5 : ops[5]? = some ⟨some t6, .call { callee := .value (.func f2), args := #[.tmp t4, .tmp t5], argTypes := tys2 }, y6, p6, e6, none⟩ := by rw [← hops]; rfl
  have o6 : ops[6]? = some ⟨some t, .unOp .not T' (.tmp t6), y7, p7, e7, none⟩ := by rw [← hops]; rfl
  clear hops
  simp only [sameOk, Bool.and_eq_true, decide_eq_true_eq] at hB
  obtain ⟨⟨⟨⟨⟨⟨⟨⟨⟨hsel, h7⟩, k0, j0⟩, k1, j1⟩, k2, j2⟩, k3, j3⟩, m4⟩, m5⟩, m6⟩, m7⟩ := hB
  rw [h7, mark7_none]
  refine wpAnyH_take (v := sl a sp) o0 hsel j0 k0 (fun _ _ _ h => h) (.inl ⟨rfl, fun w _ => by unfold execOp; simp only [Sem.run_pure]; rfl⟩) hrange ?_
  rw [mark7_set 0 (by decide)]
  refine wpAnyH_take (v := .pointer (some ⟨cb, co, none⟩)) o1 hsel j1 k1 (fun _ _ _ h => h) (.inl ⟨rfl, fun w _ => ?_⟩) hrange ?_
  · unfold execOp; simp only [eval_tmp, sl_put_self _ _ _ (show t1 < a.tmps.size by omega), hsp, Sem.run_pure]
  rw [mark7_set 1 (by decide)]
  refine wpAnyH_take (v := .pointer (some ⟨cb, co + off, none⟩)) o2 hsel j2 k2 (fun _ _ _ h => h) (.inl ⟨rfl, fun w _ => ?_⟩) hrange ?_
  · unfold execOp; simp only [eval_tmp, sl_put_self _ _ _ (show t2 < (a.put (some t1) (sl a sp)).tmps.size by rw [put_size]; omega), Sem.run_bind, fieldOff_ok hoff cb co w, Result.andThen_ok, Sem.run_pure]
  rw [mark7_set 2 (by decide)]
  refine wpAnyH_take (v := .agg [.int .i32 m1, .int (ikOf kk) m2, .map r].toArray) o3 hsel j3 k3 (fun _ _ _ h => h) (yieldsIf_load_mid rfl TS (.tmp t3) rfl cb (co + off) ?_ _ td (fun _ h => h) hu hrow hi) hrange ?_
  · rw [eval_tmp, sl_put_self _ _ _ (by simp only [put_size]; omega)]
  rw [mark7_set 3 (by decide)]
  generalize hA : ((((a.put (some t1) (sl a sp)).put (some t2) (.pointer (some ⟨cb, co, none⟩))).put (some t3) (.pointer (some ⟨cb, co + off, none⟩))).put (some t4) _) = a4
  have u4 : Upd a a4 [t1, t2, t3, t4, t5, t6, t] := by subst hA; exact ((((Upd.refl a _).put t1 _ (by simp)).put t2 _ (by simp)).put t3 _ (by simp)).put t4 _ (by simp)
  have s4 : sl a4 t4 = .agg #[.int .i32 m1, .int (ikOf kk) m2, .map r] := by subst hA; exact sl_put_self _ _ _ (by simp only [put_size]; omega)
  clear hA
  have hz4 := u4.size.trans hsz
  have hrb : ∀ {w1 : World}, Below w.heap.size w w1 → w1.rangeAt cb (co + off) [.int .i32 m1, .int (ikOf kk) m2, .map r] := fun hb j u hj => by rw [cell_kept (hb.block cb hlt)]; exact hrange j u hj
  refine wpAnyH_all m4 (by simp) fun i hi4 => ?_
  obtain rfl : i = 4 := by simpa using hi4
  refine any_step o4 rfl (oper_call hfn1 hb1 hnn1 (vs := #[]) (by simp) ?_)
  refine Calls.mono (hN (World.drawn1 w)) ?_
  rintro e w1 ⟨rfl, b1⟩
  have b1 : Below w.heap.size w w1 := ⟨b1.os, b1.tape, b1.output, b1.size, b1.block⟩
  refine ⟨_, rfl, hrb b1, ?_⟩
  rw [mark7_set 4 (by decide)]
  refine wpAnyH_all m5 (by simp) fun i hi5 => ?_
  obtain rfl : i = 5 := by simpa using hi5
  refine any_step o5 rfl (oper_call hfn2 hb2 hnn2 (vs := #[.agg #[.int .i32 m1, .int (ikOf kk) m2, .map r], .agg #[.int .i32 d1, .int (ikOf kk) d2, .map none]]) ?_ ?_)
  · simp only [List.map_toArray, List.map_cons, List.map_nil, eval_tmp]
    rw [sl_put_other _ _ _ _ (fun e => hd e.symm), s4, sl_put_self _ _ _ (by omega)]
  refine Calls.mono (hS w1 m1 m2 d1 d2 r) ?_
  rintro e w2 ⟨rfl, b2⟩
  have b2 : Below w.heap.size w w2 := b1.trans ⟨b2.os, b2.tape, b2.output, b2.size, fun g hg => b2.block g (Nat.lt_of_lt_of_le hg b1.size)⟩
  refine ⟨_, rfl, hrb b2, ?_⟩
  rw [mark7_set 5 (by decide)]
  refine wpAnyH_all m6 (by simp) fun i hi6 => ?_
  obtain rfl : i = 6 := by simpa using hi6
  refine any_step o6 rfl (oper_val (v := .bool (!(m1 == d1 && m2 == d2 && r.isNone))) (w' := w2) ?_ ⟨hrb b2, ?_⟩)
  · unfold execOp
    simp only [eval_tmp, sl_put_self _ _ _ (show t6 < (a4.put (some t5) (.agg #[.int .i32 d1, .int (ikOf kk) d2, .map none])).tmps.size by rw [put_size]; omega), Sem.run_bind, Sem.run_pure, Op.unary, Result.andThen_ok]
  rw [mark7_set 6 (by decide)]
  refine wpAnyH_done (Q := NoPanic Q) m7 (NoPanic.normal (hq' _ w2 ?_ ?_ b2)) _
  · exact u4.trans ((((Upd.refl a4 _).put t5 _ (by simp)).put t6 _ (by simp)).put t _ (by simp))
  · rw [sl_put_self _ _ _ (by simp only [put_size]; omega), hus]
end
end Go.Proofs.YtoklbgdafnminaaGreatDoor
