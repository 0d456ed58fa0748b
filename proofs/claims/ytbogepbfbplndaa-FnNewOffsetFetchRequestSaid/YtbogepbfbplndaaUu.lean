/-
  Sixteen octets, read and written. Conditions: none.
-/
import Derived.Test.YtbogepbfbplndaaY4
import Derived.Laws.IdiomCopy
import Derived.Laws.CopyRow
import Derived.Deep.MidRow
import Derived.Deep.QuietTactic
namespace Go.Proofs.Ytbogepbfbplndaa
open Go.RowKit (Below)
open Kz

/-- The cells of sixteen octets. -/
def uuCells (s : List UInt8) : List Value := (uuid s).map bv
def uuZ : Array Value := #[.int .u8 0, .int .u8 0, .int .u8 0, .int .u8 0, .int .u8 0, .int .u8 0, .int .u8 0, .int .u8 0, .int .u8 0, .int .u8 0, .int .u8 0, .int .u8 0, .int .u8 0, .int .u8 0, .int .u8 0, .int .u8 0]
theorem uuCells_nil : uuCells [] = uuZ.toList := by rfl
theorem uuCells_length (s : List UInt8) : (uuCells s).length = 16 := by rw [uuCells, List.length_map, uuid_length]
theorem uuCells_one (s : List UInt8) : (uuCells s).toArray.all (·.oneCell') = true := by
  refine Go.all_oneCell_toArray fun v hv => ?_
  simp only [uuCells, List.mem_map] at hv
  obtain ⟨b, -, rfl⟩ := hv
  rfl
theorem setRow_grown2 {w : World} {A : Nat} {c : Array Value} : w.grownBy (w.setRow A c) (some A) :=
  ⟨rfl, rfl, rfl, by simp [World.setRow], fun k hk hne => by
    simp only [World.setRow, Array.getElem?_modify]
    rw [if_neg (fun e => hne (by rw [e]))]⟩

theorem uu_info : (Try.prog.info? 72).map (·.size) = some 16 := by kernel_rfl
theorem uu_under : Try.prog.underlying 72 = some (.array 16 5) := by kernel_rfl
theorem uu_alloc (w : World) : (Instr.alloc 72 true (.tuple #[])).run Try.prog w = .ok (.pointer (some ⟨w.heap.size, 0, none⟩)) (w.alloc (.cells uuZ 72)) := by
  have hi : (Try.prog.info? 72).map (fun i => i.zero) = some (some (.agg uuZ)) := by kernel_rfl
  obtain ⟨i, hi, hz⟩ := Option.map_eq_some_iff.1 hi
  simp [Instr.alloc, zeroValue, typeInfo, hi, hz, newVar, newRow, Value.cells, Sem.run_bind]

theorem there_row {w : World} {b : Nat} {cs : Array Value} {T : TypeId} (h : w.heap[b]? = some (.cells cs T (0, 0))) {o n : Nat} (hn : o + n ≤ cs.size) : w.there b o n := fun j hj => by
  refine ⟨?_, by simp [World.frozen?, h]⟩
  rw [cell_of_row w b _ _ _ _ h]
  simp; omega
theorem range_row {w : World} {b : Nat} {cs : Array Value} {T : TypeId} (h : w.heap[b]? = some (.cells cs T (0, 0))) : w.rangeAt b 0 cs.toList := fun j v hv => by
  rw [cell_of_row w b _ _ _ _ h]
  simpa using hv
theorem setCells_block (b : Nat) : ∀ (vs : List Value) (o : Nat) (w : World) (k : Nat), k ≠ b → (w.setCells b o vs).heap[k]? = w.heap[k]?
  | [], _, _, _, _ => rfl
  | v :: r, o, w, k, h => by
    rw [World.setCells, setCells_block b r (o + 1) _ k h]
    exact Below.heap_setCell _ _ _ _ h
theorem setCells_size (b : Nat) : ∀ (vs : List Value) (o : Nat) (w : World), (w.setCells b o vs).heap.size = w.heap.size
  | [], _, _ => rfl
  | v :: r, o, w => by rw [World.setCells, setCells_size b r (o + 1)]; simp [World.setCell]
theorem setCells_os (b : Nat) : ∀ (vs : List Value) (o : Nat) (w : World), (w.setCells b o vs).os = w.os ∧ (w.setCells b o vs).tape = w.tape ∧ (w.setCells b o vs).output = w.output
  | [], _, _ => ⟨rfl, rfl, rfl⟩
  | v :: r, o, w => by rw [World.setCells]; exact setCells_os b r (o + 1) _
theorem setCells_grown (b : Nat) (vs : List Value) (o : Nat) (w : World) : w.grownBy (w.setCells b o vs) (some b) :=
  ⟨(setCells_os b vs o w).1, (setCells_os b vs o w).2.1, (setCells_os b vs o w).2.2, by rw [setCells_size]; exact Nat.le_refl _, fun k _ hne => setCells_block b vs o w k (fun e => hne (by rw [e]))⟩
theorem setCells_row (b : Nat) {T : TypeId} : ∀ (vs : List Value) (o : Nat) (w : World) (cs : Array Value), w.heap[b]? = some (.cells cs T (0, 0)) → ∃ cs', (w.setCells b o vs).heap[b]? = some (.cells cs' T (0, 0)) ∧ cs'.size = cs.size ∧ ∀ i, (i < o ∨ o + vs.length ≤ i) → cs'[i]? = cs[i]?
  | [], _, _, cs, h => ⟨cs, h, rfl, fun _ _ => rfl⟩
  | v :: r, o, w, cs, h => by
    rw [World.setCells]
    obtain ⟨cs', h1, h2, h3⟩ := setCells_row b r (o + 1) (w.setCell ⟨b, o, none⟩ v) _ (heap_setCell_row h)
    refine ⟨cs', h1, h2.trans (by simp), fun i hi => ?_⟩
    simp only [List.length_cons] at hi
    rw [h3 i (by omega), Array.getElem?_setIfInBounds_ne (by omega)]

theorem two_size (w : World) (o1 o2 : Obj) : ((w.alloc o1).alloc o2).heap.size = w.heap.size + 2 := by
  show ((w.heap.push o1).push o2).size = _
  rw [Array.size_push, Array.size_push]
theorem two_first (w : World) (o1 o2 : Obj) : ((w.alloc o1).alloc o2).heap[w.heap.size]? = some o1 := by
  rw [alloc_old _ _ _ (by show _ < (w.heap.push o1).size; rw [Array.size_push]; omega)]
  exact Array.getElem?_push_size
theorem two_second (w : World) (o1 o2 : Obj) : ((w.alloc o1).alloc o2).heap[w.heap.size + 1]? = some o2 := by
  have h : (w.heap.push o1).size = w.heap.size + 1 := Array.size_push ..
  rw [← h]
  exact Array.getElem?_push_size

theorem st_load16 {ops : Array Oper} {Q : Exit → Act → World → Prop} {rest : List Oper} {a : Act} {w : World} {d : Nat} {ty : TypeId} {pos : String} {aft : Array Edge} {x : Operand} {b o : Nat} {cs : List Value} (hl : cs.length = 16) (hx : a.eval x = .pointer (some ⟨b, o, none⟩)) (hc : w.rangeAt b o cs)
    (h : wpList Try.prog ops Q rest (a.put (some d) (.agg cs.toArray)) w) : wpList Try.prog ops Q (⟨some d, .load 72 x, ty, pos, aft, none⟩ :: rest) a w :=
  wpList_load_mid rfl 72 x rfl b o hx cs _ hc uu_under rfl (by rw [uu_info, hl]) h
theorem st_store16 {ops : Array Oper} {Q : Exit → Act → World → Prop} {rest : List Oper} {a : Act} {w : World} {ty : TypeId} {pos : String} {aft : Array Edge} {x y : Operand} {b o : Nat} {cs : List Value} (hl : cs.length = 16) (h1 : cs.toArray.all (·.oneCell') = true) (hx : a.eval x = .pointer (some ⟨b, o, none⟩)) (hy : a.eval y = .agg cs.toArray) (ht : w.there b o 16)
    (h : wpList Try.prog ops Q rest a (w.setCells b o cs)) : wpList Try.prog ops Q (⟨none, .store 72 x y, ty, pos, aft, none⟩ :: rest) a w :=
  wpList_store_mid rfl 72 x y rfl b o cs.toArray hx hy (by rw [List.size_toArray, hl]; exact ht) (by rw [uu_info, List.size_toArray, hl]) h1 h
theorem st_alloc16 {ops : Array Oper} {Q : Exit → Act → World → Prop} {rest : List Oper} {a : Act} {w : World} {d : Nat} {ty : TypeId} {pos : String} {aft : Array Edge}
    (h : wpList Try.prog ops Q rest (a.put (some d) (.pointer (some ⟨w.heap.size, 0, none⟩))) (w.alloc (.cells uuZ 72))) : wpList Try.prog ops Q (⟨some d, .alloc 72, ty, pos, aft, none⟩ :: rest) a w :=
  st_val (by unfold execOp; simp only [Sem.run_bind, uu_alloc, Result.andThen_ok, Sem.run_pure]) h
theorem alloc_grown (w : World) (o : Obj) : w.grownBy (w.alloc o) none := ⟨rfl, rfl, rfl, by show _ ≤ (w.heap.push o).size; rw [Array.size_push]; omega, fun k hk _ => alloc_old w o k hk⟩
theorem box16 (w : World) (cs : List Value) : w.grownBy ((w.alloc (.cells uuZ 72)).setCells w.heap.size 0 cs) none :=
  ⟨(setCells_grown _ _ _ _).os, (setCells_grown _ _ _ _).tape, (setCells_grown _ _ _ _).output, Nat.le_trans (alloc_grown w _).size (setCells_grown _ _ _ _).size, fun k hk _ => (setCells_block _ _ _ _ k (by omega)).trans (alloc_old w _ k hk)⟩
theorem box16_there (w : World) : (w.alloc (.cells uuZ 72)).there w.heap.size 0 16 :=
  there_row (cs := uuZ) (T := 72) Array.getElem?_push_size (by decide)
theorem box16_range (w : World) (cs : List Value) (hl : cs.length = 16) : ((w.alloc (.cells uuZ 72)).setCells w.heap.size 0 cs).rangeAt w.heap.size 0 cs :=
  World.rangeAt_setCells_same _ _ _ _ (by rw [hl]; exact box16_there w)
theorem Md.of_none {w w' : World} {rb cb lo n : Nat} (h : w.grownBy w' none) : Md w w' rb cb lo n :=
  ⟨h.os, h.tape, h.output, h.size, fun k hk _ _ => h.block k hk (by simp), fun cells T hw => ⟨cells, by rw [h.block cb (Array.getElem?_eq_some_iff.1 hw).1 (by simp)]; exact hw, rfl, fun _ _ => rfl⟩⟩
theorem Md.of_cells {w : World} {rb cb lo n : Nat} (cs : List Value) (hl : cs.length = n) : Md w (w.setCells cb lo cs) rb cb lo n :=
  ⟨(setCells_grown cb cs lo w).os, (setCells_grown cb cs lo w).tape, (setCells_grown cb cs lo w).output, (setCells_grown cb cs lo w).size, fun k _ _ hc => setCells_block cb cs lo w k hc, fun cells T hw => by
    obtain ⟨cs', h1, h2, h3⟩ := setCells_row cb cs lo w cells hw
    exact ⟨cs', h1, h2, fun i hi => h3 i (by rw [hl]; exact hi)⟩⟩



set_option maxRecDepth 8000 in
set_option maxHeartbeats 400000 in
theorem AppendUuid_any (w : World) (base : Nat) (v : Value) (bs : List UInt8) (s : List UInt8) (cs : Array Value) (hcs : cs = (s.map bv).toArray) (hs : s.length = 16) (h : OwnB w base v bs) (hb : base ≤ w.heap.size) (hl : bs.length + s.length ≤ lim) :
    Calls Try.prog 32 #[v, .agg cs] w fun e w' => ∃ v', e = .returned v' ∧ OwnB w' base v' (bs ++ s) ∧ Below base w w' := by
  have H := Lib.hid h
  have HL := Lib.hid hl
  have HC := Lib.hid hcs
  have HS := Lib.hid hs
  clear h hl hcs hs
  go_enter Try.func32, Try.ntmps32
  go_wp2_with (at_builtin; refine wpList_append_bytes rfl _ _ rfl base v bs s w.heap.size 0 16 16 rfl rfl ?_ HS.out.symm ?_ HL.out ?_ ?_)
  · exact H.out.grown fun k hk => alloc_old w _ k hk
  · exact row_new HC.out
  · simp; omega
  · intro v' w' hown hg
    have H1 := Lib.hid hown
    have H2 := Lib.hid hg
    clear hown hg
    go_wp2
    go_ret
    exact ⟨v', rfl, H1.out, below_alloc H.out hb H2.out⟩

/-- Sixteen octets of a field are written. -/
theorem ApV.sixteen {tags : Rel (List (Nat × List UInt8))} {E : WE} {v : Int} {flex ht : Bool} {id1 id2 sp off d t1 t2 t3 t4 t5 t6 t7 T k : Nat} {tys : Array TypeId} {y1 y2 y3 y4 y5 y6 y7 y8 y9 y10 : TypeId} {q1 q2 q3 q4 q5 q6 q7 q8 q9 q10 : String} {e1 e2 e3 e4 e5 e6 e7 e8 e9 e10 : Array Edge} {frm to null tag dflt : Int} {of : Nat} {sub : List F}
    (hf : offOf Try.prog T k = some off) (hn : [t1, t2, t3, t4, d, t5, t6, t7, E.ds].all (· < E.N) = true) (hd : decide (d ≠ t4 ∧ t5 ≠ d ∧ t6 ≠ t5 ∧ (t1 ≠ E.ds ∧ t2 ≠ E.ds ∧ t3 ≠ E.ds ∧ t4 ≠ E.ds ∧ d ≠ E.ds)) = true) :
    ApV tags E v flex ht sp off (.mk 7 frm to null tag dflt of sub) ((Code.region id1 #[⟨some t1, .move (.tmp sp), y1, q1, e1, none⟩, ⟨some t2, .nilCheck (.tmp t1), y2, q2, e2, none⟩, ⟨some t3, .fieldAddr T (.tmp t2) k, y3, q3, e3, none⟩, ⟨some t4, .load 72 (.tmp t3), y4, q4, e4, none⟩, ⟨some d, .alloc 72, y5, q5, e5, none⟩, ⟨none, .store 72 (.tmp d) (.tmp t4), y6, q6, e6, none⟩] false).seq
      (Code.region id2 #[⟨some t5, .move (.tmp E.ds), y7, q7, e7, none⟩, ⟨some t6, .load 72 (.tmp d), y8, q8, e8, none⟩, ⟨some t7, .call { callee := .value (.func 32), args := #[.tmp t5, .tmp t6], argTypes := tys }, y9, q9, e9, none⟩, ⟨some E.ds, .assign (.tmp t7), y10, q10, e10, none⟩] false)) := by
  intro base K bs a w cb co x hp hsp hcb hr hl
  simp only [List.all_cons, List.all_nil, Bool.and_true, Bool.and_eq_true, decide_eq_true_eq] at hn hd
  obtain ⟨n1, n2, n3, n4, nd, n5, n6, n7, nds⟩ := hn
  obtain ⟨d1, d2, d3, d5, d6, d7, d8, d9⟩ := hd
  have hsz := hp.fr.size
  obtain ⟨hr, -⟩ := hr
  simp only [repF, fieldRep] at hr
  simp only [show ¬ (7 : Nat) = 11 by decide, if_false] at hr
  obtain ⟨h16, hcells⟩ := hr
  have hw : wr v flex (.mk 7 frm to null tag dflt of sub) x = x.s := by
    simp only [wr, fieldW, valW]
    simp only [show ¬ (7 : Nat) = 11 by decide, show ¬ (7 : Nat) = 0 by decide, show ¬ (7 : Nat) = 10 by decide, if_false, if_true, false_and]
    exact uuid_of _ h16
  rw [hw] at hl ⊢
  have hbody : hasBody Try.prog 32 = true := by kernel_rfl
  obtain ⟨fn, hfn, hb, hnn⟩ := hasBody_ok hbody
  have hcl : (x.s.map bv).length = 16 := by rw [List.length_map, h16]
  have h1 : (x.s.map bv).toArray.all (·.oneCell') = true := Go.all_oneCell_toArray fun u hu => by
    simp only [List.mem_map] at hu
    obtain ⟨b, -, rfl⟩ := hu
    rfl
  have hrg : w.rangeAt cb (co + off) (x.s.map bv) := fun j u hu => by
    simp only [List.getElem?_map, Option.map_eq_some_iff] at hu
    obtain ⟨b, hb, rfl⟩ := hu
    exact hcells j b hb
  generalize hcs : x.s.map bv = cs at hcl h1 hrg
  refine wp_seq (wp_region_lit (st_move (st_nil (p := ⟨cb, co, none⟩) ?_ (st_field (b := cb) (o := co) (fieldOff_ok hf) ?_ (st_load16 (b := cb) (o := co + off) (cs := cs) hcl ?_ hrg (st_alloc16 (st_store16 (b := w.heap.size) (o := 0) (cs := cs) hcl h1 ?_ ?_ (box16_there w) (wpList_nil ?_))))))))
  · rw [eval_tmp, sl_put_self _ _ _ (by omega), eval_tmp, hsp]
  · rw [eval_tmp, sl_put_self _ _ _ (by simp only [put_size]; omega)]
  · rw [eval_tmp, sl_put_self _ _ _ (by simp only [put_size]; omega)]
  · rw [eval_tmp, sl_put_self _ _ _ (by simp only [put_size]; omega)]
  · rw [eval_tmp, sl_put_other _ _ _ _ d1, sl_put_self _ _ _ (by simp only [put_size]; omega)]
  have hgb := box16 w cs
  have hrg2 := box16_range w cs hcl
  generalize (w.alloc (.cells uuZ 72)).setCells w.heap.size 0 cs = w1 at hgb hrg2 ⊢
  rw [eval_tmp, hsp]
  have hup : Upd a (((((a.put (some t1) (.pointer (some ⟨cb, co, none⟩))).put (some t2) (.pointer (some ⟨cb, co, none⟩))).put (some t3) (.pointer (some ⟨cb, co + off, none⟩))).put (some t4) (.agg cs.toArray)).put (some d) (.pointer (some ⟨w.heap.size, 0, none⟩))) [t1, t2, t3, t4, d] :=
    (((((Upd.refl a _).put t1 _ (by simp)).put t2 _ (by simp)).put t3 _ (by simp)).put t4 _ (by simp)).put d _ (by simp)
  have hdd : sl (((((a.put (some t1) (.pointer (some ⟨cb, co, none⟩))).put (some t2) (.pointer (some ⟨cb, co, none⟩))).put (some t3) (.pointer (some ⟨cb, co + off, none⟩))).put (some t4) (.agg cs.toArray)).put (some d) (.pointer (some ⟨w.heap.size, 0, none⟩))) d = .pointer (some ⟨w.heap.size, 0, none⟩) := sl_put_self _ _ _ (by simp only [put_size]; omega)
  generalize ((((a.put (some t1) (.pointer (some ⟨cb, co, none⟩))).put (some t2) (.pointer (some ⟨cb, co, none⟩))).put (some t3) (.pointer (some ⟨cb, co + off, none⟩))).put (some t4) (.agg cs.toArray)).put (some d) (.pointer (some ⟨w.heap.size, 0, none⟩)) = a1 at hup hdd ⊢
  have hs1 : a1.tmps.size = E.N := hup.size.trans hsz
  have hds : sl a1 E.ds = sl a E.ds := hup.same _ (by simp only [List.mem_cons, List.not_mem_nil, or_false, not_or]; exact ⟨fun e => d5 e.symm, fun e => d6 e.symm, fun e => d7 e.symm, fun e => d8 e.symm, fun e => d9 e.symm⟩)
  refine wp_region_lit (st_move (st_load16 (b := w.heap.size) (o := 0) (cs := cs) hcl ?_ hrg2 (st_call2 hfn hb hnn ?_)))
  · rw [eval_tmp, sl_put_other _ _ _ _ d2, hdd]
  rw [eval_tmp, sl_put_other _ _ _ _ d3, sl_put_self _ _ _ (by omega), eval_tmp, hds, eval_tmp, sl_put_self _ _ _ (by simp only [put_size]; omega)]
  have hown1 : OwnB w1 base (sl a E.ds) bs := hp.own.grown fun k hk => hgb.block k hk (by simp)
  refine (AppendUuid_any w1 base (sl a E.ds) bs x.s cs.toArray (by rw [hcs]) h16 hown1 (Nat.le_trans hp.le hgb.size) (lim_of hl (by omega))).mono ?_
  rintro e w' ⟨v', rfl, ho, hbel⟩
  refine ⟨v', rfl, st_assign (wpList_nil ⟨?_, ?_, ?_⟩)⟩
  · refine (hup.mono (fun t ht => ?_)).trans ((((Upd.refl a1 _).put t5 _ ?_).put t6 _ ?_).put t7 _ ?_ |>.put E.ds _ ?_)
    · simp only [List.mem_cons, List.not_mem_nil, or_false] at ht
      rcases ht with rfl | rfl | rfl | rfl | rfl <;> simp [writes]
    all_goals simp [writes]
  · exact Below.trans ⟨hgb.os, hgb.tape, hgb.output, hgb.size, fun k hk => hgb.block k (Nat.lt_of_lt_of_le hk hp.le) (by simp)⟩ hbel
  · rw [sl_put_self _ _ _ (by simp only [put_size]; omega), eval_tmp, sl_put_self _ _ _ (by simp only [put_size]; omega)]
    exact ho
end Go.Proofs.Ytbogepbfbplndaa

