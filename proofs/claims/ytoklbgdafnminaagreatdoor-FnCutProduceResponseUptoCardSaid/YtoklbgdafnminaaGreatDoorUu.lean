/-
  Sixteen octets, read and written. Conditions: none.
-/
import Derived.Test.YtoklbgdafnminaaGreatDoorY4
import Derived.Laws.IdiomCopy
import Derived.Laws.CopyRow
import Derived.Deep.MidRow
import Derived.Deep.QuietTactic
namespace Go.Proofs.YtoklbgdafnminaaGreatDoor
open Go.RowKit (Below)
open Kz

/-- The cells of sixteen octets. -/
def uuCells (s : List UInt8) : List Value := (uuid s).map bv
def uuZ : Array Value := #[.int .u8 0, .int .u8 0, .int .u8 0, .int .u8 0, .int .u8 0, .int .u8 0, .int .u8 0, .int .u8 0, .int .u8 0, .int .u8 0, .int .u8 0, .int .u8 0, .int .u8 0, .int .u8 0, .int .u8 0, .int .u8 0]
theorem uuCells_nil : uuCells [] = uuZ.toList := by rfl
theorem uuCells_length (s : List UInt8) : (uuCells s).length = 16 := by rw [uuCells, List.length_map, uuid_length]
theorem uuCells_one (s : List UInt8) : (uuCells s).toArray.all (·.oneCell') = true := by
  refine Go.all_oneCell_toArray fun v hv => ?_
  simp only [uuCells, List.mem_map] at hv
  obtain ⟨b, -, rfl⟩ := hv
  rfl
theorem setRow_grown2 {w : World} {A : Nat} {c : Array Value} : w.grownBy (w.setRow A c) (some A) :=
  ⟨rfl, rfl, rfl, by simp [World.setRow], fun k hk hne => by
    simp only [World.setRow, Array.getElem?_modify]
    rw [if_neg (fun e => hne (by rw [e]))]⟩

theorem uu_info : (Tryz.prog.info? 109).map (·.size) = some 16 := by kernel_rfl
theorem uu_under : Tryz.prog.underlying 109 = some (.array 16 5) := by kernel_rfl
theorem uu_alloc (w : World) : (Instr.alloc 109 true (.tuple #[])).run Tryz.prog w = .ok (.pointer (some ⟨w.heap.size, 0, none⟩)) (w.alloc (.cells uuZ 109)) := by
  have hi : (Tryz.prog.info? 109).map (fun i => i.zero) = some (some (.agg uuZ)) := by kernel_rfl
  obtain ⟨i, hi, hz⟩ := Option.map_eq_some_iff.1 hi
  simp [Instr.alloc, zeroValue, typeInfo, hi, hz, newVar, newRow, Value.cells, Sem.run_bind]

theorem there_row {w : World} {b : Nat} {cs : Array Value} {T : TypeId} (h : w.heap[b]? = some (.cells cs T (0, 0))) {o n : Nat} (hn : o + n ≤ cs.size) : w.there b o n := fun j hj => by
  refine ⟨?_, by simp [World.frozen?, h]⟩
  rw [cell_of_row w b _ _ _ _ h]
  simp; omega
theorem range_row {w : World} {b : Nat} {cs : Array Value} {T : TypeId} (h : w.heap[b]? = some (.cells cs T (0, 0))) : w.rangeAt b 0 cs.toList := fun j v hv => by
  rw [cell_of_row w b _ _ _ _ h]
  simpa using hv
theorem setCells_block (b : Nat) : ∀ (vs : List Value) (o : Nat) (w : World) (k : Nat), k ≠ b → (w.setCells b o vs).heap[k]? = w.heap[k]?
  | [], _, _, _, _ => rfl
  | v :: r, o, w, k, h => by
    rw [World.setCells, setCells_block b r (o + 1) _ k h]
    exact Below.heap_setCell _ _ _ _ h
theorem setCells_size (b : Nat) : ∀ (vs : List Value) (o : Nat) (w : World), (w.setCells b o vs).heap.size = w.heap.size
  | [], _, _ => rfl
  | v :: r, o, w => by rw [World.setCells, setCells_size b r (o + 1)]; simp [World.setCell]
theorem setCells_os (b : Nat) : ∀ (vs : List Value) (o : Nat) (w : World), (w.setCells b o vs).os = w.os ∧ (w.setCells b o vs).tape = w.tape ∧ (w.setCells b o vs).output = w.output
  | [], _, _ => ⟨rfl, rfl, rfl⟩
  | v :: r, o, w => by rw [World.setCells]; exact setCells_os b r (o + 1) _
theorem setCells_grown (b : Nat) (vs : List Value) (o : Nat) (w : World) : w.grownBy (w.setCells b o vs) (some b) :=
  ⟨(setCells_os b vs o w).1, (setCells_os b vs o w).2.1, (setCells_os b vs o w).2.2, by rw [setCells_size]; exact Nat.le_refl _, fun k _ hne => setCells_block b vs o w k (fun e => hne (by rw [e]))⟩
theorem setCells_row (b : Nat) {T : TypeId} : ∀ (vs : List Value) (o : Nat) (w : World) (cs : Array Value), w.heap[b]? = some (.cells cs T (0, 0)) → ∃ cs', (w.setCells b o vs).heap[b]? = some (.cells cs' T (0, 0)) ∧ cs'.size = cs.size ∧ ∀ i, (i < o ∨ o + vs.length ≤ i) → cs'[i]? = cs[i]?
  | [], _, _, cs, h => ⟨cs, h, rfl, fun _ _ => rfl⟩
  | v :: r, o, w, cs, h => by
    rw [World.setCells]
    obtain ⟨cs', h1, h2, h3⟩ := setCells_row b r (o + 1) (w.setCell ⟨b, o, none⟩ v) _ (heap_setCell_row h)
    refine ⟨cs', h1, h2.trans (by simp), fun i hi => ?_⟩
    simp only [List.length_cons] at hi
    rw [h3 i (by omega), Array.getElem?_setIfInBounds_ne (by omega)]

theorem two_size (w : World) (o1 o2 : Obj) : ((w.alloc o1).alloc o2).heap.size = w.heap.size + 2 := by
  show ((w.heap.push o1).push o2).size = _
  rw [Array.size_push, Array.size_push]
theorem two_first (w : World) (o1 o2 : Obj) : ((w.alloc o1).alloc o2).heap[w.heap.size]? = some o1 := by
  rw [alloc_old _ _ _ (by show _ < (w.heap.push o1).size; rw [Array.size_push]; omega)]
  exact Array.getElem?_push_size
theorem two_second (w : World) (o1 o2 : Obj) : ((w.alloc o1).alloc o2).heap[w.heap.size + 1]? = some o2 := by
  have h : (w.heap.push o1).size = w.heap.size + 1 := Array.size_push ..
  rw [← h]
  exact Array.getElem?_push_size

theorem st_load16 {ops : Array Oper} {Q : Exit → Act → World → Prop} {rest : List Oper} {a : Act} {w : World} {d : Nat} {ty : TypeId} {pos : String} {aft : Array Edge} {x : Operand} {b o : Nat} {cs : List Value} (hl : cs.length = 16) (hx : a.eval x = .pointer (some ⟨b, o, none⟩)) (hc : w.rangeAt b o cs)
    (h : wpList Tryz.prog ops Q rest (a.put (some d) (.agg cs.toArray)) w) : wpList Tryz.prog ops Q (⟨some d, .load 109 x, ty, pos, aft, none⟩ :: rest) a w :=
  wpList_load_mid rfl 109 x rfl b o hx cs _ hc uu_under rfl (by rw [uu_info, hl]) h
theorem st_store16 {ops : Array Oper} {Q : Exit → Act → World → Prop} {rest : List Oper} {a : Act} {w : World} {ty : TypeId} {pos : String} {aft : Array Edge} {x y : Operand} {b o : Nat} {cs : List Value} (hl : cs.length = 16) (h1 : cs.toArray.all (·.oneCell') = true) (hx : a.eval x = .pointer (some ⟨b, o, none⟩)) (hy : a.eval y = .agg cs.toArray) (ht : w.there b o 16)
    (h : wpList Tryz.prog ops Q rest a (w.setCells b o cs)) : wpList Tryz.prog ops Q (⟨none, .store 109 x y, ty, pos, aft, none⟩ :: rest) a w :=
  wpList_store_mid rfl 109 x y rfl b o cs.toArray hx hy (by rw [List.size_toArray, hl]; exact ht) (by rw [uu_info, List.size_toArray, hl]) h1 h
theorem st_alloc16 {ops : Array Oper} {Q : Exit → Act → World → Prop} {rest : List Oper} {a : Act} {w : World} {d : Nat} {ty : TypeId} {pos : String} {aft : Array Edge}
    (h : wpList Tryz.prog ops Q rest (a.put (some d) (.pointer (some ⟨w.heap.size, 0, none⟩))) (w.alloc (.cells uuZ 109))) : wpList Tryz.prog ops Q (⟨some d, .alloc 109, ty, pos, aft, none⟩ :: rest) a w :=
  st_val (by unfold execOp; simp only [Sem.run_bind, uu_alloc, Result.andThen_ok, Sem.run_pure]) h
theorem alloc_grown (w : World) (o : Obj) : w.grownBy (w.alloc o) none := ⟨rfl, rfl, rfl, by show _ ≤ (w.heap.push o).size; rw [Array.size_push]; omega, fun k hk _ => alloc_old w o k hk⟩
theorem box16 (w : World) (cs : List Value) : w.grownBy ((w.alloc (.cells uuZ 109)).setCells w.heap.size 0 cs) none :=
  ⟨(setCells_grown _ _ _ _).os, (setCells_grown _ _ _ _).tape, (setCells_grown _ _ _ _).output, Nat.le_trans (alloc_grown w _).size (setCells_grown _ _ _ _).size, fun k hk _ => (setCells_block _ _ _ _ k (by omega)).trans (alloc_old w _ k hk)⟩
theorem box16_there (w : World) : (w.alloc (.cells uuZ 109)).there w.heap.size 0 16 :=
  there_row (cs := uuZ) (T := 109) Array.getElem?_push_size (by decide)
theorem box16_range (w : World) (cs : List Value) (hl : cs.length = 16) : ((w.alloc (.cells uuZ 109)).setCells w.heap.size 0 cs).rangeAt w.heap.size 0 cs :=
  World.rangeAt_setCells_same _ _ _ _ (by rw [hl]; exact box16_there w)
theorem Md.of_none {w w' : World} {rb cb lo n : Nat} (h : w.grownBy w' none) : Md w w' rb cb lo n :=
  ⟨h.os, h.tape, h.output, h.size, fun k hk _ _ => h.block k hk (by simp), fun cells T hw => ⟨cells, by rw [h.block cb (Array.getElem?_eq_some_iff.1 hw).1 (by simp)]; exact hw, rfl, fun _ _ => rfl⟩⟩
theorem Md.of_cells {w : World} {rb cb lo n : Nat} (cs : List Value) (hl : cs.length = n) : Md w (w.setCells cb lo cs) rb cb lo n :=
  ⟨(setCells_grown cb cs lo w).os, (setCells_grown cb cs lo w).tape, (setCells_grown cb cs lo w).output, (setCells_grown cb cs lo w).size, fun k _ _ hc => setCells_block cb cs lo w k hc, fun cells T hw => by
    obtain ⟨cs', h1, h2, h3⟩ := setCells_row cb cs lo w cells hw
    exact ⟨cs', h1, h2, fun i hi => h3 i (by rw [hl]; exact hi)⟩⟩


theorem span16 (st : St) : (rdSpan 16 st).1 = [] ∨ (rdSpan 16 st).1.length = 16 := by
  cases st with
  | none => exact .inl rfl
  | some bs =>
    simp only [rdSpan]
    split
    · rename_i h; right; simp only [List.length_take]; omega
    · exact .inl rfl
theorem uu_copy {w : World} {S : Nat → Prop} {A : Nat} {v : Value} {s : List UInt8} {ty : TypeId} {T : TypeId} (hA : w.heap[A]? = some (.cells uuZ T (0, 0))) (hv : BytesAt w S v s) (hs : s = [] ∨ s.length = 16) :
    ∃ (n : Int) (w2 : World), (Builtin.copy_ #[22, 22] ty #[.slice (some ⟨A, 0, none⟩) 16 16, v]).run Tryz.prog w = .ok (.int .i64 n) w2 ∧ w2.heap[A]? = some (.cells (uuCells s).toArray T (0, 0)) ∧ w.grownBy w2 (some A) := by
  have hsz : (Tryz.prog.info? 5).map (·.size) = some 1 := by kernel_rfl
  rcases hs with rfl | hs
  · obtain ⟨p, c, rfl⟩ := bytes_len hv
    refine ⟨0, w, run_copy_none w _ _ _ _ _ _ _ _ _ _ Tryz.underlying22 hsz (by simp), ?_, grownBy_refl _ _⟩
    rw [hA, uuCells_nil]
  · rcases hv with ⟨rfl, rfl⟩ | ⟨g, o, c, rfl, h2, h2', h3, h4, h5⟩
    · simp at hs
    · have hr := run_copy_row (P := Tryz.prog) w 22 22 ty 5 A 0 16 16 ⟨g, o, none⟩ s.length c uuZ T (s.map bv) Tryz.underlying22 hsz hA (by simp [hs]) (fun j u hj => by
        simp only [List.getElem?_map, Option.map_eq_some_iff] at hj
        obtain ⟨b, hb, rfl⟩ := hj
        rw [Addr.add_mid]
        exact h5 j b hb) (by simp [hs, uuZ]) (fun u hu => by
        simp only [List.mem_map] at hu
        obtain ⟨b, -, rfl⟩ := hu
        rfl)
      have e : (uuZ.toList.take 0 ++ s.map bv ++ uuZ.toList.drop (0 + (s.map bv).length)) = uuCells s := by
        have : uuid s = s := uuid_of s hs
        simp [hs, uuZ, uuCells, this]
      rw [e] at hr
      refine ⟨_, _, hr, ?_, setRow_grown2⟩
      simp [World.setRow, Array.getElem?_modify, hA]

set_option maxRecDepth 8000 in
set_option maxHeartbeats 1000000 in
theorem Uuid_any (w : World) (S : Nat → Prop) (rb : Nat) (st : St) (h : RdIs w S rb st) (hS : ∀ g, S g → g < w.heap.size) : Calls Tryz.prog 133 #[.pointer (some ⟨rb, 0, none⟩)] w fun e w' =>
    e = .returned (.agg (uuCells (rdSpan 16 st).1).toArray) ∧ RdIs w' S rb (rdSpan 16 st).2 ∧ w.grownBy w' (some rb) := by
  have hrlt := h.lt
  have hW : Below w.heap.size w ((w.alloc (.cells uuZ 109)).alloc (.cells uuZ 109)) := ⟨rfl, rfl, rfl, by simp; omega, fun k hk => by rw [alloc_old _ _ _ (by simp; omega), alloc_old _ _ _ hk]⟩
  have hrd : RdIs ((w.alloc (.cells uuZ 109)).alloc (.cells uuZ 109)) S rb st := h.below hW hS hrlt
  have brd := Lib.hid hrd
  have bW := Lib.hid hW
  clear hrd hW h
  go_enter Tryz.func133, Tryz.ntmps133
  go_wp2_with fail
  go_region_with (go_at_call 143; refine (Span_any _ S rb st 16 (by exact brd.out) (by decide) (by decide)).mono ?_; rintro e w1 ⟨v, rfl, hby, hrd1, hg1⟩; obtain ⟨n, w2, hcp, hrow, hg2⟩ := uu_copy (ty := 3) (A := w.heap.size + 1) (T := 109) (w := w1) (by rw [hg1.block _ (Nat.lt_of_lt_of_le (Nat.lt_succ_self _) (Nat.le_of_eq (two_size w _ _).symm)) (fun e => by have := Option.some.inj e; omega)]; exact two_second w _ _) hby (span16 st))
  all_goals
    have hs1 : w.heap.size + 2 ≤ w1.heap.size := Nat.le_trans (Nat.le_of_eq (two_size w _ _).symm) hg1.size
    have hr0 : w2.heap[w.heap.size]? = some (.cells uuZ 109 (0, 0)) := by
      rw [hg2.block _ (by omega) (fun e => by have := Option.some.inj e; omega), hg1.block _ (Nat.lt_of_lt_of_le (Nat.lt_trans (Nat.lt_succ_self _) (Nat.lt_succ_self _)) (Nat.le_of_eq (two_size w _ _).symm)) (fun e => by have := Option.some.inj e; omega)]
      exact two_first w _ _
    have hl := uuCells_length (rdSpan 16 st).1
    have hone := uuCells_one (rdSpan 16 st).1
    have hgr : (w.alloc (.cells uuZ 109)).alloc (.cells uuZ 109) |>.grownBy w1 (some rb) := ⟨hg1.os, hg1.tape, hg1.output, hg1.size, hg1.block⟩
    clear hg1 hcp hby
    revert hrow hl hone
    generalize hcs : uuCells (rdSpan 16 st).1 = cs
    intro hrow hl hone
    have hrg := range_row hrow
    have hth : w2.there w.heap.size 0 cs.toArray.size := there_row hr0 (by simp [hl, uuZ])
    rename_i K a0
    refine a0 _ _ ?_
    clear a0
    refine wp_seq (wp_region_lit (wpList_load_mid rfl 109 _ rfl (w.heap.size + 1) 0 rfl _ _ hrg uu_under rfl (by rw [uu_info]; simp [hl]) (wpList_store_mid rfl 109 _ _ rfl w.heap.size 0 _ rfl rfl hth (by rw [uu_info]; simp [hl]) hone (wpList_nil ?_))))
    have hrs : (w2.setCells w.heap.size 0 cs.toArray.toList).rangeAt w.heap.size 0 cs := World.rangeAt_setCells_same w2 w.heap.size 0 cs hth
    have hld := run_loadVar_mid (P := Tryz.prog) _ _ _ 109 _ _ hrs uu_under rfl (by rw [uu_info]; simp [hl])
    have hgs := setCells_grown w.heap.size cs.toArray.toList 0 w2
    clear hrs hth hrg hrow hr0
    revert hld hgs
    generalize w2.setCells w.heap.size 0 cs.toArray.toList = w3
    intro hld hgs
    show Code.wp _ Code.ret _ ⟨#[_, _, .pointer (some ⟨w.heap.size, 0, none⟩), _, _, _, _, _, _], []⟩ w3
    refine wp_ret ?_
    refine ⟨rfl, .agg cs.toArray, ?_, by rw [hcs], ?_, ?_⟩
    · rw [results_cell1 (p := 2) (ty := 109) (by kernel_rfl) _ _ _]
      exact hld
    · exact (hrd1.kept hg2 (fun g hg e => by have := Option.some.inj e; have := hS g hg; omega) (fun e => by have := Option.some.inj e; omega)).kept hgs (fun g hg e => by have := Option.some.inj e; have := hS g hg; omega) (fun e => by have := Option.some.inj e; omega)
    · have hsz2 := hg2.size
      have hsz3 := hgs.size
      refine ⟨hgs.os.trans (hg2.os.trans hgr.os), hgs.tape.trans (hg2.tape.trans hgr.tape), hgs.output.trans (hg2.output.trans hgr.output), by omega, fun k hk hne => ?_⟩
      rw [hgs.block k (by omega) (fun e => by have := Option.some.inj e; omega), hg2.block k (by omega) (fun e => by have := Option.some.inj e; omega), hgr.block k (Nat.lt_of_lt_of_le (by omega : k < w.heap.size + 2) (Nat.le_of_eq (two_size w _ _).symm)) hne,
        alloc_old _ _ _ (by show k < (w.heap.push _).size; rw [Array.size_push]; omega), alloc_old _ _ _ hk]

/-- Sixteen octets are read into a field. -/
theorem RdV.sixteen {tags : Rel (List (Nat × List UInt8))} {E : RE} {v : Int} {flex ht : Bool} {id1 id2 sp off x d t1 t2 t3 t4 T k : Nat} {tys : Array TypeId} {y1 y2 y3 y4 y5 y6 y7 y8 : TypeId} {q1 q2 q3 q4 q5 q6 q7 q8 : String} {e1 e2 e3 e4 e5 e6 e7 e8 : Array Edge} {frm to null tag dflt : Int} {of : Nat} {sub : List F}
    (hf : offOf Tryz.prog T k = some off) (hn : [x, d, t1, t2, t3, t4].all (· < E.N) = true) (hd : decide (d ≠ x ∧ t1 ≠ d ∧ t2 ≠ t1 ∧ t3 ≠ t2 ∧ t4 ≠ t2) = true) (hcl : [x, d].all (fun t => !(sp :: E.slots).contains t) = true) :
    RdV tags E v flex ht sp off (.mk 7 frm to null tag dflt of sub) ((Code.region id1 #[⟨some x, .call { callee := .value (.func 133), args := #[.tmp E.rs], argTypes := tys }, y1, q1, e1, none⟩, ⟨some d, .alloc 109, y2, q2, e2, none⟩, ⟨none, .store 109 (.tmp d) (.tmp x), y3, q3, e3, none⟩] false).seq
      (Code.region id2 #[⟨some t1, .move (.tmp sp), y4, q4, e4, none⟩, ⟨some t2, .load 109 (.tmp d), y5, q5, e5, none⟩, ⟨some t3, .nilCheck (.tmp t1), y6, q6, e6, none⟩, ⟨some t4, .fieldAddr T (.tmp t3) k, y7, q7, e7, none⟩, ⟨none, .store 109 (.tmp t4) (.tmp t2), y8, q8, e8, none⟩] false)) := by
  have hc16 : cellsF ht (.mk 7 frm to null tag dflt of sub) = 16 := by simp [cellsF, fieldCells, valCells]
  unfold RdV
  rw [hc16]
  intro rb S st cb co cells Ty a w hp
  simp only [List.all_cons, List.all_nil, Bool.and_true, Bool.and_eq_true, decide_eq_true_eq, Bool.not_eq_true', List.contains_eq_mem, decide_eq_false_iff_not] at hn hd hcl
  obtain ⟨n1, n2, n3, n4, n5, n6⟩ := hn
  obtain ⟨d1, d2, d3, d4, d5⟩ := hd
  have hsz := hp.fr.size
  have hbody : hasBody Tryz.prog 133 = true := by kernel_rfl
  obtain ⟨fn, hfn, hb, hnn⟩ := hasBody_ok hbody
  have hg : rd v flex (.mk 7 frm to null tag dflt of sub) st = (Ts (uuid (rdSpan 16 st).1), (rdSpan 16 st).2) := by simp [rd, fieldR, valR]
  refine wp_seq (wp_region_lit (st_call1 hfn hb hnn ?_))
  rw [eval_tmp, hp.fr.rs]
  refine (Uuid_any w S rb st hp.rd hp.old).mono ?_
  rintro e w1 ⟨rfl, hrd1, hg1⟩
  refine ⟨_, rfl, ?_⟩
  have hl := uuCells_length (rdSpan 16 st).1
  have h1 := uuCells_one (rdSpan 16 st).1
  generalize hcs : uuCells (rdSpan 16 st).1 = cs at hl h1 ⊢
  refine st_alloc16 (st_store16 (b := w1.heap.size) (o := 0) (cs := cs) hl h1 ?_ ?_ (box16_there w1) (wpList_nil ?_))
  · rw [eval_tmp, sl_put_self _ _ _ (by rw [put_size]; omega)]
  · rw [eval_tmp, sl_put_other _ _ _ _ d1, sl_put_self _ _ _ (by omega)]
  have hgb := box16 w1 cs
  have hrg := box16_range w1 cs hl
  generalize (w1.alloc (.cells uuZ 109)).setCells w1.heap.size 0 cs = w2 at hgb hrg ⊢
  have hcb := (Array.getElem?_eq_some_iff.1 hp.row).1
  have hcb1 : cb < w1.heap.size := Nat.lt_of_lt_of_le hcb hg1.size
  have hrow1 : w1.heap[cb]? = some (.cells cells Ty (0, 0)) := by rw [hg1.block cb hcb (fun e => hp.ne (Option.some.inj e))]; exact hp.row
  have hrow2 : w2.heap[cb]? = some (.cells cells Ty (0, 0)) := by rw [hgb.block cb hcb1 (by simp)]; exact hrow1
  have hfit := hp.fit
  have hth : w2.there cb (co + off) 16 := there_row hrow2 hfit
  have hsp : sl ((a.put (some x) (.agg cs.toArray)).put (some d) (.pointer (some ⟨w1.heap.size, 0, none⟩))) sp = .pointer (some ⟨cb, co, none⟩) := by
    rw [sl_put_other _ _ _ _ (fun e => hcl.2 (by rw [e]; exact List.mem_cons_self)), sl_put_other _ _ _ _ (fun e => hcl.1 (by rw [e]; exact List.mem_cons_self))]
    exact hp.ptr
  have hdd : sl ((a.put (some x) (.agg cs.toArray)).put (some d) (.pointer (some ⟨w1.heap.size, 0, none⟩))) d = .pointer (some ⟨w1.heap.size, 0, none⟩) := sl_put_self _ _ _ (by rw [put_size]; omega)
  have hup : Upd a ((a.put (some x) (.agg cs.toArray)).put (some d) (.pointer (some ⟨w1.heap.size, 0, none⟩))) [x, d] := ((Upd.refl a _).put x _ (by simp)).put d _ (by simp)
  generalize (a.put (some x) (.agg cs.toArray)).put (some d) (.pointer (some ⟨w1.heap.size, 0, none⟩)) = a1 at hsp hdd hup ⊢
  have hs1 : a1.tmps.size = E.N := hup.size.trans hsz
  refine wp_region_lit (st_move ?_)
  rw [eval_tmp, hsp]
  refine st_load16 (b := w1.heap.size) (o := 0) (cs := cs) hl ?_ hrg (st_nil (p := ⟨cb, co, none⟩) ?_ (st_field (b := cb) (o := co) (fieldOff_ok hf) ?_ (st_store16 (b := cb) (o := co + off) (cs := cs) hl h1 ?_ ?_ hth (wpList_nil ?_))))
  · rw [eval_tmp, sl_put_other _ _ _ _ d2, hdd]
  · rw [eval_tmp, sl_put_other _ _ _ _ d3, sl_put_self _ _ _ (by omega)]
  · rw [eval_tmp, sl_put_self _ _ _ (by simp only [put_size]; omega)]
  · rw [eval_tmp, sl_put_self _ _ _ (by simp only [put_size]; omega)]
  · rw [eval_tmp, sl_put_other _ _ _ _ d5, sl_put_other _ _ _ _ d4, sl_put_self _ _ _ (by simp only [put_size]; omega)]
  obtain ⟨cells', hc1, hc2, -⟩ := setCells_row cb cs (co + off) w2 cells hrow2
  have hrs : (w2.setCells cb (co + off) cs).rangeAt cb (co + off) cs := World.rangeAt_setCells_same _ _ _ _ (by rw [hl]; exact hth)
  refine ⟨?_, ?_, ?_, cells', hc1, ?_⟩
  · refine (hup.mono (fun t ht => ?_)).trans (((((Upd.refl a1 _).put t1 _ ?_).put t2 _ ?_).put t3 _ ?_).put t4 _ ?_)
    · simp only [List.mem_cons, List.not_mem_nil, or_false] at ht
      rcases ht with rfl | rfl <;> simp [writes]
    all_goals simp [writes]
  · rw [hg]
    exact (hrd1.kept hgb (fun g _ e => by cases e) (by simp)).kept (setCells_grown cb cs (co + off) w2) (fun g hgS e => hp.src (by rw [← Option.some.inj e]; exact hgS)) (fun e => hp.ne (Option.some.inj e).symm)
  · have hm1 : Md w w2 rb cb (co + off) 16 := (Md.of_grown hg1 hp.ne (co + off) 16).trans (Md.of_none (lo := co + off) (n := 16) hgb) (by omega) (by omega)
    have hm2 : Md w2 (w2.setCells cb (co + off) cs) rb cb (co + off) 16 := Md.of_cells cs hl
    exact hm1.trans hm2 (by omega) (by omega)
  · rw [hg]
    simp only [repF, fieldRep]
    simp only [show ¬ (7 : Nat) = 11 by decide, if_false]
    intro i b hb
    have hb' : (Kz.uuid (rdSpan 16 st).1)[i]? = some b := by
      have e : Kz.uuid (Kz.uuid (rdSpan 16 st).1) = Kz.uuid (rdSpan 16 st).1 := uuid_of _ (uuid_length _)
      rw [← e]; exact hb
    have hj : cs[i]? = some (bv b) := by rw [← hcs, uuCells, List.getElem?_map, hb']; rfl
    have := hrs i _ hj
    rw [cell_of_row _ _ _ _ _ _ hc1] at this
    exact this

set_option maxRecDepth 8000 in
set_option maxHeartbeats 400000 in
theorem AppendUuid_any (w : World) (base : Nat) (v : Value) (bs : List UInt8) (s : List UInt8) (cs : Array Value) (hcs : cs = (s.map bv).toArray) (hs : s.length = 16) (h : OwnB w base v bs) (hb : base ≤ w.heap.size) (hl : bs.length + s.length ≤ lim) :
    Calls Tryz.prog 83 #[v, .agg cs] w fun e w' => ∃ v', e = .returned v' ∧ OwnB w' base v' (bs ++ s) ∧ Bel base w w' := by
  have H := Lib.hid h
  have HL := Lib.hid hl
  have HC := Lib.hid hcs
  have HS := Lib.hid hs
  clear h hl hcs hs
  go_enter Tryz.func83, Tryz.ntmps83
  go_wp2_with (at_builtin; refine wpList_append_bytes rfl _ _ rfl base v bs s w.heap.size 0 16 16 rfl rfl ?_ HS.out.symm ?_ HL.out ?_ ?_)
  · exact H.out.grown fun k hk => alloc_old w _ k hk
  · exact row_new HC.out
  · simp; omega
  · intro v' w' hown hg
    have H1 := Lib.hid hown
    have H2 := Lib.hid hg
    clear hown hg
    go_wp2
    go_ret
    exact ⟨v', rfl, H1.out, below_alloc H.out hb H2.out⟩

/-- Sixteen octets of a field are written. -/
theorem ApV.sixteen {tags : Rel (List (Nat × List UInt8))} {E : WE} {v : Int} {flex ht : Bool} {id1 id2 sp off d t1 t2 t3 t4 t5 t6 t7 T k : Nat} {tys : Array TypeId} {y1 y2 y3 y4 y5 y6 y7 y8 y9 y10 : TypeId} {q1 q2 q3 q4 q5 q6 q7 q8 q9 q10 : String} {e1 e2 e3 e4 e5 e6 e7 e8 e9 e10 : Array Edge} {frm to null tag dflt : Int} {of : Nat} {sub : List F}
    (hf : offOf Tryz.prog T k = some off) (hn : [t1, t2, t3, t4, d, t5, t6, t7, E.ds].all (· < E.N) = true) (hd : decide (d ≠ t4 ∧ t5 ≠ d ∧ t6 ≠ t5 ∧ (t1 ≠ E.ds ∧ t2 ≠ E.ds ∧ t3 ≠ E.ds ∧ t4 ≠ E.ds ∧ d ≠ E.ds)) = true) :
    ApV tags E v flex ht sp off (.mk 7 frm to null tag dflt of sub) ((Code.region id1 #[⟨some t1, .move (.tmp sp), y1, q1, e1, none⟩, ⟨some t2, .nilCheck (.tmp t1), y2, q2, e2, none⟩, ⟨some t3, .fieldAddr T (.tmp t2) k, y3, q3, e3, none⟩, ⟨some t4, .load 109 (.tmp t3), y4, q4, e4, none⟩, ⟨some d, .alloc 109, y5, q5, e5, none⟩, ⟨none, .store 109 (.tmp d) (.tmp t4), y6, q6, e6, none⟩] false).seq
      (Code.region id2 #[⟨some t5, .move (.tmp E.ds), y7, q7, e7, none⟩, ⟨some t6, .load 109 (.tmp d), y8, q8, e8, none⟩, ⟨some t7, .call { callee := .value (.func 83), args := #[.tmp t5, .tmp t6], argTypes := tys }, y9, q9, e9, none⟩, ⟨some E.ds, .assign (.tmp t7), y10, q10, e10, none⟩] false)) := by
  intro base K bs a w cb co x hp hsp hcb hr hl
  simp only [List.all_cons, List.all_nil, Bool.and_true, Bool.and_eq_true, decide_eq_true_eq] at hn hd
  obtain ⟨n1, n2, n3, n4, nd, n5, n6, n7, nds⟩ := hn
  obtain ⟨d1, d2, d3, d5, d6, d7, d8, d9⟩ := hd
  have hsz := hp.fr.size
  obtain ⟨hr, -⟩ := hr
  simp only [repF, fieldRep] at hr
  simp only [show ¬ (7 : Nat) = 11 by decide, if_false] at hr
  have h16 := uuid_length x.s
  have hcells : ∀ i b, (Kz.uuid x.s)[i]? = some b → w.cell? ⟨cb, co + off + i, none⟩ = some (bv b) := hr
  have hw : wr v flex (.mk 7 frm to null tag dflt of sub) x = Kz.uuid x.s := by
    simp only [wr, fieldW, valW]
    simp only [show ¬ (7 : Nat) = 11 by decide, show ¬ (7 : Nat) = 0 by decide, show ¬ (7 : Nat) = 10 by decide, if_false, if_true, false_and]
  rw [hw] at hl ⊢
  have hbody : hasBody Tryz.prog 83 = true := by kernel_rfl
  obtain ⟨fn, hfn, hb, hnn⟩ := hasBody_ok hbody
  have hcl : ((Kz.uuid x.s).map bv).length = 16 := by rw [List.length_map, h16]
  have h1 : ((Kz.uuid x.s).map bv).toArray.all (·.oneCell') = true := Go.all_oneCell_toArray fun u hu => by
    simp only [List.mem_map] at hu
    obtain ⟨b, -, rfl⟩ := hu
    rfl
  have hrg : w.rangeAt cb (co + off) ((Kz.uuid x.s).map bv) := fun j u hu => by
    simp only [List.getElem?_map, Option.map_eq_some_iff] at hu
    obtain ⟨b, hb, rfl⟩ := hu
    exact hcells j b hb
  generalize hcs : (Kz.uuid x.s).map bv = cs at hcl h1 hrg
  refine wp_seq (wp_region_lit (st_move (st_nil (p := ⟨cb, co, none⟩) ?_ (st_field (b := cb) (o := co) (fieldOff_ok hf) ?_ (st_load16 (b := cb) (o := co + off) (cs := cs) hcl ?_ hrg (st_alloc16 (st_store16 (b := w.heap.size) (o := 0) (cs := cs) hcl h1 ?_ ?_ (box16_there w) (wpList_nil ?_))))))))
  · rw [eval_tmp, sl_put_self _ _ _ (by omega), eval_tmp, hsp]
  · rw [eval_tmp, sl_put_self _ _ _ (by simp only [put_size]; omega)]
  · rw [eval_tmp, sl_put_self _ _ _ (by simp only [put_size]; omega)]
  · rw [eval_tmp, sl_put_self _ _ _ (by simp only [put_size]; omega)]
  · rw [eval_tmp, sl_put_other _ _ _ _ d1, sl_put_self _ _ _ (by simp only [put_size]; omega)]
  have hgb := box16 w cs
  have hrg2 := box16_range w cs hcl
  generalize (w.alloc (.cells uuZ 109)).setCells w.heap.size 0 cs = w1 at hgb hrg2 ⊢
  rw [eval_tmp, hsp]
  have hup : Upd a (((((a.put (some t1) (.pointer (some ⟨cb, co, none⟩))).put (some t2) (.pointer (some ⟨cb, co, none⟩))).put (some t3) (.pointer (some ⟨cb, co + off, none⟩))).put (some t4) (.agg cs.toArray)).put (some d) (.pointer (some ⟨w.heap.size, 0, none⟩))) [t1, t2, t3, t4, d] :=
    (((((Upd.refl a _).put t1 _ (by simp)).put t2 _ (by simp)).put t3 _ (by simp)).put t4 _ (by simp)).put d _ (by simp)
  have hdd : sl (((((a.put (some t1) (.pointer (some ⟨cb, co, none⟩))).put (some t2) (.pointer (some ⟨cb, co, none⟩))).put (some t3) (.pointer (some ⟨cb, co + off, none⟩))).put (some t4) (.agg cs.toArray)).put (some d) (.pointer (some ⟨w.heap.size, 0, none⟩))) d = .pointer (some ⟨w.heap.size, 0, none⟩) := sl_put_self _ _ _ (by simp only [put_size]; omega)
  generalize ((((a.put (some t1) (.pointer (some ⟨cb, co, none⟩))).put (some t2) (.pointer (some ⟨cb, co, none⟩))).put (some t3) (.pointer (some ⟨cb, co + off, none⟩))).put (some t4) (.agg cs.toArray)).put (some d) (.pointer (some ⟨w.heap.size, 0, none⟩)) = a1 at hup hdd ⊢
  have hs1 : a1.tmps.size = E.N := hup.size.trans hsz
  have hds : sl a1 E.ds = sl a E.ds := hup.same _ (by simp only [List.mem_cons, List.not_mem_nil, or_false, not_or]; exact ⟨fun e => d5 e.symm, fun e => d6 e.symm, fun e => d7 e.symm, fun e => d8 e.symm, fun e => d9 e.symm⟩)
  refine wp_region_lit (st_move (st_load16 (b := w.heap.size) (o := 0) (cs := cs) hcl ?_ hrg2 (st_call2 hfn hb hnn ?_)))
  · rw [eval_tmp, sl_put_other _ _ _ _ d2, hdd]
  rw [eval_tmp, sl_put_other _ _ _ _ d3, sl_put_self _ _ _ (by omega), eval_tmp, hds, eval_tmp, sl_put_self _ _ _ (by simp only [put_size]; omega)]
  have hown1 : OwnB w1 base (sl a E.ds) bs := hp.own.grown fun k hk => hgb.block k hk (by simp)
  refine (AppendUuid_any w1 base (sl a E.ds) bs (Kz.uuid x.s) cs.toArray (by rw [hcs]) h16 hown1 (Nat.le_trans hp.le hgb.size) (lim_of hl (by omega))).mono ?_
  rintro e w' ⟨v', rfl, ho, hbel⟩
  refine ⟨v', rfl, st_assign (wpList_nil ⟨?_, ?_, ?_⟩)⟩
  · refine (hup.mono (fun t ht => ?_)).trans ((((Upd.refl a1 _).put t5 _ ?_).put t6 _ ?_).put t7 _ ?_ |>.put E.ds _ ?_)
    · simp only [List.mem_cons, List.not_mem_nil, or_false] at ht
      rcases ht with rfl | rfl | rfl | rfl | rfl <;> simp [writes]
    all_goals simp [writes]
  · exact Bel.trans ⟨⟨hgb.os, hgb.tape, hgb.output, hgb.size, fun k hk => hgb.block k (Nat.lt_of_lt_of_le hk hp.le) (by simp)⟩, Keep.of_old fun k hk => hgb.block k hk (by simp)⟩ hbel
  · rw [sl_put_self _ _ _ (by simp only [put_size]; omega), eval_tmp, sl_put_self _ _ _ (by simp only [put_size]; omega)]
    exact ho
end Go.Proofs.YtoklbgdafnminaaGreatDoor
