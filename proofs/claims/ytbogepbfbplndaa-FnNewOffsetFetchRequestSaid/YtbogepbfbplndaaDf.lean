/-
  The reference's defaults. Conditions: none.
-/
import Derived.Test.YtbogepbfbplndaaY7
namespace Go.Proofs.Ytbogepbfbplndaa
open Go.RowKit (Below)
open Kz

/-- A field's default, as the reference lays it (no struct). -/
def dflT (f : F) : T := .mk f.dflt [] (decide (0 ≤ f.null)) [] []
/-- Their cells. -/
def dc (fs : List F) : List Value := fs.flatMap fun f => [iv f.dflt, .slice none 0 0, .bool (decide (0 ≤ f.null)), .slice none 0 0, .slice none 0 0]
theorem dc_append (a : List F) (f : F) : dc (a ++ [f]) = dc a ++ [iv f.dflt, .slice none 0 0, .bool (decide (0 ≤ f.null)), .slice none 0 0, .slice none 0 0] := by simp [dc]
theorem dc_length (fs : List F) : (dc fs).length = fs.length * 5 := by
  induction fs with
  | nil => rfl
  | cons f fs ih => simp only [dc, List.flatMap_cons, List.length_append, List.length_cons, List.length_nil] at ih ⊢; omega
theorem dc_val : ∀ (fs : List F) (i : Nat) (f : F) (k : Nat), fs[i]? = some f → k < 5 → (dc fs)[i * 5 + k]? = [iv f.dflt, .slice none 0 0, .bool (decide (0 ≤ f.null)), .slice none 0 0, .slice none 0 0][k]?
  | g :: fs, 0, f, k, h, hk => by
    simp only [List.getElem?_cons_zero, Option.some.injEq] at h
    subst h
    simp only [dc, List.flatMap_cons, Nat.zero_mul, Nat.zero_add]
    rw [List.getElem?_append_left (by simpa using hk)]
  | g :: fs, i + 1, f, k, h, hk => by
    simp only [List.getElem?_cons_succ] at h
    have := dc_val fs i f k h hk
    rw [← this]
    simp only [dc, List.flatMap_cons]
    rw [List.getElem?_append_right (by simp; omega)]
    congr 1
    simp; omega

/-- A default is appended. -/
theorem wpList_append_dfl {w : World} {ops : Array Oper} {rest : List Oper} {o : Oper} {a : Act} {Q : Exit → Act → World → Prop} (hgd : o.guard = none) (s x : Operand)
    (ho : o.op = .call { callee := .builtin .append, args := #[s, x], argTypes := #[32, 32] }) (base : Nat) (v : Value) (fs : List F) (f : F) (g : Nat) (hs : a.eval s = v) (hx : a.eval x = .slice (some ⟨g, 0, none⟩) 1 1)
    (hown : w.ownsRow base 35 5 v fs.length (dc fs)) (hg : ∀ j, w.cell? ⟨g, j, none⟩ = (#[iv f.dflt, .slice none 0 0, .bool (decide (0 ≤ f.null)), .slice none 0 0, .slice none 0 0] : Array Value)[j]?) (hl : fs.length ≤ most) (hb : base ≤ w.heap.size)
    (hk : ∀ g' cap w', w'.ownsRow base 35 5 (.slice (some ⟨g', 0, none⟩) (fs.length + 1) cap) (fs.length + 1) (dc (fs ++ [f])) → w.grownBy w' v.ownBlock → (v.ownBlock = some g' ∨ g' = w.heap.size) → wpList Try.prog ops Q rest (a.put o.dst (.slice (some ⟨g', 0, none⟩) (fs.length + 1) cap)) w') : wpList Try.prog ops Q (o :: rest) a w := by
  have hi : (Try.prog.info? 35).map (fun i => (i.zero, i.size, i.bytes)) = some (some (.agg #[iv 0, .slice none 0 0, .bool false, .slice none 0 0, .slice none 0 0]), 5, 88) := by kernel_rfl
  obtain ⟨i, hi, hz, hsz, hby⟩ := info_parts hi
  refine wpList_append_lies w hgd s x _ ho base 35 i _ 5 88 Try.underlying32 hi hz hsz hby rfl (by decide) v fs.length (dc fs) hs hown ⟨g, 0, none⟩ 1 1 [iv f.dflt, .slice none 0 0, .bool (decide (0 ≤ f.null)), .slice none 0 0, .slice none 0 0] hx rfl (fun j u hu => ?_) (fun u hu => ?_) (by decide) ?_ ?_ hb w.heap.size rfl (fun g' cap w' h1 h2 h3 _ => ?_)
  · rw [Addr.add_mid, Nat.zero_add, hg j]
    simpa using hu
  · simp only [List.mem_cons, List.not_mem_nil, or_false] at hu
    rcases hu with rfl | rfl | rfl | rfl | rfl <;> rfl
  · simp only [most, maxLen] at *; omega
  · simp only [most] at *; omega
  · refine hk g' cap w' ?_ h2 h3
    rw [dc_append]
    exact h1

set_option maxRecDepth 8000 in
set_option maxHeartbeats 4000000 in
theorem Default_any (w : World) (v : Value) (fs : List F) (h : FL w v fs) (hk : ∀ f ∈ fs, f.kind ≠ 10) (hl : fs.length ≤ 1000) :
    Calls Try.prog 10 #[v] w fun e w' => ∃ tv, e = .returned tv ∧ TreeV w' tv (.mk 0 [] false (fs.map dflT) []) ∧ Below w.heap.size w w' := by
  obtain ⟨p, c, rfl, h63, hp⟩ := h.cell
  clear h
  go_enter Try.func10, Try.ntmps10
  go_wp2
  go_loopw [9] (fun i wr => ∃ j : Nat, i = .int .i64 (j : Int) ∧ j ≤ fs.length ∧ ∃ tv, wr.heap[w.heap.size + 1]? = some (.cells #[iv 0, .slice none 0 0, .bool false, tv, .slice none 0 0] 35 (0, 0)) ∧ wr.heap[w.heap.size]? = some (.cells #[iv 0, .slice none 0 0, .bool false, .slice none 0 0, .slice none 0 0] 35 (0, 0)) ∧
    wr.ownsRow (w.heap.size + 2) 35 5 tv j (dc (fs.take j)) ∧ Below w.heap.size w wr) (fun i _ => fs.length - (intOf i).toNat)
  case atStart => exact ⟨0, rfl, Nat.zero_le _, _, heap_second _ _ _, heap_first _ _ _, World.ownsRow_nil _ _ _ _, below_push2 _ (Nat.le_refl _) _ _ rfl⟩
  case round =>
    obtain ⟨j, rfl, hj, tv, hX, hZ, hO, hbel⟩ := hrel
    obtain ⟨tp, tc, rfl, -⟩ := row_form hO
    have hlt : w.heap.size + 1 < wr.heap.size := (Array.getElem?_eq_some_iff.1 hX).1
    have hlt0 : w.heap.size < wr.heap.size := by omega
    have hlt2 : w.heap.size < wr.heap.size + 1 := by omega
    have y0 : wr.cell? ⟨w.heap.size + 1, 0, none⟩ = some (iv 0) := cell_of_row _ _ _ _ _ _ hX
    have y1 : wr.cell? ⟨w.heap.size + 1, 1, none⟩ = some (.slice none 0 0) := cell_of_row _ _ _ _ _ _ hX
    have y2 : wr.cell? ⟨w.heap.size + 1, 2, none⟩ = some (.bool false) := cell_of_row _ _ _ _ _ _ hX
    have y3 : wr.cell? ⟨w.heap.size + 1, 3, none⟩ = some (.slice tp j tc) := cell_of_row _ _ _ _ _ _ hX
    have y4 : wr.cell? ⟨w.heap.size + 1, 4, none⟩ = some (.slice none 0 0) := cell_of_row _ _ _ _ _ _ hX
    have BX := Lib.hid hX
    have BZ := Lib.hid hZ
    have BO := Lib.hid hO
    by_cases hjl : j < fs.length
    · have hji : (j : Int) < (fs.length : Int) := by omega
      obtain ⟨g, o, rfl, hg, hpc⟩ := hp (by intro e; rw [e] at hjl; simp at hjl)
      obtain ⟨q, d, e0, e1, e2, e3, e4, e5, e6, e7, -⟩ := hpc j _ (List.getElem?_eq_getElem hjl)
      have hk10 : ¬ (((fs[j]).kind : Int) = 10) := by have := hk _ (List.getElem_mem hjl); omega
      have hTk : fs.take (j + 1) = fs.take j ++ [fs[j]] := by rw [List.take_add_one, List.getElem?_eq_getElem hjl]; rfl
      have BT' := Lib.hid hTk
      have hlj : (fs.take j).length = j := by rw [List.length_take]; omega
      rw [← (bcell hbel).1 _ _ hg] at e0 e1 e2 e3 e4 e5 e6 e7
      generalize fs[j] = f at *
      have BB := Lib.hid hbel
      clear hp hpc hbel hk hX hZ hO hTk
      have hO' : wr.ownsRow (w.heap.size + 2) 35 5 (.slice tp j tc) (fs.take j).length (dc (fs.take j)) := by rw [hlj]; exact BO.out
      have BP := Lib.hid hO'
      have BL := Lib.hid hlj
      have hm : (fs.take j).length ≤ most := by simp only [most]; omega
      have BM := Lib.hid hm
      clear hO' hlj hm
      go_wp2_with (at_builtin; refine wpList_append_dfl rfl _ _ rfl (w.heap.size + 2) _ (fs.take j) f (wr.heap.size + 2) rfl rfl (World.ownsRow.alloc (World.ownsRow.alloc (World.ownsRow.alloc BP.out _) _) _) ?_ BM.out ?_ ?_)
      · intro jj
        have := cell_of_row _ _ jj _ _ _ (alloc_last ((wr.alloc (.cells #[.int .i64 f.kind, .int .i64 f.frm, .int .i64 f.to, .int .i64 f.null, .int .i64 f.tag, .int .i64 f.dflt, .int .i64 f.of, .slice q f.sub.length d] 43)).alloc (.cells #[.int .i64 f.dflt, .slice none 0 0, .bool (decide (0 ≤ f.null)), .slice none 0 0, .slice none 0 0] 35)) (.cells #[.int .i64 f.dflt, .slice none 0 0, .bool (decide (0 ≤ f.null)), .slice none 0 0, .slice none 0 0] 35))
        simpa [iv] using this
      · simp; omega
      · intro g' cap w' h1 h2 h3
        have hne : some (w.heap.size + 1) ≠ (Value.slice tp j tc).ownBlock := fun e => by have := (BO.out.lt _ e.symm).1; omega
        have hne0 : some w.heap.size ≠ (Value.slice tp j tc).ownBlock := fun e => by have := (BO.out.lt _ e.symm).1; omega
        have hX' : w'.heap[w.heap.size + 1]? = some (.cells #[iv 0, .slice none 0 0, .bool false, .slice tp j tc, .slice none 0 0] 35 (0, 0)) := by
          rw [h2.block _ (by simp; omega) hne, alloc_old _ _ _ (by simp; omega), alloc_old _ _ _ (by simp; omega), alloc_old _ _ _ hlt]
          exact BX.out
        have hZ' : w'.heap[w.heap.size]? = some (.cells #[iv 0, .slice none 0 0, .bool false, .slice none 0 0, .slice none 0 0] 35 (0, 0)) := by
          rw [h2.block _ (by simp; omega) hne0, alloc_old _ _ _ (by simp; omega), alloc_old _ _ _ (by simp; omega), alloc_old _ _ _ hlt0]
          exact BZ.out
        have hB' : Below w.heap.size w w' := ⟨h2.os.trans BB.out.os, h2.tape.trans BB.out.tape, h2.output.trans BB.out.output, by have := h2.size; simp at this; omega, fun k hk => by
          rw [h2.block k (by simp; omega) (fun e => by have := (BO.out.lt _ e.symm).1; omega), alloc_old _ _ _ (by simp; omega), alloc_old _ _ _ (by simp; omega), alloc_old _ _ _ (by omega)]
          exact BB.out.block k hk⟩
        have y3' : w'.cell? ⟨w.heap.size + 1, 3, none⟩ = some (.slice tp j tc) := cell_of_row _ _ _ _ _ _ hX'
        have f3' : w'.frozen? ⟨w.heap.size + 1, 3, none⟩ = false := frozen_of_row _ _ _ _ _ hX'
        rw [← BT'.out] at h1
        have C1 := Lib.hid h1
        have C2 := Lib.hid hX'
        have C3 := Lib.hid hZ'
        have C4 := Lib.hid hB'
        clear h1 h2 h3 hX' hZ' hB' hne hne0
        go_wp2
        refine ⟨⟨j + 1, by first | rfl | (congr 1; omega), by omega, .slice (some ⟨g', 0, none⟩) (j + 1) cap, ?_, ?_, ?_, ?_⟩, by simp only [intOf]; omega⟩
        · exact heap_setCell_row C2.out
        · rw [Below.heap_setCell _ _ _ _ (by show w.heap.size ≠ w.heap.size + 1; omega)]; exact C3.out
        · exact C1.out.kept (row := some (w.heap.size + 1)) ⟨rfl, rfl, rfl, by simp [World.setCell], fun k _ hk => Below.heap_setCell _ _ _ _ (fun e => hk (by rw [e]))⟩ (.inr (fun e => by have := (C1.out.lt _ e).1; omega))
        · exact C4.out.setCell (p := ⟨w.heap.size + 1, 3, none⟩) (by simp) _
    · have hji : ¬ ((j : Int) < (fs.length : Int)) := by omega
      obtain rfl : j = fs.length := by omega
      rw [List.take_length] at BO
      have BB := Lib.hid hbel
      have BH := Lib.hid hp
      clear hp hbel hX hZ hO
      have c0 : wr.cell? ⟨w.heap.size, 0, none⟩ = some (iv 0) := cell_of_row _ _ _ _ _ _ BZ.out
      have c1 : wr.cell? ⟨w.heap.size, 1, none⟩ = some (.slice none 0 0) := cell_of_row _ _ _ _ _ _ BZ.out
      have c2 : wr.cell? ⟨w.heap.size, 2, none⟩ = some (.bool false) := cell_of_row _ _ _ _ _ _ BZ.out
      have c3 : wr.cell? ⟨w.heap.size, 3, none⟩ = some (.slice none 0 0) := cell_of_row _ _ _ _ _ _ BZ.out
      have c4 : wr.cell? ⟨w.heap.size, 4, none⟩ = some (.slice none 0 0) := cell_of_row _ _ _ _ _ _ BZ.out
      have z0 : wr.frozen? ⟨w.heap.size, 0, none⟩ = false := frozen_of_row _ _ _ _ _ BZ.out
      have z1 : wr.frozen? ⟨w.heap.size, 1, none⟩ = false := frozen_of_row _ _ _ _ _ BZ.out
      have z2 : wr.frozen? ⟨w.heap.size, 2, none⟩ = false := frozen_of_row _ _ _ _ _ BZ.out
      have z3 : wr.frozen? ⟨w.heap.size, 3, none⟩ = false := frozen_of_row _ _ _ _ _ BZ.out
      have z4 : wr.frozen? ⟨w.heap.size, 4, none⟩ = false := frozen_of_row _ _ _ _ _ BZ.out
      have hR : ((((((wr.setCell ⟨w.heap.size, 0, none⟩ (.int .i64 0)).setCell ⟨w.heap.size, 1, none⟩ (.slice none 0 0)).setCell ⟨w.heap.size, 2, none⟩ (.bool false)).setCell ⟨w.heap.size, 3, none⟩ (.slice tp fs.length tc)).setCell ⟨w.heap.size, 4, none⟩ (.slice none 0 0)).heap[w.heap.size]?) = some (.cells #[iv 0, .slice none 0 0, .bool false, .slice tp fs.length tc, .slice none 0 0] 35 (0, 0)) :=
        heap_setCell_row (heap_setCell_row (heap_setCell_row (heap_setCell_row (heap_setCell_row BZ.out))))
      have hG : wr.grownBy (((((wr.setCell ⟨w.heap.size, 0, none⟩ (.int .i64 0)).setCell ⟨w.heap.size, 1, none⟩ (.slice none 0 0)).setCell ⟨w.heap.size, 2, none⟩ (.bool false)).setCell ⟨w.heap.size, 3, none⟩ (.slice tp fs.length tc)).setCell ⟨w.heap.size, 4, none⟩ (.slice none 0 0)) (some w.heap.size) :=
        ⟨rfl, rfl, rfl, by simp [World.setCell], fun k _ hk => by
          have hk' : k ≠ w.heap.size := fun e => hk (by rw [e])
          rw [Below.heap_setCell _ _ _ _ hk', Below.heap_setCell _ _ _ _ hk', Below.heap_setCell _ _ _ _ hk', Below.heap_setCell _ _ _ _ hk', Below.heap_setCell _ _ _ _ hk']⟩
      have DR := Lib.hid hR
      have DG := Lib.hid hG
      clear hR hG
      go_wp2
      revert DR DG
      generalize ((((wr.setCell ⟨w.heap.size, 0, none⟩ (.int .i64 0)).setCell ⟨w.heap.size, 1, none⟩ (.slice none 0 0)).setCell ⟨w.heap.size, 2, none⟩ (.bool false)).setCell ⟨w.heap.size, 3, none⟩ (.slice tp fs.length tc)).setCell ⟨w.heap.size, 4, none⟩ (.slice none 0 0) = w5
      intro DR DG
      have hO5 := BO.out.kept DG.out (.inr (fun e => by have := (BO.out.lt _ e).1; omega))
      have hTL : TL w5 (.slice tp fs.length tc) (fs.map dflT) := by
        rcases hO5.2 with ⟨e, h0⟩ | ⟨g, cap, cur, e, hb, hg, hc1, hc2, -, -⟩
        · have h00 : fs = [] := List.length_eq_zero_iff.1 h0
          subst h00
          simp only [Value.slice.injEq] at e
          obtain ⟨rfl, -, rfl⟩ := e
          exact TL.nil none
        · simp only [Value.slice.injEq, true_and] at e
          obtain ⟨rfl, rfl⟩ := e
          have key := TL.mk (w := w5) g 0 tc (fs.map dflT) (fun _ => .slice none 0 0) (fun _ => .slice none 0 0) (fun _ => .slice none 0 0) (by rw [List.length_map]; exact hc1) (by simp only [maxLen] at hc2; omega) (Array.getElem?_eq_some_iff.1 hg).1 (fun i t hi => ?_) (fun i t hi => ?_)
          · rw [List.length_map] at key; exact key
          · rw [List.getElem?_map, Option.map_eq_some_iff] at hi
            obtain ⟨f, hf, rfl⟩ := hi
            have hil : i < fs.length := (List.getElem?_eq_some_iff.1 hf).1
            have cc : ∀ k, k < 5 → w5.cell? ⟨g, 0 + i * 5 + k, none⟩ = [iv f.dflt, .slice none 0 0, .bool (decide (0 ≤ f.null)), .slice none 0 0, .slice none 0 0][k]? := fun k hk => by
              rw [Nat.zero_add, World.ownsRow.cellAt hO5 (i * 5 + k) (by omega), dc_val fs i f k hf hk]
            exact ⟨cc 0 (by omega), cc 1 (by omega), cc 2 (by omega), cc 3 (by omega), cc 4 (by omega), BT.nil _, UTags.nil _⟩
          · rw [List.getElem?_map, Option.map_eq_some_iff] at hi
            obtain ⟨f, hf, rfl⟩ := hi
            exact TL.nil none
      exact ⟨rfl, _, (results_cell1 (p := 2) (ty := 35) (by kernel_rfl) _ _ _).trans (tree_load (g := w.heap.size) DR.out), _, rfl, ⟨_, _, _, rfl, BT.nil _, hTL, UTags.nil _⟩,
        ⟨DG.out.os.trans BB.out.os, DG.out.tape.trans BB.out.tape, DG.out.output.trans BB.out.output, Nat.le_trans BB.out.size DG.out.size, fun k hk => (DG.out.block k (by omega) (fun e => by have := Option.some.inj e; omega)).trans (BB.out.block k hk)⟩⟩
end Go.Proofs.Ytbogepbfbplndaa

