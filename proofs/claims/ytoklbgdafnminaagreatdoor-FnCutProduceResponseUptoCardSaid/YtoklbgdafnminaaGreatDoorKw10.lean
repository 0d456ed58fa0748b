/-
  Known tags, written: two values of a struct, are they the same? Conditions: none.
-/
import Derived.Test.YtoklbgdafnminaaGreatDoorKw9
import Derived.Laws.IdiomRangeMap
namespace Go.Proofs.YtoklbgdafnminaaGreatDoor
open Go.RowKit (Below)
open Kz

theorem TeP.lastJ {E : WE} {v : Int} {sp off : Nat} {fs : List F} {te j : Nat} {cC cK cE : Code} (hj : decide (j = known fs) = true) (hC : SCountW E v sp (off + cellsFs true fs) te cC) (hK : KeysW E v sp off fs te cK) (hE : SEachW E v sp (off + cellsFs true fs) cE) (hcl : clear (te :: sp :: E.slots) cC = true) (hck : clear (sp :: E.slots) cK = true) (hkn : decide (known fs ≤ 100) = true) :
    TeP E v sp off fs te j (cC.seq (cK.seq cE)) := by
  rw [of_decide_eq_true hj]
  exact TeP.last hC hK hE hcl hck hkn
set_option maxRecDepth 8000 in
set_option maxHeartbeats 1000000 in
theorem tags_same (w : World) (r : Option Nat) : Calls Tryz.prog 145 #[.agg #[.map r], .agg #[.map none]] w fun e w' => e = .returned (.bool r.isNone) ∧ Below w.heap.size w w' := by
  have qT : ∀ (w : World) (r : Option Nat), (binOp .eql 67 (.map r) (.map none)).run Tryz.prog w = .ok (.bool r.isNone) w := fun w r => run_eql_map_nil w _ _ _ r Tryz.underlying67
  cases r with
  | none =>
    go_enter Tryz.func145, Tryz.ntmps145
    have hrg : ∀ w : World, (Instr.range 67 (.map none)).run Tryz.prog w = .ok (.pointer (some ⟨w.heap.size, 0, none⟩)) (w.alloc (.mapIter none 0 #[] 0)) := fun w => run_range_nilMap w _ _ _ Tryz.underlying67
    go_wp2
    have hnx : ∀ (ty : TypeId), (Instr.next (.pointer (some ⟨w.heap.size + 1 + 1, 0, none⟩)) false ty).run Tryz.prog (((w.alloc (.cells #[.map none] 69)).alloc (.cells #[.map none] 69)).alloc (.mapIter none 0 #[] 0)) = .ok (.tuple #[.bool false]) (((w.alloc (.cells #[.map none] 69)).alloc (.cells #[.map none] 69)).alloc (.mapIter none 0 #[] 0)) := fun ty => by
      have := run_next_nilMap (P := Tryz.prog) ((w.alloc (.cells #[.map none] 69)).alloc (.cells #[.map none] 69)) ty 0 0 #[]
      rw [two_size] at this
      exact this
    refine wp_loop (I := fun a' w' => a' = _ ∧ w' = _) (μ := fun _ _ => 0) ⟨rfl, rfl⟩ ?_
    rintro a' w' ⟨rfl, rfl⟩
    go_wp2
    go_ret
    refine ⟨rfl, rfl, rfl, rfl, by simp; omega, fun k hk => ?_⟩
    rw [alloc_old _ _ _ (by simp; omega), alloc_old _ _ _ (by simp; omega), alloc_old _ _ _ hk]
  | some b =>
    go_enter Tryz.func145, Tryz.ntmps145
    go_wp2
    go_ret
    refine ⟨rfl, rfl, rfl, rfl, by simp; omega, fun k hk => ?_⟩
    rw [alloc_old _ _ _ (by simp; omega), alloc_old _ _ _ hk]
theorem results_cell {P : Program} {fn : Func} {t T b : Nat} {cs : List Value} {td : TypeDesc} {tmps : Array Value} {w : World} (h : fn.results = #[.cell t T]) (hb : tmps.getD t undef = .pointer (some ⟨b, 0, none⟩)) (hc : w.rangeAt b 0 cs) (hu : P.underlying T = some td) (hd : td.isRow = true) (hi : (P.info? T).map (·.size) = some cs.length) :
    (results fn tmps).run P w = .ok (.agg cs.toArray) w := by
  have := run_loadVar_mid w b 0 T cs td hc hu hd hi
  have hb' : tmps[t]?.getD undef = .pointer (some ⟨b, 0, none⟩) := by rw [← Array.getD_eq_getD_getElem?]; exact hb
  simp [results, h, hb', asAddr, this]
end Go.Proofs.YtoklbgdafnminaaGreatDoor
