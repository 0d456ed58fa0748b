/-
  A request's frame: the law. Conditions: none.
-/
import Derived.Test.YtncaphiimdkniaaGreatDoorFr1
import Derived.Test.YtncaphiimdkniaaGreatDoorY7
namespace Go.Proofs.YtncaphiimdkniaaGreatDoor.Frm
open Go.Proofs.YtncaphiimdkniaaGreatDoor
open Go.RowKit
open Kz

def msg : M := HeartbeatRequest.msg
set_option maxRecDepth 8000 in
set_option maxHeartbeats 1000000 in
theorem fits1_any (w : World) (has : Bool) (s : List UInt8) : Calls Tryz.prog 4 #[.agg #[.bool has, strV s]] w fun e w' => e = .returned (.bool (decide (s.length ≤ 2147483647))) ∧ Below w.heap.size w w' := by
  have hsz : (⟨s.toArray⟩ : ByteArray).size = s.length := by simp [ByteArray.size]
  rw [strV]
  go_enter Tryz.func4, Tryz.ntmps4
  by_cases h : s.length ≤ 2147483647
  · have q1 : ¬ ((2147483647 : Int) < (s.length : Int)) := by omega
    go_wp2
    go_ret
    exact ⟨rfl, (Below.refl _ _).alloc (Nat.le_refl _) _⟩
  · have q1 : (2147483647 : Int) < (s.length : Int) := by omega
    go_wp2
    go_ret
    exact ⟨by first | rfl | (rw [decide_eq_false h]; rfl), (Below.refl _ _).alloc (Nat.le_refl _) _⟩
theorem bytes_new (w : World) (t : List UInt8) (h : t.length ≤ 2147483647) :
    (convert 9 24 (.string ⟨t.toArray⟩)).run Tryz.prog w = .ok (.slice (some ⟨w.heap.size, 0, none⟩) t.length (grownCap w t.length 0 5)) (Lib.bytesWorld w 5 ⟨t.toArray⟩)
      ∧ BytesAt (Lib.bytesWorld w 5 ⟨t.toArray⟩) Tr (.slice (some ⟨w.heap.size, 0, none⟩) t.length (grownCap w t.length 0 5)) t ∧ Below w.heap.size w (Lib.bytesWorld w 5 ⟨t.toArray⟩) := by
  have hsz : (⟨t.toArray⟩ : ByteArray).size = t.length := by simp [ByteArray.size]
  refine ⟨?_, ?_, Go.Joins.below_bytesWorld _ _ _ _ (Nat.le_refl _)⟩
  · have := Lib.run_convert_string_bytes (P := Tryz.prog) w 9 24 5 ⟨t.toArray⟩ Tryz.underlying9 Tryz.underlying24 Tryz.underlying5
    rw [hsz] at this
    exact this
  · refine .inr ⟨w.heap.size, 0, _, rfl, ?_, ?_, trivial, ?_, fun i b hi => ?_⟩
    · exact Go.grownCap_ge _ _ _ _
    · exact Go.grownCap_le_maxLen _ _ _ _ (by simp only [maxLen]; omega)
    · rw [Lib.bytesWorld_size]; omega
    · have hlt : i < t.length := (List.getElem?_eq_some_iff.1 hi).1
      rw [Nat.zero_add, Lib.bytesWorld_cell _ _ _ _ (by rw [hsz]; exact hlt)]
      simp [bv, List.getD, hi]
set_option maxRecDepth 8000 in
set_option maxHeartbeats 1000000 in
theorem idBytes_any (w : World) (has : Bool) (s : List UInt8) (hs : s.length ≤ 2147483647) : Calls Tryz.prog 6 #[.agg #[.bool has, strV s]] w fun e w' => ∃ v, e = .returned (.tuple #[v, .bool (decide (s.length ≤ 32767))]) ∧ BytesAt w' Tr v s ∧ Below w.heap.size w w' := by
  have hsz : (⟨s.toArray⟩ : ByteArray).size = s.length := by simp [ByteArray.size]
  rw [strV]
  go_enter Tryz.func6, Tryz.ntmps6
  go_wp2_with fail
  obtain ⟨W, hW⟩ : ∃ W, (w.alloc (.cells #[.bool has, .string ⟨s.toArray⟩] 23)).drew = W := ⟨_, rfl⟩
  have hc0 : W.cell? ⟨w.heap.size, 1, none⟩ = some (.string ⟨s.toArray⟩) := by
    rw [← hW]
    show (w.alloc _).cell? _ = _
    simp only [World.cell?, alloc_new]
    rfl
  have hlt : w.heap.size < W.heap.size := World.block_lt_of_cell? W _ hc0
  obtain ⟨n1, n2, n3⟩ := bytes_new W s hs
  have BW : Below w.heap.size w W := by
    rw [← hW]
    have := (Below.refl w.heap.size w).alloc (Nat.le_refl _) (.cells #[.bool has, .string ⟨s.toArray⟩] 23)
    exact ⟨this.os, this.tape, this.output, this.size, this.block⟩
  have hc1 : (Lib.bytesWorld W 5 ⟨s.toArray⟩).cell? ⟨w.heap.size, 1, none⟩ = some (.string ⟨s.toArray⟩) := by rw [(bcell n3).1 _ _ hlt]; exact hc0
  have z : W.heap.size = w.heap.size + 1 := by
    rw [← hW]
    exact World.size_alloc _ _
  rw [z] at n2
  have H2 := Lib.hid n2
  have H3 := Lib.hid (BW.trans ⟨n3.os, n3.tape, n3.output, n3.size, fun k hk => n3.block k (by omega)⟩)
  clear n2 n3 BW z hlt
  rw [← hW] at n1 hc0 hc1 H2 H3
  clear hW
  have e : decide ((s.length : Int) ≤ 32767) = decide (s.length ≤ 32767) := by
    rw [decide_eq_decide]
    omega
  go_region
  go_wp2
  go_ret2
  exact ⟨_, by rw [← e]; rfl, H2.out, H3.out⟩

theorem okv (v : Int) (h0 : 0 ≤ v) (h1 : v < 5) : msg.ok v = true := HeartbeatRequest.okv v h0 h1
set_option maxRecDepth 8000 in
set_option maxHeartbeats 1000000 in
theorem spec : SpecOk 10 msg := by
  intro w
  go_enter Tryz.func10, Tryz.ntmps10
  go_wp2
  exact ⟨rfl, _, (results_cell1 (p := 0) (ty := 38) (by kernel_rfl) _ _ _).trans (msg_load (heap_first _ _ _)), _, rfl, ⟨_, rfl, FL.of_row (fs := HeartbeatRequest.fs) (heap_second _ _ _) (ss := List.replicate 4 (.slice none 0 0)) (by rfl) (by rfl) (by kernel_rfl) (FL.none_within (by kernel_rfl) rfl) (by rfl)⟩, below_push2 _ (Nat.le_refl _) _ _ rfl⟩
end Go.Proofs.YtncaphiimdkniaaGreatDoor.Frm
