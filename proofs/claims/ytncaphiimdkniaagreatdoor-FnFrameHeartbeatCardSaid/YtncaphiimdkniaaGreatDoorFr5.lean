/-
  A request's frame: the formatter and its option. Conditions: none.
-/
import Derived.Test.YtncaphiimdkniaaGreatDoorFr4
namespace Go.Proofs.YtncaphiimdkniaaGreatDoor.Frm
open Go.Proofs.YtncaphiimdkniaaGreatDoor
open Go.RowKit (Below)
open Kz

set_option maxRecDepth 8000 in
set_option maxHeartbeats 1000000 in
theorem new_none (w : World) : Calls Tryz.prog 34 #[.slice none 0 0] w fun e w' => e = .returned (.pointer (some ⟨w.heap.size, 0, none⟩)) ∧ w' = w.alloc (.cells #[.pointer none] 103) := by
  go_enter Tryz.func34, Tryz.ntmps34
  go_wp2
  go_loopw [9] (fun i wr => i = .int .i64 0 ∧ wr = w.alloc (.cells #[.pointer none] 103)) (fun _ _ => 0)
  case atStart => exact ⟨rfl, rfl⟩
  case round =>
    obtain ⟨rfl, rfl⟩ := hrel
    go_wp2
    go_ret
    exact ⟨rfl, rfl⟩
/-- The option of an id. -/
def optF (g : Nat) : Value := .agg #[.func (.func 53) #[] #[.pointer (some ⟨g, 0, none⟩)]]
set_option maxRecDepth 8000 in
set_option maxHeartbeats 1000000 in
theorem opt_is (s : List UInt8) (w : World) : Calls Tryz.prog 35 #[strV s] w fun e w' => e = .returned (.iface 106 (optF w.heap.size)) ∧ w' = w.alloc (.cells #[strV s] 9) := by
  go_enter Tryz.func35, Tryz.ntmps35
  go_wp2
  go_ret
  exact ⟨rfl, rfl⟩
set_option maxRecDepth 8000 in
set_option maxHeartbeats 1000000 in
theorem set_is (g fb : Nat) (w : World) (hf : w.cell? ⟨fb, 0, none⟩ = some (.pointer none)) (hz : w.frozen? ⟨fb, 0, none⟩ = false) :
    Calls Tryz.prog 130 #[optF g, .pointer (some ⟨fb, 0, none⟩)] w fun e w' => (∃ u, e = .returned u) ∧ w' = (w.setCell ⟨fb, 0, none⟩ (.pointer (some ⟨g, 0, none⟩))).alloc (.cells #[.func (.func 53) #[] #[.pointer (some ⟨g, 0, none⟩)]] 106) := by
  rw [optF]
  have hlt : fb < w.heap.size := World.block_lt_of_cell? w _ hf
  generalize hO : Obj.cells #[.func (.func 53) #[] #[.pointer (some ⟨g, 0, none⟩)]] 106 = O
  have hf2 : (w.alloc O).cell? ⟨fb, 0, none⟩ = some (.pointer none) := by rw [World.cell?_alloc_lt _ _ _ hlt]; exact hf
  have hz2 : (w.alloc O).frozen? ⟨fb, 0, none⟩ = false := by rw [World.frozen?_of_block (w := w) (alloc_old w _ _ hlt)]; exact hz
  subst hO
  go_enter Tryz.func130, Tryz.ntmps130
  go_wp2
  refine ⟨rfl, .tuple #[], results_none rfl _ _ _, ?_⟩
  go_wp2
  refine ⟨rfl, .tuple #[], results_none rfl _ _ _, ⟨_, rfl⟩, rfl⟩

set_option maxRecDepth 8000 in
set_option maxHeartbeats 1000000 in
theorem new_one (q g : Nat) (w : World) (hq : w.cell? ⟨q, 0, none⟩ = some (.iface 106 (optF g))) :
    Calls Tryz.prog 34 #[.slice (some ⟨q, 0, none⟩) 1 1] w fun e w' => e = .returned (.pointer (some ⟨w.heap.size, 0, none⟩)) ∧ w'.cell? ⟨w.heap.size, 0, none⟩ = some (.pointer (some ⟨g, 0, none⟩)) ∧ Below w.heap.size w w' := by
  have m0 : ∀ W : World, (method 303 106 (optF g) "pub-kmsg/pub/kmsg.apply").run Tryz.prog W = .ok (130, optF g) W := fun _ => by kernel_rfl
  have hlt : q < w.heap.size := World.block_lt_of_cell? w _ hq
  generalize hF : optF g = F at *
  go_enter Tryz.func34, Tryz.ntmps34
  go_wp2
  go_loopw [5, 9] (fun _ i wr => (i = .int .i64 0 ∧ wr = w.alloc (.cells #[.pointer none] 103)) ∨ (i = .int .i64 1 ∧ wr.cell? ⟨w.heap.size, 0, none⟩ = some (.pointer (some ⟨g, 0, none⟩)) ∧ Below w.heap.size w wr)) (fun _ i _ => 1 - (intOf i).toNat)
  case atStart => exact .inl ⟨rfl, rfl⟩
  case round =>
    rcases hrel with ⟨rfl, rfl⟩ | ⟨rfl, h1, h2⟩
    · have c1 : (w.alloc (.cells #[.pointer none] 103)).cell? ⟨q, 0, none⟩ = some (.iface 106 F) := by rw [World.cell?_alloc_lt _ _ _ hlt]; exact hq
      go_wp2_with fail
      have c0 : (w.alloc (.cells #[.pointer none] 103)).cell? ⟨w.heap.size, 0, none⟩ = some (.pointer none) := by simp
      have hs := set_is g w.heap.size _ c0 (by simp only [World.frozen?, alloc_new]; rfl)
      rw [hF] at hs
      refine hs.mono ?_
      rintro e w1 ⟨⟨u, rfl⟩, hw1⟩
      have h1 : w1.cell? ⟨w.heap.size, 0, none⟩ = some (.pointer (some ⟨g, 0, none⟩)) := by
        rw [hw1, World.cell?_alloc_lt _ _ _ (by simp)]
        exact World.cell?_setCell_same _ _ _ c0
      have h2 : Below w.heap.size w w1 := by
        rw [hw1]
        exact ((((Below.refl _ _).alloc (Nat.le_refl _) _).setCell (p := ⟨w.heap.size, 0, none⟩) (Nat.le_refl _) _).alloc (by simp) _)
      clear hw1 hs c0 c1
      have H1 := Lib.hid h1
      have H2 := Lib.hid h2
      clear h1 h2
      go_wp2
      exact ⟨.inr ⟨rfl, H1.out, H2.out⟩, by simp only [intOf]; omega⟩
    · go_wp2
      go_ret
      exact ⟨rfl, h1, h2⟩

theorem up2 {w a b : World} (h : Below w.heap.size w a) (k : Below a.heap.size a b) : Below w.heap.size w b :=
  ⟨k.os.trans h.os, k.tape.trans h.tape, k.output.trans h.output, Nat.le_trans h.size k.size, fun i hi => (k.block i (Nat.lt_of_lt_of_le hi h.size)).trans (h.block i hi)⟩
set_option maxRecDepth 8000 in
set_option maxHeartbeats 1000000 in
theorem framed_is (w : World) (cb : Nat) (has : Bool) (s : List UInt8) (v num : Int) (t : T) (hv0 : 0 ≤ v) (hv1 : v < 5) (hlen : has = true → s.length ≤ 2147483647)
    (hc0 : w.cell? ⟨cb, 0, none⟩ = some (.int .i16 v)) (hcb : cb < w.heap.size) (hr : repP TagRep v (HeartbeatRequest.msg.isFlex v) true HeartbeatRequest.msg.fields w (fun g => g < w.heap.size) (fun j => w.cell? ⟨cb, 1 + j, none⟩) t) (hfit : Fit t) (hl : (write HeartbeatRequest.msg v t).length ≤ 1500000000) :
    Calls Tryz.prog 20 #[.slice none 0 0, .agg #[.bool has, strV s], .iface 46 (.pointer (some ⟨cb, 0, none⟩)), .int .i32 num] w fun e w' => ∃ v', e = .returned v' ∧ OwnB w' w.heap.size v' (fixed (rest 12 v num (if has then some s else none) (write HeartbeatRequest.msg v t)).length 4 ++ rest 12 v num (if has then some s else none) (write HeartbeatRequest.msg v t)) ∧ Below w.heap.size w w' := by
  have HR := Lib.hid hr
  have HF := Lib.hid hfit
  clear hr hfit
  go_enter Tryz.func20, Tryz.ntmps20
  go_wp2_with fail
  refine (new_none _).mono ?_
  rintro e w1 ⟨rfl, rfl⟩
  have B2 : Below w.heap.size w ((w.alloc (.cells #[.bool has, strV s] 23)).alloc (.cells #[.pointer none] 103)) := ((Below.refl _ _).alloc (Nat.le_refl _) _).alloc (by simp) _
  cases has with
  | false =>
    go_wp2_with fail
    have hreq := request_is ((w.alloc (.cells #[.bool false, strV s] 23)).alloc (.cells #[.pointer none] 103)) (w.heap.size + 1) cb (.pointer none) none v num t hv0 hv1 (by
        have := alloc_new (w.alloc (.cells #[.bool false, strV s] 23)) (.cells #[.pointer none] 103)
        rw [World.size_alloc] at this
        simp only [World.cell?, this]
        rfl) rfl (fun s h => by cases h) (by rw [(bcell B2).1 _ _ hcb]; exact hc0) (Nat.lt_of_lt_of_le hcb B2.size)
      (stable_repP (fun _ => rfl) stable_tagRep _ w _ _ _ _ _ t (fun g hg _ => B2.block g hg) B2.size (fun g hg => Nat.lt_of_lt_of_le hg B2.size) (fun j _ => (bcell B2).1 _ _ hcb) HR.out) HF.out hl
    refine hreq.mono ?_
    clear hreq
    rintro e w3 ⟨v3, rfl, o3, b3⟩
    have O3 := Lib.hid (o3.lower (b' := w.heap.size) (by simp; omega))
    have B3 := Lib.hid (up2 B2 b3)
    clear o3 b3
    go_wp2
    go_ret
    exact ⟨_, rfl, O3.out, B3.out⟩
  | true =>
    have hB2 := Lib.hid B2
    clear B2
    go_wp2_with fail
    refine (opt_is s _).mono ?_
    rintro e w3 ⟨rfl, rfl⟩
    go_wp2_with fail
    generalize hX1 : w.alloc (.cells #[.bool true, strV s] 23) = X1 at *
    have z1 : X1.heap.size = w.heap.size + 1 := by rw [← hX1, World.size_alloc]
    generalize hX2 : X1.alloc (.cells #[.pointer none] 103) = X2 at *
    have z2 : X2.heap.size = w.heap.size + 1 + 1 := by rw [← hX2, World.size_alloc, z1]
    generalize hX3 : X2.alloc (.cells #[strV s] 9) = X3 at *
    have z3 : X3.heap.size = w.heap.size + 1 + 1 + 1 := by rw [← hX3, World.size_alloc, z2]
    generalize hX4 : X3.alloc (.cells #[.iface 106 (optF (w.heap.size + 1 + 1))] 84) = X4 at *
    have z4 : X4.heap.size = w.heap.size + 1 + 1 + 1 + 1 := by rw [← hX4, World.size_alloc, z3]
    have B4 : Below w.heap.size w X4 := by
      rw [← hX4, ← hX3]
      exact (hB2.out.alloc (by omega) _).alloc (by rw [World.size_alloc]; omega) _
    have cs : X4.cell? ⟨w.heap.size + 1 + 1, 0, none⟩ = some (strV s) := by
      rw [← hX4, World.cell?_alloc_lt _ _ _ (by rw [z3]; simp), ← hX3, ← z2]
      simp only [World.cell?, alloc_new]
      rfl
    have cq : X4.cell? ⟨w.heap.size + 1 + 1 + 1, 0, none⟩ = some (.iface 106 (optF (w.heap.size + 1 + 1))) := by
      rw [← hX4, ← z3]
      simp only [World.cell?, alloc_new]
      rfl
    clear hX1 hX2 hX3 hX4 hB2
    refine (new_one (w.heap.size + 1 + 1 + 1) (w.heap.size + 1 + 1) X4 cq).mono ?_
    rintro e w5 ⟨rfl, c5, b5⟩
    have cs5 : w5.cell? ⟨w.heap.size + 1 + 1, 0, none⟩ = some (strV s) := by rw [(bcell b5).1 _ _ (by omega)]; exact cs
    have B5 := up2 B4 b5
    have hreq := request_is w5 X4.heap.size cb (.pointer (some ⟨w.heap.size + 1 + 1, 0, none⟩)) (some s) v num t hv0 hv1 c5 ⟨_, _, rfl, cs5⟩ (fun s' h => by obtain rfl := Option.some.inj h; exact hlen trivial) (by rw [(bcell B5).1 _ _ hcb]; exact hc0) (Nat.lt_of_lt_of_le hcb B5.size)
      (stable_repP (fun _ => rfl) stable_tagRep _ w _ _ _ _ _ t (fun g hg _ => B5.block g hg) B5.size (fun g hg => Nat.lt_of_lt_of_le hg B5.size) (fun j _ => (bcell B5).1 _ _ hcb) HR.out) HF.out hl
    have HQ := Lib.hid hreq
    have HB5 := Lib.hid B5
    clear hreq B5 b5 B4 cs cq cs5 c5 z1 z2 z3 z4
    go_wp2_with fail
    refine HQ.out.mono ?_
    rintro e w6 ⟨v6, rfl, o6, b6⟩
    have O6 := Lib.hid (o6.lower (b' := w.heap.size) HB5.out.size)
    have B6 := Lib.hid (up2 HB5.out b6)
    clear o6 b6
    go_wp2
    go_ret
    exact ⟨_, rfl, O6.out, B6.out⟩
end Go.Proofs.YtncaphiimdkniaaGreatDoor.Frm
