/- What the texts behind this one lean on, out of what the kit's print writes for this seat, cut down. Conditions: none. -/
import Derived.Test.YthdfhnnoamlacaaDoorPFnAnyHeaderx0
namespace Go.Proofs.YthdfhnnoamlacaaDoor.PFnAnyHeader
open Go.RowKit Go.Proofs.YthdfhnnoamlacaaDoorW.PrintWords Go.Proofs.YthdfhnnoamlacaaDoorW.PrintLast Go.Proofs.YthdfhnnoamlacaaDoorW.PrintMore

/-- A state of type 45 at block g of W; what its slices lead to came in by w0. -/
def IsS45 (w0 W : World) (g : Nat) (f0 : List Int) (f1 : Int) (f2 : Int) : Prop := ∃ A0 c0, W.heap[g]? = some (.cells #[.slice A0 f0.length c0, .int .i64 f1, .int .i64 f2] 45 (0, 0)) ∧ w0.heap.size ≤ g ∧ Kd.C (Kd.int .u8) w0 A0 f0.length f0
theorem IsS45.grown {w0 W : World} {g : Nat} {f0 : List Int} {f1 : Int} {f2 : Int} {W1 : World} {row : Option Nat} (h : IsS45 w0 W g f0 f1 f2) (hw : W.grownBy W1 row) (hne : some g ≠ row) : IsS45 w0 W1 g f0 f1 f2 := by
  obtain ⟨A0, c0, hb, hg, hr0⟩ := h
  exact ⟨A0, c0, blk_grown hb hw hne, hg, hr0⟩
theorem IsS45.below {w0 W : World} {g : Nat} {f0 : List Int} {f1 : Int} {f2 : Int} {W1 : World} (h : IsS45 w0 W g f0 f1 f2) (hw : Below W.heap.size W W1) : IsS45 w0 W1 g f0 f1 f2 := h.grown (grown_of_below hw none) (by simp)
theorem IsS45.alloc {w0 W : World} {g : Nat} {f0 : List Int} {f1 : Int} {f2 : Int} (h : IsS45 w0 W g f0 f1 f2) (o : Obj) : IsS45 w0 (W.alloc o) g f0 f1 f2 := h.below (below_alloc (Below.refl _ _) o)
theorem IsS45.drewN {w0 W : World} {g : Nat} {f0 : List Int} {f1 : Int} {f2 : Int} (h : IsS45 w0 W g f0 f1 f2) (m : Nat) : IsS45 w0 (W.drewN m) g f0 f1 f2 := h
theorem IsS45.drew {w0 W : World} {g : Nat} {f0 : List Int} {f1 : Int} {f2 : Int} (h : IsS45 w0 W g f0 f1 f2) : IsS45 w0 W.drew g f0 f1 f2 := h
theorem IsS45.ge {w0 W : World} {g : Nat} {f0 : List Int} {f1 : Int} {f2 : Int} (h : IsS45 w0 W g f0 f1 f2) : w0.heap.size ≤ g := by
  obtain ⟨A0, c0, hb, hg, hr0⟩ := h
  exact hg
theorem cellS45_0 {W : World} {g : Nat} {A0 : Option Addr} {c0 : Nat} {f0 : List Int} {f1 : Int} {f2 : Int} (h : W.heap[g]? = some (.cells #[.slice A0 f0.length c0, .int .i64 f1, .int .i64 f2] 45 (0, 0))) : W.cell? ⟨g, 0, none⟩ = some (.slice A0 f0.length c0) := (blk_cell h 0).trans rfl
theorem cellS45_1 {W : World} {g : Nat} {A0 : Option Addr} {c0 : Nat} {f0 : List Int} {f1 : Int} {f2 : Int} (h : W.heap[g]? = some (.cells #[.slice A0 f0.length c0, .int .i64 f1, .int .i64 f2] 45 (0, 0))) : W.cell? ⟨g, 1, none⟩ = some (.int .i64 f1) := (blk_cell h 1).trans rfl
theorem IsS45.set_1 {w0 W : World} {g : Nat} {f0 : List Int} {f1 : Int} {f2 : Int} (h : IsS45 w0 W g f0 f1 f2) (x : Int) : IsS45 w0 (W.setCell ⟨g, 1, none⟩ (.int .i64 x)) g f0 x f2 := by
  obtain ⟨A0, c0, hb, hg, hr0⟩ := h
  exact ⟨A0, c0, by simpa using blk_set hb 1 (.int .i64 x), hg, hr0⟩
theorem cellS45_2 {W : World} {g : Nat} {A0 : Option Addr} {c0 : Nat} {f0 : List Int} {f1 : Int} {f2 : Int} (h : W.heap[g]? = some (.cells #[.slice A0 f0.length c0, .int .i64 f1, .int .i64 f2] 45 (0, 0))) : W.cell? ⟨g, 2, none⟩ = some (.int .i64 f2) := (blk_cell h 2).trans rfl
theorem IsS45.set_2 {w0 W : World} {g : Nat} {f0 : List Int} {f1 : Int} {f2 : Int} (h : IsS45 w0 W g f0 f1 f2) (x : Int) : IsS45 w0 (W.setCell ⟨g, 2, none⟩ (.int .i64 x)) g f0 f1 x := by
  obtain ⟨A0, c0, hb, hg, hr0⟩ := h
  exact ⟨A0, c0, by simpa using blk_set hb 2 (.int .i64 x), hg, hr0⟩
/-! ### spec_reader_fail: function 19 -/
def spec_reader_fail.f (s0_0 : List Int) (s0_1 : Int) (s0_2 : Int) (a1 : Int) : Option (Int × Int) := if s0_2 = 0 then (some (s0_1, a1)) else (some (s0_1, s0_2))
set_option maxHeartbeats 8000000 in
set_option maxRecDepth 100000 in
theorem spec_reader_fail.calls (g : Nat) (s0_0 : List Int) (s0_1 : Int) (s0_2 : Int) (a1 : Int) (r1 : Int) (r2 : Int) (w0 w : World) (hI : IsS45 w0 w g s0_0 s0_1 s0_2) (hB : Below w0.heap.size w0 w) (h : spec_reader_fail.f s0_0 s0_1 s0_2 a1 = some (r1, r2)) :
    Calls Tryd.prog 19 #[.pointer (some ⟨g, 0, none⟩), .int .i64 a1] w fun e w' => e = .returned (.tuple #[]) ∧ IsS45 w0 w' g s0_0 r1 r2 ∧ Below w0.heap.size w0 w' ∧ KeepBut w w' g none := by
  have HI0 := Aside0.mk hI
  have HK := Aside0.mk (KeepBut.refl w g none)
  have HL := Aside0.mk hB.size
  clear hI
  have HW0 := Aside0.mk hB.size
  have HB := Aside0.mk hB
  clear hB
  have H : (if s0_2 = 0 then (some (s0_1, a1)) else (some (s0_1, s0_2))) = some (r1, r2) := h
  clear h
  by_cases c3 : s0_2 = 0
  · rw [if_pos c3] at H
    have c3b0 : (s0_2 == 0) = true := beq_iff_eq.mpr c3
    have c3b1 : (s0_2 != 0) = false := bne_eq_false_iff_eq.mpr c3
    clear c3
    simp only [Option.some.injEq, Prod.mk.injEq] at H
    obtain ⟨rfl, rfl⟩ := H
    obtain ⟨ASz4_0, cSz4_0, HGz4, hgz4, HSz4_0⟩ := HI0.out
    have hcz4_0 := cellS45_0 HGz4
    have hcz4_1 := cellS45_1 HGz4
    have hcz4_2 := cellS45_2 HGz4
    have hfz4_1 := blk_frozen HGz4 1
    have hfz4_2 := blk_frozen HGz4 2
    clear HGz4 hgz4
    go_enter Tryd.func19, Tryd.ntmps19
    go_wp2
    first | go_end0 | ((try simp only [Exit.inBlock, Exit.then]); refine bodyPost_ret (results_none rfl _ _ _) rfl ?_)
    exact ⟨by first | rfl | (simp [errW_none, errW_some] <;> rfl) | (simp [*, errW_none, errW_some] <;> rfl), by repeat (first | (with_reducible first | exact HI0.out | apply IsS45.alloc | apply IsS45.drewN | apply IsS45.drew | apply IsS45.set_1 | apply IsS45.set_2) | exact HI0.out), by repeat (first | (with_reducible first | exact HB.out | apply below_alloc | apply pw_below_drewN | apply below_drew1 | refine below_set ?_ (IsS45.ge HI0.out)) | exact HB.out), by repeat (first | (with_reducible first | exact HK.out | apply KeepBut.set_ | apply keep_drewN | apply keep_drew | apply keep_alloc) | exact HK.out)⟩
  · rw [if_neg c3] at H
    have c3b0 : (s0_2 == 0) = false := beq_eq_false_iff_ne.mpr c3
    have c3b1 : (s0_2 != 0) = true := bne_iff_ne.mpr c3
    simp only [Option.some.injEq, Prod.mk.injEq] at H
    obtain ⟨rfl, rfl⟩ := H
    obtain ⟨ASz5_0, cSz5_0, HGz5, hgz5, HSz5_0⟩ := HI0.out
    have hcz5_0 := cellS45_0 HGz5
    have hcz5_1 := cellS45_1 HGz5
    have hcz5_2 := cellS45_2 HGz5
    have hfz5_1 := blk_frozen HGz5 1
    have hfz5_2 := blk_frozen HGz5 2
    clear HGz5 hgz5
    go_enter Tryd.func19, Tryd.ntmps19
    go_wp2
    first | go_end0 | ((try simp only [Exit.inBlock, Exit.then]); refine bodyPost_ret (results_none rfl _ _ _) rfl ?_)
    exact ⟨by first | rfl | (simp [errW_none, errW_some] <;> rfl) | (simp [*, errW_none, errW_some] <;> rfl), by repeat (first | (with_reducible first | exact HI0.out | apply IsS45.alloc | apply IsS45.drewN | apply IsS45.drew | apply IsS45.set_1 | apply IsS45.set_2) | exact HI0.out), by repeat (first | (with_reducible first | exact HB.out | apply below_alloc | apply pw_below_drewN | apply below_drew1 | refine below_set ?_ (IsS45.ge HI0.out)) | exact HB.out), by repeat (first | (with_reducible first | exact HK.out | apply KeepBut.set_ | apply keep_drewN | apply keep_drew | apply keep_alloc) | exact HK.out)⟩

-- NOT PRINTED: function 37 (spec_reader_take)

-- NOT PRINTED: function 20 (spec_reader_octets)

/-! ### spec_ReadVarint: function 40 -/
mutual
def spec_ReadVarint.l0 : Nat → List Int → Int → Int → Int → Int → Option (Int × Int × Int)
  | 0, _, _, _, _, _ => none
  | k + 1, x0, x1, x7, x12, x13 => if x13 < x12 then (if x13 ≥ (x0.length : Int) then (some (0, 0, 1)) else (if 0 ≤ x13 then (if x13 < (x0.length : Int) then (if (wrap64 ((wrap64 (7 * x13)) + 7)) > x1 then (if 0 ≤ (wrap64 (x1 - (wrap64 (7 * x13)))) then (spec_ReadVarint.j1 k x0 x1 x7 x13 (IntKind.u64.wrap (Go.bits .and .u8 (rd x0 x13) 127)) x12 x13 (decide ((shr .u64 (IntKind.u64.wrap (Go.bits .and .u8 (rd x0 x13) 127)) (wrap64 (x1 - (wrap64 (7 * x13))))) > 0))) else (none)) else (spec_ReadVarint.j1 k x0 x1 x7 x13 (IntKind.u64.wrap (Go.bits .and .u8 (rd x0 x13) 127)) x12 x13 false)) else (none)) else (none))) else (some (0, 0, 3))
def spec_ReadVarint.j1 : Nat → List Int → Int → Int → Int → Int → Int → Int → Bool → Option (Int × Int × Int)
  | 0, _, _, _, _, _, _, _, _ => none
  | k + 1, x0, x1, x7, x8, x9, x12, x13, x39 => if x39 = true then (some (0, 0, 3)) else (if 0 ≤ (wrap64 (7 * x8)) then (if 0 ≤ x8 then (if x8 < (x0.length : Int) then (if (rd x0 x8) < 128 then (some (Go.bits .xor .i64 (wrap64 ((Go.bits .or .u64 x7 (shl .u64 x9 (wrap64 (7 * x8)))) / 2)) (wrap64 (-(wrap64 (Go.bits .and .u64 (Go.bits .or .u64 x7 (shl .u64 x9 (wrap64 (7 * x8)))) 1)))), wrap64 (x8 + 1), 0)) else (spec_ReadVarint.l0 k x0 x1 (Go.bits .or .u64 x7 (shl .u64 x9 (wrap64 (7 * x8)))) x12 (wrap64 (x13 + 1)))) else (none)) else (none)) else (none))
end
def spec_ReadVarint.f (k : Nat) (l0 : List Int) (a1 : Int) : Option (Int × Int × Int) := spec_ReadVarint.l0 k l0 a1 0 (wrap64 (Int.tdiv (wrap64 (a1 + 6)) 7)) 0
set_option maxHeartbeats 8000000 in
set_option maxRecDepth 100000 in
theorem spec_ReadVarint.calls (k : Nat) (A0 : Option Addr) (c0 : Nat) (l0 : List Int) (a1 : Int) (r1 : Int) (r2 : Int) (r3 : Int) (w : World) (hr0 : Kd.C (Kd.int .u8) w A0 l0.length l0) (hc0 : l0.length ≤ c0) (h : spec_ReadVarint.f k l0 a1 = some (r1, r2, r3)) :
    Calls Tryd.prog 40 #[.slice A0 l0.length c0, .int .i64 a1] w fun e w' => e = .returned (.tuple #[.int .i64 r1, .int .i64 r2, .int .i64 r3]) ∧ Drawn0 w w' := by
  have HR0 := Aside0.mk hr0
  have HC0 := Aside0.mk hc0
  clear hr0 hc0
  have H : (spec_ReadVarint.l0 k l0 a1 0 (wrap64 (Int.tdiv (wrap64 (a1 + 6)) 7)) 0) = some (r1, r2, r3) := h
  clear h
  have H' := Aside0.mk H
  clear H
  go_enter Tryd.func40, Tryd.ntmps40
  go_wp2
  go_loopg [7, 13] k (fun kq v7 v13 w' => ∃ (x7_1 : Int) (x13_1 : Int), v7 = .int .u64 x7_1 ∧ v13 = .int .i64 x13_1 ∧ Aside0 (spec_ReadVarint.l0 kq l0 a1 x7_1 (wrap64 (Int.tdiv (wrap64 (a1 + 6)) 7)) x13_1 = some (r1, r2, r3)) ∧ Aside0 (kq ≤ k) ∧ Drawn0 w w')
  case atStart => exact ⟨(0), (0), (by first | rfl | (simp; done) | (simp [*]; done)), (by first | rfl | (simp; done) | (simp [*]; done)), H', ⟨Nat.le_refl _⟩, by repeat (first | exact Drawn0.refl _ | apply Drawn0.step)⟩
  case round =>
    clear H'
    try clear p2
    obtain ⟨x7_1, x13_1, rfl, rfl, HA, HK1, ⟨m1, rfl⟩⟩ := hrel
    cases gk with
    | zero => exact absurd HA.out (by simp [spec_ReadVarint.l0])
    | succ k1 =>
      have H := HA.out
      clear HA
      simp only [spec_ReadVarint.l0] at H
      by_cases c3 : x13_1 < (wrap64 (Int.tdiv (wrap64 (a1 + 6)) 7))
      · rw [if_pos c3] at H
        have c3b0 : decide (x13_1 < (wrap64 (Int.tdiv (wrap64 (a1 + 6)) 7))) = true := decide_eq_true c3
        clear c3
        by_cases c4 : x13_1 ≥ (l0.length : Int)
        · rw [if_pos c4] at H
          have c4b0 : decide ((l0.length : Int) ≤ x13_1) = true := decide_eq_true c4
          clear c4
          simp only [Option.some.injEq, Prod.mk.injEq] at H
          obtain ⟨rfl, rfl, rfl⟩ := H
          go_wp2
          go_ret3
          exact ⟨by first | rfl | (simp; done) | (simp [*]; done), by repeat (first | exact Drawn0.refl _ | apply Drawn0.step)⟩
        · rw [if_neg c4] at H
          have c4b0 : decide ((l0.length : Int) ≤ x13_1) = false := decide_eq_false c4
          clear c4
          by_cases c5 : 0 ≤ x13_1
          · rw [if_pos c5] at H
            have c5b0 : decide (0 ≤ x13_1) = true := decide_eq_true c5
            clear c5
            by_cases c6 : x13_1 < (l0.length : Int)
            · rw [if_pos c6] at H
              have c6b0 : decide (x13_1 < (l0.length : Int)) = true := decide_eq_true c6
              clear c6
              have HC7 := Aside0.mk H
              clear H
              have p108 : 0 ≤ (x13_1 : Int) := of_decide_eq_true (by first | (with_reducible assumption) | assumption)
              have q108 : x13_1 < (l0.length : Int) := of_decide_eq_true (by first | (with_reducible assumption) | assumption)
              obtain ⟨ad108, e108, hx108_0⟩ := Kd.at_int HR0.out x13_1 p108 q108
              cases e108
              replace p108 := eq_true p108
              replace q108 := eq_true q108
              go_upto_region 8 with (fail)
              go_cut [39] (fun v39 wc => ∃ (kq : Nat) (x39_6 : Bool), v39 = .bool x39_6 ∧ Aside0 (spec_ReadVarint.j1 kq l0 a1 x7_1 x13_1 (IntKind.u64.wrap (Go.bits .and .u8 (rd l0 x13_1) 127)) (wrap64 (Int.tdiv (wrap64 (a1 + 6)) 7)) x13_1 x39_6 = some (r1, r2, r3)) ∧ Aside0 (kq ≤ k1) ∧ Drawn0 w wc)
              case first =>
                have H := HC7.out
                clear HC7
                by_cases c8 : (wrap64 ((wrap64 (7 * x13_1)) + 7)) > a1
                · rw [if_pos c8] at H
                  have c8b0 : decide (a1 < (wrap64 ((wrap64 (7 * x13_1)) + 7))) = true := decide_eq_true c8
                  clear c8
                  (first | rw [c8b0] | (simp only [i64_w, i32_w]; rw [c8b0]) | skip)
                  obtain ⟨ji9, hji9⟩ : ∃ j_ : Int, (wrap64 (a1 - (wrap64 (7 * x13_1)))) = j_ := ⟨_, rfl⟩
                  replace H : (if 0 ≤ (ji9) then (spec_ReadVarint.j1 k1 l0 a1 x7_1 x13_1 (IntKind.u64.wrap (Go.bits .and .u8 (rd l0 x13_1) 127)) (wrap64 (Int.tdiv (wrap64 (a1 + 6)) 7)) x13_1 (decide ((shr .u64 (IntKind.u64.wrap (Go.bits .and .u8 (rd l0 x13_1) 127)) (ji9)) > 0))) else (none)) = some (r1, r2, r3) := by first | (rw [hji9] at H; exact H) | (simp only [hji9] at H ⊢; exact H)
                  have hji9w : (IntKind.i64.wrap (a1 - (wrap64 (7 * x13_1)))) = ji9 := (i64_w _).trans hji9
                  by_cases c10 : 0 ≤ (ji9)
                  · rw [if_pos c10] at H
                    have c10b0 := eq_true c10
                    have c10b1 : decide (0 ≤ (ji9)) = true := decide_eq_true c10
                    clear c10
                    obtain ⟨ji11, hji11⟩ : ∃ j_ : Int, (shr .u64 (IntKind.u64.wrap (Go.bits .and .u8 (rd l0 x13_1) 127)) (ji9)) = j_ := ⟨_, rfl⟩
                    replace H : (spec_ReadVarint.j1 k1 l0 a1 x7_1 x13_1 (IntKind.u64.wrap (Go.bits .and .u8 (rd l0 x13_1) 127)) (wrap64 (Int.tdiv (wrap64 (a1 + 6)) 7)) x13_1 (decide ((ji11) > 0))) = some (r1, r2, r3) := by first | (rw [hji11] at H; exact H) | (simp only [hji11] at H ⊢; exact H)
                    have hji11_ : ((IntKind.u64.wrap (Go.bits .and .u8 (rd l0 x13_1) 127)) / 2 ^ min (ji9).toNat 64) = ji11 := hji11
                    have hji11z : (ji9) ≤ 64 → ((IntKind.u64.wrap (Go.bits .and .u8 (rd l0 x13_1) 127)) / 2 ^ (ji9).toNat) = ji11 := shr_small hji11
                    have H' := Aside0.mk H
                    clear H
                    go_wp2
                    go_meet
                    case rel => exact ⟨_, (decide ((ji11) > 0)), (by first | rfl | (simp; done) | (simp only [← hji11] <;> (first | rfl | simp)) | (simp [*]; done)), H', ⟨by have := HK1.out; first | omega | exact Nat.le_refl _⟩, by repeat (first | exact Drawn0.refl _ | apply Drawn0.step)⟩
                  · rw [if_neg c10] at H
                    exact absurd H (by simp)
                · rw [if_neg c8] at H
                  have c8b0 : decide (a1 < (wrap64 ((wrap64 (7 * x13_1)) + 7))) = false := decide_eq_false c8
                  clear c8
                  (first | rw [c8b0] | (simp only [i64_w, i32_w]; rw [c8b0]) | skip)
                  have H' := Aside0.mk H
                  clear H
                  go_wp2
                  go_meet
                  case rel => exact ⟨_, (false), (by first | rfl | (simp; done) | (simp [*]; done)), H', ⟨by have := HK1.out; first | omega | exact Nat.le_refl _⟩, by repeat (first | exact Drawn0.refl _ | apply Drawn0.step)⟩
              case rest =>
                clear HC7
                try clear c1
                try clear p1
                try clear q1
                try clear hx1
                try clear p2
                try clear c3
                try clear c3b0
                try clear c4
                try clear c4b0
                try clear c5
                try clear c5b0
                try clear c6
                try clear c6b0
                try clear p6
                try clear c8
                try clear c8b0
                try clear c10
                try clear c10b0
                try clear c10b1
                try clear p10
                try clear q10
                try clear hx10
                try clear hx108_0
                try clear p108
                try clear p2
                try clear q108
                obtain ⟨kq, x39_6, rfl, HA, HJ6, ⟨mc6, rfl⟩⟩ := hcut
                cases kq with
                | zero => exact absurd HA.out (by simp [spec_ReadVarint.j1])
                | succ kj6 =>
                  have H := HA.out
                  clear HA
                  simp only [spec_ReadVarint.j1] at H
                  by_cases c12 : x39_6 = true
                  · subst c12
                    have H1 : (some (0, 0, 3)) = some (r1, r2, r3) := by rw [if_pos rfl] at H; exact H
                    clear H
                    have H := H1
                    clear H1
                    simp only [Option.some.injEq, Prod.mk.injEq] at H
                    obtain ⟨rfl, rfl, rfl⟩ := H
                    go_wp2
                    go_ret3
                    exact ⟨by first | rfl | (simp; done) | (simp [*]; done), by repeat (first | exact Drawn0.refl _ | apply Drawn0.step)⟩
                  · replace c12 := Bool.eq_false_iff.mpr c12
                    subst c12
                    have H1 : (if 0 ≤ (wrap64 (7 * x13_1)) then (if 0 ≤ x13_1 then (if x13_1 < (l0.length : Int) then (if (rd l0 x13_1) < 128 then (some (Go.bits .xor .i64 (wrap64 ((Go.bits .or .u64 x7_1 (shl .u64 (IntKind.u64.wrap (Go.bits .and .u8 (rd l0 x13_1) 127)) (wrap64 (7 * x13_1)))) / 2)) (wrap64 (-(wrap64 (Go.bits .and .u64 (Go.bits .or .u64 x7_1 (shl .u64 (IntKind.u64.wrap (Go.bits .and .u8 (rd l0 x13_1) 127)) (wrap64 (7 * x13_1)))) 1)))), wrap64 (x13_1 + 1), 0)) else (spec_ReadVarint.l0 kj6 l0 a1 (Go.bits .or .u64 x7_1 (shl .u64 (IntKind.u64.wrap (Go.bits .and .u8 (rd l0 x13_1) 127)) (wrap64 (7 * x13_1)))) (wrap64 (Int.tdiv (wrap64 (a1 + 6)) 7)) (wrap64 (x13_1 + 1)))) else (none)) else (none)) else (none)) = some (r1, r2, r3) := by rw [if_neg (show ¬ (false = true) by decide)] at H; exact H
                    clear H
                    have H := H1
                    clear H1
                    obtain ⟨ji13, hji13⟩ : ∃ j_ : Int, (wrap64 (7 * x13_1)) = j_ := ⟨_, rfl⟩
                    replace H : (if 0 ≤ (ji13) then (if 0 ≤ x13_1 then (if x13_1 < (l0.length : Int) then (if (rd l0 x13_1) < 128 then (some (Go.bits .xor .i64 (wrap64 ((Go.bits .or .u64 x7_1 (shl .u64 (IntKind.u64.wrap (Go.bits .and .u8 (rd l0 x13_1) 127)) (ji13))) / 2)) (wrap64 (-(wrap64 (Go.bits .and .u64 (Go.bits .or .u64 x7_1 (shl .u64 (IntKind.u64.wrap (Go.bits .and .u8 (rd l0 x13_1) 127)) (ji13))) 1)))), wrap64 (x13_1 + 1), 0)) else (spec_ReadVarint.l0 kj6 l0 a1 (Go.bits .or .u64 x7_1 (shl .u64 (IntKind.u64.wrap (Go.bits .and .u8 (rd l0 x13_1) 127)) (ji13))) (wrap64 (Int.tdiv (wrap64 (a1 + 6)) 7)) (wrap64 (x13_1 + 1)))) else (none)) else (none)) else (none)) = some (r1, r2, r3) := by first | (rw [hji13] at H; exact H) | (simp only [hji13] at H ⊢; exact H)
                    have hji13w : (IntKind.i64.wrap (7 * x13_1)) = ji13 := (i64_w _).trans hji13
                    by_cases c14 : 0 ≤ (ji13)
                    · rw [if_pos c14] at H
                      have c14b0 := eq_true c14
                      have c14b1 : decide (0 ≤ (ji13)) = true := decide_eq_true c14
                      clear c14
                      obtain ⟨ji15, hji15⟩ : ∃ j_ : Int, (shl .u64 (IntKind.u64.wrap (Go.bits .and .u8 (rd l0 x13_1) 127)) (ji13)) = j_ := ⟨_, rfl⟩
                      replace H : (if 0 ≤ x13_1 then (if x13_1 < (l0.length : Int) then (if (rd l0 x13_1) < 128 then (some (Go.bits .xor .i64 (wrap64 ((Go.bits .or .u64 x7_1 (ji15)) / 2)) (wrap64 (-(wrap64 (Go.bits .and .u64 (Go.bits .or .u64 x7_1 (ji15)) 1)))), wrap64 (x13_1 + 1), 0)) else (spec_ReadVarint.l0 kj6 l0 a1 (Go.bits .or .u64 x7_1 (ji15)) (wrap64 (Int.tdiv (wrap64 (a1 + 6)) 7)) (wrap64 (x13_1 + 1)))) else (none)) else (none)) = some (r1, r2, r3) := by first | (rw [hji15] at H; exact H) | (simp only [hji15] at H ⊢; exact H)
                      have hji15_ : (IntKind.u64.wrap ((IntKind.u64.wrap (Go.bits .and .u8 (rd l0 x13_1) 127)) * 2 ^ min (ji13).toNat 64)) = ji15 := hji15
                      have hji15z : (ji13) ≤ 64 → (IntKind.u64.wrap ((IntKind.u64.wrap (Go.bits .and .u8 (rd l0 x13_1) 127)) * 2 ^ (ji13).toNat)) = ji15 := shl_small hji15
                      by_cases c16 : 0 ≤ x13_1
                      · rw [if_pos c16] at H
                        have c16b0 : decide (0 ≤ x13_1) = true := decide_eq_true c16
                        clear c16
                        by_cases c17 : x13_1 < (l0.length : Int)
                        · rw [if_pos c17] at H
                          have c17b0 : decide (x13_1 < (l0.length : Int)) = true := decide_eq_true c17
                          clear c17
                          by_cases c18 : (rd l0 x13_1) < 128
                          · rw [if_pos c18] at H
                            have c18b0 : decide ((rd l0 x13_1) < 128) = true := decide_eq_true c18
                            clear c18
                            simp only [Option.some.injEq, Prod.mk.injEq] at H
                            obtain ⟨rfl, rfl, rfl⟩ := H
                            have p109 : 0 ≤ (x13_1 : Int) := of_decide_eq_true (by first | (with_reducible assumption) | assumption)
                            have q109 : x13_1 < (l0.length : Int) := of_decide_eq_true (by first | (with_reducible assumption) | assumption)
                            obtain ⟨ad109, e109, hx109_0⟩ := Kd.at_int HR0.out x13_1 p109 q109
                            obtain rfl : ad108 = ad109 := (by injection e109)
                            replace p109 := eq_true p109
                            replace q109 := eq_true q109
                            go_wp2
                            go_ret3
                            exact ⟨by first | rfl | (simp; done) | (simp only [← hji13, ← hji15] <;> (first | rfl | simp)) | (simp [*]; done), by repeat (first | exact Drawn0.refl _ | apply Drawn0.step)⟩
                          · rw [if_neg c18] at H
                            have c18b0 : decide ((rd l0 x13_1) < 128) = false := decide_eq_false c18
                            clear c18
                            have H' := Aside0.mk H
                            clear H
                            have p109 : 0 ≤ (x13_1 : Int) := of_decide_eq_true (by first | (with_reducible assumption) | assumption)
                            have q109 : x13_1 < (l0.length : Int) := of_decide_eq_true (by first | (with_reducible assumption) | assumption)
                            obtain ⟨ad109, e109, hx109_0⟩ := Kd.at_int HR0.out x13_1 p109 q109
                            obtain rfl : ad108 = ad109 := (by injection e109)
                            replace p109 := eq_true p109
                            replace q109 := eq_true q109
                            go_wp2
                            go_roundg kj6
                            case measure => have := HK1.out; have := HJ6.out; omega
                            case rel => exact ⟨(Go.bits .or .u64 x7_1 (ji15)), (wrap64 (x13_1 + 1)), (by first | rfl | (simp; done) | (simp only [← hji15] <;> (first | rfl | simp)) | (simp [*]; done)), (by first | rfl | (simp; done) | (simp [*]; done)), H', ⟨by have := HK1.out; have := HJ6.out; omega⟩, by repeat (first | exact Drawn0.refl _ | apply Drawn0.step)⟩
                        · rw [if_neg c17] at H
                          exact absurd H (by simp)
                      · rw [if_neg c16] at H
                        exact absurd H (by simp)
                    · rw [if_neg c14] at H
                      exact absurd H (by simp)
            · rw [if_neg c6] at H
              exact absurd H (by simp)
          · rw [if_neg c5] at H
            exact absurd H (by simp)
      · rw [if_neg c3] at H
        have c3b0 : decide (x13_1 < (wrap64 (Int.tdiv (wrap64 (a1 + 6)) 7))) = false := decide_eq_false c3
        clear c3
        simp only [Option.some.injEq, Prod.mk.injEq] at H
        obtain ⟨rfl, rfl, rfl⟩ := H
        go_wp2
        go_ret3
        exact ⟨by first | rfl | (simp; done) | (simp [*]; done), by repeat (first | exact Drawn0.refl _ | apply Drawn0.step)⟩

-- NOT PRINTED: function 25 (spec_reader_varint)

-- NOT PRINTED: function 24 (spec_reader_text)

-- NOT PRINTED: function 12 (spec_reader_header)

-- NOT PRINTED: function 5 (spec_ReadHeader)

/-- A state of type 48 at block g of W; what its slices lead to came in by w0. -/
def IsS48 (w0 W : World) (g : Nat) (f0 : ByteArray) (f1 : List Int) : Prop := ∃ A1 c1, W.heap[g]? = some (.cells #[.string f0, .slice A1 f1.length c1] 48 (0, 0)) ∧ w0.heap.size ≤ g ∧ Kd.C (Kd.int .u8) w0 A1 f1.length f1
theorem IsS48.grown {w0 W : World} {g : Nat} {f0 : ByteArray} {f1 : List Int} {W1 : World} {row : Option Nat} (h : IsS48 w0 W g f0 f1) (hw : W.grownBy W1 row) (hne : some g ≠ row) : IsS48 w0 W1 g f0 f1 := by
  obtain ⟨A1, c1, hb, hg, hr1⟩ := h
  exact ⟨A1, c1, blk_grown hb hw hne, hg, hr1⟩
theorem IsS48.below {w0 W : World} {g : Nat} {f0 : ByteArray} {f1 : List Int} {W1 : World} (h : IsS48 w0 W g f0 f1) (hw : Below W.heap.size W W1) : IsS48 w0 W1 g f0 f1 := h.grown (grown_of_below hw none) (by simp)
theorem IsS48.alloc {w0 W : World} {g : Nat} {f0 : ByteArray} {f1 : List Int} (h : IsS48 w0 W g f0 f1) (o : Obj) : IsS48 w0 (W.alloc o) g f0 f1 := h.below (below_alloc (Below.refl _ _) o)
theorem IsS48.drewN {w0 W : World} {g : Nat} {f0 : ByteArray} {f1 : List Int} (h : IsS48 w0 W g f0 f1) (m : Nat) : IsS48 w0 (W.drewN m) g f0 f1 := h
theorem IsS48.drew {w0 W : World} {g : Nat} {f0 : ByteArray} {f1 : List Int} (h : IsS48 w0 W g f0 f1) : IsS48 w0 W.drew g f0 f1 := h
theorem IsS48.ge {w0 W : World} {g : Nat} {f0 : ByteArray} {f1 : List Int} (h : IsS48 w0 W g f0 f1) : w0.heap.size ≤ g := by
  obtain ⟨A1, c1, hb, hg, hr1⟩ := h
  exact hg
theorem IsS48.set_0 {w0 W : World} {g : Nat} {f0 : ByteArray} {f1 : List Int} (h : IsS48 w0 W g f0 f1) (x : ByteArray) : IsS48 w0 (W.setCell ⟨g, 0, none⟩ (.string x)) g x f1 := by
  obtain ⟨A1, c1, hb, hg, hr1⟩ := h
  exact ⟨A1, c1, by simpa using blk_set hb 0 (.string x), hg, hr1⟩
/-! ### kmsg_Header_Default: function 41 -/
def kmsg_Header_Default.f (s0_0 : ByteArray) (s0_1 : List Int) : Option (ByteArray) := some s0_0
set_option maxHeartbeats 8000000 in
set_option maxRecDepth 100000 in
theorem kmsg_Header_Default.calls (g : Nat) (s0_0 : ByteArray) (s0_1 : List Int) (r : ByteArray) (w0 w : World) (hI : IsS48 w0 w g s0_0 s0_1) (hB : Below w0.heap.size w0 w) (h : kmsg_Header_Default.f s0_0 s0_1 = some r) :
    Calls Tryd.prog 41 #[.pointer (some ⟨g, 0, none⟩)] w fun e w' => e = .returned (.tuple #[]) ∧ IsS48 w0 w' g r s0_1 ∧ Below w0.heap.size w0 w' ∧ KeepBut w w' g none := by
  have HI0 := Aside0.mk hI
  have HK := Aside0.mk (KeepBut.refl w g none)
  have HL := Aside0.mk hB.size
  clear hI
  have HW0 := Aside0.mk hB.size
  have HB := Aside0.mk hB
  clear hB
  have H : (some s0_0) = some r := h
  clear h
  obtain rfl := Option.some.inj H
  go_enter Tryd.func41, Tryd.ntmps41
  go_wp2
  first | go_end0 | ((try simp only [Exit.inBlock, Exit.then]); refine bodyPost_ret (results_none rfl _ _ _) rfl ?_)
  exact ⟨by first | rfl | (simp [errW_none, errW_some] <;> rfl) | (simp [*, errW_none, errW_some] <;> rfl), by repeat (first | (with_reducible first | exact HI0.out | apply IsS48.alloc | apply IsS48.drewN | apply IsS48.drew | apply IsS48.set_0) | exact HI0.out), by repeat (first | (with_reducible first | exact HB.out | apply below_alloc | apply pw_below_drewN | apply below_drew1 | refine below_set ?_ (IsS48.ge HI0.out)) | exact HB.out), by repeat (first | (with_reducible first | exact HK.out | apply KeepBut.set_ | apply keep_drewN | apply keep_drew | apply keep_alloc) | exact HK.out)⟩

-- NOT PRINTED: function 81 (kbin_Uvarint)

-- NOT PRINTED: function 69 (kbin_Varint)

-- NOT PRINTED: function 59 (kbin_Reader_Varint)

-- NOT PRINTED: function 60 (kbin_Reader_Span)

-- NOT PRINTED: function 44 (kbin_Reader_VarintBytes)

/-! ### kbin_UnsafeString: function 58 -/
def kbin_UnsafeString.f (l0 : List Int) : Option (ByteArray) := some (strOfNums l0)
set_option maxHeartbeats 8000000 in
set_option maxRecDepth 100000 in
theorem kbin_UnsafeString.calls (A0 : Option Addr) (c0 : Nat) (l0 : List Int) (r : ByteArray) (w : World) (hr0 : Kd.C (Kd.int .u8) w A0 l0.length l0) (hc0 : l0.length ≤ c0) (h : kbin_UnsafeString.f l0 = some r) :
    Calls Tryd.prog 58 #[.slice A0 l0.length c0] w fun e w' => e = .returned (.string r) ∧ Drawn0 w w' := by
  have HR0 := Aside0.mk hr0
  have HC0 := Aside0.mk hc0
  clear hr0 hc0
  have H : (some (strOfNums l0)) = some r := h
  clear h
  obtain rfl := Option.some.inj H
  have hcv2 := Kd.C_string (P := Tryd.prog) (A := A0) (c := c0) Tryd.underlying22 Tryd.underlying5 Tryd.underlying9 HR0.out
  go_enter Tryd.func58, Tryd.ntmps58
  go_wp2
  go_ret
  exact ⟨by first | rfl | (simp; done) | (simp [*]; done), by repeat (first | exact Drawn0.refl _ | apply Drawn0.step)⟩

-- NOT PRINTED: function 42 (kbin_Reader_UnsafeVarintString)

-- NOT PRINTED: function 43 (kbin_Reader_VarintString)

-- NOT PRINTED: function 45 (kbin_Reader_Complete)

-- NOT PRINTED: function 26 (kmsg_Header_readFrom)

-- NOT PRINTED: function 13 (kmsg_Header_ReadFrom)

-- NOT PRINTED: function 14 (impl_own)

-- NOT PRINTED: function 15 (impl_octets)

-- NOT PRINTED: function 6 (impl_TellHeader)

-- NOT PRINTED: function 68 (binary_bigEndian_Uint32)

-- NOT PRINTED: function 57 (kbin_Reader_Int32)

-- NOT PRINTED: function 54 (kbin_Reader_ArrayLen)

-- NOT PRINTED: function 80 (binary_bigEndian_Uint16)

-- NOT PRINTED: function 67 (kbin_Reader_Int16)

-- NOT PRINTED: function 55 (kbin_Reader_UnsafeString)

-- NOT PRINTED: function 56 (kbin_Reader_String)

-- NOT PRINTED: function 38 (kmsg_StickyMemberMetadata_readFrom)

-- NOT PRINTED: function 21 (kmsg_StickyMemberMetadata_ReadFrom)

-- NOT PRINTED: function 10 (impl_TellSticky)

/-! ### spec_Fixed: function 39 -/
def spec_Fixed.l0 : Nat → Int → List Int → Int → Option (List Int)
  | 0, _, _, _ => none
  | k + 1, x0, x5, x6 => if x6 ≥ 0 then (if 0 ≤ (wrap64 (8 * x6)) then (if x5.length < 140737488355328 then (spec_Fixed.l0 k x0 (x5 ++ [(shr .i64 x0 (wrap64 (8 * x6))) % 256]) (wrap64 (x6 - 1))) else (none)) else (none)) else (some x5)
def spec_Fixed.f (k : Nat) (a0 : Int) (a1 : Int) : Option (List Int) := spec_Fixed.l0 k a0 ([] : List Int) (wrap64 (a1 - 1))
set_option maxHeartbeats 8000000 in
set_option maxRecDepth 100000 in
theorem spec_Fixed.calls (k : Nat) (a0 : Int) (a1 : Int) (r : List Int) (w : World) (h : spec_Fixed.f k a0 a1 = some r) :
    Calls Tryd.prog 39 #[.int .i64 a0, .int .i64 a1] w fun e w' => ∃ v0_ : Value, e = .returned (v0_) ∧ Kd.R (Kd.int .u8) 5 w' w.heap.size (fun _ => True) v0_ r ∧ Below w.heap.size w w' := by
  have HB := Aside0.mk (Below.refl w.heap.size w)
  have H : (spec_Fixed.l0 k a0 ([] : List Int) (wrap64 (a1 - 1))) = some r := h
  clear h
  have H' := Aside0.mk H
  clear H
  go_enter Tryd.func39, Tryd.ntmps39
  go_wp2
  go_loopg [5, 6] k (fun kq v5 v6 w' => ∃ (x5_1 : List Int) (x6_1 : Int), v6 = .int .i64 x6_1 ∧ Aside0 (spec_Fixed.l0 kq a0 x5_1 x6_1 = some r) ∧ Aside0 (kq ≤ k) ∧ Aside0 (Kd.R (Kd.int .u8) 5 w' w.heap.size (fun _ => True) v5 x5_1) ∧ Aside0 (Below w.heap.size w w'))
  case atStart => exact ⟨(([] : List Int)), (wrap64 (a1 - 1)), (by first | rfl | (simp; done) | (simp [*]; done)), H', ⟨Nat.le_refl _⟩, ⟨by first | exact Kd.R_nil _ _ _ _ _ | exact Kd.N_nil _ _ _ _ _ | exact Kd.V_nil _ _ _ _ _ | exact Kd.Q_nil _ _ _ _ _ | exact Kd.S_nil _ _ _ _ _⟩, ⟨by repeat (first | (with_reducible first | exact HB.out | apply below_alloc | apply pw_below_drewN | apply below_drew1) | exact HB.out)⟩⟩
  case round =>
    clear H'
    try clear p2
    obtain ⟨x5_1, x6_1, rfl, HA, HK1, HO_5, HB⟩ := hrel
    cases gk with
    | zero => exact absurd HA.out (by simp [spec_Fixed.l0])
    | succ k1 =>
      have H := HA.out
      clear HA
      simp only [spec_Fixed.l0] at H
      by_cases c3 : x6_1 ≥ 0
      · rw [if_pos c3] at H
        have c3b0 : decide (0 ≤ x6_1) = true := decide_eq_true c3
        clear c3
        obtain ⟨ji4, hji4⟩ : ∃ j_ : Int, (wrap64 (8 * x6_1)) = j_ := ⟨_, rfl⟩
        replace H : (if 0 ≤ (ji4) then (if x5_1.length < 140737488355328 then (spec_Fixed.l0 k1 a0 (x5_1 ++ [(shr .i64 a0 (ji4)) % 256]) (wrap64 (x6_1 - 1))) else (none)) else (none)) = some r := by first | (rw [hji4] at H; exact H) | (simp only [hji4] at H ⊢; exact H)
        have hji4w : (IntKind.i64.wrap (8 * x6_1)) = ji4 := (i64_w _).trans hji4
        by_cases c5 : 0 ≤ (ji4)
        · rw [if_pos c5] at H
          have c5b0 := eq_true c5
          have c5b1 : decide (0 ≤ (ji4)) = true := decide_eq_true c5
          clear c5
          obtain ⟨ji6, hji6⟩ : ∃ j_ : Int, (shr .i64 a0 (ji4)) = j_ := ⟨_, rfl⟩
          replace H : (if x5_1.length < 140737488355328 then (spec_Fixed.l0 k1 a0 (x5_1 ++ [(ji6) % 256]) (wrap64 (x6_1 - 1))) else (none)) = some r := by first | (rw [hji6] at H; exact H) | (simp only [hji6] at H ⊢; exact H)
          have hji6_ : (a0 / 2 ^ min (ji4).toNat 64) = ji6 := hji6
          have hji6z : (ji4) ≤ 64 → (a0 / 2 ^ (ji4).toNat) = ji6 := shr_small hji6
          by_cases c7 : x5_1.length < 140737488355328
          · rw [if_pos c7] at H
            have LMc7 := Aside0.mk c7
            clear c7
            obtain ⟨y121, hy121⟩ : ∃ y_ : List Int, y_ = (x5_1 ++ [(ji6) % 256]) := ⟨_, rfl⟩
            replace H : (spec_Fixed.l0 k1 a0 y121 (wrap64 (x6_1 - 1))) = some r := by first | (rw [hy121]; with_reducible exact H) | (have H2_ := (Option.bind_some _ _).symm.trans H; rw [hy121]; with_reducible exact H2_) | (have H2_ := (Option.bind_some _ _).symm.trans H; with_reducible exact H2_) | with_reducible exact H | (rw [hy121]; exact H) | exact H
            have Ny121 := Aside0.mk hy121
            clear hy121
            have H' := Aside0.mk H
            clear H
            go_wp2_with (first | ((with_reducible refine gate_builtin (b := .append) (xs := #[.tmp 13, .tmp 19]) rfl ?_); at_builtin; refine Kd.R_append (Kd.int .u8) (w0 := w) w.heap.size rfl (.tmp 13) (.tmp 19) 22 5 (.int .u8 0) 1 rfl Tryd.underlying22 info5 rfl (by decide) (by omega) u5 x5_1 ((ji6) % 256) [.int .u8 ((ji6) % 256)] (fun _ => True) (fun _ => False) rfl rfl ?aP (fun _ hk => hk.elim) ?aF ?aO ?aB ?aS ?aL ?_; (case aP => exact rfl); (case aB => exact (by repeat (first | (with_reducible first | exact HB.out | apply below_alloc | apply pw_below_drewN | apply below_drew1) | exact HB.out))); (case aF => exact (fun _ _ => trivial)); (case aO => exact (by (with_reducible repeat (first | apply Kd.R_alloc | apply Kd.R_drewN | apply Kd.R_drew)); exact HO_5.out)); (case aS => exact (below_size (by repeat (first | (with_reducible first | exact HB.out | apply below_alloc | apply pw_below_drewN | apply below_drew1) | exact HB.out)))); (case aL => have := LMc7.out; omega); intro v122 w8 ho hb hg hat; rw [← Ny121.out] at ho; have n0_ := Aside0.mk (hb); have n1_ := Aside0.mk (ho); clear HB; clear HO_5; have HB := n0_; have HO123 := n1_; clear n0_ n1_; clear ho hb hg hat))
            go_roundg k1
            case measure => have := HK1.out; omega
            case rel => exact ⟨(y121), (wrap64 (x6_1 - 1)), (by first | rfl | (simp; done) | (simp [*]; done)), H', ⟨by have := HK1.out; omega⟩, ⟨by (with_reducible repeat (first | apply Kd.R_alloc | apply Kd.R_drewN | apply Kd.R_drew)); exact HO123.out⟩, ⟨by repeat (first | (with_reducible first | exact HB.out | apply below_alloc | apply pw_below_drewN | apply below_drew1) | exact HB.out)⟩⟩
          · rw [if_neg c7] at H
            exact absurd H (by simp)
        · rw [if_neg c5] at H
          exact absurd H (by simp)
      · rw [if_neg c3] at H
        have c3b0 : decide (0 ≤ x6_1) = false := decide_eq_false c3
        clear c3
        obtain rfl := Option.some.inj H
        go_wp2
        go_ret
        exact ⟨_, by first | rfl | (simp [errW_none, errW_some] <;> rfl) | (simp [*, errW_none, errW_some] <;> rfl), by (with_reducible repeat (first | apply Kd.R_alloc | apply Kd.R_drewN | apply Kd.R_drew)); exact HO_5.out, by repeat (first | (with_reducible first | exact HB.out | apply below_alloc | apply pw_below_drewN | apply below_drew1) | exact HB.out)⟩

-- NOT PRINTED: function 23 (spec_StickyBytes)

/-! ### spec_Uvarint: function 61 -/
def spec_Uvarint.l0 : Nat → Int → List Int → Option (List Int)
  | 0, _, _ => none
  | k + 1, x0, x3 => if x0 > 127 then (if x3.length < 140737488355328 then (spec_Uvarint.l0 k (x0 / 128) (x3 ++ [Go.bits .or .u8 ((Go.bits .and .u64 x0 127) % 256) 128])) else (none)) else (if x3.length < 140737488355328 then (some (x3 ++ [(x0) % 256])) else (none))
def spec_Uvarint.f (k : Nat) (a0 : Int) : Option (List Int) := spec_Uvarint.l0 k a0 ([] : List Int)
set_option maxHeartbeats 8000000 in
set_option maxRecDepth 100000 in
theorem spec_Uvarint.calls (k : Nat) (a0 : Int) (r : List Int) (w : World) (h : spec_Uvarint.f k a0 = some r) :
    Calls Tryd.prog 61 #[.int .u64 a0] w fun e w' => ∃ v0_ : Value, e = .returned (v0_) ∧ Kd.R (Kd.int .u8) 5 w' w.heap.size (fun _ => True) v0_ r ∧ Below w.heap.size w w' := by
  have HB := Aside0.mk (Below.refl w.heap.size w)
  have H : (spec_Uvarint.l0 k a0 ([] : List Int)) = some r := h
  clear h
  have H' := Aside0.mk H
  clear H
  go_enter Tryd.func61, Tryd.ntmps61
  go_wp2
  go_loopg [0, 3] k (fun kq v0 v3 w' => ∃ (x0_1 : Int) (x3_1 : List Int), v0 = .int .u64 x0_1 ∧ Aside0 (spec_Uvarint.l0 kq x0_1 x3_1 = some r) ∧ Aside0 (kq ≤ k) ∧ Aside0 (Kd.R (Kd.int .u8) 5 w' w.heap.size (fun _ => True) v3 x3_1) ∧ Aside0 (Below w.heap.size w w'))
  case atStart => exact ⟨(a0), (([] : List Int)), (by first | rfl | (simp; done) | (simp [*]; done)), H', ⟨Nat.le_refl _⟩, ⟨by first | exact Kd.R_nil _ _ _ _ _ | exact Kd.N_nil _ _ _ _ _ | exact Kd.V_nil _ _ _ _ _ | exact Kd.Q_nil _ _ _ _ _ | exact Kd.S_nil _ _ _ _ _⟩, ⟨by repeat (first | (with_reducible first | exact HB.out | apply below_alloc | apply pw_below_drewN | apply below_drew1) | exact HB.out)⟩⟩
  case round =>
    clear H'
    obtain ⟨x0_1, x3_1, rfl, HA, HK1, HO_3, HB⟩ := hrel
    cases gk with
    | zero => exact absurd HA.out (by simp [spec_Uvarint.l0])
    | succ k1 =>
      have H := HA.out
      clear HA
      simp only [spec_Uvarint.l0] at H
      by_cases c2 : x0_1 > 127
      · rw [if_pos c2] at H
        have c2b0 : decide (127 < x0_1) = true := decide_eq_true c2
        clear c2
        by_cases c3 : x3_1.length < 140737488355328
        · rw [if_pos c3] at H
          have LMc3 := Aside0.mk c3
          clear c3
          obtain ⟨y158, hy158⟩ : ∃ y_ : List Int, y_ = (x3_1 ++ [Go.bits .or .u8 ((Go.bits .and .u64 x0_1 127) % 256) 128]) := ⟨_, rfl⟩
          replace H : (spec_Uvarint.l0 k1 (x0_1 / 128) y158) = some r := by first | (rw [hy158]; with_reducible exact H) | (have H2_ := (Option.bind_some _ _).symm.trans H; rw [hy158]; with_reducible exact H2_) | (have H2_ := (Option.bind_some _ _).symm.trans H; with_reducible exact H2_) | with_reducible exact H | (rw [hy158]; exact H) | exact H
          have Ny158 := Aside0.mk hy158
          clear hy158
          have H' := Aside0.mk H
          clear H
          go_wp2_with (first | ((with_reducible refine gate_builtin (b := .append) (xs := #[.tmp 6, .tmp 11]) rfl ?_); at_builtin; refine Kd.R_append (Kd.int .u8) (w0 := w) w.heap.size rfl (.tmp 6) (.tmp 11) 22 5 (.int .u8 0) 1 rfl Tryd.underlying22 info5 rfl (by decide) (by omega) u3 x3_1 (Go.bits .or .u8 ((Go.bits .and .u64 x0_1 127) % 256) 128) [.int .u8 (Go.bits .or .u8 ((Go.bits .and .u64 x0_1 127) % 256) 128)] (fun _ => True) (fun _ => False) rfl rfl ?aP (fun _ hk => hk.elim) ?aF ?aO ?aB ?aS ?aL ?_; (case aP => exact rfl); (case aB => exact (by repeat (first | (with_reducible first | exact HB.out | apply below_alloc | apply pw_below_drewN | apply below_drew1) | exact HB.out))); (case aF => exact (fun _ _ => trivial)); (case aO => exact (by (with_reducible repeat (first | apply Kd.R_alloc | apply Kd.R_drewN | apply Kd.R_drew)); exact HO_3.out)); (case aS => exact (below_size (by repeat (first | (with_reducible first | exact HB.out | apply below_alloc | apply pw_below_drewN | apply below_drew1) | exact HB.out)))); (case aL => have := LMc3.out; omega); intro v159 w4 ho hb hg hat; rw [← Ny158.out] at ho; have n0_ := Aside0.mk (hb); have n1_ := Aside0.mk (ho); clear HB; clear HO_3; have HB := n0_; have HO160 := n1_; clear n0_ n1_; clear ho hb hg hat))
          go_roundg k1
          case measure => have := HK1.out; omega
          case rel => exact ⟨(x0_1 / 128), (y158), (by first | rfl | (simp; done) | (simp [*]; done)), H', ⟨by have := HK1.out; omega⟩, ⟨by (with_reducible repeat (first | apply Kd.R_alloc | apply Kd.R_drewN | apply Kd.R_drew)); exact HO160.out⟩, ⟨by repeat (first | (with_reducible first | exact HB.out | apply below_alloc | apply pw_below_drewN | apply below_drew1) | exact HB.out)⟩⟩
        · rw [if_neg c3] at H
          exact absurd H (by simp)
      · rw [if_neg c2] at H
        have c2b0 : decide (127 < x0_1) = false := decide_eq_false c2
        clear c2
        by_cases c5 : x3_1.length < 140737488355328
        · rw [if_pos c5] at H
          have LMc5 := Aside0.mk c5
          clear c5
          obtain ⟨y161, hy161⟩ : ∃ y_ : List Int, y_ = (x3_1 ++ [(x0_1) % 256]) := ⟨_, rfl⟩
          replace H : (some y161) = some r := by first | (rw [hy161]; with_reducible exact H) | (have H2_ := (Option.bind_some _ _).symm.trans H; rw [hy161]; with_reducible exact H2_) | (have H2_ := (Option.bind_some _ _).symm.trans H; with_reducible exact H2_) | with_reducible exact H | (rw [hy161]; exact H) | exact H
          have Ny161 := Aside0.mk hy161
          clear hy161
          obtain rfl := Option.some.inj H
          go_wp2_with (first | ((with_reducible refine gate_builtin (b := .append) (xs := #[.tmp 15, .tmp 18]) rfl ?_); at_builtin; refine Kd.R_append (Kd.int .u8) (w0 := w) w.heap.size rfl (.tmp 15) (.tmp 18) 22 5 (.int .u8 0) 1 rfl Tryd.underlying22 info5 rfl (by decide) (by omega) u3 x3_1 ((x0_1) % 256) [.int .u8 ((x0_1) % 256)] (fun _ => True) (fun _ => False) rfl rfl ?aP (fun _ hk => hk.elim) ?aF ?aO ?aB ?aS ?aL ?_; (case aP => exact rfl); (case aB => exact (by repeat (first | (with_reducible first | exact HB.out | apply below_alloc | apply pw_below_drewN | apply below_drew1) | exact HB.out))); (case aF => exact (fun _ _ => trivial)); (case aO => exact (by (with_reducible repeat (first | apply Kd.R_alloc | apply Kd.R_drewN | apply Kd.R_drew)); exact HO_3.out)); (case aS => exact (below_size (by repeat (first | (with_reducible first | exact HB.out | apply below_alloc | apply pw_below_drewN | apply below_drew1) | exact HB.out)))); (case aL => have := LMc5.out; omega); intro v162 w6 ho hb hg hat; rw [← Ny161.out] at ho; have n0_ := Aside0.mk (hb); have n1_ := Aside0.mk (ho); clear HB; clear HO_3; have HB := n0_; have HO163 := n1_; clear n0_ n1_; clear ho hb hg hat))
          go_ret
          exact ⟨_, by first | rfl | (simp [errW_none, errW_some] <;> rfl) | (simp [*, errW_none, errW_some] <;> rfl), by (with_reducible repeat (first | apply Kd.R_alloc | apply Kd.R_drewN | apply Kd.R_drew)); exact HO163.out, by repeat (first | (with_reducible first | exact HB.out | apply below_alloc | apply pw_below_drewN | apply below_drew1) | exact HB.out)⟩
        · rw [if_neg c5] at H
          exact absurd H (by simp)

/-! ### spec_Turned: function 62 -/
def spec_Turned.f (a0 : Int) : Option (Int) := some (Go.bits .xor .u64 (IntKind.u64.wrap ((IntKind.u64.wrap (a0)) * 2)) (IntKind.u64.wrap (a0 / 9223372036854775808)))
set_option maxHeartbeats 8000000 in
set_option maxRecDepth 100000 in
theorem spec_Turned.calls (a0 : Int) (r : Int) (w : World) (h : spec_Turned.f a0 = some r) :
    Calls Tryd.prog 62 #[.int .i64 a0] w fun e w' => e = .returned (.int .u64 r) ∧ Drawn0 w w' := by
  have H : (some (Go.bits .xor .u64 (IntKind.u64.wrap ((IntKind.u64.wrap (a0)) * 2)) (IntKind.u64.wrap (a0 / 9223372036854775808)))) = some r := h
  clear h
  obtain rfl := Option.some.inj H
  go_enter Tryd.func62, Tryd.ntmps62
  go_wp2
  go_ret
  exact ⟨by first | rfl | (simp; done) | (simp [*]; done), by repeat (first | exact Drawn0.refl _ | apply Drawn0.step)⟩

/-! ### spec_Varint: function 46 -/
def spec_Varint.f (k : Nat) (a0 : Int) : Option (List Int) := (spec_Turned.f a0).bind fun t164 => ((spec_Uvarint.f k t164).bind fun t165 => (some t165))
set_option maxHeartbeats 8000000 in
set_option maxRecDepth 100000 in
theorem spec_Varint.calls (k : Nat) (a0 : Int) (r : List Int) (w : World) (h : spec_Varint.f k a0 = some r) :
    Calls Tryd.prog 46 #[.int .i64 a0] w fun e w' => ∃ v0_ : Value, e = .returned (v0_) ∧ Kd.R (Kd.int .u8) 5 w' w.heap.size (fun _ => True) v0_ r ∧ Below w.heap.size w w' := by
  have HB := Aside0.mk (Below.refl w.heap.size w)
  have H : ((spec_Turned.f a0).bind fun t164 => ((spec_Uvarint.f k t164).bind fun t165 => (some t165))) = some r := h
  clear h
  replace H := Option.bind_eq_some_iff.mp H
  obtain ⟨t164, A20, H⟩ := H
  replace H : ((spec_Uvarint.f k t164).bind fun t165 => (some t165)) = some r := H
  have A2 := Aside0.mk A20
  clear A20
  replace H := Option.bind_eq_some_iff.mp H
  obtain ⟨t165, A30, H⟩ := H
  replace H : (some t165) = some r := H
  have A3 := Aside0.mk A30
  clear A30
  obtain rfl := Option.some.inj H
  go_enter Tryd.func46, Tryd.ntmps46
  go_wp2_with (first | ((with_reducible refine gate_callee (f := 62) rfl ?_); refine goesL_ (some 4) rfl rfl Tryd.func62 (by kernel_rfl) rfl #[.int .i64 a0] rfl (by (try simp only [List.map_toArray, List.map_cons, List.map_nil]); first | done | rfl | (simp only [List.length_drop, List.length_take]; rfl)) ?_; (with_reducible refine (spec_Turned.calls a0 t164 _ A2.out).mono ?_); rintro e w' ⟨rfl, ⟨nd, rfl⟩⟩; refine ⟨_, rfl, ?_⟩) | ((with_reducible refine gate_callee (f := 61) rfl ?_); refine goesL_ (some 5) rfl rfl Tryd.func61 (by kernel_rfl) rfl #[.int .u64 t164] rfl (by (try simp only [List.map_toArray, List.map_cons, List.map_nil]); first | done | rfl | (simp only [List.length_drop, List.length_take]; rfl)) ?_; (with_reducible refine (spec_Uvarint.calls k t164 t165 _ A3.out).mono ?_); rintro e w4 ⟨v166, rfl, ho0, hb⟩; refine ⟨_, rfl, ?_⟩; have n0_ := Aside0.mk (Kd.R_lower ho0 (below_size (by repeat (first | (with_reducible first | exact HB.out | apply below_alloc | apply pw_below_drewN | apply below_drew1) | exact HB.out)))); have n1_ := Aside0.mk (below_step (by repeat (first | (with_reducible first | exact HB.out | apply below_alloc | apply pw_below_drewN | apply below_drew1) | exact HB.out)) hb); clear HB; have HO167 := n0_; have HB := n1_; clear n0_ n1_; (try clear hb); (try clear hb2); (try clear hk); (try clear hi); (try clear ho0)))
  go_ret
  exact ⟨_, by first | rfl | (simp [errW_none, errW_some] <;> rfl) | (simp [*, errW_none, errW_some] <;> rfl), by (with_reducible repeat (first | apply Kd.R_alloc | apply Kd.R_drewN | apply Kd.R_drew)); exact HO167.out, by repeat (first | (with_reducible first | exact HB.out | apply below_alloc | apply pw_below_drewN | apply below_drew1) | exact HB.out)⟩

end Go.Proofs.YthdfhnnoamlacaaDoor.PFnAnyHeader
