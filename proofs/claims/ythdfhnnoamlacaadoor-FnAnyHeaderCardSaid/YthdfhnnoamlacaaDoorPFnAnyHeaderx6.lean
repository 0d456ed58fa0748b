/- What the texts behind this one lean on, out of what the kit's print writes for this seat, cut down. Conditions: none. -/
import Derived.Test.YthdfhnnoamlacaaDoorPFnAnyHeaderx0
import Derived.Test.YthdfhnnoamlacaaDoorPFnAnyHeaderx5
namespace Go.Proofs.YthdfhnnoamlacaaDoor.PFnAnyHeader
open Go.RowKit Go.Proofs.YthdfhnnoamlacaaDoorW.PrintWords Go.Proofs.YthdfhnnoamlacaaDoorW.PrintLast Go.Proofs.YthdfhnnoamlacaaDoorW.PrintMore

/-! ### spec_SameHeaders: function 8 -/
def spec_SameHeaders.l0 : Nat → List (S26) → List (S26) → Int → Int → Option (Bool)
  | 0, _, _, _, _ => none
  | k + 1, x0, x1, x12, x13 => if x13 < x12 then (if 0 ≤ x13 then (if x13 < (x0.length : Int) then (if x13 < (x1.length : Int) then (if ((rd_T26 x0 x13).f0).toList = ((rd_T26 x1 x13).f0).toList then ((spec_SameOctets.f k ((rd_T26 x0 x13).f1.f0) ((rd_T26 x0 x13).f1.f1) ((rd_T26 x1 x13).f1.f0) ((rd_T26 x1 x13).f1.f1)).bind fun t423 => (if t423 = true then (spec_SameHeaders.l0 k x0 x1 x12 (wrap64 (x13 + 1))) else (some false))) else (some false)) else (none)) else (none)) else (none)) else (some true)
def spec_SameHeaders.f (k : Nat) (l0 : List (S26)) (l1 : List (S26)) : Option (Bool) := if (l0.length : Int) = (l1.length : Int) then (spec_SameHeaders.l0 k l0 l1 (l0.length : Int) 0) else (some false)
theorem spec_SameHeaders.mono_l : ∀ k, (∀ y0 y1 y2 y3, LeO (spec_SameHeaders.l0 k y0 y1 y2 y3) (spec_SameHeaders.l0 (k + 1) y0 y1 y2 y3))
  | 0 => fun _ _ _ _ r h => by simp [spec_SameHeaders.l0] at h
  | k + 1 => by
    have ih0 := spec_SameHeaders.mono_l k
    · intro y0 y1 y2 y3
      unfold spec_SameHeaders.l0
      repeat' first
      | (with_reducible exact ih0 _ _ _ _)
      | (with_reducible exact spec_SameOctets.mono _ _ _ _ _)
      | (with_reducible exact LeO.refl _)
      | (with_reducible exact LeO.none _)
      | (with_reducible refine LeO.ite ?_ ?_)
      | (with_reducible refine LeO.bind ?_ (fun _ => ?_))
      | exact ih0 _ _ _ _
      | exact spec_SameOctets.mono _ _ _ _ _
      | exact LeO.none _
      | refine LeO.ite ?_ ?_
      | refine LeO.bind ?_ (fun _ => ?_)
theorem spec_SameHeaders.mono : ∀ a0 a1 k, LeO (spec_SameHeaders.f k a0 a1) (spec_SameHeaders.f (k + 1) a0 a1) := by
  intro a0 a1 k
  have ih0 := spec_SameHeaders.mono_l k
  unfold spec_SameHeaders.f
  repeat' first
      | (with_reducible exact ih0 _ _ _ _)
      | (with_reducible exact spec_SameOctets.mono _ _ _ _ _)
      | (with_reducible exact LeO.refl _)
      | (with_reducible exact LeO.none _)
      | (with_reducible refine LeO.ite ?_ ?_)
      | (with_reducible refine LeO.bind ?_ (fun _ => ?_))
      | exact ih0 _ _ _ _
      | exact spec_SameOctets.mono _ _ _ _ _
      | exact LeO.none _
      | refine LeO.ite ?_ ?_
      | refine LeO.bind ?_ (fun _ => ?_)
def spec_SameHeaders.T6 : Bool × List (List Nat × List Nat) := (true, [([], []), ([], []), ([0, 1], [0, 1]), ([2], [2]), ([3], [3]), ([], []), ([], []), ([5, 6], [5, 6]), ([7], [7]), ([8], [8]), ([4, 9], [4, 9]), ([10], [10]), ([11], [11]), ([11], [11]), ([12, 13, 11], [11, 12, 13]), ([14, 11], [11, 14]), ([15, 11], [11, 15]), ([11], [11]), ([11], [11]), ([17, 18, 11], [11, 17, 18]), ([19, 11], [11, 19]), ([20, 11], [11, 20]), ([16, 21, 11, 11], [11, 16, 21]), ([22, 11], [11, 22]), ([11, 23], [11, 23])])
def spec_SameHeaders.B6 : List Nat := [0, 0, 3, 7, 15, 0, 0, 96, 224, 480, 1023, 2047, 4095, 4095, 16383, 32767, 65535, 4095, 4095, 397311, 921599, 1970175, 4194303, 8388607, 16777215]
theorem spec_SameHeaders.tab6 : rtab .any (opsOf Tryd.f8 6) = spec_SameHeaders.T6 := by kernel_rfl
theorem spec_SameHeaders.bits6 : waitsOk spec_SameHeaders.T6.2 spec_SameHeaders.B6 = true := by kernel_rfl
set_option maxHeartbeats 8000000 in
set_option maxRecDepth 100000 in
theorem spec_SameHeaders.calls (k : Nat) (A0 : Option Addr) (c0 : Nat) (l0 : List (S26)) (A1 : Option Addr) (c1 : Nat) (l1 : List (S26)) (r : Bool) (w : World) (hr0 : Kd.C k26 w A0 l0.length l0) (hc0 : l0.length ≤ c0) (hr1 : Kd.C k26 w A1 l1.length l1) (hc1 : l1.length ≤ c1) (h : spec_SameHeaders.f k l0 l1 = some r) :
    Calls Tryd.prog 8 #[.slice A0 l0.length c0, .slice A1 l1.length c1] w fun e w' => e = .returned (.bool r) ∧ Below w.heap.size w w' := by
  have hu24 := Tryd.underlying24
  have HR0 := Aside0.mk hr0
  have HC0 := Aside0.mk hc0
  clear hr0 hc0
  have HR1 := Aside0.mk hr1
  have HC1 := Aside0.mk hc1
  clear hr1 hc1
  have HB := Aside0.mk (Below.refl w.heap.size w)
  have H : (if (l0.length : Int) = (l1.length : Int) then (spec_SameHeaders.l0 k l0 l1 (l0.length : Int) 0) else (some false)) = some r := h
  clear h
  by_cases c3 : (l0.length : Int) = (l1.length : Int)
  · rw [if_pos c3] at H
    have c3b0 : ((l0.length : Int) == (l1.length : Int)) = true := beq_iff_eq.mpr c3
    have c3b1 : ((l0.length : Int) != (l1.length : Int)) = false := bne_eq_false_iff_eq.mpr c3
    have c3b2 : (l0.length == l1.length) = true := by first | simpa using c3 | (simp at c3 ⊢; omega)
    clear c3
    have H' := Aside0.mk H
    clear H
    go_enter Tryd.func8, Tryd.ntmps8
    go_wp2
    go_loopg [13] k (fun kq v13 w' => ∃ (x13_1 : Int), v13 = .int .i64 x13_1 ∧ Aside0 (spec_SameHeaders.l0 kq l0 l1 (l0.length : Int) x13_1 = some r) ∧ Aside0 (kq ≤ k) ∧ Aside0 (Below w.heap.size w w'))
    case atStart => exact ⟨(0), (by first | rfl | (simp; done) | (simp [*]; done)), H', ⟨Nat.le_refl _⟩, ⟨by repeat (first | (with_reducible first | exact HB.out | apply below_alloc | apply pw_below_drewN | apply below_drew1) | exact HB.out)⟩⟩
    case round =>
      clear H'
      try clear c1
      try clear p2
      try clear c3
      try clear c3b0
      try clear c3b1
      try clear c3b2
      obtain ⟨x13_1, rfl, HA, HK1, HB⟩ := hrel
      cases gk with
      | zero => exact absurd HA.out (by simp [spec_SameHeaders.l0])
      | succ k1 =>
        have H := HA.out
        clear HA
        simp only [spec_SameHeaders.l0] at H
        by_cases c4 : x13_1 < (l0.length : Int)
        · rw [if_pos c4] at H
          have c4b0 : decide (x13_1 < (l0.length : Int)) = true := decide_eq_true c4
          clear c4
          by_cases c5 : 0 ≤ x13_1
          · rw [if_pos c5] at H
            have c5b0 : decide (0 ≤ x13_1) = true := decide_eq_true c5
            clear c5
            by_cases c6 : x13_1 < (l0.length : Int)
            · rw [if_pos c6] at H
              have c6b0 : decide (x13_1 < (l0.length : Int)) = true := decide_eq_true c6
              clear c6
              by_cases c7 : x13_1 < (l1.length : Int)
              · rw [if_pos c7] at H
                have c7b0 : decide (x13_1 < (l1.length : Int)) = true := decide_eq_true c7
                clear c7
                by_cases c8 : ((rd_T26 l0 x13_1).f0).toList = ((rd_T26 l1 x13_1).f0).toList
                · rw [if_pos c8] at H
                  have c8b0 : (((rd_T26 l0 x13_1).f0).toList == ((rd_T26 l1 x13_1).f0).toList) = true := beq_iff_eq.mpr c8
                  have c8b1 : (((rd_T26 l0 x13_1).f0).toList != ((rd_T26 l1 x13_1).f0).toList) = false := bne_eq_false_iff_eq.mpr c8
                  clear c8
                  replace H := Option.bind_eq_some_iff.mp H
                  obtain ⟨t423, A90, H⟩ := H
                  replace H : (if t423 = true then (spec_SameHeaders.l0 k1 l0 l1 (l0.length : Int) (wrap64 (x13_1 + 1))) else (some false)) = some r := H
                  have A9 := Aside0.mk A90
                  clear A90
                  by_cases c10 : t423 = true
                  · subst c10
                    have H1 : (spec_SameHeaders.l0 k1 l0 l1 (l0.length : Int) (wrap64 (x13_1 + 1))) = some r := by rw [if_pos rfl] at H; exact H
                    clear H
                    have H := H1
                    clear H1
                    have H' := Aside0.mk H
                    clear H
                    try go_wp2
                    have n0_ := Aside0.mk (below_drew1 HB.out)
                    clear HB
                    have HB := n0_
                    clear n0_
                    have p419 : 0 ≤ (x13_1 : Int) := of_decide_eq_true (by first | (with_reducible assumption) | assumption)
                    have q419 : x13_1 < (l0.length : Int) := of_decide_eq_true (by first | (with_reducible assumption) | assumption)
                    obtain ⟨ad419, A419_2, c419_2, e419, hx419_0, hx419_1, hx419_2, hl419_2, hi419_2⟩ := at_T26 HR0.out x13_1 p419 q419
                    have hw419_2 := hx419_2
                    have hw419_1 := hx419_1
                    have hw419_0 := hx419_0
                    cases e419
                    replace hx419_0 := (HB.out.cell (World.block_lt_of_cell? w _ hx419_0)).trans hx419_0
                    replace hx419_1 := (HB.out.cell (World.block_lt_of_cell? w _ hx419_1)).trans hx419_1
                    replace hx419_2 := (HB.out.cell (World.block_lt_of_cell? w _ hx419_2)).trans hx419_2
                    have HR419_2 := Aside0.mk hi419_2
                    have HC419_2 := Aside0.mk hl419_2
                    clear hi419_2 hl419_2
                    replace p419 := eq_true p419
                    replace q419 := eq_true q419
                    have p420 : 0 ≤ (x13_1 : Int) := of_decide_eq_true (by first | (with_reducible assumption) | assumption)
                    have q420 : x13_1 < (l1.length : Int) := of_decide_eq_true (by first | (with_reducible assumption) | assumption)
                    obtain ⟨ad420, A420_2, c420_2, e420, hx420_0, hx420_1, hx420_2, hl420_2, hi420_2⟩ := at_T26 HR1.out x13_1 p420 q420
                    have hw420_2 := hx420_2
                    have hw420_1 := hx420_1
                    have hw420_0 := hx420_0
                    cases e420
                    replace hx420_0 := (HB.out.cell (World.block_lt_of_cell? w _ hx420_0)).trans hx420_0
                    replace hx420_1 := (HB.out.cell (World.block_lt_of_cell? w _ hx420_1)).trans hx420_1
                    replace hx420_2 := (HB.out.cell (World.block_lt_of_cell? w _ hx420_2)).trans hx420_2
                    have HR420_2 := Aside0.mk hi420_2
                    have HC420_2 := Aside0.mk hl420_2
                    clear hi420_2 hl420_2
                    replace p420 := eq_true p420
                    replace q420 := eq_true q420
                    have p421 : 0 ≤ (x13_1 : Int) := of_decide_eq_true (by first | (with_reducible assumption) | assumption)
                    have q421 : x13_1 < (l0.length : Int) := of_decide_eq_true (by first | (with_reducible assumption) | assumption)
                    obtain ⟨ad421, A421_2, c421_2, e421, hx421_0, hx421_1, hx421_2, hl421_2, hi421_2⟩ := at_T26 HR0.out x13_1 p421 q421
                    have hw421_2 := hx421_2
                    have hw421_1 := hx421_1
                    have hw421_0 := hx421_0
                    obtain rfl : ad419 = ad421 := (by injection e421)
                    replace hx421_0 := (HB.out.cell (World.block_lt_of_cell? w _ hx421_0)).trans hx421_0
                    replace hx421_1 := (HB.out.cell (World.block_lt_of_cell? w _ hx421_1)).trans hx421_1
                    replace hx421_2 := (HB.out.cell (World.block_lt_of_cell? w _ hx421_2)).trans hx421_2
                    have HR421_2 := Aside0.mk hi421_2
                    have HC421_2 := Aside0.mk hl421_2
                    clear hi421_2 hl421_2
                    replace p421 := eq_true p421
                    replace q421 := eq_true q421
                    have ea_ := Option.some.inj (hx419_2.symm.trans hx421_2)
                    injection ea_ with ea_ en_ ec_
                    subst ea_
                    subst ec_
                    clear en_
                    have p422 : 0 ≤ (x13_1 : Int) := of_decide_eq_true (by first | (with_reducible assumption) | assumption)
                    have q422 : x13_1 < (l1.length : Int) := of_decide_eq_true (by first | (with_reducible assumption) | assumption)
                    obtain ⟨ad422, A422_2, c422_2, e422, hx422_0, hx422_1, hx422_2, hl422_2, hi422_2⟩ := at_T26 HR1.out x13_1 p422 q422
                    have hw422_2 := hx422_2
                    have hw422_1 := hx422_1
                    have hw422_0 := hx422_0
                    obtain rfl : ad420 = ad422 := (by injection e422)
                    replace hx422_0 := (HB.out.cell (World.block_lt_of_cell? w _ hx422_0)).trans hx422_0
                    replace hx422_1 := (HB.out.cell (World.block_lt_of_cell? w _ hx422_1)).trans hx422_1
                    replace hx422_2 := (HB.out.cell (World.block_lt_of_cell? w _ hx422_2)).trans hx422_2
                    have HR422_2 := Aside0.mk hi422_2
                    have HC422_2 := Aside0.mk hl422_2
                    clear hi422_2 hl422_2
                    replace p422 := eq_true p422
                    replace q422 := eq_true q422
                    have ea_ := Option.some.inj (hx420_2.symm.trans hx422_2)
                    injection ea_ with ea_ en_ ec_
                    subst ea_
                    subst ec_
                    clear en_
                    refine start_ (n := 25) (S := fun w' => w'.cell? (ad419.add ((x13_1).toNat * 3)) = some (.string ((rd_T26 l0 x13_1).f0)) ∧ w'.cell? ⟨(ad419.add ((x13_1).toNat * 3)).block, (ad419.add ((x13_1).toNat * 3)).off + 1, none⟩ = some (.bool ((rd_T26 l0 x13_1).f1.f0)) ∧ w'.cell? ⟨(ad419.add ((x13_1).toNat * 3)).block, (ad419.add ((x13_1).toNat * 3)).off + 2, none⟩ = some (.slice A419_2 ((rd_T26 l0 x13_1).f1.f1).length c419_2) ∧ w'.cell? (ad420.add ((x13_1).toNat * 3)) = some (.string ((rd_T26 l1 x13_1).f0)) ∧ w'.cell? ⟨(ad420.add ((x13_1).toNat * 3)).block, (ad420.add ((x13_1).toNat * 3)).off + 1, none⟩ = some (.bool ((rd_T26 l1 x13_1).f1.f0)) ∧ w'.cell? ⟨(ad420.add ((x13_1).toNat * 3)).block, (ad420.add ((x13_1).toNat * 3)).off + 2, none⟩ = some (.slice A420_2 ((rd_T26 l1 x13_1).f1.f1).length c420_2) ∧ w'.cell? (ad419.add ((x13_1).toNat * 3)) = some (.string ((rd_T26 l0 x13_1).f0)) ∧ w'.cell? ⟨(ad419.add ((x13_1).toNat * 3)).block, (ad419.add ((x13_1).toNat * 3)).off + 1, none⟩ = some (.bool ((rd_T26 l0 x13_1).f1.f0)) ∧ w'.cell? ⟨(ad419.add ((x13_1).toNat * 3)).block, (ad419.add ((x13_1).toNat * 3)).off + 2, none⟩ = some (.slice A419_2 ((rd_T26 l0 x13_1).f1.f1).length c419_2) ∧ w'.cell? (ad420.add ((x13_1).toNat * 3)) = some (.string ((rd_T26 l1 x13_1).f0)) ∧ w'.cell? ⟨(ad420.add ((x13_1).toNat * 3)).block, (ad420.add ((x13_1).toNat * 3)).off + 1, none⟩ = some (.bool ((rd_T26 l1 x13_1).f1.f0)) ∧ w'.cell? ⟨(ad420.add ((x13_1).toNat * 3)).block, (ad420.add ((x13_1).toNat * 3)).off + 2, none⟩ = some (.slice A420_2 ((rd_T26 l1 x13_1).f1.f1).length c420_2)) (ds := []) #[false, false, false, false, false, false, false, false, false, false, false, false, false, false, false, false, false, false, false, false, false, false, false, false, false] (by kernel_rfl) rfl rfl ⟨((HB.out.cell (World.block_lt_of_cell? w _ hw419_0)).trans hw419_0), ((HB.out.cell (World.block_lt_of_cell? w _ hw419_1)).trans hw419_1), ((HB.out.cell (World.block_lt_of_cell? w _ hw419_2)).trans hw419_2), ((HB.out.cell (World.block_lt_of_cell? w _ hw420_0)).trans hw420_0), ((HB.out.cell (World.block_lt_of_cell? w _ hw420_1)).trans hw420_1), ((HB.out.cell (World.block_lt_of_cell? w _ hw420_2)).trans hw420_2), ((HB.out.cell (World.block_lt_of_cell? w _ hw421_0)).trans hw421_0), ((HB.out.cell (World.block_lt_of_cell? w _ hw421_1)).trans hw421_1), ((HB.out.cell (World.block_lt_of_cell? w _ hw421_2)).trans hw421_2), ((HB.out.cell (World.block_lt_of_cell? w _ hw422_0)).trans hw422_0), ((HB.out.cell (World.block_lt_of_cell? w _ hw422_1)).trans hw422_1), ((HB.out.cell (World.block_lt_of_cell? w _ hw422_2)).trans hw422_2)⟩ (fun hHeld => ?_); refine with_tabW spec_SameHeaders.tab6 spec_SameHeaders.bits6 (fun HT_ HW_ => ?_)
                    generalize wr.drew = w11 at HB HR419_2 HR420_2 HR421_2 HR422_2 hx419_0 hx419_1 hx419_2 hx420_0 hx420_1 hx420_2 hx421_0 hx421_1 hx421_2 hx422_0 hx422_1 hx422_2 hHeld ⊢
                    refine pure_ (i := 0) (N := some 16) (v := ?_) (a' := ?_) #[true, false, false, false, false, false, false, false, false, false, false, false, false, false, false, false, false, false, false, false, false, false, false, false, false] rfl rfl (any_of HT_.out (by kernel_rfl)) (fun _ _ _ h => h) (Or.inl ⟨by rfl, ?_⟩) ?_ ?_
                    rotate_left
                    · intro w'
                      go_simp
                      with_reducible rfl
                    rotate_left
                    · simp only [Act.put, List.setIfInBounds_toArray, List.set_cons_zero, List.set_cons_succ]
                      rfl
                    refine pure_ (i := 1) (N := some 17) (v := ?_) (a' := ?_) #[true, true, false, false, false, false, false, false, false, false, false, false, false, false, false, false, false, false, false, false, false, false, false, false, false] rfl rfl (any_of HT_.out (by kernel_rfl)) (fun _ _ _ h => h) (Or.inl ⟨by rfl, ?_⟩) ?_ ?_
                    rotate_left
                    · intro w'
                      go_simp
                      with_reducible rfl
                    rotate_left
                    · simp only [Act.put, List.setIfInBounds_toArray, List.set_cons_zero, List.set_cons_succ]
                      rfl
                    refine pure_ (i := 2) (N := some 18) (v := ?_) (a' := ?_) #[true, true, true, false, false, false, false, false, false, false, false, false, false, false, false, false, false, false, false, false, false, false, false, false, false] rfl rfl (any_of HT_.out (by kernel_rfl)) (fun _ _ _ h => h) (Or.inl ⟨by rfl, ?_⟩) ?_ ?_
                    rotate_left
                    · intro w'
                      go_simp
                      with_reducible rfl
                    rotate_left
                    · simp only [Act.put, List.setIfInBounds_toArray, List.set_cons_zero, List.set_cons_succ]
                      rfl
                    refine pure_ (i := 3) (N := some 19) (v := ?_) (a' := ?_) #[true, true, true, true, false, false, false, false, false, false, false, false, false, false, false, false, false, false, false, false, false, false, false, false, false] rfl rfl (any_of HT_.out (by kernel_rfl)) (fun _ _ _ h => h) (Or.inl ⟨by rfl, ?_⟩) ?_ ?_
                    rotate_left
                    · intro w'
                      go_simp
                      with_reducible rfl
                    rotate_left
                    · simp only [Act.put, List.setIfInBounds_toArray, List.set_cons_zero, List.set_cons_succ]
                      rfl
                    refine pure_ (i := 5) (N := some 21) (v := ?_) (a' := ?_) #[true, true, true, true, false, true, false, false, false, false, false, false, false, false, false, false, false, false, false, false, false, false, false, false, false] rfl rfl (any_of HT_.out (by kernel_rfl)) (fun _ _ _ h => h) (Or.inl ⟨by rfl, ?_⟩) ?_ ?_
                    rotate_left
                    · intro w'
                      go_simp
                      with_reducible rfl
                    rotate_left
                    · simp only [Act.put, List.setIfInBounds_toArray, List.set_cons_zero, List.set_cons_succ]
                      rfl
                    refine pure_ (i := 6) (N := some 22) (v := ?_) (a' := ?_) #[true, true, true, true, false, true, true, false, false, false, false, false, false, false, false, false, false, false, false, false, false, false, false, false, false] rfl rfl (any_of HT_.out (by kernel_rfl)) (fun _ _ _ h => h) (Or.inl ⟨by rfl, ?_⟩) ?_ ?_
                    rotate_left
                    · intro w'
                      go_simp
                      with_reducible rfl
                    rotate_left
                    · simp only [Act.put, List.setIfInBounds_toArray, List.set_cons_zero, List.set_cons_succ]
                      rfl
                    refine pure_ (i := 7) (N := some 23) (v := ?_) (a' := ?_) #[true, true, true, true, false, true, true, true, false, false, false, false, false, false, false, false, false, false, false, false, false, false, false, false, false] rfl rfl (any_of HT_.out (by kernel_rfl)) (fun _ _ _ h => h) (Or.inl ⟨by rfl, ?_⟩) ?_ ?_
                    rotate_left
                    · intro w'
                      go_simp
                      with_reducible rfl
                    rotate_left
                    · simp only [Act.put, List.setIfInBounds_toArray, List.set_cons_zero, List.set_cons_succ]
                      rfl
                    refine pure_ (i := 8) (N := some 24) (v := ?_) (a' := ?_) #[true, true, true, true, false, true, true, true, true, false, false, false, false, false, false, false, false, false, false, false, false, false, false, false, false] rfl rfl (any_of HT_.out (by kernel_rfl)) (fun _ _ _ h => h) (Or.inl ⟨by rfl, ?_⟩) ?_ ?_
                    rotate_left
                    · intro w'
                      go_simp
                      with_reducible rfl
                    rotate_left
                    · simp only [Act.put, List.setIfInBounds_toArray, List.set_cons_zero, List.set_cons_succ]
                      rfl
                    refine take_ (i := 4) (N := some 20) (v := ?_) (a' := ?_) #[true, true, true, true, true, true, true, true, true, false, false, false, false, false, false, false, false, false, false, false, false, false, false, false, false] rfl rfl (take_ofW HT_.out HW_.out (by kernel_rfl)) (fun _ _ _ h => h) (Or.inl ⟨by rfl, ?_⟩) hHeld ?_ ?_
                    rotate_left
                    · rintro w' ⟨s0, s1, s2, s3, s4, s5, s6, s7, s8, s9, s10, s11⟩
                      go_simp
                      with_reducible rfl
                    rotate_left
                    · simp only [Act.put, List.setIfInBounds_toArray, List.set_cons_zero, List.set_cons_succ]
                      rfl
                    refine take_ (i := 9) (N := some 25) (v := ?_) (a' := ?_) #[true, true, true, true, true, true, true, true, true, true, false, false, false, false, false, false, false, false, false, false, false, false, false, false, false] rfl rfl (take_ofW HT_.out HW_.out (by kernel_rfl)) (fun _ _ _ h => h) (Or.inl ⟨by rfl, ?_⟩) hHeld ?_ ?_
                    rotate_left
                    · rintro w' ⟨s0, s1, s2, s3, s4, s5, s6, s7, s8, s9, s10, s11⟩
                      go_simp
                      with_reducible rfl
                    rotate_left
                    · simp only [Act.put, List.setIfInBounds_toArray, List.set_cons_zero, List.set_cons_succ]
                      rfl
                    refine pure_ (i := 10) (N := some 26) (v := ?_) (a' := ?_) #[true, true, true, true, true, true, true, true, true, true, true, false, false, false, false, false, false, false, false, false, false, false, false, false, false] rfl rfl (any_of HT_.out (by kernel_rfl)) (fun _ _ _ h => h) (Or.inl ⟨by rfl, ?_⟩) ?_ ?_
                    rotate_left
                    · intro w'
                      go_simp
                      with_reducible rfl
                    rotate_left
                    · simp only [Act.put, List.setIfInBounds_toArray, List.set_cons_zero, List.set_cons_succ]
                      rfl
                    refine pure_ (i := 11) (N := some 27) (v := ?_) (a' := ?_) #[true, true, true, true, true, true, true, true, true, true, true, true, false, false, false, false, false, false, false, false, false, false, false, false, false] rfl rfl (any_of HT_.out (by kernel_rfl)) (fun _ _ _ h => h) (Or.inl ⟨by rfl, ?_⟩) ?_ ?_
                    rotate_left
                    · intro w'
                      go_simp
                      with_reducible rfl
                    rotate_left
                    · simp only [Act.put, List.setIfInBounds_toArray, List.set_cons_zero, List.set_cons_succ]
                      rfl
                    refine pure_ (i := 12) (N := some 28) (v := ?_) (a' := ?_) #[true, true, true, true, true, true, true, true, true, true, true, true, true, false, false, false, false, false, false, false, false, false, false, false, false] rfl rfl (any_of HT_.out (by kernel_rfl)) (fun _ _ _ h => h) (Or.inl ⟨by rfl, ?_⟩) ?_ ?_
                    rotate_left
                    · intro w'
                      go_simp
                      with_reducible rfl
                    rotate_left
                    · simp only [Act.put, List.setIfInBounds_toArray, List.set_cons_zero, List.set_cons_succ]
                      rfl
                    refine pure_ (i := 13) (N := some 29) (v := ?_) (a' := ?_) #[true, true, true, true, true, true, true, true, true, true, true, true, true, true, false, false, false, false, false, false, false, false, false, false, false] rfl rfl (any_of HT_.out (by kernel_rfl)) (fun _ _ _ h => h) (Or.inl ⟨by rfl, ?_⟩) ?_ ?_
                    rotate_left
                    · intro w'
                      go_simp
                      with_reducible rfl
                    rotate_left
                    · simp only [Act.put, List.setIfInBounds_toArray, List.set_cons_zero, List.set_cons_succ]
                      rfl
                    refine pure_ (i := 14) (N := some 30) (v := ?_) (a' := ?_) #[true, true, true, true, true, true, true, true, true, true, true, true, true, true, true, false, false, false, false, false, false, false, false, false, false] rfl rfl (any_of HT_.out (by kernel_rfl)) (fun _ _ _ h => h) (Or.inl ⟨by rfl, ?_⟩) ?_ ?_
                    rotate_left
                    · intro w'
                      go_simp
                      with_reducible rfl
                    rotate_left
                    · simp only [Act.put, List.setIfInBounds_toArray, List.set_cons_zero, List.set_cons_succ]
                      rfl
                    refine pure_ (i := 15) (N := some 31) (v := ?_) (a' := ?_) #[true, true, true, true, true, true, true, true, true, true, true, true, true, true, true, true, false, false, false, false, false, false, false, false, false] rfl rfl (any_of HT_.out (by kernel_rfl)) (fun _ _ _ h => h) (Or.inl ⟨by rfl, ?_⟩) ?_ ?_
                    rotate_left
                    · intro w'
                      go_simp
                      with_reducible rfl
                    rotate_left
                    · simp only [Act.put, List.setIfInBounds_toArray, List.set_cons_zero, List.set_cons_succ]
                      rfl
                    refine pure_ (i := 17) (N := some 33) (v := ?_) (a' := ?_) #[true, true, true, true, true, true, true, true, true, true, true, true, true, true, true, true, false, true, false, false, false, false, false, false, false] rfl rfl (any_of HT_.out (by kernel_rfl)) (fun _ _ _ h => h) (Or.inl ⟨by rfl, ?_⟩) ?_ ?_
                    rotate_left
                    · intro w'
                      go_simp
                      with_reducible rfl
                    rotate_left
                    · simp only [Act.put, List.setIfInBounds_toArray, List.set_cons_zero, List.set_cons_succ]
                      rfl
                    refine pure_ (i := 18) (N := some 34) (v := ?_) (a' := ?_) #[true, true, true, true, true, true, true, true, true, true, true, true, true, true, true, true, false, true, true, false, false, false, false, false, false] rfl rfl (any_of HT_.out (by kernel_rfl)) (fun _ _ _ h => h) (Or.inl ⟨by rfl, ?_⟩) ?_ ?_
                    rotate_left
                    · intro w'
                      go_simp
                      with_reducible rfl
                    rotate_left
                    · simp only [Act.put, List.setIfInBounds_toArray, List.set_cons_zero, List.set_cons_succ]
                      rfl
                    refine pure_ (i := 19) (N := some 35) (v := ?_) (a' := ?_) #[true, true, true, true, true, true, true, true, true, true, true, true, true, true, true, true, false, true, true, true, false, false, false, false, false] rfl rfl (any_of HT_.out (by kernel_rfl)) (fun _ _ _ h => h) (Or.inl ⟨by rfl, ?_⟩) ?_ ?_
                    rotate_left
                    · intro w'
                      go_simp
                      with_reducible rfl
                    rotate_left
                    · simp only [Act.put, List.setIfInBounds_toArray, List.set_cons_zero, List.set_cons_succ]
                      rfl
                    refine pure_ (i := 20) (N := some 36) (v := ?_) (a' := ?_) #[true, true, true, true, true, true, true, true, true, true, true, true, true, true, true, true, false, true, true, true, true, false, false, false, false] rfl rfl (any_of HT_.out (by kernel_rfl)) (fun _ _ _ h => h) (Or.inl ⟨by rfl, ?_⟩) ?_ ?_
                    rotate_left
                    · intro w'
                      go_simp
                      with_reducible rfl
                    rotate_left
                    · simp only [Act.put, List.setIfInBounds_toArray, List.set_cons_zero, List.set_cons_succ]
                      rfl
                    refine take_ (i := 16) (N := some 32) (v := ?_) (a' := ?_) #[true, true, true, true, true, true, true, true, true, true, true, true, true, true, true, true, true, true, true, true, true, false, false, false, false] rfl rfl (take_ofW HT_.out HW_.out (by kernel_rfl)) (fun _ _ _ h => h) (Or.inl ⟨by rfl, ?_⟩) hHeld ?_ ?_
                    rotate_left
                    · rintro w' ⟨s0, s1, s2, s3, s4, s5, s6, s7, s8, s9, s10, s11⟩
                      go_simp
                      with_reducible rfl
                    rotate_left
                    · simp only [Act.put, List.setIfInBounds_toArray, List.set_cons_zero, List.set_cons_succ]
                      rfl
                    refine take_ (i := 21) (N := some 37) (v := ?_) (a' := ?_) #[true, true, true, true, true, true, true, true, true, true, true, true, true, true, true, true, true, true, true, true, true, true, false, false, false] rfl rfl (take_ofW HT_.out HW_.out (by kernel_rfl)) (fun _ _ _ h => h) (Or.inl ⟨by rfl, ?_⟩) hHeld ?_ ?_
                    rotate_left
                    · rintro w' ⟨s0, s1, s2, s3, s4, s5, s6, s7, s8, s9, s10, s11⟩
                      go_simp
                      with_reducible rfl
                    rotate_left
                    · simp only [Act.put, List.setIfInBounds_toArray, List.set_cons_zero, List.set_cons_succ]
                      rfl
                    refine one_ (i := 22) (N := some 38) #[true, true, true, true, true, true, true, true, true, true, true, true, true, true, true, true, true, true, true, true, true, true, true, false, false] rfl rfl (one_of HT_.out (by kernel_rfl)) (by decide) (fun K hK => ?_)
                    refine goes_ Tryd.func17 (by kernel_rfl) rfl #[.agg #[.bool ((rd_T26 l0 x13_1).f1.f0), .slice A419_2 ((rd_T26 l0 x13_1).f1.f1).length c419_2], .agg #[.bool ((rd_T26 l1 x13_1).f1.f0), .slice A420_2 ((rd_T26 l1 x13_1).f1.f1).length c420_2]] (by rfl) rfl rfl (by (try simp only [List.map_toArray, List.map_cons, List.map_nil]); first | done | rfl | (simp only [List.length_drop, List.length_take]; rfl)) ?_
                    with_reducible refine (spec_SameOctets.calls k1 ((rd_T26 l0 x13_1).f1.f0) _ _ ((rd_T26 l0 x13_1).f1.f1) ((rd_T26 l1 x13_1).f1.f0) _ _ ((rd_T26 l1 x13_1).f1.f1) true _ ?side1 ?side2 ?side3 ?side4 A9.out).mono ?_
                    (case side1 => repeat (first | exact (Kd.C_below HR421_2.out HB.out) | (with_reducible refine Kd.C_alloc ?_ _) | (with_reducible refine Kd.C_drewN ?_ _) | (with_reducible refine Kd.C_drew ?_)))
                    (case side2 => exact HC421_2.out)
                    (case side3 => repeat (first | exact (Kd.C_below HR422_2.out HB.out) | (with_reducible refine Kd.C_alloc ?_ _) | (with_reducible refine Kd.C_drewN ?_ _) | (with_reducible refine Kd.C_drew ?_)))
                    (case side4 => exact HC422_2.out)
                    rintro e w12 ⟨rfl, hb⟩
                    refine ⟨_, rfl, ?_⟩
                    have n0_ := Aside0.mk (below_step (by repeat (first | (with_reducible first | exact HB.out | apply below_alloc | apply pw_below_drewN | apply below_drew1) | exact HB.out)) hb)
                    clear HB
                    have HB := n0_
                    clear n0_
                    (try clear hb)
                    (try clear hb2)
                    (try clear hk)
                    (try clear hi)
                    refine hK.out _ _ ⟨((HB.out.cell (World.block_lt_of_cell? w _ hw419_0)).trans hw419_0), ((HB.out.cell (World.block_lt_of_cell? w _ hw419_1)).trans hw419_1), ((HB.out.cell (World.block_lt_of_cell? w _ hw419_2)).trans hw419_2), ((HB.out.cell (World.block_lt_of_cell? w _ hw420_0)).trans hw420_0), ((HB.out.cell (World.block_lt_of_cell? w _ hw420_1)).trans hw420_1), ((HB.out.cell (World.block_lt_of_cell? w _ hw420_2)).trans hw420_2), ((HB.out.cell (World.block_lt_of_cell? w _ hw421_0)).trans hw421_0), ((HB.out.cell (World.block_lt_of_cell? w _ hw421_1)).trans hw421_1), ((HB.out.cell (World.block_lt_of_cell? w _ hw421_2)).trans hw421_2), ((HB.out.cell (World.block_lt_of_cell? w _ hw422_0)).trans hw422_0), ((HB.out.cell (World.block_lt_of_cell? w _ hw422_1)).trans hw422_1), ((HB.out.cell (World.block_lt_of_cell? w _ hw422_2)).trans hw422_2)⟩ (fun hHeld => ?_)
                    clear hK K
                    refine norm_ (a' := ?_) ?_ ?_
                    rotate_left
                    · show Act.put _ (some 38) _ = _
                      simp only [Act.put, List.setIfInBounds_toArray, List.set_cons_zero, List.set_cons_succ]
                      rfl
                    refine pure_ (i := 23) (N := some 39) (v := ?_) (a' := ?_) #[true, true, true, true, true, true, true, true, true, true, true, true, true, true, true, true, true, true, true, true, true, true, true, true, false] rfl rfl (any_of HT_.out (by kernel_rfl)) (fun _ _ _ h => h) (Or.inl ⟨by rfl, ?_⟩) ?_ ?_
                    rotate_left
                    · intro w'
                      go_simp
                      with_reducible rfl
                    rotate_left
                    · simp only [Act.put, List.setIfInBounds_toArray, List.set_cons_zero, List.set_cons_succ]
                      rfl
                    refine pure_ (i := 24) (N := some 40) (v := ?_) (a' := ?_) #[true, true, true, true, true, true, true, true, true, true, true, true, true, true, true, true, true, true, true, true, true, true, true, true, true] rfl rfl (any_of HT_.out (by kernel_rfl)) (fun _ _ _ h => h) (Or.inl ⟨by rfl, ?_⟩) ?_ ?_
                    rotate_left
                    · intro w'
                      go_simp
                      with_reducible rfl
                    rotate_left
                    · simp only [Act.put, List.setIfInBounds_toArray, List.set_cons_zero, List.set_cons_succ]
                      rfl
                    refine done_ (done_of HT_.out (by kernel_rfl)) ?_
                    try go_wp2
                    go_roundg k1
                    case measure => have := HK1.out; omega
                    case rel => exact ⟨(wrap64 (x13_1 + 1)), (by first | rfl | (simp; done) | (simp [*]; done)), H', ⟨by have := HK1.out; omega⟩, ⟨by repeat (first | (with_reducible first | exact HB.out | apply below_alloc | apply pw_below_drewN | apply below_drew1) | exact HB.out)⟩⟩
                  · replace c10 := Bool.eq_false_iff.mpr c10
                    subst c10
                    have H1 : (some false) = some r := by rw [if_neg (show ¬ (false = true) by decide)] at H; exact H
                    clear H
                    have H := H1
                    clear H1
                    obtain rfl := Option.some.inj H
                    try go_wp2
                    have n0_ := Aside0.mk (below_drew1 HB.out)
                    clear HB
                    have HB := n0_
                    clear n0_
                    have p419 : 0 ≤ (x13_1 : Int) := of_decide_eq_true (by first | (with_reducible assumption) | assumption)
                    have q419 : x13_1 < (l0.length : Int) := of_decide_eq_true (by first | (with_reducible assumption) | assumption)
                    obtain ⟨ad419, A419_2, c419_2, e419, hx419_0, hx419_1, hx419_2, hl419_2, hi419_2⟩ := at_T26 HR0.out x13_1 p419 q419
                    have hw419_2 := hx419_2
                    have hw419_1 := hx419_1
                    have hw419_0 := hx419_0
                    cases e419
                    replace hx419_0 := (HB.out.cell (World.block_lt_of_cell? w _ hx419_0)).trans hx419_0
                    replace hx419_1 := (HB.out.cell (World.block_lt_of_cell? w _ hx419_1)).trans hx419_1
                    replace hx419_2 := (HB.out.cell (World.block_lt_of_cell? w _ hx419_2)).trans hx419_2
                    have HR419_2 := Aside0.mk hi419_2
                    have HC419_2 := Aside0.mk hl419_2
                    clear hi419_2 hl419_2
                    replace p419 := eq_true p419
                    replace q419 := eq_true q419
                    have p420 : 0 ≤ (x13_1 : Int) := of_decide_eq_true (by first | (with_reducible assumption) | assumption)
                    have q420 : x13_1 < (l1.length : Int) := of_decide_eq_true (by first | (with_reducible assumption) | assumption)
                    obtain ⟨ad420, A420_2, c420_2, e420, hx420_0, hx420_1, hx420_2, hl420_2, hi420_2⟩ := at_T26 HR1.out x13_1 p420 q420
                    have hw420_2 := hx420_2
                    have hw420_1 := hx420_1
                    have hw420_0 := hx420_0
                    cases e420
                    replace hx420_0 := (HB.out.cell (World.block_lt_of_cell? w _ hx420_0)).trans hx420_0
                    replace hx420_1 := (HB.out.cell (World.block_lt_of_cell? w _ hx420_1)).trans hx420_1
                    replace hx420_2 := (HB.out.cell (World.block_lt_of_cell? w _ hx420_2)).trans hx420_2
                    have HR420_2 := Aside0.mk hi420_2
                    have HC420_2 := Aside0.mk hl420_2
                    clear hi420_2 hl420_2
                    replace p420 := eq_true p420
                    replace q420 := eq_true q420
                    have p421 : 0 ≤ (x13_1 : Int) := of_decide_eq_true (by first | (with_reducible assumption) | assumption)
                    have q421 : x13_1 < (l0.length : Int) := of_decide_eq_true (by first | (with_reducible assumption) | assumption)
                    obtain ⟨ad421, A421_2, c421_2, e421, hx421_0, hx421_1, hx421_2, hl421_2, hi421_2⟩ := at_T26 HR0.out x13_1 p421 q421
                    have hw421_2 := hx421_2
                    have hw421_1 := hx421_1
                    have hw421_0 := hx421_0
                    obtain rfl : ad419 = ad421 := (by injection e421)
                    replace hx421_0 := (HB.out.cell (World.block_lt_of_cell? w _ hx421_0)).trans hx421_0
                    replace hx421_1 := (HB.out.cell (World.block_lt_of_cell? w _ hx421_1)).trans hx421_1
                    replace hx421_2 := (HB.out.cell (World.block_lt_of_cell? w _ hx421_2)).trans hx421_2
                    have HR421_2 := Aside0.mk hi421_2
                    have HC421_2 := Aside0.mk hl421_2
                    clear hi421_2 hl421_2
                    replace p421 := eq_true p421
                    replace q421 := eq_true q421
                    have ea_ := Option.some.inj (hx419_2.symm.trans hx421_2)
                    injection ea_ with ea_ en_ ec_
                    subst ea_
                    subst ec_
                    clear en_
                    have p422 : 0 ≤ (x13_1 : Int) := of_decide_eq_true (by first | (with_reducible assumption) | assumption)
                    have q422 : x13_1 < (l1.length : Int) := of_decide_eq_true (by first | (with_reducible assumption) | assumption)
                    obtain ⟨ad422, A422_2, c422_2, e422, hx422_0, hx422_1, hx422_2, hl422_2, hi422_2⟩ := at_T26 HR1.out x13_1 p422 q422
                    have hw422_2 := hx422_2
                    have hw422_1 := hx422_1
                    have hw422_0 := hx422_0
                    obtain rfl : ad420 = ad422 := (by injection e422)
                    replace hx422_0 := (HB.out.cell (World.block_lt_of_cell? w _ hx422_0)).trans hx422_0
                    replace hx422_1 := (HB.out.cell (World.block_lt_of_cell? w _ hx422_1)).trans hx422_1
                    replace hx422_2 := (HB.out.cell (World.block_lt_of_cell? w _ hx422_2)).trans hx422_2
                    have HR422_2 := Aside0.mk hi422_2
                    have HC422_2 := Aside0.mk hl422_2
                    clear hi422_2 hl422_2
                    replace p422 := eq_true p422
                    replace q422 := eq_true q422
                    have ea_ := Option.some.inj (hx420_2.symm.trans hx422_2)
                    injection ea_ with ea_ en_ ec_
                    subst ea_
                    subst ec_
                    clear en_
                    refine start_ (n := 25) (S := fun w' => w'.cell? (ad419.add ((x13_1).toNat * 3)) = some (.string ((rd_T26 l0 x13_1).f0)) ∧ w'.cell? ⟨(ad419.add ((x13_1).toNat * 3)).block, (ad419.add ((x13_1).toNat * 3)).off + 1, none⟩ = some (.bool ((rd_T26 l0 x13_1).f1.f0)) ∧ w'.cell? ⟨(ad419.add ((x13_1).toNat * 3)).block, (ad419.add ((x13_1).toNat * 3)).off + 2, none⟩ = some (.slice A419_2 ((rd_T26 l0 x13_1).f1.f1).length c419_2) ∧ w'.cell? (ad420.add ((x13_1).toNat * 3)) = some (.string ((rd_T26 l1 x13_1).f0)) ∧ w'.cell? ⟨(ad420.add ((x13_1).toNat * 3)).block, (ad420.add ((x13_1).toNat * 3)).off + 1, none⟩ = some (.bool ((rd_T26 l1 x13_1).f1.f0)) ∧ w'.cell? ⟨(ad420.add ((x13_1).toNat * 3)).block, (ad420.add ((x13_1).toNat * 3)).off + 2, none⟩ = some (.slice A420_2 ((rd_T26 l1 x13_1).f1.f1).length c420_2) ∧ w'.cell? (ad419.add ((x13_1).toNat * 3)) = some (.string ((rd_T26 l0 x13_1).f0)) ∧ w'.cell? ⟨(ad419.add ((x13_1).toNat * 3)).block, (ad419.add ((x13_1).toNat * 3)).off + 1, none⟩ = some (.bool ((rd_T26 l0 x13_1).f1.f0)) ∧ w'.cell? ⟨(ad419.add ((x13_1).toNat * 3)).block, (ad419.add ((x13_1).toNat * 3)).off + 2, none⟩ = some (.slice A419_2 ((rd_T26 l0 x13_1).f1.f1).length c419_2) ∧ w'.cell? (ad420.add ((x13_1).toNat * 3)) = some (.string ((rd_T26 l1 x13_1).f0)) ∧ w'.cell? ⟨(ad420.add ((x13_1).toNat * 3)).block, (ad420.add ((x13_1).toNat * 3)).off + 1, none⟩ = some (.bool ((rd_T26 l1 x13_1).f1.f0)) ∧ w'.cell? ⟨(ad420.add ((x13_1).toNat * 3)).block, (ad420.add ((x13_1).toNat * 3)).off + 2, none⟩ = some (.slice A420_2 ((rd_T26 l1 x13_1).f1.f1).length c420_2)) (ds := []) #[false, false, false, false, false, false, false, false, false, false, false, false, false, false, false, false, false, false, false, false, false, false, false, false, false] (by kernel_rfl) rfl rfl ⟨((HB.out.cell (World.block_lt_of_cell? w _ hw419_0)).trans hw419_0), ((HB.out.cell (World.block_lt_of_cell? w _ hw419_1)).trans hw419_1), ((HB.out.cell (World.block_lt_of_cell? w _ hw419_2)).trans hw419_2), ((HB.out.cell (World.block_lt_of_cell? w _ hw420_0)).trans hw420_0), ((HB.out.cell (World.block_lt_of_cell? w _ hw420_1)).trans hw420_1), ((HB.out.cell (World.block_lt_of_cell? w _ hw420_2)).trans hw420_2), ((HB.out.cell (World.block_lt_of_cell? w _ hw421_0)).trans hw421_0), ((HB.out.cell (World.block_lt_of_cell? w _ hw421_1)).trans hw421_1), ((HB.out.cell (World.block_lt_of_cell? w _ hw421_2)).trans hw421_2), ((HB.out.cell (World.block_lt_of_cell? w _ hw422_0)).trans hw422_0), ((HB.out.cell (World.block_lt_of_cell? w _ hw422_1)).trans hw422_1), ((HB.out.cell (World.block_lt_of_cell? w _ hw422_2)).trans hw422_2)⟩ (fun hHeld => ?_); refine with_tabW spec_SameHeaders.tab6 spec_SameHeaders.bits6 (fun HT_ HW_ => ?_)
                    generalize wr.drew = w13 at HB HR419_2 HR420_2 HR421_2 HR422_2 hx419_0 hx419_1 hx419_2 hx420_0 hx420_1 hx420_2 hx421_0 hx421_1 hx421_2 hx422_0 hx422_1 hx422_2 hHeld ⊢
                    refine pure_ (i := 0) (N := some 16) (v := ?_) (a' := ?_) #[true, false, false, false, false, false, false, false, false, false, false, false, false, false, false, false, false, false, false, false, false, false, false, false, false] rfl rfl (any_of HT_.out (by kernel_rfl)) (fun _ _ _ h => h) (Or.inl ⟨by rfl, ?_⟩) ?_ ?_
                    rotate_left
                    · intro w'
                      go_simp
                      with_reducible rfl
                    rotate_left
                    · simp only [Act.put, List.setIfInBounds_toArray, List.set_cons_zero, List.set_cons_succ]
                      rfl
                    refine pure_ (i := 1) (N := some 17) (v := ?_) (a' := ?_) #[true, true, false, false, false, false, false, false, false, false, false, false, false, false, false, false, false, false, false, false, false, false, false, false, false] rfl rfl (any_of HT_.out (by kernel_rfl)) (fun _ _ _ h => h) (Or.inl ⟨by rfl, ?_⟩) ?_ ?_
                    rotate_left
                    · intro w'
                      go_simp
                      with_reducible rfl
                    rotate_left
                    · simp only [Act.put, List.setIfInBounds_toArray, List.set_cons_zero, List.set_cons_succ]
                      rfl
                    refine pure_ (i := 2) (N := some 18) (v := ?_) (a' := ?_) #[true, true, true, false, false, false, false, false, false, false, false, false, false, false, false, false, false, false, false, false, false, false, false, false, false] rfl rfl (any_of HT_.out (by kernel_rfl)) (fun _ _ _ h => h) (Or.inl ⟨by rfl, ?_⟩) ?_ ?_
                    rotate_left
                    · intro w'
                      go_simp
                      with_reducible rfl
                    rotate_left
                    · simp only [Act.put, List.setIfInBounds_toArray, List.set_cons_zero, List.set_cons_succ]
                      rfl
                    refine pure_ (i := 3) (N := some 19) (v := ?_) (a' := ?_) #[true, true, true, true, false, false, false, false, false, false, false, false, false, false, false, false, false, false, false, false, false, false, false, false, false] rfl rfl (any_of HT_.out (by kernel_rfl)) (fun _ _ _ h => h) (Or.inl ⟨by rfl, ?_⟩) ?_ ?_
                    rotate_left
                    · intro w'
                      go_simp
                      with_reducible rfl
                    rotate_left
                    · simp only [Act.put, List.setIfInBounds_toArray, List.set_cons_zero, List.set_cons_succ]
                      rfl
                    refine pure_ (i := 5) (N := some 21) (v := ?_) (a' := ?_) #[true, true, true, true, false, true, false, false, false, false, false, false, false, false, false, false, false, false, false, false, false, false, false, false, false] rfl rfl (any_of HT_.out (by kernel_rfl)) (fun _ _ _ h => h) (Or.inl ⟨by rfl, ?_⟩) ?_ ?_
                    rotate_left
                    · intro w'
                      go_simp
                      with_reducible rfl
                    rotate_left
                    · simp only [Act.put, List.setIfInBounds_toArray, List.set_cons_zero, List.set_cons_succ]
                      rfl
                    refine pure_ (i := 6) (N := some 22) (v := ?_) (a' := ?_) #[true, true, true, true, false, true, true, false, false, false, false, false, false, false, false, false, false, false, false, false, false, false, false, false, false] rfl rfl (any_of HT_.out (by kernel_rfl)) (fun _ _ _ h => h) (Or.inl ⟨by rfl, ?_⟩) ?_ ?_
                    rotate_left
                    · intro w'
                      go_simp
                      with_reducible rfl
                    rotate_left
                    · simp only [Act.put, List.setIfInBounds_toArray, List.set_cons_zero, List.set_cons_succ]
                      rfl
                    refine pure_ (i := 7) (N := some 23) (v := ?_) (a' := ?_) #[true, true, true, true, false, true, true, true, false, false, false, false, false, false, false, false, false, false, false, false, false, false, false, false, false] rfl rfl (any_of HT_.out (by kernel_rfl)) (fun _ _ _ h => h) (Or.inl ⟨by rfl, ?_⟩) ?_ ?_
                    rotate_left
                    · intro w'
                      go_simp
                      with_reducible rfl
                    rotate_left
                    · simp only [Act.put, List.setIfInBounds_toArray, List.set_cons_zero, List.set_cons_succ]
                      rfl
                    refine pure_ (i := 8) (N := some 24) (v := ?_) (a' := ?_) #[true, true, true, true, false, true, true, true, true, false, false, false, false, false, false, false, false, false, false, false, false, false, false, false, false] rfl rfl (any_of HT_.out (by kernel_rfl)) (fun _ _ _ h => h) (Or.inl ⟨by rfl, ?_⟩) ?_ ?_
                    rotate_left
                    · intro w'
                      go_simp
                      with_reducible rfl
                    rotate_left
                    · simp only [Act.put, List.setIfInBounds_toArray, List.set_cons_zero, List.set_cons_succ]
                      rfl
                    refine take_ (i := 4) (N := some 20) (v := ?_) (a' := ?_) #[true, true, true, true, true, true, true, true, true, false, false, false, false, false, false, false, false, false, false, false, false, false, false, false, false] rfl rfl (take_ofW HT_.out HW_.out (by kernel_rfl)) (fun _ _ _ h => h) (Or.inl ⟨by rfl, ?_⟩) hHeld ?_ ?_
                    rotate_left
                    · rintro w' ⟨s0, s1, s2, s3, s4, s5, s6, s7, s8, s9, s10, s11⟩
                      go_simp
                      with_reducible rfl
                    rotate_left
                    · simp only [Act.put, List.setIfInBounds_toArray, List.set_cons_zero, List.set_cons_succ]
                      rfl
                    refine take_ (i := 9) (N := some 25) (v := ?_) (a' := ?_) #[true, true, true, true, true, true, true, true, true, true, false, false, false, false, false, false, false, false, false, false, false, false, false, false, false] rfl rfl (take_ofW HT_.out HW_.out (by kernel_rfl)) (fun _ _ _ h => h) (Or.inl ⟨by rfl, ?_⟩) hHeld ?_ ?_
                    rotate_left
                    · rintro w' ⟨s0, s1, s2, s3, s4, s5, s6, s7, s8, s9, s10, s11⟩
                      go_simp
                      with_reducible rfl
                    rotate_left
                    · simp only [Act.put, List.setIfInBounds_toArray, List.set_cons_zero, List.set_cons_succ]
                      rfl
                    refine pure_ (i := 10) (N := some 26) (v := ?_) (a' := ?_) #[true, true, true, true, true, true, true, true, true, true, true, false, false, false, false, false, false, false, false, false, false, false, false, false, false] rfl rfl (any_of HT_.out (by kernel_rfl)) (fun _ _ _ h => h) (Or.inl ⟨by rfl, ?_⟩) ?_ ?_
                    rotate_left
                    · intro w'
                      go_simp
                      with_reducible rfl
                    rotate_left
                    · simp only [Act.put, List.setIfInBounds_toArray, List.set_cons_zero, List.set_cons_succ]
                      rfl
                    refine pure_ (i := 11) (N := some 27) (v := ?_) (a' := ?_) #[true, true, true, true, true, true, true, true, true, true, true, true, false, false, false, false, false, false, false, false, false, false, false, false, false] rfl rfl (any_of HT_.out (by kernel_rfl)) (fun _ _ _ h => h) (Or.inl ⟨by rfl, ?_⟩) ?_ ?_
                    rotate_left
                    · intro w'
                      go_simp
                      with_reducible rfl
                    rotate_left
                    · simp only [Act.put, List.setIfInBounds_toArray, List.set_cons_zero, List.set_cons_succ]
                      rfl
                    refine pure_ (i := 12) (N := some 28) (v := ?_) (a' := ?_) #[true, true, true, true, true, true, true, true, true, true, true, true, true, false, false, false, false, false, false, false, false, false, false, false, false] rfl rfl (any_of HT_.out (by kernel_rfl)) (fun _ _ _ h => h) (Or.inl ⟨by rfl, ?_⟩) ?_ ?_
                    rotate_left
                    · intro w'
                      go_simp
                      with_reducible rfl
                    rotate_left
                    · simp only [Act.put, List.setIfInBounds_toArray, List.set_cons_zero, List.set_cons_succ]
                      rfl
                    refine pure_ (i := 13) (N := some 29) (v := ?_) (a' := ?_) #[true, true, true, true, true, true, true, true, true, true, true, true, true, true, false, false, false, false, false, false, false, false, false, false, false] rfl rfl (any_of HT_.out (by kernel_rfl)) (fun _ _ _ h => h) (Or.inl ⟨by rfl, ?_⟩) ?_ ?_
                    rotate_left
                    · intro w'
                      go_simp
                      with_reducible rfl
                    rotate_left
                    · simp only [Act.put, List.setIfInBounds_toArray, List.set_cons_zero, List.set_cons_succ]
                      rfl
                    refine pure_ (i := 14) (N := some 30) (v := ?_) (a' := ?_) #[true, true, true, true, true, true, true, true, true, true, true, true, true, true, true, false, false, false, false, false, false, false, false, false, false] rfl rfl (any_of HT_.out (by kernel_rfl)) (fun _ _ _ h => h) (Or.inl ⟨by rfl, ?_⟩) ?_ ?_
                    rotate_left
                    · intro w'
                      go_simp
                      with_reducible rfl
                    rotate_left
                    · simp only [Act.put, List.setIfInBounds_toArray, List.set_cons_zero, List.set_cons_succ]
                      rfl
                    refine pure_ (i := 15) (N := some 31) (v := ?_) (a' := ?_) #[true, true, true, true, true, true, true, true, true, true, true, true, true, true, true, true, false, false, false, false, false, false, false, false, false] rfl rfl (any_of HT_.out (by kernel_rfl)) (fun _ _ _ h => h) (Or.inl ⟨by rfl, ?_⟩) ?_ ?_
                    rotate_left
                    · intro w'
                      go_simp
                      with_reducible rfl
                    rotate_left
                    · simp only [Act.put, List.setIfInBounds_toArray, List.set_cons_zero, List.set_cons_succ]
                      rfl
                    refine pure_ (i := 17) (N := some 33) (v := ?_) (a' := ?_) #[true, true, true, true, true, true, true, true, true, true, true, true, true, true, true, true, false, true, false, false, false, false, false, false, false] rfl rfl (any_of HT_.out (by kernel_rfl)) (fun _ _ _ h => h) (Or.inl ⟨by rfl, ?_⟩) ?_ ?_
                    rotate_left
                    · intro w'
                      go_simp
                      with_reducible rfl
                    rotate_left
                    · simp only [Act.put, List.setIfInBounds_toArray, List.set_cons_zero, List.set_cons_succ]
                      rfl
                    refine pure_ (i := 18) (N := some 34) (v := ?_) (a' := ?_) #[true, true, true, true, true, true, true, true, true, true, true, true, true, true, true, true, false, true, true, false, false, false, false, false, false] rfl rfl (any_of HT_.out (by kernel_rfl)) (fun _ _ _ h => h) (Or.inl ⟨by rfl, ?_⟩) ?_ ?_
                    rotate_left
                    · intro w'
                      go_simp
                      with_reducible rfl
                    rotate_left
                    · simp only [Act.put, List.setIfInBounds_toArray, List.set_cons_zero, List.set_cons_succ]
                      rfl
                    refine pure_ (i := 19) (N := some 35) (v := ?_) (a' := ?_) #[true, true, true, true, true, true, true, true, true, true, true, true, true, true, true, true, false, true, true, true, false, false, false, false, false] rfl rfl (any_of HT_.out (by kernel_rfl)) (fun _ _ _ h => h) (Or.inl ⟨by rfl, ?_⟩) ?_ ?_
                    rotate_left
                    · intro w'
                      go_simp
                      with_reducible rfl
                    rotate_left
                    · simp only [Act.put, List.setIfInBounds_toArray, List.set_cons_zero, List.set_cons_succ]
                      rfl
                    refine pure_ (i := 20) (N := some 36) (v := ?_) (a' := ?_) #[true, true, true, true, true, true, true, true, true, true, true, true, true, true, true, true, false, true, true, true, true, false, false, false, false] rfl rfl (any_of HT_.out (by kernel_rfl)) (fun _ _ _ h => h) (Or.inl ⟨by rfl, ?_⟩) ?_ ?_
                    rotate_left
                    · intro w'
                      go_simp
                      with_reducible rfl
                    rotate_left
                    · simp only [Act.put, List.setIfInBounds_toArray, List.set_cons_zero, List.set_cons_succ]
                      rfl
                    refine take_ (i := 16) (N := some 32) (v := ?_) (a' := ?_) #[true, true, true, true, true, true, true, true, true, true, true, true, true, true, true, true, true, true, true, true, true, false, false, false, false] rfl rfl (take_ofW HT_.out HW_.out (by kernel_rfl)) (fun _ _ _ h => h) (Or.inl ⟨by rfl, ?_⟩) hHeld ?_ ?_
                    rotate_left
                    · rintro w' ⟨s0, s1, s2, s3, s4, s5, s6, s7, s8, s9, s10, s11⟩
                      go_simp
                      with_reducible rfl
                    rotate_left
                    · simp only [Act.put, List.setIfInBounds_toArray, List.set_cons_zero, List.set_cons_succ]
                      rfl
                    refine take_ (i := 21) (N := some 37) (v := ?_) (a' := ?_) #[true, true, true, true, true, true, true, true, true, true, true, true, true, true, true, true, true, true, true, true, true, true, false, false, false] rfl rfl (take_ofW HT_.out HW_.out (by kernel_rfl)) (fun _ _ _ h => h) (Or.inl ⟨by rfl, ?_⟩) hHeld ?_ ?_
                    rotate_left
                    · rintro w' ⟨s0, s1, s2, s3, s4, s5, s6, s7, s8, s9, s10, s11⟩
                      go_simp
                      with_reducible rfl
                    rotate_left
                    · simp only [Act.put, List.setIfInBounds_toArray, List.set_cons_zero, List.set_cons_succ]
                      rfl
                    refine one_ (i := 22) (N := some 38) #[true, true, true, true, true, true, true, true, true, true, true, true, true, true, true, true, true, true, true, true, true, true, true, false, false] rfl rfl (one_of HT_.out (by kernel_rfl)) (by decide) (fun K hK => ?_)
                    refine goes_ Tryd.func17 (by kernel_rfl) rfl #[.agg #[.bool ((rd_T26 l0 x13_1).f1.f0), .slice A419_2 ((rd_T26 l0 x13_1).f1.f1).length c419_2], .agg #[.bool ((rd_T26 l1 x13_1).f1.f0), .slice A420_2 ((rd_T26 l1 x13_1).f1.f1).length c420_2]] (by rfl) rfl rfl (by (try simp only [List.map_toArray, List.map_cons, List.map_nil]); first | done | rfl | (simp only [List.length_drop, List.length_take]; rfl)) ?_
                    with_reducible refine (spec_SameOctets.calls k1 ((rd_T26 l0 x13_1).f1.f0) _ _ ((rd_T26 l0 x13_1).f1.f1) ((rd_T26 l1 x13_1).f1.f0) _ _ ((rd_T26 l1 x13_1).f1.f1) false _ ?side1 ?side2 ?side3 ?side4 A9.out).mono ?_
                    (case side1 => repeat (first | exact (Kd.C_below HR421_2.out HB.out) | (with_reducible refine Kd.C_alloc ?_ _) | (with_reducible refine Kd.C_drewN ?_ _) | (with_reducible refine Kd.C_drew ?_)))
                    (case side2 => exact HC421_2.out)
                    (case side3 => repeat (first | exact (Kd.C_below HR422_2.out HB.out) | (with_reducible refine Kd.C_alloc ?_ _) | (with_reducible refine Kd.C_drewN ?_ _) | (with_reducible refine Kd.C_drew ?_)))
                    (case side4 => exact HC422_2.out)
                    rintro e w14 ⟨rfl, hb⟩
                    refine ⟨_, rfl, ?_⟩
                    have n0_ := Aside0.mk (below_step (by repeat (first | (with_reducible first | exact HB.out | apply below_alloc | apply pw_below_drewN | apply below_drew1) | exact HB.out)) hb)
                    clear HB
                    have HB := n0_
                    clear n0_
                    (try clear hb)
                    (try clear hb2)
                    (try clear hk)
                    (try clear hi)
                    refine hK.out _ _ ⟨((HB.out.cell (World.block_lt_of_cell? w _ hw419_0)).trans hw419_0), ((HB.out.cell (World.block_lt_of_cell? w _ hw419_1)).trans hw419_1), ((HB.out.cell (World.block_lt_of_cell? w _ hw419_2)).trans hw419_2), ((HB.out.cell (World.block_lt_of_cell? w _ hw420_0)).trans hw420_0), ((HB.out.cell (World.block_lt_of_cell? w _ hw420_1)).trans hw420_1), ((HB.out.cell (World.block_lt_of_cell? w _ hw420_2)).trans hw420_2), ((HB.out.cell (World.block_lt_of_cell? w _ hw421_0)).trans hw421_0), ((HB.out.cell (World.block_lt_of_cell? w _ hw421_1)).trans hw421_1), ((HB.out.cell (World.block_lt_of_cell? w _ hw421_2)).trans hw421_2), ((HB.out.cell (World.block_lt_of_cell? w _ hw422_0)).trans hw422_0), ((HB.out.cell (World.block_lt_of_cell? w _ hw422_1)).trans hw422_1), ((HB.out.cell (World.block_lt_of_cell? w _ hw422_2)).trans hw422_2)⟩ (fun hHeld => ?_)
                    clear hK K
                    refine norm_ (a' := ?_) ?_ ?_
                    rotate_left
                    · show Act.put _ (some 38) _ = _
                      simp only [Act.put, List.setIfInBounds_toArray, List.set_cons_zero, List.set_cons_succ]
                      rfl
                    refine pure_ (i := 23) (N := some 39) (v := ?_) (a' := ?_) #[true, true, true, true, true, true, true, true, true, true, true, true, true, true, true, true, true, true, true, true, true, true, true, true, false] rfl rfl (any_of HT_.out (by kernel_rfl)) (fun _ _ _ h => h) (Or.inl ⟨by rfl, ?_⟩) ?_ ?_
                    rotate_left
                    · intro w'
                      go_simp
                      with_reducible rfl
                    rotate_left
                    · simp only [Act.put, List.setIfInBounds_toArray, List.set_cons_zero, List.set_cons_succ]
                      rfl
                    refine pure_ (i := 24) (N := some 40) (v := ?_) (a' := ?_) #[true, true, true, true, true, true, true, true, true, true, true, true, true, true, true, true, true, true, true, true, true, true, true, true, true] rfl rfl (any_of HT_.out (by kernel_rfl)) (fun _ _ _ h => h) (Or.inl ⟨by rfl, ?_⟩) ?_ ?_
                    rotate_left
                    · intro w'
                      go_simp
                      with_reducible rfl
                    rotate_left
                    · simp only [Act.put, List.setIfInBounds_toArray, List.set_cons_zero, List.set_cons_succ]
                      rfl
                    refine done_ (done_of HT_.out (by kernel_rfl)) ?_
                    try go_wp2
                    go_ret
                    exact ⟨by first | rfl | (simp [errW_none, errW_some] <;> rfl) | (simp [*, errW_none, errW_some] <;> rfl), by repeat (first | (with_reducible first | exact HB.out | apply below_alloc | apply pw_below_drewN | apply below_drew1) | exact HB.out)⟩
                · rw [if_neg c8] at H
                  have c8b0 : (((rd_T26 l0 x13_1).f0).toList == ((rd_T26 l1 x13_1).f0).toList) = false := beq_eq_false_iff_ne.mpr c8
                  have c8b1 : (((rd_T26 l0 x13_1).f0).toList != ((rd_T26 l1 x13_1).f0).toList) = true := bne_iff_ne.mpr c8
                  obtain rfl := Option.some.inj H
                  try go_wp2
                  have n0_ := Aside0.mk (below_drew1 HB.out)
                  clear HB
                  have HB := n0_
                  clear n0_
                  have p419 : 0 ≤ (x13_1 : Int) := of_decide_eq_true (by first | (with_reducible assumption) | assumption)
                  have q419 : x13_1 < (l0.length : Int) := of_decide_eq_true (by first | (with_reducible assumption) | assumption)
                  obtain ⟨ad419, A419_2, c419_2, e419, hx419_0, hx419_1, hx419_2, hl419_2, hi419_2⟩ := at_T26 HR0.out x13_1 p419 q419
                  have hw419_2 := hx419_2
                  have hw419_1 := hx419_1
                  have hw419_0 := hx419_0
                  cases e419
                  replace hx419_0 := (HB.out.cell (World.block_lt_of_cell? w _ hx419_0)).trans hx419_0
                  replace hx419_1 := (HB.out.cell (World.block_lt_of_cell? w _ hx419_1)).trans hx419_1
                  replace hx419_2 := (HB.out.cell (World.block_lt_of_cell? w _ hx419_2)).trans hx419_2
                  have HR419_2 := Aside0.mk hi419_2
                  have HC419_2 := Aside0.mk hl419_2
                  clear hi419_2 hl419_2
                  replace p419 := eq_true p419
                  replace q419 := eq_true q419
                  have p420 : 0 ≤ (x13_1 : Int) := of_decide_eq_true (by first | (with_reducible assumption) | assumption)
                  have q420 : x13_1 < (l1.length : Int) := of_decide_eq_true (by first | (with_reducible assumption) | assumption)
                  obtain ⟨ad420, A420_2, c420_2, e420, hx420_0, hx420_1, hx420_2, hl420_2, hi420_2⟩ := at_T26 HR1.out x13_1 p420 q420
                  have hw420_2 := hx420_2
                  have hw420_1 := hx420_1
                  have hw420_0 := hx420_0
                  cases e420
                  replace hx420_0 := (HB.out.cell (World.block_lt_of_cell? w _ hx420_0)).trans hx420_0
                  replace hx420_1 := (HB.out.cell (World.block_lt_of_cell? w _ hx420_1)).trans hx420_1
                  replace hx420_2 := (HB.out.cell (World.block_lt_of_cell? w _ hx420_2)).trans hx420_2
                  have HR420_2 := Aside0.mk hi420_2
                  have HC420_2 := Aside0.mk hl420_2
                  clear hi420_2 hl420_2
                  replace p420 := eq_true p420
                  replace q420 := eq_true q420
                  refine start_ (n := 25) (S := fun w' => w'.cell? (ad419.add ((x13_1).toNat * 3)) = some (.string ((rd_T26 l0 x13_1).f0)) ∧ w'.cell? ⟨(ad419.add ((x13_1).toNat * 3)).block, (ad419.add ((x13_1).toNat * 3)).off + 1, none⟩ = some (.bool ((rd_T26 l0 x13_1).f1.f0)) ∧ w'.cell? ⟨(ad419.add ((x13_1).toNat * 3)).block, (ad419.add ((x13_1).toNat * 3)).off + 2, none⟩ = some (.slice A419_2 ((rd_T26 l0 x13_1).f1.f1).length c419_2) ∧ w'.cell? (ad420.add ((x13_1).toNat * 3)) = some (.string ((rd_T26 l1 x13_1).f0)) ∧ w'.cell? ⟨(ad420.add ((x13_1).toNat * 3)).block, (ad420.add ((x13_1).toNat * 3)).off + 1, none⟩ = some (.bool ((rd_T26 l1 x13_1).f1.f0)) ∧ w'.cell? ⟨(ad420.add ((x13_1).toNat * 3)).block, (ad420.add ((x13_1).toNat * 3)).off + 2, none⟩ = some (.slice A420_2 ((rd_T26 l1 x13_1).f1.f1).length c420_2)) (ds := []) #[false, false, false, false, false, false, false, false, false, false, false, false, false, false, false, false, false, false, false, false, false, false, false, false, false] (by kernel_rfl) rfl rfl ⟨((HB.out.cell (World.block_lt_of_cell? w _ hw419_0)).trans hw419_0), ((HB.out.cell (World.block_lt_of_cell? w _ hw419_1)).trans hw419_1), ((HB.out.cell (World.block_lt_of_cell? w _ hw419_2)).trans hw419_2), ((HB.out.cell (World.block_lt_of_cell? w _ hw420_0)).trans hw420_0), ((HB.out.cell (World.block_lt_of_cell? w _ hw420_1)).trans hw420_1), ((HB.out.cell (World.block_lt_of_cell? w _ hw420_2)).trans hw420_2)⟩ (fun hHeld => ?_); refine with_tabW spec_SameHeaders.tab6 spec_SameHeaders.bits6 (fun HT_ HW_ => ?_)
                  generalize wr.drew = w15 at HB HR419_2 HR420_2 hx419_0 hx419_1 hx419_2 hx420_0 hx420_1 hx420_2 hHeld ⊢
                  refine pure_ (i := 0) (N := some 16) (v := ?_) (a' := ?_) #[true, false, false, false, false, false, false, false, false, false, false, false, false, false, false, false, false, false, false, false, false, false, false, false, false] rfl rfl (any_of HT_.out (by kernel_rfl)) (fun _ _ _ h => h) (Or.inl ⟨by rfl, ?_⟩) ?_ ?_
                  rotate_left
                  · intro w'
                    go_simp
                    with_reducible rfl
                  rotate_left
                  · simp only [Act.put, List.setIfInBounds_toArray, List.set_cons_zero, List.set_cons_succ]
                    rfl
                  refine pure_ (i := 1) (N := some 17) (v := ?_) (a' := ?_) #[true, true, false, false, false, false, false, false, false, false, false, false, false, false, false, false, false, false, false, false, false, false, false, false, false] rfl rfl (any_of HT_.out (by kernel_rfl)) (fun _ _ _ h => h) (Or.inl ⟨by rfl, ?_⟩) ?_ ?_
                  rotate_left
                  · intro w'
                    go_simp
                    with_reducible rfl
                  rotate_left
                  · simp only [Act.put, List.setIfInBounds_toArray, List.set_cons_zero, List.set_cons_succ]
                    rfl
                  refine pure_ (i := 2) (N := some 18) (v := ?_) (a' := ?_) #[true, true, true, false, false, false, false, false, false, false, false, false, false, false, false, false, false, false, false, false, false, false, false, false, false] rfl rfl (any_of HT_.out (by kernel_rfl)) (fun _ _ _ h => h) (Or.inl ⟨by rfl, ?_⟩) ?_ ?_
                  rotate_left
                  · intro w'
                    go_simp
                    with_reducible rfl
                  rotate_left
                  · simp only [Act.put, List.setIfInBounds_toArray, List.set_cons_zero, List.set_cons_succ]
                    rfl
                  refine pure_ (i := 3) (N := some 19) (v := ?_) (a' := ?_) #[true, true, true, true, false, false, false, false, false, false, false, false, false, false, false, false, false, false, false, false, false, false, false, false, false] rfl rfl (any_of HT_.out (by kernel_rfl)) (fun _ _ _ h => h) (Or.inl ⟨by rfl, ?_⟩) ?_ ?_
                  rotate_left
                  · intro w'
                    go_simp
                    with_reducible rfl
                  rotate_left
                  · simp only [Act.put, List.setIfInBounds_toArray, List.set_cons_zero, List.set_cons_succ]
                    rfl
                  refine pure_ (i := 5) (N := some 21) (v := ?_) (a' := ?_) #[true, true, true, true, false, true, false, false, false, false, false, false, false, false, false, false, false, false, false, false, false, false, false, false, false] rfl rfl (any_of HT_.out (by kernel_rfl)) (fun _ _ _ h => h) (Or.inl ⟨by rfl, ?_⟩) ?_ ?_
                  rotate_left
                  · intro w'
                    go_simp
                    with_reducible rfl
                  rotate_left
                  · simp only [Act.put, List.setIfInBounds_toArray, List.set_cons_zero, List.set_cons_succ]
                    rfl
                  refine pure_ (i := 6) (N := some 22) (v := ?_) (a' := ?_) #[true, true, true, true, false, true, true, false, false, false, false, false, false, false, false, false, false, false, false, false, false, false, false, false, false] rfl rfl (any_of HT_.out (by kernel_rfl)) (fun _ _ _ h => h) (Or.inl ⟨by rfl, ?_⟩) ?_ ?_
                  rotate_left
                  · intro w'
                    go_simp
                    with_reducible rfl
                  rotate_left
                  · simp only [Act.put, List.setIfInBounds_toArray, List.set_cons_zero, List.set_cons_succ]
                    rfl
                  refine pure_ (i := 7) (N := some 23) (v := ?_) (a' := ?_) #[true, true, true, true, false, true, true, true, false, false, false, false, false, false, false, false, false, false, false, false, false, false, false, false, false] rfl rfl (any_of HT_.out (by kernel_rfl)) (fun _ _ _ h => h) (Or.inl ⟨by rfl, ?_⟩) ?_ ?_
                  rotate_left
                  · intro w'
                    go_simp
                    with_reducible rfl
                  rotate_left
                  · simp only [Act.put, List.setIfInBounds_toArray, List.set_cons_zero, List.set_cons_succ]
                    rfl
                  refine pure_ (i := 8) (N := some 24) (v := ?_) (a' := ?_) #[true, true, true, true, false, true, true, true, true, false, false, false, false, false, false, false, false, false, false, false, false, false, false, false, false] rfl rfl (any_of HT_.out (by kernel_rfl)) (fun _ _ _ h => h) (Or.inl ⟨by rfl, ?_⟩) ?_ ?_
                  rotate_left
                  · intro w'
                    go_simp
                    with_reducible rfl
                  rotate_left
                  · simp only [Act.put, List.setIfInBounds_toArray, List.set_cons_zero, List.set_cons_succ]
                    rfl
                  refine take_ (i := 4) (N := some 20) (v := ?_) (a' := ?_) #[true, true, true, true, true, true, true, true, true, false, false, false, false, false, false, false, false, false, false, false, false, false, false, false, false] rfl rfl (take_ofW HT_.out HW_.out (by kernel_rfl)) (fun _ _ _ h => h) (Or.inl ⟨by rfl, ?_⟩) hHeld ?_ ?_
                  rotate_left
                  · rintro w' ⟨s0, s1, s2, s3, s4, s5⟩
                    go_simp
                    with_reducible rfl
                  rotate_left
                  · simp only [Act.put, List.setIfInBounds_toArray, List.set_cons_zero, List.set_cons_succ]
                    rfl
                  refine take_ (i := 9) (N := some 25) (v := ?_) (a' := ?_) #[true, true, true, true, true, true, true, true, true, true, false, false, false, false, false, false, false, false, false, false, false, false, false, false, false] rfl rfl (take_ofW HT_.out HW_.out (by kernel_rfl)) (fun _ _ _ h => h) (Or.inl ⟨by rfl, ?_⟩) hHeld ?_ ?_
                  rotate_left
                  · rintro w' ⟨s0, s1, s2, s3, s4, s5⟩
                    go_simp
                    with_reducible rfl
                  rotate_left
                  · simp only [Act.put, List.setIfInBounds_toArray, List.set_cons_zero, List.set_cons_succ]
                    rfl
                  refine pure_ (i := 10) (N := some 26) (v := ?_) (a' := ?_) #[true, true, true, true, true, true, true, true, true, true, true, false, false, false, false, false, false, false, false, false, false, false, false, false, false] rfl rfl (any_of HT_.out (by kernel_rfl)) (fun _ _ _ h => h) (Or.inl ⟨by rfl, ?_⟩) ?_ ?_
                  rotate_left
                  · intro w'
                    go_simp
                    with_reducible rfl
                  rotate_left
                  · simp only [Act.put, List.setIfInBounds_toArray, List.set_cons_zero, List.set_cons_succ]
                    rfl
                  refine pure_ (i := 11) (N := some 27) (v := ?_) (a' := ?_) #[true, true, true, true, true, true, true, true, true, true, true, true, false, false, false, false, false, false, false, false, false, false, false, false, false] rfl rfl (any_of HT_.out (by kernel_rfl)) (fun _ _ _ h => h) (Or.inl ⟨by rfl, ?_⟩) ?_ ?_
                  rotate_left
                  · intro w'
                    go_simp
                    with_reducible rfl
                  rotate_left
                  · simp only [Act.put, List.setIfInBounds_toArray, List.set_cons_zero, List.set_cons_succ]
                    rfl
                  refine pure_ (i := 12) (N := some 28) (v := undef) (a' := ?_) #[true, true, true, true, true, true, true, true, true, true, true, true, true, false, false, false, false, false, false, false, false, false, false, false, false] rfl rfl (any_of HT_.out (by kernel_rfl)) (fun _ _ _ h => h) (Or.inr ⟨by rfl, rfl⟩) ?_ ?_
                  rotate_left
                  · simp only [Act.put, List.setIfInBounds_toArray, List.set_cons_zero, List.set_cons_succ]
                    rfl
                  refine pure_ (i := 13) (N := some 29) (v := undef) (a' := ?_) #[true, true, true, true, true, true, true, true, true, true, true, true, true, true, false, false, false, false, false, false, false, false, false, false, false] rfl rfl (any_of HT_.out (by kernel_rfl)) (fun _ _ _ h => h) (Or.inr ⟨by rfl, rfl⟩) ?_ ?_
                  rotate_left
                  · simp only [Act.put, List.setIfInBounds_toArray, List.set_cons_zero, List.set_cons_succ]
                    rfl
                  refine pure_ (i := 14) (N := some 30) (v := undef) (a' := ?_) #[true, true, true, true, true, true, true, true, true, true, true, true, true, true, true, false, false, false, false, false, false, false, false, false, false] rfl rfl (any_of HT_.out (by kernel_rfl)) (fun _ _ _ h => h) (Or.inr ⟨by rfl, rfl⟩) ?_ ?_
                  rotate_left
                  · simp only [Act.put, List.setIfInBounds_toArray, List.set_cons_zero, List.set_cons_succ]
                    rfl
                  refine pure_ (i := 15) (N := some 31) (v := undef) (a' := ?_) #[true, true, true, true, true, true, true, true, true, true, true, true, true, true, true, true, false, false, false, false, false, false, false, false, false] rfl rfl (any_of HT_.out (by kernel_rfl)) (fun _ _ _ h => h) (Or.inr ⟨by rfl, rfl⟩) ?_ ?_
                  rotate_left
                  · simp only [Act.put, List.setIfInBounds_toArray, List.set_cons_zero, List.set_cons_succ]
                    rfl
                  refine pure_ (i := 16) (N := some 32) (v := undef) (a' := ?_) #[true, true, true, true, true, true, true, true, true, true, true, true, true, true, true, true, true, false, false, false, false, false, false, false, false] rfl rfl (any_of HT_.out (by kernel_rfl)) (fun _ _ _ h => h) (Or.inr ⟨by rfl, rfl⟩) ?_ ?_
                  rotate_left
                  · simp only [Act.put, List.setIfInBounds_toArray, List.set_cons_zero, List.set_cons_succ]
                    rfl
                  refine pure_ (i := 17) (N := some 33) (v := undef) (a' := ?_) #[true, true, true, true, true, true, true, true, true, true, true, true, true, true, true, true, true, true, false, false, false, false, false, false, false] rfl rfl (any_of HT_.out (by kernel_rfl)) (fun _ _ _ h => h) (Or.inr ⟨by rfl, rfl⟩) ?_ ?_
                  rotate_left
                  · simp only [Act.put, List.setIfInBounds_toArray, List.set_cons_zero, List.set_cons_succ]
                    rfl
                  refine pure_ (i := 18) (N := some 34) (v := undef) (a' := ?_) #[true, true, true, true, true, true, true, true, true, true, true, true, true, true, true, true, true, true, true, false, false, false, false, false, false] rfl rfl (any_of HT_.out (by kernel_rfl)) (fun _ _ _ h => h) (Or.inr ⟨by rfl, rfl⟩) ?_ ?_
                  rotate_left
                  · simp only [Act.put, List.setIfInBounds_toArray, List.set_cons_zero, List.set_cons_succ]
                    rfl
                  refine pure_ (i := 19) (N := some 35) (v := undef) (a' := ?_) #[true, true, true, true, true, true, true, true, true, true, true, true, true, true, true, true, true, true, true, true, false, false, false, false, false] rfl rfl (any_of HT_.out (by kernel_rfl)) (fun _ _ _ h => h) (Or.inr ⟨by rfl, rfl⟩) ?_ ?_
                  rotate_left
                  · simp only [Act.put, List.setIfInBounds_toArray, List.set_cons_zero, List.set_cons_succ]
                    rfl
                  refine pure_ (i := 20) (N := some 36) (v := undef) (a' := ?_) #[true, true, true, true, true, true, true, true, true, true, true, true, true, true, true, true, true, true, true, true, true, false, false, false, false] rfl rfl (any_of HT_.out (by kernel_rfl)) (fun _ _ _ h => h) (Or.inr ⟨by rfl, rfl⟩) ?_ ?_
                  rotate_left
                  · simp only [Act.put, List.setIfInBounds_toArray, List.set_cons_zero, List.set_cons_succ]
                    rfl
                  refine pure_ (i := 21) (N := some 37) (v := undef) (a' := ?_) #[true, true, true, true, true, true, true, true, true, true, true, true, true, true, true, true, true, true, true, true, true, true, false, false, false] rfl rfl (any_of HT_.out (by kernel_rfl)) (fun _ _ _ h => h) (Or.inr ⟨by rfl, rfl⟩) ?_ ?_
                  rotate_left
                  · simp only [Act.put, List.setIfInBounds_toArray, List.set_cons_zero, List.set_cons_succ]
                    rfl
                  refine pure_ (i := 22) (N := some 38) (v := undef) (a' := ?_) #[true, true, true, true, true, true, true, true, true, true, true, true, true, true, true, true, true, true, true, true, true, true, true, false, false] rfl rfl (any_of HT_.out (by kernel_rfl)) (fun _ _ _ h => h) (Or.inr ⟨by rfl, rfl⟩) ?_ ?_
                  rotate_left
                  · simp only [Act.put, List.setIfInBounds_toArray, List.set_cons_zero, List.set_cons_succ]
                    rfl
                  refine pure_ (i := 23) (N := some 39) (v := undef) (a' := ?_) #[true, true, true, true, true, true, true, true, true, true, true, true, true, true, true, true, true, true, true, true, true, true, true, true, false] rfl rfl (any_of HT_.out (by kernel_rfl)) (fun _ _ _ h => h) (Or.inr ⟨by rfl, rfl⟩) ?_ ?_
                  rotate_left
                  · simp only [Act.put, List.setIfInBounds_toArray, List.set_cons_zero, List.set_cons_succ]
                    rfl
                  refine pure_ (i := 24) (N := some 40) (v := ?_) (a' := ?_) #[true, true, true, true, true, true, true, true, true, true, true, true, true, true, true, true, true, true, true, true, true, true, true, true, true] rfl rfl (any_of HT_.out (by kernel_rfl)) (fun _ _ _ h => h) (Or.inl ⟨by rfl, ?_⟩) ?_ ?_
                  rotate_left
                  · intro w'
                    go_simp
                    with_reducible rfl
                  rotate_left
                  · simp only [Act.put, List.setIfInBounds_toArray, List.set_cons_zero, List.set_cons_succ]
                    rfl
                  refine done_ (done_of HT_.out (by kernel_rfl)) ?_
                  try go_wp2
                  go_ret
                  exact ⟨by first | rfl | (simp [errW_none, errW_some] <;> rfl) | (simp [*, errW_none, errW_some] <;> rfl), by repeat (first | (with_reducible first | exact HB.out | apply below_alloc | apply pw_below_drewN | apply below_drew1) | exact HB.out)⟩
              · rw [if_neg c7] at H
                exact absurd H (by simp)
            · rw [if_neg c6] at H
              exact absurd H (by simp)
          · rw [if_neg c5] at H
            exact absurd H (by simp)
        · rw [if_neg c4] at H
          have c4b0 : decide (x13_1 < (l0.length : Int)) = false := decide_eq_false c4
          clear c4
          obtain rfl := Option.some.inj H
          go_wp2
          go_ret
          exact ⟨by first | rfl | (simp [errW_none, errW_some] <;> rfl) | (simp [*, errW_none, errW_some] <;> rfl), by repeat (first | (with_reducible first | exact HB.out | apply below_alloc | apply pw_below_drewN | apply below_drew1) | exact HB.out)⟩
  · rw [if_neg c3] at H
    have c3b0 : ((l0.length : Int) == (l1.length : Int)) = false := beq_eq_false_iff_ne.mpr c3
    have c3b1 : ((l0.length : Int) != (l1.length : Int)) = true := bne_iff_ne.mpr c3
    have c3b2 : (l0.length == l1.length) = false := by first | simpa using c3 | (simp at c3 ⊢; omega)
    obtain rfl := Option.some.inj H
    go_enter Tryd.func8, Tryd.ntmps8
    go_wp2
    go_ret
    exact ⟨by first | rfl | (simp [errW_none, errW_some] <;> rfl) | (simp [*, errW_none, errW_some] <;> rfl), by repeat (first | (with_reducible first | exact HB.out | apply below_alloc | apply pw_below_drewN | apply below_drew1) | exact HB.out)⟩

end Go.Proofs.YthdfhnnoamlacaaDoor.PFnAnyHeader
