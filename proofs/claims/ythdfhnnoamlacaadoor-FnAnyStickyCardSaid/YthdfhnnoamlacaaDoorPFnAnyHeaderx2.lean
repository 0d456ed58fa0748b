/- What the texts behind this one lean on, out of what the kit's print writes for this seat, cut down. Conditions: none. -/
import Derived.Test.YthdfhnnoamlacaaDoorPFnAnyHeaderx0
import Derived.Test.YthdfhnnoamlacaaDoorPFnAnyHeaderx1
namespace Go.Proofs.YthdfhnnoamlacaaDoor.PFnAnyHeader
open Go.RowKit Go.Proofs.YthdfhnnoamlacaaDoorW.PrintWords Go.Proofs.YthdfhnnoamlacaaDoorW.PrintLast Go.Proofs.YthdfhnnoamlacaaDoorW.PrintMore

/-! ### spec_OctetsBytes: function 47 -/
def spec_OctetsBytes.f (k : Nat) (a0_0 : Bool) (l0_1 : List Int) : Option (List Int) := if a0_0 = true then ((spec_Varint.f k (-1)).bind fun t169 => (some t169)) else ((spec_Varint.f k (l0_1.length : Int)).bind fun t172 => (if t172.length + l0_1.length < 140737488355328 then (some (t172 ++ l0_1)) else (none)))
def spec_OctetsBytes.T3 : Bool × List (List Nat × List Nat) := (true, [([], []), ([0], [0]), ([1], [1]), ([2], [2]), ([], []), ([4], [4]), ([3, 5, 3], [3, 5]), ([6, 6, 0, 1, 2, 3, 4, 5, 6], [6])])
def spec_OctetsBytes.B3 : List Nat := [0, 1, 3, 7, 0, 16, 63, 127]
theorem spec_OctetsBytes.tab3 : rtab .any (opsOf Tryd.f47 3) = spec_OctetsBytes.T3 := by kernel_rfl
theorem spec_OctetsBytes.bits3 : waitsOk spec_OctetsBytes.T3.2 spec_OctetsBytes.B3 = true := by kernel_rfl
set_option maxHeartbeats 8000000 in
set_option maxRecDepth 100000 in
theorem spec_OctetsBytes.calls (k : Nat) (a0_0 : Bool) (A0_1 : Option Addr) (c0_1 : Nat) (l0_1 : List Int) (r : List Int) (w : World) (hr0_1 : Kd.C (Kd.int .u8) w A0_1 l0_1.length l0_1) (hc0_1 : l0_1.length ≤ c0_1) (h : spec_OctetsBytes.f k a0_0 l0_1 = some r) :
    Calls Tryd.prog 47 #[.agg #[.bool a0_0, .slice A0_1 l0_1.length c0_1]] w fun e w' => ∃ v0_ : Value, e = .returned (v0_) ∧ Kd.R (Kd.int .u8) 5 w' w.heap.size (fun _ => True) v0_ r ∧ Below w.heap.size w w' := by
  have hu24 := Tryd.underlying24
  have HR0_1 := Aside0.mk hr0_1
  have HC0_1 := Aside0.mk hc0_1
  clear hr0_1 hc0_1
  have HB := Aside0.mk (Below.refl w.heap.size w)
  have H : (if a0_0 = true then ((spec_Varint.f k (-1)).bind fun t169 => (some t169)) else ((spec_Varint.f k (l0_1.length : Int)).bind fun t172 => (if t172.length + l0_1.length < 140737488355328 then (some (t172 ++ l0_1)) else (none)))) = some r := h
  clear h
  by_cases c2 : a0_0 = true
  · subst c2
    have H1 : ((spec_Varint.f k (-1)).bind fun t169 => (some t169)) = some r := by rw [if_pos rfl] at H; exact H
    clear H
    have H := H1
    clear H1
    replace H := Option.bind_eq_some_iff.mp H
    obtain ⟨t169, A30, H⟩ := H
    replace H : (some t169) = some r := H
    have A3 := Aside0.mk A30
    clear A30
    obtain rfl := Option.some.inj H
    go_enter Tryd.func47, Tryd.ntmps47
    go_wp2_with (first | ((with_reducible refine gate_dst (N := 1) rfl ?_); refine box_event ?hg (N := 1) ?hd (cs := #[.bool true, .slice A0_1 l0_1.length c0_1]) (t := 24) ?hr ?_; (case hd => rfl); (case hg => rfl); (case hr => first | (go_simp; done) | (go_simp; rfl)); intro gb168 hg w4 hbox hb; have n0_ := Aside0.mk (below_step (by repeat (first | (with_reducible first | exact HB.out | apply below_alloc | apply pw_below_drewN | apply below_drew1) | exact HB.out)) hb); have n1_ := Aside0.mk (hbox); have n2_ := Aside0.mk ((by rw [hg]; exact (below_size (by repeat (first | (with_reducible first | exact HB.out | apply below_alloc | apply pw_below_drewN | apply below_drew1) | exact HB.out))) : w.heap.size ≤ gb168)); have n3_ := Aside0.mk ((by rw [hg]; exact (below_size (by repeat (first | (with_reducible first | exact HB.out | apply below_alloc | apply pw_below_drewN | apply below_drew1) | exact HB.out))) : w.heap.size ≤ gb168)); clear HB; have HB := n0_; have BK168 := n1_; have GW168 := n2_; have GE168 := n3_; clear n0_ n1_ n2_ n3_; clear hb hbox hg; have hcz5_0 : w4.cell? ⟨gb168, 0, none⟩ = some (.bool true) := (blk_cell BK168.out 0).trans rfl; have hcz5_1 : w4.cell? ⟨gb168, 1, none⟩ = some (.slice A0_1 l0_1.length c0_1) := (blk_cell BK168.out 1).trans rfl; have hfz5_0 := blk_frozen BK168.out 0; have hfz5_1 := blk_frozen BK168.out 1) | ((with_reducible refine gate_callee (f := 46) rfl ?_); refine goesL_ (some 5) rfl rfl Tryd.func46 (by kernel_rfl) rfl #[.int .i64 (-1)] rfl (by (try simp only [List.map_toArray, List.map_cons, List.map_nil]); first | done | rfl | (simp only [List.length_drop, List.length_take]; rfl)) ?_; (with_reducible refine (spec_Varint.calls k (-1) t169 _ A3.out).mono ?_); rintro e w6 ⟨v170, rfl, ho0, hb⟩; refine ⟨_, rfl, ?_⟩; have n0_ := Aside0.mk (Kd.R_lower ho0 (below_size (by repeat (first | (with_reducible first | exact HB.out | apply below_alloc | apply pw_below_drewN | apply below_drew1 | refine below_set ?_ GE168.out) | exact HB.out)))); have n1_ := Aside0.mk (blk_below (g := gb168) (o := .cells #[.bool true, .slice A0_1 l0_1.length c0_1] 24 (0, 0)) (by (with_reducible repeat (first | refine blk_drewN ?_ _ | refine blk_drew ?_ | refine blk_alloc ?_ _)); exact BK168.out) hb); have n2_ := Aside0.mk (below_step (by repeat (first | (with_reducible first | exact HB.out | apply below_alloc | apply pw_below_drewN | apply below_drew1 | refine below_set ?_ GE168.out) | exact HB.out)) hb); clear BK168; clear HB; have HO171 := n0_; have BK168 := n1_; have HB := n2_; clear n0_ n1_ n2_; (try clear hb); (try clear hb2); (try clear hk); (try clear hi); (try clear ho0)))
    go_ret
    exact ⟨_, by first | rfl | (simp [errW_none, errW_some] <;> rfl) | (simp [*, errW_none, errW_some] <;> rfl), by (with_reducible repeat (first | apply Kd.R_alloc | apply Kd.R_drewN | apply Kd.R_drew)); exact HO171.out, by repeat (first | (with_reducible first | exact HB.out | apply below_alloc | apply pw_below_drewN | apply below_drew1 | refine below_set ?_ GE168.out) | exact HB.out)⟩
  · replace c2 := Bool.eq_false_iff.mpr c2
    subst c2
    have H1 : ((spec_Varint.f k (l0_1.length : Int)).bind fun t172 => (if t172.length + l0_1.length < 140737488355328 then (some (t172 ++ l0_1)) else (none))) = some r := by rw [if_neg (show ¬ (false = true) by decide)] at H; exact H
    clear H
    have H := H1
    clear H1
    replace H := Option.bind_eq_some_iff.mp H
    obtain ⟨t172, A70, H⟩ := H
    replace H : (if t172.length + l0_1.length < 140737488355328 then (some (t172 ++ l0_1)) else (none)) = some r := H
    have A7 := Aside0.mk A70
    clear A70
    by_cases c8 : t172.length + l0_1.length < 140737488355328
    · rw [if_pos c8] at H
      have LMc8 := Aside0.mk c8
      clear c8
      obtain ⟨y175, hy175⟩ : ∃ y_ : List Int, y_ = (t172 ++ l0_1) := ⟨_, rfl⟩
      replace H : (some y175) = some r := by first | (rw [hy175]; with_reducible exact H) | (have H2_ := (Option.bind_some _ _).symm.trans H; rw [hy175]; with_reducible exact H2_) | (have H2_ := (Option.bind_some _ _).symm.trans H; with_reducible exact H2_) | with_reducible exact H | (rw [hy175]; exact H) | exact H
      have Ny175 := Aside0.mk hy175
      clear hy175
      obtain rfl := Option.some.inj H
      go_enter Tryd.func47, Tryd.ntmps47
      try go_wp2_with (first | ((with_reducible refine gate_dst (N := 1) rfl ?_); refine box_event ?hg (N := 1) ?hd (cs := #[.bool false, .slice A0_1 l0_1.length c0_1]) (t := 24) ?hr ?_; (case hd => rfl); (case hg => rfl); (case hr => first | (go_simp; done) | (go_simp; rfl)); intro gb168 hg w9 hbox hb; have n0_ := Aside0.mk (below_step (by repeat (first | (with_reducible first | exact HB.out | apply below_alloc | apply pw_below_drewN | apply below_drew1) | exact HB.out)) hb); have n1_ := Aside0.mk (hbox); have n2_ := Aside0.mk ((by rw [hg]; exact (below_size (by repeat (first | (with_reducible first | exact HB.out | apply below_alloc | apply pw_below_drewN | apply below_drew1) | exact HB.out))) : w.heap.size ≤ gb168)); have n3_ := Aside0.mk ((by rw [hg]; exact (below_size (by repeat (first | (with_reducible first | exact HB.out | apply below_alloc | apply pw_below_drewN | apply below_drew1) | exact HB.out))) : w.heap.size ≤ gb168)); clear HB; have HB := n0_; have BK168 := n1_; have GW168 := n2_; have GE168 := n3_; clear n0_ n1_ n2_ n3_; clear hb hbox hg; have hcz10_0 : w9.cell? ⟨gb168, 0, none⟩ = some (.bool false) := (blk_cell BK168.out 0).trans rfl; have hcz10_1 : w9.cell? ⟨gb168, 1, none⟩ = some (.slice A0_1 l0_1.length c0_1) := (blk_cell BK168.out 1).trans rfl; have hfz10_0 := blk_frozen BK168.out 0; have hfz10_1 := blk_frozen BK168.out 1))
      have n0_ := Aside0.mk (blk_drew BK168.out)
      have n1_ := Aside0.mk (below_drew1 HB.out)
      clear BK168
      clear HB
      have BK168 := n0_
      have HB := n1_
      clear n0_ n1_
      refine start_ (n := 8) (S := fun w' => w'.cell? ⟨gb168, 0, none⟩ = some (.bool false) ∧ w'.cell? ⟨gb168, 1, none⟩ = some (.slice A0_1 l0_1.length c0_1)) (ds := []) #[false, false, false, false, false, false, false, false] (by kernel_rfl) rfl rfl ⟨(blk_cell BK168.out 0).trans rfl, (blk_cell BK168.out 1).trans rfl⟩ (fun hHeld => ?_); refine with_tabW spec_OctetsBytes.tab3 spec_OctetsBytes.bits3 (fun HT_ HW_ => ?_)
      generalize w9.drew = w11 at BK168 HB hHeld ⊢
      refine pure_ (i := 0) (N := some 6) (v := ?_) (a' := ?_) #[true, false, false, false, false, false, false, false] rfl rfl (any_of HT_.out (by kernel_rfl)) (fun _ _ _ h => h) (Or.inl ⟨by rfl, ?_⟩) ?_ ?_
      rotate_left
      · intro w'
        go_simp
        with_reducible rfl
      rotate_left
      · simp only [Act.put, List.setIfInBounds_toArray, List.set_cons_zero, List.set_cons_succ, i64_w, i32_w]
        rfl
      refine pure_ (i := 4) (N := some 10) (v := ?_) (a' := ?_) #[true, false, false, false, true, false, false, false] rfl rfl (any_of HT_.out (by kernel_rfl)) (fun _ _ _ h => h) (Or.inl ⟨by rfl, ?_⟩) ?_ ?_
      rotate_left
      · intro w'
        go_simp
        with_reducible rfl
      rotate_left
      · simp only [Act.put, List.setIfInBounds_toArray, List.set_cons_zero, List.set_cons_succ, i64_w, i32_w]
        rfl
      refine take_ (i := 1) (N := some 7) (v := ?_) (a' := ?_) #[true, true, false, false, true, false, false, false] rfl rfl (take_ofW HT_.out HW_.out (by kernel_rfl)) (fun _ _ _ h => h) (Or.inl ⟨by rfl, ?_⟩) hHeld ?_ ?_
      rotate_left
      · rintro w' ⟨s0, s1⟩
        go_simp
        with_reducible rfl
      rotate_left
      · simp only [Act.put, List.setIfInBounds_toArray, List.set_cons_zero, List.set_cons_succ, i64_w, i32_w]
        rfl
      refine pure_ (i := 2) (N := some 8) (v := ?_) (a' := ?_) #[true, true, true, false, true, false, false, false] rfl rfl (any_of HT_.out (by kernel_rfl)) (fun _ _ _ h => h) (Or.inl ⟨by rfl, ?_⟩) ?_ ?_
      rotate_left
      · intro w'
        go_simp
        with_reducible rfl
      rotate_left
      · simp only [Act.put, List.setIfInBounds_toArray, List.set_cons_zero, List.set_cons_succ, i64_w, i32_w]
        rfl
      refine take_ (i := 5) (N := some 11) (v := ?_) (a' := ?_) #[true, true, true, false, true, true, false, false] rfl rfl (take_ofW HT_.out HW_.out (by kernel_rfl)) (fun _ _ _ h => h) (Or.inl ⟨by rfl, ?_⟩) hHeld ?_ ?_
      rotate_left
      · rintro w' ⟨s0, s1⟩
        go_simp
        with_reducible rfl
      rotate_left
      · simp only [Act.put, List.setIfInBounds_toArray, List.set_cons_zero, List.set_cons_succ, i64_w, i32_w]
        rfl
      refine one_ (i := 3) (N := some 9) #[true, true, true, true, true, true, false, false] rfl rfl (one_of HT_.out (by kernel_rfl)) (by decide) (fun K hK => ?_)
      refine goes_ Tryd.func46 (by kernel_rfl) rfl #[.int .i64 (l0_1.length : Int)] (by rfl) rfl rfl (by (try simp only [List.map_toArray, List.map_cons, List.map_nil]); first | done | rfl | (simp only [List.length_drop, List.length_take]; rfl)) ?_
      with_reducible refine (spec_Varint.calls k (l0_1.length : Int) t172 _ A7.out).mono ?_
      rintro e w12 ⟨v173, rfl, ho0, hb⟩
      refine ⟨_, rfl, ?_⟩
      have n0_ := Aside0.mk (Kd.R_lower ho0 (below_size (by repeat (first | (with_reducible first | exact HB.out | apply below_alloc | apply pw_below_drewN | apply below_drew1 | refine below_set ?_ GE168.out) | exact HB.out))))
      have n1_ := Aside0.mk (blk_below (g := gb168) (o := .cells #[.bool false, .slice A0_1 l0_1.length c0_1] 24 (0, 0)) (by (with_reducible repeat (first | refine blk_drewN ?_ _ | refine blk_drew ?_ | refine blk_alloc ?_ _)); exact BK168.out) hb)
      have n2_ := Aside0.mk (below_step (by repeat (first | (with_reducible first | exact HB.out | apply below_alloc | apply pw_below_drewN | apply below_drew1 | refine below_set ?_ GE168.out) | exact HB.out)) hb)
      clear BK168
      clear HB
      have HO174 := n0_
      have BK168 := n1_
      have HB := n2_
      clear n0_ n1_ n2_
      (try clear hb)
      (try clear hb2)
      (try clear hk)
      (try clear hi)
      (try clear ho0)
      refine hK.out _ _ ⟨(blk_cell BK168.out 0).trans rfl, (blk_cell BK168.out 1).trans rfl⟩ (fun hHeld => ?_)
      clear hK K
      refine norm_ (a' := ?_) ?_ ?_
      rotate_left
      · show Act.put _ (some 9) _ = _
        simp only [Act.put, List.setIfInBounds_toArray, List.set_cons_zero, List.set_cons_succ, i64_w, i32_w]
        rfl
      refine one_ (i := 6) (N := some 12) #[true, true, true, true, true, true, true, false] rfl rfl (one_of HT_.out (by kernel_rfl)) (by decide) (fun K hK => ?_)
      refine Kd.R_append_rows_step (Kd.int .u8) (w0 := w) w.heap.size (by rfl) (.tmp 9) (.tmp 11) 22 5 (.int .u8 0) 1 rfl Tryd.underlying22 info5 rfl (by decide) (by omega) v173 t172 l0_1 _ _ _ (fun _ => True) (fun _ => False) rfl rfl ?aO ?aR (fun _ _ h => h) (fun _ h => h.elim) ?aF ?aB ?aS ?aL ?_
      (case aR => repeat (first | exact (Kd.C_below HR0_1.out HB.out) | (with_reducible refine Kd.C_alloc ?_ _) | (with_reducible refine Kd.C_drewN ?_ _) | (with_reducible refine Kd.C_drew ?_)))
      (case aB => exact (by repeat (first | (with_reducible first | exact HB.out | apply below_alloc | apply pw_below_drewN | apply below_drew1 | refine below_set ?_ GE168.out) | exact HB.out)))
      (case aF => exact (fun _ _ => trivial))
      (case aO => exact (by (with_reducible repeat (first | apply Kd.R_alloc | apply Kd.R_drewN | apply Kd.R_drew)); exact HO174.out))
      (case aS => exact (below_size (by repeat (first | (with_reducible first | exact HB.out | apply below_alloc | apply pw_below_drewN | apply below_drew1 | refine below_set ?_ GE168.out) | exact HB.out))))
      (case aL => have := LMc8.out; omega)
      intro v176 w13 ho hb hg hat
      rw [← Ny175.out] at ho
      have n0_ := Aside0.mk (blk_grown (g := gb168) (o := .cells #[.bool false, .slice A0_1 l0_1.length c0_1] 24 (0, 0)) (by (with_reducible repeat (first | refine blk_drewN ?_ _ | refine blk_drew ?_ | refine blk_alloc ?_ _)); exact BK168.out) hg (Kd.R_ne HO174.out BK168.out (by decide)))
      have n1_ := Aside0.mk (hb)
      have n2_ := Aside0.mk (ho)
      clear BK168
      clear HB
      clear HO174
      have BK168 := n0_
      have HB := n1_
      have HO177 := n2_
      clear n0_ n1_ n2_
      clear ho hb hg hat
      refine hK.out _ _ ⟨(blk_cell BK168.out 0).trans rfl, (blk_cell BK168.out 1).trans rfl⟩ (fun hHeld => ?_)
      clear hK K
      refine norm_ (a' := ?_) ?_ ?_
      rotate_left
      · show Act.put _ (some 12) _ = _
        simp only [Act.put, List.setIfInBounds_toArray, List.set_cons_zero, List.set_cons_succ, i64_w, i32_w]
        rfl
      refine pure_ (i := 7) (N := some 2) (v := ?_) (a' := ?_) #[true, true, true, true, true, true, true, true] rfl rfl (any_of HT_.out (by kernel_rfl)) (fun _ _ _ h => h) (Or.inl ⟨by rfl, ?_⟩) ?_ ?_
      rotate_left
      · intro w'
        go_simp
        with_reducible rfl
      rotate_left
      · simp only [Act.put, List.setIfInBounds_toArray, List.set_cons_zero, List.set_cons_succ, i64_w, i32_w]
        rfl
      refine done_ (done_of HT_.out (by kernel_rfl)) ?_
      try go_wp2
      go_ret
      exact ⟨_, by first | rfl | (simp [errW_none, errW_some] <;> rfl) | (simp [*, errW_none, errW_some] <;> rfl), by (with_reducible repeat (first | apply Kd.R_alloc | apply Kd.R_drewN | apply Kd.R_drew)); exact HO177.out, by repeat (first | (with_reducible first | exact HB.out | apply below_alloc | apply pw_below_drewN | apply below_drew1 | refine below_set ?_ GE168.out) | exact HB.out)⟩
    · rw [if_neg c8] at H
      exact absurd H (by simp)

-- NOT PRINTED: function 27 (spec_HeaderBytes)

/-- A state of type 105 at block g of W; what its slices lead to came in by w0. -/
def IsS105 (w0 W : World) (g : Nat) (f0 : Int) (f1 : Int) (f2 : Int) (f3 : Int) (f4 : Int) (f5 : List Int) (f6 : List Int) : Prop := ∃ A5 c5, ∃ A6 c6, W.heap[g]? = some (.cells #[.int .i64 f0, .int .i32 f1, .int .i32 f2, .int .i8 f3, .int .i8 f4, .slice A5 f5.length c5, .slice A6 f6.length c6] 105 (0, 0)) ∧ w0.heap.size ≤ g ∧ Kd.C (Kd.int .u8) w0 A5 f5.length f5 ∧ Kd.C (Kd.int .u8) w0 A6 f6.length f6
theorem IsS105.grown {w0 W : World} {g : Nat} {f0 : Int} {f1 : Int} {f2 : Int} {f3 : Int} {f4 : Int} {f5 : List Int} {f6 : List Int} {W1 : World} {row : Option Nat} (h : IsS105 w0 W g f0 f1 f2 f3 f4 f5 f6) (hw : W.grownBy W1 row) (hne : some g ≠ row) : IsS105 w0 W1 g f0 f1 f2 f3 f4 f5 f6 := by
  obtain ⟨A5, c5, A6, c6, hb, hg, hr5, hr6⟩ := h
  exact ⟨A5, c5, A6, c6, blk_grown hb hw hne, hg, hr5, hr6⟩
theorem IsS105.below {w0 W : World} {g : Nat} {f0 : Int} {f1 : Int} {f2 : Int} {f3 : Int} {f4 : Int} {f5 : List Int} {f6 : List Int} {W1 : World} (h : IsS105 w0 W g f0 f1 f2 f3 f4 f5 f6) (hw : Below W.heap.size W W1) : IsS105 w0 W1 g f0 f1 f2 f3 f4 f5 f6 := h.grown (grown_of_below hw none) (by simp)
theorem IsS105.alloc {w0 W : World} {g : Nat} {f0 : Int} {f1 : Int} {f2 : Int} {f3 : Int} {f4 : Int} {f5 : List Int} {f6 : List Int} (h : IsS105 w0 W g f0 f1 f2 f3 f4 f5 f6) (o : Obj) : IsS105 w0 (W.alloc o) g f0 f1 f2 f3 f4 f5 f6 := h.below (below_alloc (Below.refl _ _) o)
theorem IsS105.drewN {w0 W : World} {g : Nat} {f0 : Int} {f1 : Int} {f2 : Int} {f3 : Int} {f4 : Int} {f5 : List Int} {f6 : List Int} (h : IsS105 w0 W g f0 f1 f2 f3 f4 f5 f6) (m : Nat) : IsS105 w0 (W.drewN m) g f0 f1 f2 f3 f4 f5 f6 := h
theorem IsS105.drew {w0 W : World} {g : Nat} {f0 : Int} {f1 : Int} {f2 : Int} {f3 : Int} {f4 : Int} {f5 : List Int} {f6 : List Int} (h : IsS105 w0 W g f0 f1 f2 f3 f4 f5 f6) : IsS105 w0 W.drew g f0 f1 f2 f3 f4 f5 f6 := h
theorem IsS105.ge {w0 W : World} {g : Nat} {f0 : Int} {f1 : Int} {f2 : Int} {f3 : Int} {f4 : Int} {f5 : List Int} {f6 : List Int} (h : IsS105 w0 W g f0 f1 f2 f3 f4 f5 f6) : w0.heap.size ≤ g := by
  obtain ⟨A5, c5, A6, c6, hb, hg, hr5, hr6⟩ := h
  exact hg
theorem IsS105.set_0 {w0 W : World} {g : Nat} {f0 : Int} {f1 : Int} {f2 : Int} {f3 : Int} {f4 : Int} {f5 : List Int} {f6 : List Int} (h : IsS105 w0 W g f0 f1 f2 f3 f4 f5 f6) (x : Int) : IsS105 w0 (W.setCell ⟨g, 0, none⟩ (.int .i64 x)) g x f1 f2 f3 f4 f5 f6 := by
  obtain ⟨A5, c5, A6, c6, hb, hg, hr5, hr6⟩ := h
  exact ⟨A5, c5, A6, c6, by simpa using blk_set hb 0 (.int .i64 x), hg, hr5, hr6⟩
theorem IsS105.set_1 {w0 W : World} {g : Nat} {f0 : Int} {f1 : Int} {f2 : Int} {f3 : Int} {f4 : Int} {f5 : List Int} {f6 : List Int} (h : IsS105 w0 W g f0 f1 f2 f3 f4 f5 f6) (x : Int) : IsS105 w0 (W.setCell ⟨g, 1, none⟩ (.int .i32 x)) g f0 x f2 f3 f4 f5 f6 := by
  obtain ⟨A5, c5, A6, c6, hb, hg, hr5, hr6⟩ := h
  exact ⟨A5, c5, A6, c6, by simpa using blk_set hb 1 (.int .i32 x), hg, hr5, hr6⟩
theorem IsS105.set_2 {w0 W : World} {g : Nat} {f0 : Int} {f1 : Int} {f2 : Int} {f3 : Int} {f4 : Int} {f5 : List Int} {f6 : List Int} (h : IsS105 w0 W g f0 f1 f2 f3 f4 f5 f6) (x : Int) : IsS105 w0 (W.setCell ⟨g, 2, none⟩ (.int .i32 x)) g f0 f1 x f3 f4 f5 f6 := by
  obtain ⟨A5, c5, A6, c6, hb, hg, hr5, hr6⟩ := h
  exact ⟨A5, c5, A6, c6, by simpa using blk_set hb 2 (.int .i32 x), hg, hr5, hr6⟩
theorem IsS105.set_3 {w0 W : World} {g : Nat} {f0 : Int} {f1 : Int} {f2 : Int} {f3 : Int} {f4 : Int} {f5 : List Int} {f6 : List Int} (h : IsS105 w0 W g f0 f1 f2 f3 f4 f5 f6) (x : Int) : IsS105 w0 (W.setCell ⟨g, 3, none⟩ (.int .i8 x)) g f0 f1 f2 x f4 f5 f6 := by
  obtain ⟨A5, c5, A6, c6, hb, hg, hr5, hr6⟩ := h
  exact ⟨A5, c5, A6, c6, by simpa using blk_set hb 3 (.int .i8 x), hg, hr5, hr6⟩
theorem IsS105.set_4 {w0 W : World} {g : Nat} {f0 : Int} {f1 : Int} {f2 : Int} {f3 : Int} {f4 : Int} {f5 : List Int} {f6 : List Int} (h : IsS105 w0 W g f0 f1 f2 f3 f4 f5 f6) (x : Int) : IsS105 w0 (W.setCell ⟨g, 4, none⟩ (.int .i8 x)) g f0 f1 f2 f3 x f5 f6 := by
  obtain ⟨A5, c5, A6, c6, hb, hg, hr5, hr6⟩ := h
  exact ⟨A5, c5, A6, c6, by simpa using blk_set hb 4 (.int .i8 x), hg, hr5, hr6⟩
/-! ### kmsg_MessageV0_Default: function 70 -/
def kmsg_MessageV0_Default.f (s0_0 : Int) (s0_1 : Int) (s0_2 : Int) (s0_3 : Int) (s0_4 : Int) (s0_5 : List Int) (s0_6 : List Int) : Option (Int × Int × Int × Int × Int) := some (s0_0, s0_1, s0_2, s0_3, s0_4)
set_option maxHeartbeats 8000000 in
set_option maxRecDepth 100000 in
theorem kmsg_MessageV0_Default.calls (g : Nat) (s0_0 : Int) (s0_1 : Int) (s0_2 : Int) (s0_3 : Int) (s0_4 : Int) (s0_5 : List Int) (s0_6 : List Int) (r1 : Int) (r2 : Int) (r3 : Int) (r4 : Int) (r5 : Int) (w0 w : World) (hI : IsS105 w0 w g s0_0 s0_1 s0_2 s0_3 s0_4 s0_5 s0_6) (hB : Below w0.heap.size w0 w) (h : kmsg_MessageV0_Default.f s0_0 s0_1 s0_2 s0_3 s0_4 s0_5 s0_6 = some (r1, r2, r3, r4, r5)) :
    Calls Tryd.prog 70 #[.pointer (some ⟨g, 0, none⟩)] w fun e w' => e = .returned (.tuple #[]) ∧ IsS105 w0 w' g r1 r2 r3 r4 r5 s0_5 s0_6 ∧ Below w0.heap.size w0 w' ∧ KeepBut w w' g none := by
  have HI0 := Aside0.mk hI
  have HK := Aside0.mk (KeepBut.refl w g none)
  have HL := Aside0.mk hB.size
  clear hI
  have HW0 := Aside0.mk hB.size
  have HB := Aside0.mk hB
  clear hB
  have H : (some (s0_0, s0_1, s0_2, s0_3, s0_4)) = some (r1, r2, r3, r4, r5) := h
  clear h
  simp only [Option.some.injEq, Prod.mk.injEq] at H
  obtain ⟨rfl, rfl, rfl, rfl, rfl⟩ := H
  go_enter Tryd.func70, Tryd.ntmps70
  go_wp2
  first | go_end0 | ((try simp only [Exit.inBlock, Exit.then]); refine bodyPost_ret (results_none rfl _ _ _) rfl ?_)
  exact ⟨by first | rfl | (simp [errW_none, errW_some] <;> rfl) | (simp [*, errW_none, errW_some] <;> rfl), by repeat (first | (with_reducible first | exact HI0.out | apply IsS105.alloc | apply IsS105.drewN | apply IsS105.drew | apply IsS105.set_0 | apply IsS105.set_1 | apply IsS105.set_2 | apply IsS105.set_3 | apply IsS105.set_4) | exact HI0.out), by repeat (first | (with_reducible first | exact HB.out | apply below_alloc | apply pw_below_drewN | apply below_drew1 | refine below_set ?_ (IsS105.ge HI0.out)) | exact HB.out), by repeat (first | (with_reducible first | exact HK.out | apply KeepBut.set_ | apply keep_drewN | apply keep_drew | apply keep_alloc) | exact HK.out)⟩

-- NOT PRINTED: function 84 (binary_bigEndian_Uint64)

-- NOT PRINTED: function 82 (kbin_Reader_readUint64)

-- NOT PRINTED: function 71 (kbin_Reader_Int64)

-- NOT PRINTED: function 72 (kbin_Reader_Int8)

-- NOT PRINTED: function 73 (kbin_Reader_NullableBytes)

-- NOT PRINTED: function 63 (kmsg_MessageV0_readFrom)

-- NOT PRINTED: function 48 (kmsg_MessageV0_ReadFrom)

-- NOT PRINTED: function 28 (impl_TellV0)

/-! ### spec_fixedOctets: function 49 -/
def spec_fixedOctets.f (k : Nat) (a0_0 : Bool) (l0_1 : List Int) : Option (List Int) := if a0_0 = true then ((spec_Fixed.f k (-1) 4).bind fun t200 => (some t200)) else ((spec_Fixed.f k (l0_1.length : Int) 4).bind fun t203 => (if t203.length + l0_1.length < 140737488355328 then (some (t203 ++ l0_1)) else (none)))
def spec_fixedOctets.T3 : Bool × List (List Nat × List Nat) := (true, [([], []), ([0], [0]), ([1], [1]), ([2], [2]), ([], []), ([4], [4]), ([3, 5, 3], [3, 5]), ([6, 6, 0, 1, 2, 3, 4, 5, 6], [6])])
def spec_fixedOctets.B3 : List Nat := [0, 1, 3, 7, 0, 16, 63, 127]
theorem spec_fixedOctets.tab3 : rtab .any (opsOf Tryd.f49 3) = spec_fixedOctets.T3 := by kernel_rfl
theorem spec_fixedOctets.bits3 : waitsOk spec_fixedOctets.T3.2 spec_fixedOctets.B3 = true := by kernel_rfl
set_option maxHeartbeats 8000000 in
set_option maxRecDepth 100000 in
theorem spec_fixedOctets.calls (k : Nat) (a0_0 : Bool) (A0_1 : Option Addr) (c0_1 : Nat) (l0_1 : List Int) (r : List Int) (w : World) (hr0_1 : Kd.C (Kd.int .u8) w A0_1 l0_1.length l0_1) (hc0_1 : l0_1.length ≤ c0_1) (h : spec_fixedOctets.f k a0_0 l0_1 = some r) :
    Calls Tryd.prog 49 #[.agg #[.bool a0_0, .slice A0_1 l0_1.length c0_1]] w fun e w' => ∃ v0_ : Value, e = .returned (v0_) ∧ Kd.R (Kd.int .u8) 5 w' w.heap.size (fun _ => True) v0_ r ∧ Below w.heap.size w w' := by
  have hu24 := Tryd.underlying24
  have HR0_1 := Aside0.mk hr0_1
  have HC0_1 := Aside0.mk hc0_1
  clear hr0_1 hc0_1
  have HB := Aside0.mk (Below.refl w.heap.size w)
  have H : (if a0_0 = true then ((spec_Fixed.f k (-1) 4).bind fun t200 => (some t200)) else ((spec_Fixed.f k (l0_1.length : Int) 4).bind fun t203 => (if t203.length + l0_1.length < 140737488355328 then (some (t203 ++ l0_1)) else (none)))) = some r := h
  clear h
  by_cases c2 : a0_0 = true
  · subst c2
    have H1 : ((spec_Fixed.f k (-1) 4).bind fun t200 => (some t200)) = some r := by rw [if_pos rfl] at H; exact H
    clear H
    have H := H1
    clear H1
    replace H := Option.bind_eq_some_iff.mp H
    obtain ⟨t200, A30, H⟩ := H
    replace H : (some t200) = some r := H
    have A3 := Aside0.mk A30
    clear A30
    obtain rfl := Option.some.inj H
    go_enter Tryd.func49, Tryd.ntmps49
    go_wp2_with (first | ((with_reducible refine gate_dst (N := 1) rfl ?_); refine box_event ?hg (N := 1) ?hd (cs := #[.bool true, .slice A0_1 l0_1.length c0_1]) (t := 24) ?hr ?_; (case hd => rfl); (case hg => rfl); (case hr => first | (go_simp; done) | (go_simp; rfl)); intro gb199 hg w4 hbox hb; have n0_ := Aside0.mk (below_step (by repeat (first | (with_reducible first | exact HB.out | apply below_alloc | apply pw_below_drewN | apply below_drew1) | exact HB.out)) hb); have n1_ := Aside0.mk (hbox); have n2_ := Aside0.mk ((by rw [hg]; exact (below_size (by repeat (first | (with_reducible first | exact HB.out | apply below_alloc | apply pw_below_drewN | apply below_drew1) | exact HB.out))) : w.heap.size ≤ gb199)); have n3_ := Aside0.mk ((by rw [hg]; exact (below_size (by repeat (first | (with_reducible first | exact HB.out | apply below_alloc | apply pw_below_drewN | apply below_drew1) | exact HB.out))) : w.heap.size ≤ gb199)); clear HB; have HB := n0_; have BK199 := n1_; have GW199 := n2_; have GE199 := n3_; clear n0_ n1_ n2_ n3_; clear hb hbox hg; have hcz5_0 : w4.cell? ⟨gb199, 0, none⟩ = some (.bool true) := (blk_cell BK199.out 0).trans rfl; have hcz5_1 : w4.cell? ⟨gb199, 1, none⟩ = some (.slice A0_1 l0_1.length c0_1) := (blk_cell BK199.out 1).trans rfl; have hfz5_0 := blk_frozen BK199.out 0; have hfz5_1 := blk_frozen BK199.out 1) | ((with_reducible refine gate_callee (f := 39) rfl ?_); refine goesL_ (some 5) rfl rfl Tryd.func39 (by kernel_rfl) rfl #[.int .i64 (-1), .int .i64 4] rfl (by (try simp only [List.map_toArray, List.map_cons, List.map_nil]); first | done | rfl | (simp only [List.length_drop, List.length_take]; rfl)) ?_; (with_reducible refine (spec_Fixed.calls k (-1) 4 t200 _ A3.out).mono ?_); rintro e w6 ⟨v201, rfl, ho0, hb⟩; refine ⟨_, rfl, ?_⟩; have n0_ := Aside0.mk (Kd.R_lower ho0 (below_size (by repeat (first | (with_reducible first | exact HB.out | apply below_alloc | apply pw_below_drewN | apply below_drew1 | refine below_set ?_ GE199.out) | exact HB.out)))); have n1_ := Aside0.mk (blk_below (g := gb199) (o := .cells #[.bool true, .slice A0_1 l0_1.length c0_1] 24 (0, 0)) (by (with_reducible repeat (first | refine blk_drewN ?_ _ | refine blk_drew ?_ | refine blk_alloc ?_ _)); exact BK199.out) hb); have n2_ := Aside0.mk (below_step (by repeat (first | (with_reducible first | exact HB.out | apply below_alloc | apply pw_below_drewN | apply below_drew1 | refine below_set ?_ GE199.out) | exact HB.out)) hb); clear BK199; clear HB; have HO202 := n0_; have BK199 := n1_; have HB := n2_; clear n0_ n1_ n2_; (try clear hb); (try clear hb2); (try clear hk); (try clear hi); (try clear ho0)))
    go_ret
    exact ⟨_, by first | rfl | (simp [errW_none, errW_some] <;> rfl) | (simp [*, errW_none, errW_some] <;> rfl), by (with_reducible repeat (first | apply Kd.R_alloc | apply Kd.R_drewN | apply Kd.R_drew)); exact HO202.out, by repeat (first | (with_reducible first | exact HB.out | apply below_alloc | apply pw_below_drewN | apply below_drew1 | refine below_set ?_ GE199.out) | exact HB.out)⟩
  · replace c2 := Bool.eq_false_iff.mpr c2
    subst c2
    have H1 : ((spec_Fixed.f k (l0_1.length : Int) 4).bind fun t203 => (if t203.length + l0_1.length < 140737488355328 then (some (t203 ++ l0_1)) else (none))) = some r := by rw [if_neg (show ¬ (false = true) by decide)] at H; exact H
    clear H
    have H := H1
    clear H1
    replace H := Option.bind_eq_some_iff.mp H
    obtain ⟨t203, A70, H⟩ := H
    replace H : (if t203.length + l0_1.length < 140737488355328 then (some (t203 ++ l0_1)) else (none)) = some r := H
    have A7 := Aside0.mk A70
    clear A70
    by_cases c8 : t203.length + l0_1.length < 140737488355328
    · rw [if_pos c8] at H
      have LMc8 := Aside0.mk c8
      clear c8
      obtain ⟨y206, hy206⟩ : ∃ y_ : List Int, y_ = (t203 ++ l0_1) := ⟨_, rfl⟩
      replace H : (some y206) = some r := by first | (rw [hy206]; with_reducible exact H) | (have H2_ := (Option.bind_some _ _).symm.trans H; rw [hy206]; with_reducible exact H2_) | (have H2_ := (Option.bind_some _ _).symm.trans H; with_reducible exact H2_) | with_reducible exact H | (rw [hy206]; exact H) | exact H
      have Ny206 := Aside0.mk hy206
      clear hy206
      obtain rfl := Option.some.inj H
      go_enter Tryd.func49, Tryd.ntmps49
      try go_wp2_with (first | ((with_reducible refine gate_dst (N := 1) rfl ?_); refine box_event ?hg (N := 1) ?hd (cs := #[.bool false, .slice A0_1 l0_1.length c0_1]) (t := 24) ?hr ?_; (case hd => rfl); (case hg => rfl); (case hr => first | (go_simp; done) | (go_simp; rfl)); intro gb199 hg w9 hbox hb; have n0_ := Aside0.mk (below_step (by repeat (first | (with_reducible first | exact HB.out | apply below_alloc | apply pw_below_drewN | apply below_drew1) | exact HB.out)) hb); have n1_ := Aside0.mk (hbox); have n2_ := Aside0.mk ((by rw [hg]; exact (below_size (by repeat (first | (with_reducible first | exact HB.out | apply below_alloc | apply pw_below_drewN | apply below_drew1) | exact HB.out))) : w.heap.size ≤ gb199)); have n3_ := Aside0.mk ((by rw [hg]; exact (below_size (by repeat (first | (with_reducible first | exact HB.out | apply below_alloc | apply pw_below_drewN | apply below_drew1) | exact HB.out))) : w.heap.size ≤ gb199)); clear HB; have HB := n0_; have BK199 := n1_; have GW199 := n2_; have GE199 := n3_; clear n0_ n1_ n2_ n3_; clear hb hbox hg; have hcz10_0 : w9.cell? ⟨gb199, 0, none⟩ = some (.bool false) := (blk_cell BK199.out 0).trans rfl; have hcz10_1 : w9.cell? ⟨gb199, 1, none⟩ = some (.slice A0_1 l0_1.length c0_1) := (blk_cell BK199.out 1).trans rfl; have hfz10_0 := blk_frozen BK199.out 0; have hfz10_1 := blk_frozen BK199.out 1))
      have n0_ := Aside0.mk (blk_drew BK199.out)
      have n1_ := Aside0.mk (below_drew1 HB.out)
      clear BK199
      clear HB
      have BK199 := n0_
      have HB := n1_
      clear n0_ n1_
      refine start_ (n := 8) (S := fun w' => w'.cell? ⟨gb199, 0, none⟩ = some (.bool false) ∧ w'.cell? ⟨gb199, 1, none⟩ = some (.slice A0_1 l0_1.length c0_1)) (ds := []) #[false, false, false, false, false, false, false, false] (by kernel_rfl) rfl rfl ⟨(blk_cell BK199.out 0).trans rfl, (blk_cell BK199.out 1).trans rfl⟩ (fun hHeld => ?_); refine with_tabW spec_fixedOctets.tab3 spec_fixedOctets.bits3 (fun HT_ HW_ => ?_)
      generalize w9.drew = w11 at BK199 HB hHeld ⊢
      refine pure_ (i := 0) (N := some 6) (v := ?_) (a' := ?_) #[true, false, false, false, false, false, false, false] rfl rfl (any_of HT_.out (by kernel_rfl)) (fun _ _ _ h => h) (Or.inl ⟨by rfl, ?_⟩) ?_ ?_
      rotate_left
      · intro w'
        go_simp
        with_reducible rfl
      rotate_left
      · simp only [Act.put, List.setIfInBounds_toArray, List.set_cons_zero, List.set_cons_succ, i64_w, i32_w]
        rfl
      refine pure_ (i := 4) (N := some 10) (v := ?_) (a' := ?_) #[true, false, false, false, true, false, false, false] rfl rfl (any_of HT_.out (by kernel_rfl)) (fun _ _ _ h => h) (Or.inl ⟨by rfl, ?_⟩) ?_ ?_
      rotate_left
      · intro w'
        go_simp
        with_reducible rfl
      rotate_left
      · simp only [Act.put, List.setIfInBounds_toArray, List.set_cons_zero, List.set_cons_succ, i64_w, i32_w]
        rfl
      refine take_ (i := 1) (N := some 7) (v := ?_) (a' := ?_) #[true, true, false, false, true, false, false, false] rfl rfl (take_ofW HT_.out HW_.out (by kernel_rfl)) (fun _ _ _ h => h) (Or.inl ⟨by rfl, ?_⟩) hHeld ?_ ?_
      rotate_left
      · rintro w' ⟨s0, s1⟩
        go_simp
        with_reducible rfl
      rotate_left
      · simp only [Act.put, List.setIfInBounds_toArray, List.set_cons_zero, List.set_cons_succ, i64_w, i32_w]
        rfl
      refine pure_ (i := 2) (N := some 8) (v := ?_) (a' := ?_) #[true, true, true, false, true, false, false, false] rfl rfl (any_of HT_.out (by kernel_rfl)) (fun _ _ _ h => h) (Or.inl ⟨by rfl, ?_⟩) ?_ ?_
      rotate_left
      · intro w'
        go_simp
        with_reducible rfl
      rotate_left
      · simp only [Act.put, List.setIfInBounds_toArray, List.set_cons_zero, List.set_cons_succ, i64_w, i32_w]
        rfl
      refine take_ (i := 5) (N := some 11) (v := ?_) (a' := ?_) #[true, true, true, false, true, true, false, false] rfl rfl (take_ofW HT_.out HW_.out (by kernel_rfl)) (fun _ _ _ h => h) (Or.inl ⟨by rfl, ?_⟩) hHeld ?_ ?_
      rotate_left
      · rintro w' ⟨s0, s1⟩
        go_simp
        with_reducible rfl
      rotate_left
      · simp only [Act.put, List.setIfInBounds_toArray, List.set_cons_zero, List.set_cons_succ, i64_w, i32_w]
        rfl
      refine one_ (i := 3) (N := some 9) #[true, true, true, true, true, true, false, false] rfl rfl (one_of HT_.out (by kernel_rfl)) (by decide) (fun K hK => ?_)
      refine goes_ Tryd.func39 (by kernel_rfl) rfl #[.int .i64 (l0_1.length : Int), .int .i64 4] (by rfl) rfl rfl (by (try simp only [List.map_toArray, List.map_cons, List.map_nil]); first | done | rfl | (simp only [List.length_drop, List.length_take]; rfl)) ?_
      with_reducible refine (spec_Fixed.calls k (l0_1.length : Int) 4 t203 _ A7.out).mono ?_
      rintro e w12 ⟨v204, rfl, ho0, hb⟩
      refine ⟨_, rfl, ?_⟩
      have n0_ := Aside0.mk (Kd.R_lower ho0 (below_size (by repeat (first | (with_reducible first | exact HB.out | apply below_alloc | apply pw_below_drewN | apply below_drew1 | refine below_set ?_ GE199.out) | exact HB.out))))
      have n1_ := Aside0.mk (blk_below (g := gb199) (o := .cells #[.bool false, .slice A0_1 l0_1.length c0_1] 24 (0, 0)) (by (with_reducible repeat (first | refine blk_drewN ?_ _ | refine blk_drew ?_ | refine blk_alloc ?_ _)); exact BK199.out) hb)
      have n2_ := Aside0.mk (below_step (by repeat (first | (with_reducible first | exact HB.out | apply below_alloc | apply pw_below_drewN | apply below_drew1 | refine below_set ?_ GE199.out) | exact HB.out)) hb)
      clear BK199
      clear HB
      have HO205 := n0_
      have BK199 := n1_
      have HB := n2_
      clear n0_ n1_ n2_
      (try clear hb)
      (try clear hb2)
      (try clear hk)
      (try clear hi)
      (try clear ho0)
      refine hK.out _ _ ⟨(blk_cell BK199.out 0).trans rfl, (blk_cell BK199.out 1).trans rfl⟩ (fun hHeld => ?_)
      clear hK K
      refine norm_ (a' := ?_) ?_ ?_
      rotate_left
      · show Act.put _ (some 9) _ = _
        simp only [Act.put, List.setIfInBounds_toArray, List.set_cons_zero, List.set_cons_succ, i64_w, i32_w]
        rfl
      refine one_ (i := 6) (N := some 12) #[true, true, true, true, true, true, true, false] rfl rfl (one_of HT_.out (by kernel_rfl)) (by decide) (fun K hK => ?_)
      refine Kd.R_append_rows_step (Kd.int .u8) (w0 := w) w.heap.size (by rfl) (.tmp 9) (.tmp 11) 22 5 (.int .u8 0) 1 rfl Tryd.underlying22 info5 rfl (by decide) (by omega) v204 t203 l0_1 _ _ _ (fun _ => True) (fun _ => False) rfl rfl ?aO ?aR (fun _ _ h => h) (fun _ h => h.elim) ?aF ?aB ?aS ?aL ?_
      (case aR => repeat (first | exact (Kd.C_below HR0_1.out HB.out) | (with_reducible refine Kd.C_alloc ?_ _) | (with_reducible refine Kd.C_drewN ?_ _) | (with_reducible refine Kd.C_drew ?_)))
      (case aB => exact (by repeat (first | (with_reducible first | exact HB.out | apply below_alloc | apply pw_below_drewN | apply below_drew1 | refine below_set ?_ GE199.out) | exact HB.out)))
      (case aF => exact (fun _ _ => trivial))
      (case aO => exact (by (with_reducible repeat (first | apply Kd.R_alloc | apply Kd.R_drewN | apply Kd.R_drew)); exact HO205.out))
      (case aS => exact (below_size (by repeat (first | (with_reducible first | exact HB.out | apply below_alloc | apply pw_below_drewN | apply below_drew1 | refine below_set ?_ GE199.out) | exact HB.out))))
      (case aL => have := LMc8.out; omega)
      intro v207 w13 ho hb hg hat
      rw [← Ny206.out] at ho
      have n0_ := Aside0.mk (blk_grown (g := gb199) (o := .cells #[.bool false, .slice A0_1 l0_1.length c0_1] 24 (0, 0)) (by (with_reducible repeat (first | refine blk_drewN ?_ _ | refine blk_drew ?_ | refine blk_alloc ?_ _)); exact BK199.out) hg (Kd.R_ne HO205.out BK199.out (by decide)))
      have n1_ := Aside0.mk (hb)
      have n2_ := Aside0.mk (ho)
      clear BK199
      clear HB
      clear HO205
      have BK199 := n0_
      have HB := n1_
      have HO208 := n2_
      clear n0_ n1_ n2_
      clear ho hb hg hat
      refine hK.out _ _ ⟨(blk_cell BK199.out 0).trans rfl, (blk_cell BK199.out 1).trans rfl⟩ (fun hHeld => ?_)
      clear hK K
      refine norm_ (a' := ?_) ?_ ?_
      rotate_left
      · show Act.put _ (some 12) _ = _
        simp only [Act.put, List.setIfInBounds_toArray, List.set_cons_zero, List.set_cons_succ, i64_w, i32_w]
        rfl
      refine pure_ (i := 7) (N := some 2) (v := ?_) (a' := ?_) #[true, true, true, true, true, true, true, true] rfl rfl (any_of HT_.out (by kernel_rfl)) (fun _ _ _ h => h) (Or.inl ⟨by rfl, ?_⟩) ?_ ?_
      rotate_left
      · intro w'
        go_simp
        with_reducible rfl
      rotate_left
      · simp only [Act.put, List.setIfInBounds_toArray, List.set_cons_zero, List.set_cons_succ, i64_w, i32_w]
        rfl
      refine done_ (done_of HT_.out (by kernel_rfl)) ?_
      try go_wp2
      go_ret
      exact ⟨_, by first | rfl | (simp [errW_none, errW_some] <;> rfl) | (simp [*, errW_none, errW_some] <;> rfl), by (with_reducible repeat (first | apply Kd.R_alloc | apply Kd.R_drewN | apply Kd.R_drew)); exact HO208.out, by repeat (first | (with_reducible first | exact HB.out | apply below_alloc | apply pw_below_drewN | apply below_drew1 | refine below_set ?_ GE199.out) | exact HB.out)⟩
    · rw [if_neg c8] at H
      exact absurd H (by simp)

end Go.Proofs.YthdfhnnoamlacaaDoor.PFnAnyHeader
