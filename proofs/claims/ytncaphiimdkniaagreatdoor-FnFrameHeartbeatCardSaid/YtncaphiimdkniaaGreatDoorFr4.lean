/-
  A request's frame, as the package writes it. Conditions: none.
-/
import Derived.Test.YtncaphiimdkniaaGreatDoorFr2
import Derived.Test.YtncaphiimdkniaaGreatDoorFr3
namespace Go.Proofs.YtncaphiimdkniaaGreatDoor.Frm
open Go.Proofs.YtncaphiimdkniaaGreatDoor
open Go.RowKit (Below)
open Kz

/-- An id, as it is written. -/
def nid : Option (List UInt8) → List UInt8
  | some s => fixed s.length 2 ++ s
  | none => fixed (-1) 2
/-- What stands behind a frame's length. -/
def rest (key v num : Int) (id : Option (List UInt8)) (body : List UInt8) : List UInt8 :=
  fixed key 2 ++ fixed v 2 ++ fixed num 4 ++ nid id ++ (if 4 ≤ v then [0] else []) ++ body
/-- What an id's variable holds. -/
def IdAt (w : World) (p : Value) : Option (List UInt8) → Prop
  | none => p = .pointer none
  | some s => ∃ g o, p = .pointer (some ⟨g, o, none⟩) ∧ w.cell? ⟨g, o, none⟩ = some (strV s)

theorem fixed_i16 (n : Int) : fixed (IntKind.i16.wrap n) 2 = fixed n 2 := by
  rw [← fixed_AppendInt16 (IntKind.i16.wrap n), ← fixed_AppendInt16 n, wrap_i16]
  congr 1
  omega
theorem fixed_i32 (n : Int) : fixed (IntKind.i32.wrap n) 4 = fixed n 4 := by
  rw [← fixed_AppendInt32 (IntKind.i32.wrap n), ← fixed_AppendInt32 n, IntKind.wrap_i32]
  congr 1
  omega
set_option maxRecDepth 8000 in
set_option maxHeartbeats 1000000 in
theorem string_long (w : World) (base : Nat) (v : Value) (bs s : List UInt8) (h : OwnB w base v bs) (hb : base ≤ w.heap.size) (hs : s.length ≤ 2147483647) (hl : bs.length ≤ 1000000) :
    Calls Tryz.prog 65 #[v, strV s] w fun e w' => ∃ v', e = .returned v' ∧ OwnB w' base v' (bs ++ (fixed (s.length : Int) 2 ++ s)) ∧ Below base w w' := by
  have hsz : (⟨s.toArray⟩ : ByteArray).size = s.length := by simp [ByteArray.size]
  have hfx := fixed_i16 (s.length : Int)
  obtain ⟨x, hx⟩ : ∃ x, IntKind.i16.wrap (s.length : Int) = x := ⟨_, rfl⟩
  rw [hx] at hfx
  have H := Lib.hid h
  clear h
  rw [strV]
  go_enter Tryz.func65, Tryz.ntmps65
  go_wp2_with fail
  refine (AppendInt16_any w base v bs x H.out hb (by simp only [lim]; omega)).mono ?_
  rintro e w1 ⟨v1, rfl, o1, b1⟩
  rw [hfx] at o1
  have O1 := Lib.hid o1
  have B1 := Lib.hid b1
  clear o1 b1
  go_wp2_with (at_builtin; refine wpList_append_text rfl _ _ rfl base _ _ s rfl rfl O1.out ?_ ?_ ?_)
  · simp only [List.length_append, fixed_length, lim]
    omega
  · exact Nat.le_trans hb B1.out.size
  intro v2 w2 o2 g2
  have O2 : RowKit.Hid (OwnB w2 base v2 (bs ++ (fixed (s.length : Int) 2 ++ s))) := Lib.hid (by simpa using o2)
  have B2 := Lib.hid (B1.out.trans (below_grow O1.out (Nat.le_trans hb B1.out.size) g2))
  clear o2 g2
  go_wp2
  go_ret
  exact ⟨_, rfl, O2.out, B2.out⟩
set_option maxRecDepth 8000 in
set_option maxHeartbeats 1000000 in
theorem nullable_is (w : World) (base : Nat) (v p : Value) (bs : List UInt8) (id : Option (List UInt8)) (h : OwnB w base v bs) (hb : base ≤ w.heap.size) (hid : IdAt w p id) (hs : ∀ s, id = some s → s.length ≤ 2147483647) (hl : bs.length ≤ 1000000) :
    Calls Tryz.prog 56 #[v, p] w fun e w' => ∃ v', e = .returned v' ∧ OwnB w' base v' (bs ++ nid id) ∧ Below base w w' := by
  cases id with
  | none =>
    obtain rfl := hid
    exact AppendNullableString_nil w base v bs h hb (by simp only [lim]; omega)
  | some s =>
    obtain ⟨g, o, rfl, hc⟩ := hid
    have hcall := string_long w base v bs s h hb (hs s rfl) hl
    have HC := Lib.hid hcall
    clear hcall h hl hb hs
    go_enter Tryz.func56, Tryz.ntmps56
    go_wp2_with fail
    refine HC.out.mono ?_
    rintro e w' ⟨v', rfl, hown, hbel⟩
    have H1 := Lib.hid hown
    have H2 := Lib.hid hbel
    clear hown hbel
    go_wp2
    go_ret
    exact ⟨v', rfl, H1.out, H2.out⟩
theorem own_some {w : World} {base : Nat} {v : Value} {bs : List UInt8} (h : OwnB w base v bs) (hne : bs ≠ []) : ∃ g cap, v = .slice (some ⟨g, 0, none⟩) bs.length cap ∧ g < w.heap.size ∧ bs.length ≤ cap ∧ cap ≤ maxLen := by
  obtain ⟨h1, ⟨rfl, h2⟩ | ⟨g, cap, cur, rfl, h2, h3, h4, h5, -⟩⟩ := h
  · exact absurd (List.length_eq_zero_iff.1 h2) hne
  · exact ⟨g, cap, rfl, (Array.getElem?_eq_some_iff.1 h3).1, h4, h5⟩
theorem key_is (cb : Nat) (w : World) : Calls Tryz.prog 87 #[.pointer (some ⟨cb, 0, none⟩)] w fun e w' => e = .returned (.int .i16 12) ∧ w' = w := by
  go_enter Tryz.func87, Tryz.ntmps87
  go_wp2
  go_ret
  exact ⟨rfl, rfl⟩
theorem version_is (cb : Nat) (v : Int) (w : World) (hc : w.cell? ⟨cb, 0, none⟩ = some (.int .i16 v)) : Calls Tryz.prog 85 #[.pointer (some ⟨cb, 0, none⟩)] w fun e w' => e = .returned (.int .i16 v) ∧ w' = w := by
  go_enter Tryz.func85, Tryz.ntmps85
  go_wp2
  go_ret
  exact ⟨rfl, rfl⟩
theorem flex_is (cb : Nat) (v : Int) (w : World) (hc : w.cell? ⟨cb, 0, none⟩ = some (.int .i16 v)) : Calls Tryz.prog 86 #[.pointer (some ⟨cb, 0, none⟩)] w fun e w' => e = .returned (.bool (decide (4 ≤ v))) ∧ w' = w := by
  go_enter Tryz.func86, Tryz.ntmps86
  go_wp2
  go_ret
  exact ⟨rfl, rfl⟩

set_option maxRecDepth 8000 in
set_option maxHeartbeats 4000000 in
theorem request_is (w : World) (fb cb : Nat) (p : Value) (id : Option (List UInt8)) (v num : Int) (t : T) (hv0 : 0 ≤ v) (hv1 : v < 5) (hf : w.cell? ⟨fb, 0, none⟩ = some p) (hid : IdAt w p id) (hlen : ∀ s, id = some s → s.length ≤ 2147483647)
    (hc0 : w.cell? ⟨cb, 0, none⟩ = some (.int .i16 v)) (hcb : cb < w.heap.size) (hr : repP TagRep v (HeartbeatRequest.msg.isFlex v) true HeartbeatRequest.msg.fields w (fun g => g < w.heap.size) (fun j => w.cell? ⟨cb, 1 + j, none⟩) t) (hfit : Fit t) (hl : (write HeartbeatRequest.msg v t).length ≤ 1500000000) :
    Calls Tryz.prog 36 #[.pointer (some ⟨fb, 0, none⟩), .slice none 0 0, .iface 46 (.pointer (some ⟨cb, 0, none⟩)), .int .i32 num] w fun e w' => ∃ v', e = .returned v' ∧ OwnB w' w.heap.size v' (fixed (rest 12 v num id (write HeartbeatRequest.msg v t)).length 4 ++ rest 12 v num id (write HeartbeatRequest.msg v t)) ∧ Below w.heap.size w w' := by
  have m1 : ∀ W : World, (method 303 46 (.pointer (some ⟨cb, 0, none⟩)) "Key").run Tryz.prog W = .ok (87, .pointer (some ⟨cb, 0, none⟩)) W := fun _ => by kernel_rfl
  have m2 : ∀ W : World, (method 303 46 (.pointer (some ⟨cb, 0, none⟩)) "GetVersion").run Tryz.prog W = .ok (85, .pointer (some ⟨cb, 0, none⟩)) W := fun _ => by kernel_rfl
  have m3 : ∀ W : World, (method 303 46 (.pointer (some ⟨cb, 0, none⟩)) "IsFlexible").run Tryz.prog W = .ok (86, .pointer (some ⟨cb, 0, none⟩)) W := fun _ => by kernel_rfl
  have m4 : ∀ W : World, (method 303 46 (.pointer (some ⟨cb, 0, none⟩)) "AppendTo").run Tryz.prog W = .ok (84, .pointer (some ⟨cb, 0, none⟩)) W := fun _ => by kernel_rfl
  have HR := Lib.hid hr
  have HI := Lib.hid hid
  have HF := Lib.hid hfit
  clear hr hid hfit
  go_enter Tryz.func36, Tryz.ntmps36
  go_wp2_with (at_builtin; refine wpList_append_bytes rfl _ _ rfl w.heap.size _ [] [0, 0, 0, 0] w.heap.size 0 4 4 rfl rfl (.nil _ _) rfl ?_ ?_ ?_ ?_)
  · intro j b hj
    have h4 : j < 4 := (List.getElem?_eq_some_iff.1 hj).1
    rcases (by omega : j = 0 ∨ j = 1 ∨ j = 2 ∨ j = 3) with rfl | rfl | rfl | rfl
    all_goals
      obtain rfl := Option.some.inj hj
      simp [bv]
  · simp [lim]
  · simp
  intro v1 w1 o1 g1
  have O1 := Lib.hid o1
  have B1 := Lib.hid (below_alloc (OwnB.nil w w.heap.size) (Nat.le_refl _) g1)
  have f1 : w1.cell? ⟨fb, 0, none⟩ = some p := by rw [(bcell B1.out).1 _ _ (World.block_lt_of_cell? w _ hf)]; exact hf
  have c1 : w1.cell? ⟨cb, 0, none⟩ = some (.int .i16 v) := by rw [(bcell B1.out).1 _ _ hcb]; exact hc0
  clear o1 g1
  go_wp2_with fail
  refine (key_is cb _).mono ?_
  rintro e w2 ⟨rfl, rfl⟩
  go_wp2_with fail
  refine (version_is cb v _ c1).mono ?_
  rintro e w2 ⟨rfl, rfl⟩
  go_wp2_with fail
  refine (AppendInt16_any w2 w.heap.size v1 _ 12 O1.out B1.out.size (by simp [lim])).mono ?_
  rintro e w3 ⟨v3, rfl, o3, b3⟩
  have O3 := Lib.hid o3
  have B3 := Lib.hid (B1.out.trans b3)
  clear o3 b3
  go_wp2_with fail
  refine (AppendInt16_any w3 w.heap.size v3 _ v O3.out B3.out.size (by simp [lim, fixed_length])).mono ?_
  rintro e w4 ⟨v4, rfl, o4, b4⟩
  have O4 := Lib.hid o4
  have B4 := Lib.hid (B3.out.trans b4)
  clear o4 b4
  go_wp2_with fail
  refine (AppendInt32_any w4 w.heap.size v4 _ num O4.out B4.out.size (by simp [lim, fixed_length])).mono ?_
  rintro e w5 ⟨v5, rfl, o5, b5⟩
  have O5 := Lib.hid o5
  have B5 := Lib.hid (B4.out.trans b5)
  have f5 : w5.cell? ⟨fb, 0, none⟩ = some p := by rw [(bcell B5.out).1 _ _ (World.block_lt_of_cell? w _ hf)]; exact hf
  have c5 : w5.cell? ⟨cb, 0, none⟩ = some (.int .i16 v) := by rw [(bcell B5.out).1 _ _ hcb]; exact hc0
  clear o5 b5 f1 c1
  go_wp2_with fail
  refine (nullable_is w5 w.heap.size v5 p _ id O5.out B5.out.size (by
    cases id with
    | none => exact HI.out
    | some s =>
      obtain ⟨g, o, h1, h2⟩ := HI.out
      exact ⟨g, o, h1, by rw [(bcell B5.out).1 _ _ (World.block_lt_of_cell? w _ h2)]; exact h2⟩) hlen (by simp [fixed_length])).mono ?_
  rintro e w6 ⟨v6, rfl, o6, b6⟩
  have O6 := Lib.hid o6
  have B6 := Lib.hid (B5.out.trans b6)
  have c6 : w6.cell? ⟨cb, 0, none⟩ = some (.int .i16 v) := by rw [(bcell B6.out).1 _ _ hcb]; exact hc0
  clear o6 b6 f5 c5
  have hnid : (nid id).length ≤ 2147483649 := by
    cases id with
    | none => simp [nid, fixed_length]
    | some s =>
      have := hlen s rfl
      simp only [nid, List.length_append, fixed_length]
      omega
  go_wp2_with fail
  refine (flex_is cb v _ c6).mono ?_
  rintro e w7 ⟨rfl, rfl⟩
  by_cases h4 : 4 ≤ v
  · have hd : decide (4 ≤ v) = true := decide_eq_true h4
    rw [hd]
    go_wp2_with (at_builtin; refine wpList_append_bytes rfl _ _ rfl w.heap.size _ _ [0] w7.heap.size 0 1 1 rfl rfl (O6.out.grown fun k hk => alloc_old w7 _ k hk) rfl ?_ ?_ ?_ ?_)
    · intro j b hj
      cases j with
      | zero =>
        obtain rfl := Option.some.inj hj
        simp [bv]
      | succ j => simp at hj
    · simp only [List.length_append, List.length_cons, List.length_nil, fixed_length, lim]
      omega
    · have := B6.out.size
      simp
      omega
    intro v8 w8 o8 g8
    have O8 : RowKit.Hid (OwnB w8 w.heap.size v8 ([0, 0, 0, 0] ++ (fixed 12 2 ++ fixed v 2 ++ fixed num 4 ++ nid id ++ (if 4 ≤ v then [0] else [])))) := Lib.hid (by rw [if_pos h4]; simpa using o8)
    have B8 := Lib.hid (B6.out.trans (below_alloc O6.out B6.out.size g8))
    have c8 : w8.cell? ⟨cb, 0, none⟩ = some (.int .i16 v) := by rw [(bcell B8.out).1 _ _ hcb]; exact hc0
    clear o8 g8
    go_wp2_with fail
    refine (HeartbeatRequest.writes'.2 w.heap.size (fun g => g < w.heap.size) w8 v cb _ v8 t hv0 O8.out B8.out.size (fun g h => h) hcb c8
      (stable_repP (fun _ => rfl) stable_tagRep _ w w8 _ _ _ _ t (fun g hg _ => B8.out.block g hg) B8.out.size (fun g hg => hg) (fun j _ => (bcell B8.out).1 _ _ hcb) HR.out) HF.out (by
        simp only [List.length_append, List.length_cons, List.length_nil, fixed_length, lim2]
        split <;> (simp; omega))).mono ?_
    rintro e w9 ⟨v9, rfl, o9, b9⟩
    have hrest : [0, 0, 0, 0] ++ (fixed 12 2 ++ fixed v 2 ++ fixed num 4 ++ nid id ++ (if 4 ≤ v then [0] else [])) ++ write HeartbeatRequest.msg v t = [0, 0, 0, 0] ++ rest 12 v num id (write HeartbeatRequest.msg v t) := by
      simp [rest]
    have hRl : (rest 12 v num id (write HeartbeatRequest.msg v t)).length ≤ 4000000000 := by
      simp only [rest, List.length_append, fixed_length]
      split <;> (simp; omega)
    have hR0 : 8 ≤ (rest 12 v num id (write HeartbeatRequest.msg v t)).length := by
      simp only [rest, List.length_append, fixed_length]
      omega
    rw [hrest] at o9
    obtain ⟨g9, k9, hv9, hk1, hk2, hk3⟩ := own_some o9 (by simp)
    have B9 := Lib.hid (B8.out.trans b9)
    clear b9
    generalize hR : rest 12 v num id (write HeartbeatRequest.msg v t) = R at *
    have hRe : ([0, 0, 0, 0] ++ R).length = R.length + 4 := by simp
    rw [hRe] at hv9 hk2
    subst hv9
    have O9 := Lib.hid o9
    clear o9 hrest
    simp only [maxLen] at hk3
    have q1 : (4 : Int) ≤ ((R.length + 4 : Nat) : Int) := by omega
    have q2 : ((R.length + 4 : Nat) : Int) ≤ (k9 : Int) := by omega
    have q3 : (4 : Int) ≤ (k9 : Int) := by omega
    have q5 : ¬ (k9 = 4) := by omega
    have q6 : ¬ ((k9 : Int) = 4) := by omega
    have hfx := fixed_i32 (R.length : Int)
    obtain ⟨x, hx⟩ : ∃ x, IntKind.i32.wrap (R.length : Int) = x := ⟨_, rfl⟩
    rw [hx] at hfx
    have hfront := AppendInt32_front w9.drew w.heap.size g9 k9 ([0, 0, 0, 0] ++ R) x (by rw [hRe]; exact O9.out) B9.out.size (by simp)
    rw [hRe, hfx] at hfront
    have HC := Lib.hid hfront
    clear hfront
    go_wp2_with fail
    go_region_with (go_at_call 55; refine HC.out.mono ?_; rintro e w10 ⟨⟨v10, rfl⟩, o10, b10⟩; have O10 := Lib.hid o10; have B10 := Lib.hid b10; clear o10 b10)
    go_wp2
    go_ret
    rw [hR]
    exact ⟨_, rfl, O10.out, B9.out.trans ⟨B10.out.os, B10.out.tape, B10.out.output, B10.out.size, B10.out.block⟩⟩
  · have hd : decide (4 ≤ v) = false := decide_eq_false h4
    rw [hd]
    have O8 : RowKit.Hid (OwnB w7 w.heap.size v6 ([0, 0, 0, 0] ++ (fixed 12 2 ++ fixed v 2 ++ fixed num 4 ++ nid id ++ (if 4 ≤ v then [0] else [])))) := Lib.hid (by rw [if_neg h4]; simpa using O6.out)
    have B8 := B6
    have c8 := c6
    go_wp2_with fail
    refine (HeartbeatRequest.writes'.2 w.heap.size (fun g => g < w.heap.size) w7 v cb _ v6 t hv0 O8.out B8.out.size (fun g h => h) hcb c8
      (stable_repP (fun _ => rfl) stable_tagRep _ w w7 _ _ _ _ t (fun g hg _ => B8.out.block g hg) B8.out.size (fun g hg => hg) (fun j _ => (bcell B8.out).1 _ _ hcb) HR.out) HF.out (by
        simp only [List.length_append, List.length_cons, List.length_nil, fixed_length, lim2]
        split <;> (simp; omega))).mono ?_
    rintro e w9 ⟨v9, rfl, o9, b9⟩
    have hrest : [0, 0, 0, 0] ++ (fixed 12 2 ++ fixed v 2 ++ fixed num 4 ++ nid id ++ (if 4 ≤ v then [0] else [])) ++ write HeartbeatRequest.msg v t = [0, 0, 0, 0] ++ rest 12 v num id (write HeartbeatRequest.msg v t) := by
      simp [rest]
    have hRl : (rest 12 v num id (write HeartbeatRequest.msg v t)).length ≤ 4000000000 := by
      simp only [rest, List.length_append, fixed_length]
      split <;> (simp; omega)
    have hR0 : 8 ≤ (rest 12 v num id (write HeartbeatRequest.msg v t)).length := by
      simp only [rest, List.length_append, fixed_length]
      omega
    rw [hrest] at o9
    obtain ⟨g9, k9, hv9, hk1, hk2, hk3⟩ := own_some o9 (by simp)
    have B9 := Lib.hid (B8.out.trans b9)
    clear b9
    generalize hR : rest 12 v num id (write HeartbeatRequest.msg v t) = R at *
    have hRe : ([0, 0, 0, 0] ++ R).length = R.length + 4 := by simp
    rw [hRe] at hv9 hk2
    subst hv9
    have O9 := Lib.hid o9
    clear o9 hrest
    simp only [maxLen] at hk3
    have q1 : (4 : Int) ≤ ((R.length + 4 : Nat) : Int) := by omega
    have q2 : ((R.length + 4 : Nat) : Int) ≤ (k9 : Int) := by omega
    have q3 : (4 : Int) ≤ (k9 : Int) := by omega
    have q5 : ¬ (k9 = 4) := by omega
    have q6 : ¬ ((k9 : Int) = 4) := by omega
    have hfx := fixed_i32 (R.length : Int)
    obtain ⟨x, hx⟩ : ∃ x, IntKind.i32.wrap (R.length : Int) = x := ⟨_, rfl⟩
    rw [hx] at hfx
    have hfront := AppendInt32_front w9.drew w.heap.size g9 k9 ([0, 0, 0, 0] ++ R) x (by rw [hRe]; exact O9.out) B9.out.size (by simp)
    rw [hRe, hfx] at hfront
    have HC := Lib.hid hfront
    clear hfront
    go_wp2_with fail
    go_region_with (go_at_call 55; refine HC.out.mono ?_; rintro e w10 ⟨⟨v10, rfl⟩, o10, b10⟩; have O10 := Lib.hid o10; have B10 := Lib.hid b10; clear o10 b10)
    go_wp2
    go_ret
    rw [hR]
    exact ⟨_, rfl, O10.out, B9.out.trans ⟨B10.out.os, B10.out.tape, B10.out.output, B10.out.size, B10.out.block⟩⟩
end Go.Proofs.YtncaphiimdkniaaGreatDoor.Frm
