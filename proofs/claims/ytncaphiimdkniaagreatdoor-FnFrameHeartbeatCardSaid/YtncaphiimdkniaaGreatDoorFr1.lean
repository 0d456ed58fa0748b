/-
  A request's frame, as the reference says it. Conditions: none.
-/
import Derived.Test.YtncaphiimdkniaaGreatDoorFr6
import Derived.Test.YtncaphiimdkniaaGreatDoorY7
namespace Go.Proofs.YtncaphiimdkniaaGreatDoor.Frm
open Go.Proofs.YtncaphiimdkniaaGreatDoor
open Go.RowKit (Below)
open Kz

set_option maxRecDepth 8000 in
set_option maxHeartbeats 1000000 in
theorem flexible_is (v : Int) (w : World) : Calls Tryz.prog 22 #[.int .i16 12, .int .i16 v] w fun e w' => e = .returned (.bool (decide (4 ≤ v))) ∧ w' = w := by
  go_enter Tryz.func22, Tryz.ntmps22
  by_cases h : 4 ≤ v
  · go_wp2
    go_ret
    exact ⟨by simp [h], rfl⟩
  · go_wp2
    go_ret
    exact ⟨by simp [h], rfl⟩

theorem bytes_stay {w w' : World} {v : Value} {bs : List UInt8} (h : BytesAt w Tr v bs) (hb : Below w.heap.size w w') : BytesAt w' Tr v bs := by
  rcases h with h | ⟨g, o, c, h1, h2, h3, h4, h5, h6⟩
  · exact .inl h
  · exact .inr ⟨g, o, c, h1, h2, h3, h4, Nat.lt_of_lt_of_le h5 hb.size, fun i b hi => by rw [(bcell hb).1 _ _ h5]; exact h6 i b hi⟩
theorem trans_up {w a b : World} {n : Nat} (h : Below w.heap.size w a) (k : Below n a b) (hn : w.heap.size ≤ n) : Below w.heap.size w b := h.trans ⟨k.os, k.tape, k.output, k.size, fun i hi => k.block i (by omega)⟩

set_option maxRecDepth 8000 in
set_option maxHeartbeats 4000000 in
theorem frame_is (w : World) (v num : Int) (hv0 : 0 ≤ v) (hv1 : v < 32768) (hn0 : -2147483648 ≤ num) (hn1 : num ≤ 2147483647) (has : Bool) (iv' bv' : Value) (name body : List UInt8) (id : Option (List UInt8)) (hid : (if has then some name else none) = id) (K1 : BytesAt w Tr iv' name) (K2 : BytesAt w Tr bv' body) (hn : name.length < 32768) (hb : body.length ≤ 1500000000) :
    Calls Tryz.prog 13 #[.int .i16 12, .int .i16 v, .int .i32 num, .bool has, iv', bv'] w fun e w' => ∃ v', e = .returned v' ∧ OwnB w' w.heap.size v' (fixed (rest 12 v num id body).length 4 ++ rest 12 v num id body) ∧ Below w.heap.size w w' := by
  have e1 : IntKind.i64.wrap v = v := by rw [IntKind.wrap_i64]; omega
  have e2 : IntKind.i64.wrap num = num := by rw [IntKind.wrap_i64]; omega
  obtain ⟨p1, c1, rfl⟩ := bytes_len K1
  obtain ⟨p2, c2, rfl⟩ := bytes_len K2
  have HK1 := Lib.hid K1
  have HK2 := Lib.hid K2
  clear K1 K2
  go_enter Tryz.func13, Tryz.ntmps13
  go_wp2_with fail
  refine (specFixed_any w 12 2 (by decide)).mono ?_
  rintro e w1 ⟨v1, rfl, o1, b1⟩
  have O1 := Lib.hid o1
  have B1 := Lib.hid b1
  clear o1 b1
  go_wp2_with fail
  refine (specFixed_any w1 v 2 (by decide)).mono ?_
  rintro e w2 ⟨v2, rfl, o2, b2⟩
  have O2 := Lib.hid (own_at_bytes o2)
  have O1b := Lib.hid (O1.out.stay b2)
  have B2 := Lib.hid (trans_up B1.out b2 B1.out.size)
  clear o2 b2
  go_wp2_with (at_builtin; refine wpList_append_octets rfl _ _ rfl w.heap.size _ _ (fixed 12 2) (fixed v 2) Tr rfl rfl O1b.out O2.out ?_ B2.out.size ?_)
  · simp [lim, fixed_length]
  intro v3 w3 o3 g3
  have O3 := Lib.hid o3
  have B3 := Lib.hid (B2.out.trans (below_grow O1b.out B2.out.size g3))
  clear o3 g3
  go_wp2_with fail
  refine (specFixed_any w3 num 4 (by decide)).mono ?_
  rintro e w4 ⟨v4, rfl, o4, b4⟩
  have O4 := Lib.hid (own_at_bytes o4)
  have O3b := Lib.hid (O3.out.stay b4)
  have B4 := Lib.hid (trans_up B3.out b4 B3.out.size)
  clear o4 b4
  go_wp2_with (at_builtin; refine wpList_append_octets rfl _ _ rfl w.heap.size _ _ (fixed 12 2 ++ fixed v 2) (fixed num 4) Tr rfl rfl O3b.out O4.out ?_ B4.out.size ?_)
  · simp [lim, fixed_length]
  intro v5 w5 o5 g5
  have O5 := Lib.hid o5
  have B5 := Lib.hid (B4.out.trans (below_grow O3b.out B4.out.size g5))
  have K5 := Lib.hid (bytes_stay HK1.out B5.out)
  clear o5 g5
  cases has with
  | true =>
    obtain rfl : some name = id := hid
    go_wp2_with fail
    refine (specFixed_any w5 (name.length : Int) 2 (by decide)).mono ?_
    rintro e w6 ⟨v6, rfl, o6, b6⟩
    have O6 := Lib.hid (own_at_bytes o6)
    have O5b := Lib.hid (O5.out.stay b6)
    have B6 := Lib.hid (trans_up B5.out b6 B5.out.size)
    clear o6 b6
    go_wp2_with (at_builtin; refine wpList_append_octets rfl _ _ rfl w.heap.size _ _ (fixed 12 2 ++ fixed v 2 ++ fixed num 4) (fixed (name.length : Int) 2) Tr rfl rfl O5b.out O6.out ?_ B6.out.size ?_)
    · simp [lim, fixed_length]
    intro v7 w7 o7 g7
    have O7 := Lib.hid o7
    have B7 := Lib.hid (B6.out.trans (below_grow O5b.out B6.out.size g7))
    have K7 := Lib.hid (bytes_stay HK1.out B7.out)
    clear o7 g7
    go_wp2_with (at_builtin; refine wpList_append_octets rfl _ _ rfl w.heap.size _ _ _ name Tr rfl rfl O7.out K7.out ?_ B7.out.size ?_)
    · simp only [List.length_append, fixed_length, lim]
      omega
    intro v8 w8 o8 g8
    have O8 : RowKit.Hid (OwnB w8 w.heap.size v8 (fixed 12 2 ++ fixed v 2 ++ fixed num 4 ++ nid (some name))) := Lib.hid (by simpa [nid] using o8)
    have B8 := Lib.hid (B7.out.trans (below_grow O7.out B7.out.size g8))
    clear o8 g8
    go_wp2_with fail
    refine (flexible_is v w8).mono ?_
    rintro e w9 ⟨rfl, rfl⟩
    by_cases h4 : 4 ≤ v
    · have hd : decide (4 ≤ v) = true := decide_eq_true h4
      rw [hd]
      go_wp2_with (at_builtin; refine wpList_append_bytes rfl _ _ rfl w.heap.size _ _ [0] w9.heap.size 0 1 1 rfl rfl (O8.out.grown fun k hk => alloc_old w9 _ k hk) rfl ?_ ?_ ?_ ?_)
      · intro j b hj
        cases j with
        | zero =>
          obtain rfl := Option.some.inj hj
          simp [bv]
        | succ j => simp at hj
      · simp only [nid, List.length_append, List.length_cons, List.length_nil, fixed_length, lim]
        omega
      · have := B8.out.size
        simp
        omega
      intro vA wA oA gA
      have OA : RowKit.Hid (OwnB wA w.heap.size vA (fixed 12 2 ++ fixed v 2 ++ fixed num 4 ++ nid (some name) ++ (if 4 ≤ v then [0] else []))) := Lib.hid (by rw [if_pos h4]; simpa using oA)
      have BA := Lib.hid (B8.out.trans (below_alloc O8.out B8.out.size gA))
      clear oA gA
      have KB := Lib.hid (bytes_stay HK2.out BA.out)
      clear hd
      go_wp2_with (at_builtin; refine wpList_append_octets rfl _ _ rfl w.heap.size _ _ (fixed 12 2 ++ fixed v 2 ++ fixed num 4 ++ nid (some name) ++ (if 4 ≤ v then [0] else [])) body Tr rfl rfl OA.out KB.out ?_ BA.out.size ?_)
      · simp [nid, fixed_length, lim] <;> omega
      intro vB wB oB gB
      have oB : OwnB wB w.heap.size vB (rest 12 v num (some name) body) := by
        have e : rest 12 v num (some name) body = fixed 12 2 ++ fixed v 2 ++ fixed num 4 ++ nid (some name) ++ (if 4 ≤ v then [0] else []) ++ body := rfl
        rw [e, if_pos h4]
        simpa using oB
      have hRl : (rest 12 v num (some name) body).length ≤ 2000000000 := by
        simp only [rest, nid, List.length_append, fixed_length]
        split <;> (simp; omega)
      generalize hR : rest 12 v num (some name) body = R at *
      have OB := Lib.hid oB
      obtain ⟨pB, nB, cB, hvB⟩ := own_slice oB
      obtain rfl : nB = R.length := by
        rcases oB with ⟨-, ⟨h1, h2⟩ | ⟨g, cap, cur, h1, -⟩⟩
        · rw [hvB] at h1
          simp only [Value.slice.injEq] at h1
          omega
        · rw [hvB] at h1
          simp only [Value.slice.injEq] at h1
          exact h1.2.1
      subst hvB
      have BB := Lib.hid (BA.out.trans (below_grow OA.out BA.out.size gB))
      clear oB gB
      go_wp2_with fail
      refine (specFixed_any wB (R.length : Int) 4 (by decide)).mono ?_
      rintro e wC ⟨vC, rfl, oC, bC⟩
      have OC := Lib.hid (oC.lower (b' := w.heap.size) BB.out.size)
      have OBb := Lib.hid (own_at_bytes (OB.out.stay bC))
      have BC := Lib.hid (trans_up BB.out bC BB.out.size)
      clear oC bC
      go_wp2_with (at_builtin; refine wpList_append_octets rfl _ _ rfl w.heap.size _ _ (fixed (R.length : Int) 4) R Tr rfl rfl OC.out OBb.out ?_ BC.out.size ?_)
      · simp only [fixed_length, lim]
        omega
      intro vD wD oD gD
      have OD := Lib.hid oD
      have BD := Lib.hid (BC.out.trans (below_grow OC.out BC.out.size gD))
      clear oD gD
      go_wp2
      go_ret
      rw [hR]
      exact ⟨_, rfl, OD.out, BD.out⟩
    · have hd : decide (4 ≤ v) = false := decide_eq_false h4
      rw [hd]
      have OA : RowKit.Hid (OwnB w9 w.heap.size v8 (fixed 12 2 ++ fixed v 2 ++ fixed num 4 ++ nid (some name) ++ (if 4 ≤ v then [0] else []))) := Lib.hid (by rw [if_neg h4]; simpa using O8.out)
      have BA := B8
      have KB := Lib.hid (bytes_stay HK2.out BA.out)
      clear hd
      go_wp2_with (at_builtin; refine wpList_append_octets rfl _ _ rfl w.heap.size _ _ (fixed 12 2 ++ fixed v 2 ++ fixed num 4 ++ nid (some name) ++ (if 4 ≤ v then [0] else [])) body Tr rfl rfl OA.out KB.out ?_ BA.out.size ?_)
      · simp [nid, fixed_length, lim] <;> omega
      intro vB wB oB gB
      have oB : OwnB wB w.heap.size vB (rest 12 v num (some name) body) := by
        have e : rest 12 v num (some name) body = fixed 12 2 ++ fixed v 2 ++ fixed num 4 ++ nid (some name) ++ (if 4 ≤ v then [0] else []) ++ body := rfl
        rw [e, if_neg (by omega)]
        simpa using oB
      have hRl : (rest 12 v num (some name) body).length ≤ 2000000000 := by
        simp only [rest, nid, List.length_append, fixed_length]
        split <;> (simp; omega)
      generalize hR : rest 12 v num (some name) body = R at *
      have OB := Lib.hid oB
      obtain ⟨pB, nB, cB, hvB⟩ := own_slice oB
      obtain rfl : nB = R.length := by
        rcases oB with ⟨-, ⟨h1, h2⟩ | ⟨g, cap, cur, h1, -⟩⟩
        · rw [hvB] at h1
          simp only [Value.slice.injEq] at h1
          omega
        · rw [hvB] at h1
          simp only [Value.slice.injEq] at h1
          exact h1.2.1
      subst hvB
      have BB := Lib.hid (BA.out.trans (below_grow OA.out BA.out.size gB))
      clear oB gB
      go_wp2_with fail
      refine (specFixed_any wB (R.length : Int) 4 (by decide)).mono ?_
      rintro e wC ⟨vC, rfl, oC, bC⟩
      have OC := Lib.hid (oC.lower (b' := w.heap.size) BB.out.size)
      have OBb := Lib.hid (own_at_bytes (OB.out.stay bC))
      have BC := Lib.hid (trans_up BB.out bC BB.out.size)
      clear oC bC
      go_wp2_with (at_builtin; refine wpList_append_octets rfl _ _ rfl w.heap.size _ _ (fixed (R.length : Int) 4) R Tr rfl rfl OC.out OBb.out ?_ BC.out.size ?_)
      · simp only [fixed_length, lim]
        omega
      intro vD wD oD gD
      have OD := Lib.hid oD
      have BD := Lib.hid (BC.out.trans (below_grow OC.out BC.out.size gD))
      clear oD gD
      go_wp2
      go_ret
      rw [hR]
      exact ⟨_, rfl, OD.out, BD.out⟩
  | false =>
    obtain rfl : none = id := hid
    go_wp2_with fail
    refine (specFixed_any w5 (-1) 2 (by decide)).mono ?_
    rintro e w6 ⟨v6, rfl, o6, b6⟩
    have O6 := Lib.hid (own_at_bytes o6)
    have O5b := Lib.hid (O5.out.stay b6)
    have B6 := Lib.hid (trans_up B5.out b6 B5.out.size)
    clear o6 b6
    go_wp2_with (at_builtin; refine wpList_append_octets rfl _ _ rfl w.heap.size _ _ (fixed 12 2 ++ fixed v 2 ++ fixed num 4) (fixed (-1) 2) Tr rfl rfl O5b.out O6.out ?_ B6.out.size ?_)
    · simp [lim, fixed_length]
    intro v8 w8 o8 g8
    have O8 : RowKit.Hid (OwnB w8 w.heap.size v8 (fixed 12 2 ++ fixed v 2 ++ fixed num 4 ++ nid none)) := Lib.hid (by simpa [nid] using o8)
    have B8 := Lib.hid (B6.out.trans (below_grow O5b.out B6.out.size g8))
    clear o8 g8
    go_wp2_with fail
    refine (flexible_is v w8).mono ?_
    rintro e w9 ⟨rfl, rfl⟩
    by_cases h4 : 4 ≤ v
    · have hd : decide (4 ≤ v) = true := decide_eq_true h4
      rw [hd]
      go_wp2_with (at_builtin; refine wpList_append_bytes rfl _ _ rfl w.heap.size _ _ [0] w9.heap.size 0 1 1 rfl rfl (O8.out.grown fun k hk => alloc_old w9 _ k hk) rfl ?_ ?_ ?_ ?_)
      · intro j b hj
        cases j with
        | zero =>
          obtain rfl := Option.some.inj hj
          simp [bv]
        | succ j => simp at hj
      · simp only [nid, List.length_append, List.length_cons, List.length_nil, fixed_length, lim]
        omega
      · have := B8.out.size
        simp
        omega
      intro vA wA oA gA
      have OA : RowKit.Hid (OwnB wA w.heap.size vA (fixed 12 2 ++ fixed v 2 ++ fixed num 4 ++ nid none ++ (if 4 ≤ v then [0] else []))) := Lib.hid (by rw [if_pos h4]; simpa using oA)
      have BA := Lib.hid (B8.out.trans (below_alloc O8.out B8.out.size gA))
      clear oA gA
      have KB := Lib.hid (bytes_stay HK2.out BA.out)
      clear hd
      go_wp2_with (at_builtin; refine wpList_append_octets rfl _ _ rfl w.heap.size _ _ (fixed 12 2 ++ fixed v 2 ++ fixed num 4 ++ nid none ++ (if 4 ≤ v then [0] else [])) body Tr rfl rfl OA.out KB.out ?_ BA.out.size ?_)
      · simp [nid, fixed_length, lim] <;> omega
      intro vB wB oB gB
      have oB : OwnB wB w.heap.size vB (rest 12 v num none body) := by
        have e : rest 12 v num none body = fixed 12 2 ++ fixed v 2 ++ fixed num 4 ++ nid none ++ (if 4 ≤ v then [0] else []) ++ body := rfl
        rw [e, if_pos h4]
        simpa using oB
      have hRl : (rest 12 v num none body).length ≤ 2000000000 := by
        simp only [rest, nid, List.length_append, fixed_length]
        split <;> (simp; omega)
      generalize hR : rest 12 v num none body = R at *
      have OB := Lib.hid oB
      obtain ⟨pB, nB, cB, hvB⟩ := own_slice oB
      obtain rfl : nB = R.length := by
        rcases oB with ⟨-, ⟨h1, h2⟩ | ⟨g, cap, cur, h1, -⟩⟩
        · rw [hvB] at h1
          simp only [Value.slice.injEq] at h1
          omega
        · rw [hvB] at h1
          simp only [Value.slice.injEq] at h1
          exact h1.2.1
      subst hvB
      have BB := Lib.hid (BA.out.trans (below_grow OA.out BA.out.size gB))
      clear oB gB
      go_wp2_with fail
      refine (specFixed_any wB (R.length : Int) 4 (by decide)).mono ?_
      rintro e wC ⟨vC, rfl, oC, bC⟩
      have OC := Lib.hid (oC.lower (b' := w.heap.size) BB.out.size)
      have OBb := Lib.hid (own_at_bytes (OB.out.stay bC))
      have BC := Lib.hid (trans_up BB.out bC BB.out.size)
      clear oC bC
      go_wp2_with (at_builtin; refine wpList_append_octets rfl _ _ rfl w.heap.size _ _ (fixed (R.length : Int) 4) R Tr rfl rfl OC.out OBb.out ?_ BC.out.size ?_)
      · simp only [fixed_length, lim]
        omega
      intro vD wD oD gD
      have OD := Lib.hid oD
      have BD := Lib.hid (BC.out.trans (below_grow OC.out BC.out.size gD))
      clear oD gD
      go_wp2
      go_ret
      rw [hR]
      exact ⟨_, rfl, OD.out, BD.out⟩
    · have hd : decide (4 ≤ v) = false := decide_eq_false h4
      rw [hd]
      have OA : RowKit.Hid (OwnB w9 w.heap.size v8 (fixed 12 2 ++ fixed v 2 ++ fixed num 4 ++ nid none ++ (if 4 ≤ v then [0] else []))) := Lib.hid (by rw [if_neg h4]; simpa using O8.out)
      have BA := B8
      have KB := Lib.hid (bytes_stay HK2.out BA.out)
      clear hd
      go_wp2_with (at_builtin; refine wpList_append_octets rfl _ _ rfl w.heap.size _ _ (fixed 12 2 ++ fixed v 2 ++ fixed num 4 ++ nid none ++ (if 4 ≤ v then [0] else [])) body Tr rfl rfl OA.out KB.out ?_ BA.out.size ?_)
      · simp [nid, fixed_length, lim] <;> omega
      intro vB wB oB gB
      have oB : OwnB wB w.heap.size vB (rest 12 v num none body) := by
        have e : rest 12 v num none body = fixed 12 2 ++ fixed v 2 ++ fixed num 4 ++ nid none ++ (if 4 ≤ v then [0] else []) ++ body := rfl
        rw [e, if_neg (by omega)]
        simpa using oB
      have hRl : (rest 12 v num none body).length ≤ 2000000000 := by
        simp only [rest, nid, List.length_append, fixed_length]
        split <;> (simp; omega)
      generalize hR : rest 12 v num none body = R at *
      have OB := Lib.hid oB
      obtain ⟨pB, nB, cB, hvB⟩ := own_slice oB
      obtain rfl : nB = R.length := by
        rcases oB with ⟨-, ⟨h1, h2⟩ | ⟨g, cap, cur, h1, -⟩⟩
        · rw [hvB] at h1
          simp only [Value.slice.injEq] at h1
          omega
        · rw [hvB] at h1
          simp only [Value.slice.injEq] at h1
          exact h1.2.1
      subst hvB
      have BB := Lib.hid (BA.out.trans (below_grow OA.out BA.out.size gB))
      clear oB gB
      go_wp2_with fail
      refine (specFixed_any wB (R.length : Int) 4 (by decide)).mono ?_
      rintro e wC ⟨vC, rfl, oC, bC⟩
      have OC := Lib.hid (oC.lower (b' := w.heap.size) BB.out.size)
      have OBb := Lib.hid (own_at_bytes (OB.out.stay bC))
      have BC := Lib.hid (trans_up BB.out bC BB.out.size)
      clear oC bC
      go_wp2_with (at_builtin; refine wpList_append_octets rfl _ _ rfl w.heap.size _ _ (fixed (R.length : Int) 4) R Tr rfl rfl OC.out OBb.out ?_ BC.out.size ?_)
      · simp only [fixed_length, lim]
        omega
      intro vD wD oD gD
      have OD := Lib.hid oD
      have BD := Lib.hid (BC.out.trans (below_grow OC.out BC.out.size gD))
      clear oD gD
      go_wp2
      go_ret
      rw [hR]
      exact ⟨_, rfl, OD.out, BD.out⟩
end Go.Proofs.YtncaphiimdkniaaGreatDoor.Frm
