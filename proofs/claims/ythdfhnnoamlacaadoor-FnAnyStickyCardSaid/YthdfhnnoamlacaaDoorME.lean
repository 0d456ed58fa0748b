/-
  Records: the reference's reader: numbers of two and of four octets. Conditions: none.
  Records: what a member says, written by the reference. Conditions: none.
  Records: the reference reads what a member says. Conditions: none.
-/
import Derived.Test.YthdfhnnoamlacaaDoorMD
import Derived.Deep.DeepCutAuto
import Derived.Deep.CutRange
import Derived.Deep.RegionLaw
namespace Go.Proofs.YthdfhnnoamlacaaDoor.Rec
open Go.Proofs.YthdfhnnoamlacaaDoor
open Go.RowKit (Below wrap64 wrap32)
open Kz

theorem or_low (n : Int) (c : Nat) (h0 : -1099511627776 ≤ n) (h1 : n ≤ 1099511627776) (hc : c < 256) : bits .or .i64 (n * 256) (c : Int) = n * 256 + c := by
  show IntKind.i64.wrap ((BitVec.ofInt 64 (n * 256) ||| BitVec.ofInt 64 (c : Int)).toNat : Int) = _
  have e1 : (BitVec.ofInt 64 (c : Int)).toNat = c := ofInt_u64 c (by omega)
  obtain ⟨m, hm⟩ : ∃ m : Nat, (m : Int) = n % 72057594037927936 := ⟨(n % 72057594037927936).toNat, by omega⟩
  have e2 : (BitVec.ofInt 64 (n * 256)).toNat = m * 2 ^ 8 := by
    rw [BitVec.toNat_ofInt]
    have : (n * 256) % ((2 ^ 64 : Nat) : Int) = ((m * 2 ^ 8 : Nat) : Int) := by
      have e64 : ((2 ^ 64 : Nat) : Int) = 18446744073709551616 := by decide
      have e8 : ((m * 2 ^ 8 : Nat) : Int) = (m : Int) * 256 := by rw [Int.natCast_mul]; rfl
      rw [e64, e8]
      omega
    rw [this]
    rfl
  rw [BitVec.toNat_or, e1, e2, nat_join 8 _ _ (Nat.mul_mod_left _ _) (by omega), IntKind.wrap_i64]
  have e8 : ((m * 2 ^ 8 + c : Nat) : Int) = (m : Int) * 256 + c := by rw [Int.natCast_add, Int.natCast_mul]; rfl
  rw [e8]
  omega
/-- What the reference's numbers come to. -/
def sFix (k : Nat) (bs : List UInt8) (s : Nat × Nat) : Int × (Nat × Nat) :=
  if s.2 ≠ 0 then (0, s) else if bs.length - s.1 < k then (0, (s.1, 1)) else (sgn k (beNat ((bs.drop s.1).take k)), (s.1 + k, 0))
theorem four_sgn (a b c d : UInt8) : (((IntKind.i8.wrap (a.toNat : Int) * 256 + b.toNat) * 256 + c.toNat) * 256 + d.toNat : Int) = sgn 4 (beNat [a, b, c, d]) := by
  rw [wrap8_sgn]
  have ha := a.toNat_lt
  have hb := b.toNat_lt
  have hc := c.toNat_lt
  have hd := d.toNat_lt
  simp only [sgn, beNat, List.foldl]
  simp only [Nat.reduceMul, Nat.reduceSub, Nat.reducePow, Nat.zero_mul, Nat.zero_add]
  split <;> split <;> omega
theorem two_sgn (a b : UInt8) : (IntKind.i8.wrap (a.toNat : Int) * 256 + b.toNat : Int) = sgn 2 (beNat [a, b]) := by
  rw [wrap8_sgn]
  have ha := a.toNat_lt
  have hb := b.toNat_lt
  simp only [sgn, beNat, List.foldl]
  simp only [Nat.reduceMul, Nat.reduceSub, Nat.reducePow, Nat.zero_mul, Nat.zero_add]
  split <;> split <;> omega
theorem i8_b (a : UInt8) : -128 ≤ IntKind.i8.wrap (a.toNat : Int) ∧ IntKind.i8.wrap (a.toNat : Int) ≤ 127 := by
  rw [wrap8_sgn]
  have ha := a.toNat_lt
  simp only [sgn, beNat, List.foldl, Nat.reduceMul, Nat.reduceSub, Nat.reducePow, Nat.zero_mul, Nat.zero_add]
  split <;> omega
theorem step_num (n : Int) (b : UInt8) (h0 : -4294967296 ≤ n) (h1 : n ≤ 4294967296) : bits .or .i64 (wrap64 (n * 256)) (wrap64 (b.toNat : Int)) = n * 256 + b.toNat := by
  have hb := b.toNat_lt
  have e1 : wrap64 (n * 256) = n * 256 := by unfold wrap64; omega
  have e2 : wrap64 (b.toNat : Int) = b.toNat := by unfold wrap64; omega
  rw [e1, e2, or_low n b.toNat (by omega) (by omega) (by omega)]
theorem two_num (a b : UInt8) : bits .or .i64 (wrap64 (wrap64 (IntKind.i8.wrap (a.toNat : Int)) * 256)) (wrap64 (b.toNat : Int)) = sgn 2 (beNat [a, b]) := by
  have ha := i8_b a
  have e1 : wrap64 (IntKind.i8.wrap (a.toNat : Int)) = IntKind.i8.wrap (a.toNat : Int) := by
    generalize IntKind.i8.wrap (a.toNat : Int) = x at *
    unfold wrap64; omega
  rw [e1, step_num _ b (by omega) (by omega), two_sgn]
theorem four_num (a b c d : UInt8) : bits .or .i64 (wrap64 (bits .or .i64 (wrap64 (bits .or .i64 (wrap64 (wrap64 (IntKind.i8.wrap (a.toNat : Int)) * 256)) (wrap64 (b.toNat : Int)) * 256)) (wrap64 (c.toNat : Int)) * 256)) (wrap64 (d.toNat : Int)) = sgn 4 (beNat [a, b, c, d]) := by
  have ha := i8_b a
  have hb := b.toNat_lt
  have hc := c.toNat_lt
  have e1 : wrap64 (IntKind.i8.wrap (a.toNat : Int)) = IntKind.i8.wrap (a.toNat : Int) := by
    generalize IntKind.i8.wrap (a.toNat : Int) = x at *
    unfold wrap64; omega
  rw [e1, step_num _ b (by omega) (by omega), step_num _ c (by omega) (by omega), step_num _ d (by omega) (by omega), four_sgn]
theorem sTake_cases (k : Nat) (bs : List UInt8) (s : Nat × Nat) : ((sTake k bs s).1 = [] ∧ (sFix k bs s).1 = 0 ∧ (sFix k bs s).2 = (sTake k bs s).2) ∨
    ((sTake k bs s).1.length = k ∧ (sFix k bs s).1 = sgn k (beNat (sTake k bs s).1) ∧ (sFix k bs s).2 = (sTake k bs s).2) := by
  unfold sTake sFix
  by_cases h1 : s.2 ≠ 0
  · rw [if_pos h1, if_pos h1]; exact .inl ⟨rfl, rfl, rfl⟩
  · rw [if_neg h1, if_neg h1]
    by_cases h2 : bs.length - s.1 < k
    · rw [if_pos h2, if_pos h2]; exact .inl ⟨rfl, rfl, rfl⟩
    · rw [if_neg h2, if_neg h2]; exact .inr ⟨by simp; omega, rfl, rfl⟩
set_option maxRecDepth 8000 in
set_option maxHeartbeats 1000000 in
theorem fixed_nil (w : World) (rb : Nat) (k : Nat) (Q : World → Prop) (hcall : Calls Tryd.prog 37 #[.pointer (some ⟨rb, 0, none⟩), .int .i64 (k : Int)] w fun e w' => ∃ ad c, e = .returned (.slice ad 0 c) ∧ Q w') :
    Calls Tryd.prog 18 #[.pointer (some ⟨rb, 0, none⟩), .int .i64 (k : Int)] w fun e w' => e = .returned (.int .i64 0) ∧ Q w' := by
  have H := Lib.hid hcall
  clear hcall
  go_enter Tryd.func18, Tryd.ntmps18
  go_wp2_with fail
  refine H.out.mono ?_
  rintro e w1 ⟨ad, c, rfl, hq⟩
  have HQ := Lib.hid hq
  clear hq
  go_wp2_with fail
  refine wp_loop_rounds 1 ?_
  rw [rounds_succ]
  go_wp2
  go_ret
  exact ⟨rfl, HQ.out⟩
set_option maxRecDepth 8000 in
set_option maxHeartbeats 2000000 in
theorem fixed_two (w : World) (rb : Nat) (k : Nat) (a b : UInt8) (Q : World → Prop) (hcall : Calls Tryd.prog 37 #[.pointer (some ⟨rb, 0, none⟩), .int .i64 (k : Int)] w fun e w' => ∃ g o c, e = .returned (.slice (some ⟨g, o, none⟩) 2 c) ∧ Q w' ∧ w'.cell? ⟨g, o, none⟩ = some (.int .u8 (a.toNat : Int)) ∧ w'.cell? ⟨g, o + 1, none⟩ = some (.int .u8 (b.toNat : Int))) :
    Calls Tryd.prog 18 #[.pointer (some ⟨rb, 0, none⟩), .int .i64 (k : Int)] w fun e w' => e = .returned (.int .i64 (sgn 2 (beNat [a, b]))) ∧ Q w' := by
  have H := Lib.hid hcall
  clear hcall
  go_enter Tryd.func18, Tryd.ntmps18
  go_wp2_with fail
  refine H.out.mono ?_
  rintro e w1 ⟨g, o, c, rfl, hq, c0, c1⟩
  have HQ := Lib.hid hq
  clear hq
  go_wp2_with fail
  refine wp_loop_rounds 3 ?_
  rw [rounds_succ]
  go_wp2
  rw [rounds_succ]
  go_wp2
  rw [rounds_succ]
  go_wp2
  go_ret
  refine ⟨?_, HQ.out⟩
  rw [← two_num a b]
  rfl
set_option maxRecDepth 8000 in
set_option maxHeartbeats 2000000 in
theorem fixed_four (w : World) (rb : Nat) (k : Nat) (a b d e' : UInt8) (Q : World → Prop) (hcall : Calls Tryd.prog 37 #[.pointer (some ⟨rb, 0, none⟩), .int .i64 (k : Int)] w fun e w' => ∃ g o c, e = .returned (.slice (some ⟨g, o, none⟩) 4 c) ∧ Q w' ∧ w'.cell? ⟨g, o, none⟩ = some (.int .u8 (a.toNat : Int)) ∧ w'.cell? ⟨g, o + 1, none⟩ = some (.int .u8 (b.toNat : Int)) ∧
      w'.cell? ⟨g, o + 2, none⟩ = some (.int .u8 (d.toNat : Int)) ∧ w'.cell? ⟨g, o + 3, none⟩ = some (.int .u8 (e'.toNat : Int))) :
    Calls Tryd.prog 18 #[.pointer (some ⟨rb, 0, none⟩), .int .i64 (k : Int)] w fun e w' => e = .returned (.int .i64 (sgn 4 (beNat [a, b, d, e']))) ∧ Q w' := by
  have H := Lib.hid hcall
  clear hcall
  go_enter Tryd.func18, Tryd.ntmps18
  go_wp2_with fail
  refine H.out.mono ?_
  rintro e w1 ⟨g, o, c, rfl, hq, c0, c1, c2, c3⟩
  have HQ := Lib.hid hq
  clear hq
  go_wp2_with fail
  refine wp_loop_rounds 5 ?_
  rw [rounds_succ]
  go_wp2
  rw [rounds_succ]
  go_wp2
  rw [rounds_succ]
  go_wp2
  rw [rounds_succ]
  go_wp2
  rw [rounds_succ]
  go_wp2
  go_ret
  refine ⟨?_, HQ.out⟩
  rw [← four_num a b d e']
  rfl
theorem fixed_any (w : World) (S : Nat → Prop) (rb : Nat) (bs : List UInt8) (s : Nat × Nat) (k : Nat) (hk : k = 2 ∨ k = 4) (h : SRd w S rb bs s) (hl : bs.length < 4294967296) : Calls Tryd.prog 18 #[.pointer (some ⟨rb, 0, none⟩), .int .i64 (k : Int)] w fun e w' =>
    e = .returned (.int .i64 (sFix k bs s).1) ∧ SRd w' S rb bs (sFix k bs s).2 ∧ w.grownBy w' (some rb) := by
  have ht := take_any w S rb bs s k h hl (by omega)
  rcases sTake_cases k bs s with ⟨e1, e2, e3⟩ | ⟨e1, e2, e3⟩
  · rw [e2, e3]
    refine fixed_nil w rb k _ (ht.mono ?_)
    rintro e w' ⟨v, rfl, hv, hs, hg⟩
    rw [e1] at hv
    obtain ⟨ad, c, rfl⟩ := bytes_len hv
    exact ⟨ad, c, rfl, hs, hg⟩
  · rw [e2, e3]
    generalize (sTake k bs s).1 = l at *
    generalize (sTake k bs s).2 = s' at *
    rcases hk with rfl | rfl
    · obtain ⟨a, b, rfl⟩ : ∃ a b, l = [a, b] := by
        match l, e1 with
        | [a, b], _ => exact ⟨a, b, rfl⟩
      refine fixed_two w rb 2 a b _ (ht.mono ?_)
      rintro e w' ⟨v, rfl, hv, hs, hg⟩
      rcases hv with ⟨-, h⟩ | ⟨g, o, c, rfl, -, -, -, -, h6⟩
      · cases h
      · exact ⟨g, o, c, rfl, ⟨hs, hg⟩, h6 0 a rfl, h6 1 b rfl⟩
    · obtain ⟨a, b, d, e', rfl⟩ : ∃ a b c d, l = [a, b, c, d] := by
        match l, e1 with
        | [a, b, c, d], _ => exact ⟨a, b, c, d, rfl⟩
      refine fixed_four w rb 4 a b d e' _ (ht.mono ?_)
      rintro e w' ⟨v, rfl, hv, hs, hg⟩
      rcases hv with ⟨-, h⟩ | ⟨g, o, c, rfl, -, -, -, -, h6⟩
      · cases h
      · exact ⟨g, o, c, rfl, ⟨hs, hg⟩, h6 0 a rfl, h6 1 b rfl, h6 2 d rfl, h6 3 e' rfl⟩
end Go.Proofs.YthdfhnnoamlacaaDoor.Rec

namespace Go.Proofs.YthdfhnnoamlacaaDoor.Rec
open Go.Proofs.YthdfhnnoamlacaaDoor
open Go.RowKit
open Kz

/-- What one topic says: its name, its partitions. -/
abbrev Ow := List UInt8 × List Int
def PaAt (w : World) (v : Value) (ps : List Int) : Prop :=
  (v = .slice none 0 0 ∧ ps = []) ∨ ∃ g c, v = .slice (some ⟨g, 0, none⟩) ps.length c ∧ g < w.heap.size ∧ ∀ (i : Nat) (n : Int), ps[i]? = some n → w.cell? ⟨g, i, none⟩ = some (.int .i32 n)
def OwAt (w : World) (v : Value) (D : List Ow) : Prop :=
  (v = .slice none 0 0 ∧ D = []) ∨ ∃ g c, v = .slice (some ⟨g, 0, none⟩) D.length c ∧ g < w.heap.size ∧ ∀ (i : Nat) (x : Ow), D[i]? = some x → w.cell? ⟨g, i * 2, none⟩ = some (.string ⟨x.1.toArray⟩) ∧ ∃ u, w.cell? ⟨g, i * 2 + 1, none⟩ = some u ∧ PaAt w u x.2
theorem PaAt.below {w w' : World} {v : Value} {ps : List Int} (h : PaAt w v ps) (hb : Below w.heap.size w w') : PaAt w' v ps := by
  rcases h with h | ⟨g, c, h1, h2, h3⟩
  · exact .inl h
  · exact .inr ⟨g, c, h1, Nat.lt_of_lt_of_le h2 hb.size, fun i n hi => by rw [(bcell hb).1 _ _ h2]; exact h3 i n hi⟩
theorem OwAt.below {w w' : World} {v : Value} {D : List Ow} (h : OwAt w v D) (hb : Below w.heap.size w w') : OwAt w' v D := by
  rcases h with h | ⟨g, c, h1, h2, h3⟩
  · exact .inl h
  · refine .inr ⟨g, c, h1, Nat.lt_of_lt_of_le h2 hb.size, fun i x hi => ?_⟩
    obtain ⟨a, u, b, d⟩ := h3 i x hi
    exact ⟨by rw [(bcell hb).1 _ _ h2]; exact a, u, by rw [(bcell hb).1 _ _ h2]; exact b, d.below hb⟩
theorem PaAt.form {w : World} {v : Value} {ps : List Int} (h : PaAt w v ps) : ∃ a c, v = .slice a ps.length c := by
  rcases h with ⟨rfl, rfl⟩ | ⟨g, c, rfl, -⟩
  · exact ⟨_, _, rfl⟩
  · exact ⟨_, _, rfl⟩
theorem OwAt.form {w : World} {v : Value} {D : List Ow} (h : OwAt w v D) : ∃ a c, v = .slice a D.length c := by
  rcases h with ⟨rfl, rfl⟩ | ⟨g, c, rfl, -⟩
  · exact ⟨_, _, rfl⟩
  · exact ⟨_, _, rfl⟩
def pb (ps : List Int) : List UInt8 := ps.flatMap fun n => fixed n 4
def ob (x : Ow) : List UInt8 := (fixed (x.1.length : Int) 2 ++ x.1) ++ fixed (x.2.length : Int) 4 ++ pb x.2
/-- What the reference writes. -/
def sb (D : List Ow) (gen : Int) : List UInt8 := (fixed (D.length : Int) 4 ++ D.flatMap ob) ++ if gen = -1 then [] else fixed gen 4
theorem fixed_len (n : Int) (k : Nat) : (fixed n k).length = k := fixed_length n k
theorem pb_len (ps : List Int) : (pb ps).length = 4 * ps.length := by
  induction ps with
  | nil => rfl
  | cons a l ih => simp only [pb, List.flatMap_cons, List.length_append, fixed_len, List.length_cons] at *; omega
theorem pb_snoc (ps : List Int) (j : Nat) (n : Int) (h : ps[j]? = some n) : pb (ps.take (j + 1)) = pb (ps.take j) ++ fixed n 4 := by
  rw [List.take_add_one, h]
  simp [pb]
theorem ob_snoc (D : List Ow) (j : Nat) (x : Ow) (h : D[j]? = some x) : (D.take (j + 1)).flatMap ob = (D.take j).flatMap ob ++ ob x := by
  rw [List.take_add_one, h]
  simp
/-- The row of octets is no block of another type. -/
theorem own_ne {w : World} {base : Nat} {v : Value} {bs : List UInt8} {b T : Nat} {cs : Array Value} {fr : Nat × Nat} (h : OwnB w base v bs) (hb : w.heap[b]? = some (.cells cs T fr)) (hT : T ≠ 5) : some b ≠ v.ownBlock := by
  rcases h.2 with ⟨rfl, _⟩ | ⟨g, cap, cur, rfl, _, hg, _⟩
  · simp [Value.ownBlock]
  · intro h
    simp only [Value.ownBlock, Option.some.injEq] at h
    subst h
    rw [hg] at hb
    simp only [Option.some.injEq, Obj.cells.injEq] at hb
    exact hT hb.2.1.symm
theorem fix2W (w : World) (n : Int) : Calls Tryd.prog 39 #[.int .i64 n, .int .i64 2] w fun e w' => ∃ v, e = .returned v ∧ OwnB w' w.heap.size v (fixed n 2) ∧ Below w.heap.size w w' := specFixed_any w n 2 (by decide)
theorem fix4W (w : World) (n : Int) : Calls Tryd.prog 39 #[.int .i64 n, .int .i64 4] w fun e w' => ∃ v, e = .returned v ∧ OwnB w' w.heap.size v (fixed n 4) ∧ Below w.heap.size w w' := specFixed_any w n 4 (by decide)
theorem ob_len (x : Ow) : (ob x).length = 6 + x.1.length + 4 * x.2.length := by
  unfold ob; simp only [List.length_append, fixed_len, pb_len]; omega
theorem obs_len (D : List Ow) (h : ∀ x ∈ D, x.1.length ≤ 4096 ∧ x.2.length ≤ 4096) : (D.flatMap ob).length ≤ D.length * 20486 := by
  induction D with
  | nil => simp
  | cons a l ih =>
    have := ih (fun x hx => h x (List.mem_cons_of_mem _ hx))
    obtain ⟨h1, h2⟩ := h a (List.mem_cons_self ..)
    simp only [List.flatMap_cons, List.length_append, ob_len, List.length_cons]
    omega
set_option maxRecDepth 8000 in
set_option maxHeartbeats 4000000 in
theorem StickyBytes_any (w : World) (v : Value) (D : List Ow) (gen : Int) (h : OwAt w v D) (hg0 : -2147483648 ≤ gen) (hg1 : gen ≤ 2147483647) (hD : D.length ≤ 4096) (hx : ∀ x ∈ D, x.1.length ≤ 4096 ∧ x.2.length ≤ 4096 ∧ ∀ n ∈ x.2, -2147483648 ≤ n ∧ n ≤ 2147483647) :
    Calls Tryd.prog 23 #[.agg #[v, .int .i32 gen]] w fun e w' => ∃ u, e = .returned u ∧ OwnB w' w.heap.size u (sb D gen) ∧ Below w.heap.size w w' := by
  obtain ⟨a0, c0, rfl⟩ := h.form
  have HH := Lib.hid h
  have HX := Lib.hid hx
  clear h hx
  go_enter Tryd.func23, Tryd.ntmps23
  go_wp2_with fail
  generalize hW : w.alloc (.cells #[.slice a0 D.length c0, .int .i32 gen] 37) = W
  have hB : Below w.heap.size w W := by rw [← hW]; exact (Below.refl _ _).alloc (Nat.le_refl _) _
  have hz : W.heap[w.heap.size]? = some (.cells #[.slice a0 D.length c0, .int .i32 gen] 37 (0, 0)) := by rw [← hW]; exact Array.getElem?_push_size
  have hlt : w.heap.size < W.heap.size := (Array.getElem?_eq_some_iff.1 hz).1
  have HA := Lib.hid (HH.out.below hB)
  have HB := Lib.hid hB
  have HZ := Lib.hid hz
  clear hW hB hz HH
  refine (specFixed_any W (D.length : Int) 4 (by decide)).mono ?_
  rintro e w1 ⟨v1, rfl, ho1, hb1⟩
  have q0 : W.cell? ⟨w.heap.size, 0, none⟩ = some (.slice a0 D.length c0) := by rw [cell_of_row W _ _ _ _ _ HZ.out]; rfl
  have q1 : W.cell? ⟨w.heap.size, 1, none⟩ = some (.int .i32 gen) := by rw [cell_of_row W _ _ _ _ _ HZ.out]; rfl
  have q0' : w1.cell? ⟨w.heap.size, 0, none⟩ = some (.slice a0 D.length c0) := ((bcell hb1).1 _ _ hlt).trans q0
  have t1 := hb1.size
  have HW1 := Lib.hid hb1
  have HO1 := Lib.hid ho1
  clear ho1 hb1
  go_wp2
  have hpre : (fixed (D.length : Int) 4).length = 4 := fixed_len _ _
  go_loopw [3, 15] (fun x i wr => ∃ j : Nat, i = .int .i64 (j : Int) ∧ j ≤ D.length ∧ OwnB wr W.heap.size x (fixed (D.length : Int) 4 ++ (D.take j).flatMap ob) ∧ Below W.heap.size W wr) (fun _ i _ => D.length - (intOf i).toNat)
  case atStart => exact ⟨0, rfl, Nat.zero_le _, by simpa using HO1.out, HW1.out⟩
  case round =>
    obtain ⟨j, rfl, hj, hown, hbel⟩ := hrel
    by_cases hjl : j < D.length
    · have hji : (j : Int) < (D.length : Int) := by omega
      obtain ⟨x, hx⟩ : ∃ x, D[j]? = some x := ⟨D[j], List.getElem?_eq_getElem hjl⟩
      obtain ⟨g, c, ea, hg, hcell⟩ : ∃ g c, a0 = some ⟨g, 0, none⟩ ∧ g < W.heap.size ∧ _ := by
        rcases HA.out with ⟨-, h⟩ | ⟨g, c, h1, h2, h3⟩
        · rw [h] at hjl; simp at hjl
        · simp only [Value.slice.injEq] at h1
          exact ⟨g, c, h1.1, h2, h3⟩
      subst ea
      obtain ⟨e0, u, e1, hpa⟩ := hcell j x hx
      obtain ⟨x1, x2, x3⟩ := HX.out x (List.mem_of_getElem? hx)
      rw [← (bcell hbel).1 _ _ hg] at e0 e1
      obtain ⟨ap, cp, rfl⟩ := hpa.form
      have hstep := ob_snoc D j x hx
      have hlen : (fixed (D.length : Int) 4 ++ (D.take j).flatMap ob).length ≤ 536870912 := by
        have h1 := obs_len (D.take j) (fun x hx => ⟨(HX.out x (List.mem_of_mem_take hx)).1, (HX.out x (List.mem_of_mem_take hx)).2.1⟩)
        have h2 : (D.take j).length * 20486 ≤ 4096 * 20486 := Nat.mul_le_mul_right _ (by rw [List.length_take]; omega)
        rw [List.length_append, hpre]
        omega
      obtain ⟨t, ps⟩ := x
      simp only at e0 e1 x1 x2 x3 hpa
      have K1 := Lib.hid hown
      have K2 := Lib.hid hbel
      have K3 := Lib.hid hlen
      have K4 := Lib.hid hstep
      have K5 := Lib.hid hpa
      have K6 := Lib.hid x3
      have r0 : wr.cell? ⟨w.heap.size, 0, none⟩ = _ := ((bcell hbel).1 _ _ hlt).trans q0
      have r1 : wr.cell? ⟨w.heap.size, 1, none⟩ = _ := ((bcell hbel).1 _ _ hlt).trans q1
      have t2 : W.heap.size ≤ wr.heap.size := hbel.size
      generalize hpre1 : fixed (D.length : Int) 4 ++ (D.take j).flatMap ob = pre at *
      clear hcell hpa hown hbel hlen hstep x3 hx
      go_wp2_with fail
      generalize hV : wr.alloc (.cells #[.string ⟨t.toArray⟩, .slice ap ps.length cp] 61) = V
      have hVB : Below wr.heap.size wr V := by rw [← hV]; exact (Below.refl _ _).alloc (Nat.le_refl _) _
      have hVz : V.heap[wr.heap.size]? = some (.cells #[.string ⟨t.toArray⟩, .slice ap ps.length cp] 61 (0, 0)) := by rw [← hV]; exact Array.getElem?_push_size
      have hlV : wr.heap.size < V.heap.size := (Array.getElem?_eq_some_iff.1 hVz).1
      have hpw : wr.heap.size ≠ 0 ∨ True := .inr trivial
      have y1 : ∀ i, V.cell? ⟨wr.heap.size, i, none⟩ = (#[.string ⟨t.toArray⟩, .slice ap ps.length cp] : Array Value)[i]? := fun i => by rw [cell_of_row V _ _ _ _ _ hVz]
      have y0 : ∀ i, V.drew.cell? ⟨wr.heap.size, i, none⟩ = (#[.string ⟨t.toArray⟩, .slice ap ps.length cp] : Array Value)[i]? := y1
      have KV := Lib.hid hVB
      have KO := Lib.hid (K1.out.stay hVB)
      have t3 : W.heap.size ≤ V.heap.size := by omega
      have tl : (⟨t.toArray⟩ : ByteArray).size = t.length := by simp [ByteArray.size]
      clear hV hVB K1
      go_region_held3 (fun w' => ∀ i, w'.cell? ⟨wr.heap.size, i, none⟩ = (#[.string ⟨t.toArray⟩, .slice ap ps.length cp] : Array Value)[i]?) (with_reducible assumption) (first
        | (refine step_append_octets rfl (.tmp 19) (.tmp 23) rfl W.heap.size u3 v2 pre (fixed (t.length : Int) 2) rfl rfl H1.out (own_at_bytes H2.out) (by simp only [lim, fixed_len]; have := K3.out; omega) t4 (fun v3 w3 ho3 hg3 => ?_);
           have r3 := (hg3.block wr.heap.size (show wr.heap.size < w2.heap.size by omega) (own_ne H1.out r2 (by decide))).trans r2;
           have y3 : ∀ i, w3.cell? ⟨wr.heap.size, i, none⟩ = (#[.string ⟨t.toArray⟩, .slice ap ps.length cp] : Array Value)[i]? := fun i => by rw [cell_of_row w3 _ _ _ _ _ r3];
           have s3 := hg3.size; have t5 : W.heap.size ≤ w3.heap.size := Nat.le_trans t4 hg3.size; have H3 := Lib.hid ho3; have HB3 := Lib.hid ((HB2.out.lower (m := W.heap.size) (by omega)).trans ((below_growB H1.out t4 hg3))); clear ho3 hg3)
        | (refine step_append_text rfl (.tmp 24) (.tmp 26) rfl W.heap.size v3 (pre ++ fixed (t.length : Int) 2) t rfl rfl H3.out (by simp only [lim, List.length_append, fixed_len]; have := K3.out; omega) t5 (fun v4 w4 ho4 hg4 => ?_);
           have r4 := (hg4.block wr.heap.size (show wr.heap.size < w3.heap.size by omega) (own_ne H3.out r3 (by decide))).trans r3;
           have y4 : ∀ i, w4.cell? ⟨wr.heap.size, i, none⟩ = (#[.string ⟨t.toArray⟩, .slice ap ps.length cp] : Array Value)[i]? := fun i => by rw [cell_of_row w4 _ _ _ _ _ r4];
           have s4 := hg4.size; have t6 : W.heap.size ≤ w4.heap.size := Nat.le_trans t5 hg4.size; have H4 := Lib.hid ho4; have HB4 := Lib.hid (HB3.out.trans ((below_growB H3.out t5 hg4))); clear ho4 hg4)
        | (go_at_call 39; (with_reducible refine (fix2W V.drew (t.length : Int)).mono ?_); rintro e w2 ⟨v2, rfl, ho2, hb2'⟩; have hb2 : Below V.heap.size V w2 := below_undrew hb2';
           have s2 := hb2.size; have r2 := (hb2.block wr.heap.size hlV).trans hVz;
           have y2 : ∀ i, w2.cell? ⟨wr.heap.size, i, none⟩ = (#[.string ⟨t.toArray⟩, .slice ap ps.length cp] : Array Value)[i]? := fun i => by rw [cell_of_row w2 _ _ _ _ _ r2];
           have t4 : W.heap.size ≤ w2.heap.size := Nat.le_trans t3 hb2.size;
           have H2 := Lib.hid (show OwnB w2 V.heap.size v2 (fixed (t.length : Int) 2) from ho2); have H1 := Lib.hid (KO.out.stay hb2); have HB2 := Lib.hid (KV.out.trans (hb2.lower (m := wr.heap.size) (by omega))); clear hb2' hb2 ho2))
      go_wp2_with fail
      refine (fix4W w4 (ps.length : Int)).mono ?_
      rintro e w5 ⟨v5, rfl, ho5, hb5⟩
      have H6 := Lib.hid (own_at_bytes ho5)
      have H7 := Lib.hid (H4.out.stay hb5)
      have r5 := (hb5.block wr.heap.size (by omega)).trans r4
      have s5 := hb5.size
      have t7 : W.heap.size ≤ w5.heap.size := Nat.le_trans t6 s5
      have HB5 := Lib.hid ((K2.out.trans HB4.out).trans (hb5.lower (m := W.heap.size) (by omega)))
      clear ho5 hb5 y1 y2 y3 y4
      generalize hpre2 : pre ++ fixed (t.length : Int) 2 ++ t = pre2 at *
      have hl2 : pre2.length ≤ 536880912 := by
        rw [← hpre2]; simp only [List.length_append, fixed_len]; have := K3.out; omega
      go_wp2_with (at_builtin; refine wpList_append_octets rfl _ _ rfl W.heap.size _ _ pre2 (fixed (ps.length : Int) 4) Tr rfl rfl H7.out H6.out (by simp only [lim, fixed_len]; omega) t7 ?_)
      intro v6 w6 ho6 hg6
      have r6 := (hg6.block wr.heap.size (by omega) (own_ne H7.out r5 (by decide))).trans r5
      have y6 : w6.cell? ⟨wr.heap.size, 1, none⟩ = some (.slice ap ps.length cp) := by rw [cell_of_row w6 _ _ _ _ _ r6]; rfl
      have s6 := hg6.size
      have t8 : W.heap.size ≤ w6.heap.size := Nat.le_trans t7 s6
      have HB6 := Lib.hid (HB5.out.trans (below_growB H7.out t7 hg6))
      have H8 := Lib.hid ho6
      clear ho6 hg6
      go_wp2
      go_loopw [3, 7, 37] (fun x _ i wx => ∃ m : Nat, i = .int .i64 (m : Int) ∧ m ≤ ps.length ∧ OwnB wx W.heap.size x ((pre2 ++ fixed (ps.length : Int) 4) ++ pb (ps.take m)) ∧ Below W.heap.size W wx) (fun _ _ i _ => ps.length - (intOf i).toNat)
      case atStart => exact ⟨0, rfl, Nat.zero_le _, by simpa [pb] using H8.out, HB6.out⟩
      case round =>
        obtain ⟨m, rfl, hm, hown, hbel⟩ := hrel
        by_cases hml : m < ps.length
        · have hmi : (m : Int) < (ps.length : Int) := by omega
          obtain ⟨n, hn⟩ : ∃ n, ps[m]? = some n := ⟨ps[m], List.getElem?_eq_getElem hml⟩
          obtain ⟨gp, cq, ea, hgp, hcp⟩ : ∃ g c, ap = some ⟨g, 0, none⟩ ∧ g < W.heap.size ∧ _ := by
            rcases K5.out with ⟨-, h⟩ | ⟨g, c, h1, h2, h3⟩
            · rw [h] at hml; simp at hml
            · simp only [Value.slice.injEq] at h1
              exact ⟨g, c, h1.1, h2, h3⟩
          subst ea
          have e2 := hcp m n hn
          rw [← (bcell hbel).1 _ _ hgp] at e2
          obtain ⟨n1, n2⟩ := K6.out n (List.mem_of_getElem? hn)
          have hst := pb_snoc ps m n hn
          have cv : IntKind.i64.wrap n = n := by rw [IntKind.wrap_i64]; omega
          have hl3 : ((pre2 ++ fixed (ps.length : Int) 4) ++ pb (ps.take m)).length ≤ 536900912 := by
            have : (ps.take m).length = m := by rw [List.length_take]; omega
            simp only [List.length_append, fixed_len, pb_len, this]; omega
          have t9 : W.heap.size ≤ wr.heap.size := hbel.size
          have M1 := Lib.hid hown
          have M2 := Lib.hid hbel
          have M3 := Lib.hid hl3
          have M4 := Lib.hid hst
          generalize hp3 : (pre2 ++ fixed (ps.length : Int) 4) ++ pb (ps.take m) = pre3 at *
          clear hown hbel hl3 hst hcp
          go_wp2_with fail
          refine (fix4W wr n).mono ?_
          rintro e w7 ⟨v7, rfl, ho7, hb7⟩
          have M5 := Lib.hid (own_at_bytes ho7)
          have M6 := Lib.hid (M1.out.stay hb7)
          have t10 : W.heap.size ≤ w7.heap.size := Nat.le_trans t9 hb7.size
          have M7 := Lib.hid (M2.out.trans (hb7.lower (m := W.heap.size) (by omega)))
          clear ho7 hb7
          go_wp2_with (at_builtin; refine wpList_append_octets rfl _ _ rfl W.heap.size _ _ pre3 (fixed n 4) Tr rfl rfl M6.out M5.out (by simp only [lim, fixed_len]; have := M3.out; omega) t10 ?_)
          intro v8 w8 ho8 hg8
          have M8 := Lib.hid (M7.out.trans (below_growB M6.out t10 hg8))
          have M9 := Lib.hid ho8
          clear ho8 hg8
          go_wp2
          go_roundw
          case rel => exact ⟨m + 1, by first | rfl | (congr 1; omega), by omega, by rw [M4.out, ← List.append_assoc, hp3]; exact M9.out, M8.out⟩
          case measure => simp only [intOf]; omega
        · have hmi : ¬ ((m : Int) < (ps.length : Int)) := by omega
          obtain rfl : m = ps.length := by omega
          rw [List.take_length] at hown
          have M1 := Lib.hid hown
          have M2 := Lib.hid hbel
          clear hown hbel
          go_wp2
          go_roundw
          case rel => exact ⟨j + 1, by first | rfl | (congr 1; omega), by omega, by
            rw [K4.out, ← List.append_assoc, hpre1]
            have := M1.out
            rw [← hpre2] at this
            simpa [ob] using this, M2.out⟩
          case measure => simp only [intOf]; omega
    · have hji : ¬ ((j : Int) < (D.length : Int)) := by omega
      obtain rfl : j = D.length := by omega
      rw [List.take_length] at hown
      have hlen : (fixed (D.length : Int) 4 ++ D.flatMap ob).length ≤ 536870912 := by
        have h1 := obs_len D (fun x hx => ⟨(HX.out x hx).1, (HX.out x hx).2.1⟩)
        have h2 : D.length * 20486 ≤ 4096 * 20486 := Nat.mul_le_mul_right _ hD
        rw [List.length_append, hpre]
        omega
      have r1 : wr.cell? ⟨w.heap.size, 1, none⟩ = _ := ((bcell hbel).1 _ _ hlt).trans q1
      have t2 : W.heap.size ≤ wr.heap.size := hbel.size
      have K1 := Lib.hid hown
      have K2 := Lib.hid hbel
      clear hown hbel hpre
      by_cases hgn : gen = -1
      · subst hgn
        have hgn : (-1 : Int) = -1 := rfl
        go_wp2
        go_ret
        exact ⟨_, rfl, by unfold sb; rw [if_pos rfl, List.append_nil]; exact K1.out.low (base' := w.heap.size) (by omega), HB.out.trans (K2.out.lower (m := w.heap.size) (by omega))⟩
      · have cv : IntKind.i64.wrap gen = gen := by rw [IntKind.wrap_i64]; omega
        have e : sb D gen = (fixed (D.length : Int) 4 ++ D.flatMap ob) ++ fixed gen 4 := by unfold sb; rw [if_neg hgn]
        have E := Lib.hid e
        clear e
        generalize fixed (D.length : Int) 4 ++ D.flatMap ob = pre at *
        go_wp2_with fail
        refine (fix4W wr gen).mono ?_
        rintro e w7 ⟨v7, rfl, ho7, hb7⟩
        have M5 := Lib.hid (own_at_bytes ho7)
        have M6 := Lib.hid (K1.out.stay hb7)
        have t10 : W.heap.size ≤ w7.heap.size := Nat.le_trans t2 hb7.size
        have M7 := Lib.hid (K2.out.trans (hb7.lower (m := W.heap.size) (by omega)))
        clear ho7 hb7
        go_wp2_with (at_builtin; refine wpList_append_octets rfl _ _ rfl W.heap.size _ _ pre (fixed gen 4) Tr rfl rfl M6.out M5.out (by simp only [lim, fixed_len]; omega) t10 ?_)
        intro v8 w8 ho8 hg8
        have M8 := Lib.hid (M7.out.trans (below_growB M6.out t10 hg8))
        have M9 := Lib.hid ho8
        clear ho8 hg8
        go_wp2
        go_ret
        exact ⟨_, rfl, by rw [E.out]; exact M9.out.low (base' := w.heap.size) (by omega), HB.out.trans (M8.out.lower (m := w.heap.size) (by omega))⟩
end Go.Proofs.YthdfhnnoamlacaaDoor.Rec

namespace Go.Proofs.YthdfhnnoamlacaaDoor.Rec
open Go.Proofs.YthdfhnnoamlacaaDoor
open Go.RowKit
open Kz

/-- So many partitions, as long as all is well. -/
def sParts : Nat → List UInt8 → Nat × Nat → List Int × (Nat × Nat)
  | 0, _, s => ([], s)
  | m + 1, bs, s => if s.2 ≠ 0 then ([], s) else ((sFix 4 bs s).1 :: (sParts m bs (sFix 4 bs s).2).1, (sParts m bs (sFix 4 bs s).2).2)
theorem sParts_step {k p : Nat} {bs : List UInt8} {n : Int} {s : Nat × Nat} (h : sFix 4 bs (p, 0) = (n, s)) : sParts (k + 1) bs (p, 0) = (n :: (sParts k bs s).1, (sParts k bs s).2) := by
  show (if ((p, 0) : Nat × Nat).2 ≠ 0 then _ else _) = _
  rw [if_neg (by simp), h]
/-- A number of things: below 0 is loose. -/
def sMany (k : Nat) (bs : List UInt8) (s : Nat × Nat) : Int × (Nat × Nat) := ((sFix k bs s).1, if (sFix k bs s).1 < 0 then sFail 3 (sFix k bs s).2 else (sFix k bs s).2)
def sOne (bs : List UInt8) (s : Nat × Nat) : Ow × (Nat × Nat) :=
  let a := sMany 2 bs s
  let o := sOct a.1 bs a.2
  let b := sMany 4 bs o.2
  let l := sParts b.1.toNat bs b.2
  ((o.1.2, l.1), l.2)
def sTopics : Nat → List UInt8 → Nat × Nat → List Ow × (Nat × Nat)
  | 0, _, s => ([], s)
  | m + 1, bs, s => if s.2 ≠ 0 then ([], s) else ((sOne bs s).1 :: (sTopics m bs (sOne bs s).2).1, (sTopics m bs (sOne bs s).2).2)
def sFin (bs : List UInt8) (l : List Ow × (Nat × Nat)) : (List Ow × Int) × (Nat × Nat) :=
  if l.2.2 = 0 ∧ 4 ≤ bs.length - l.2.1 then ((l.1, (sFix 4 bs l.2).1), (sFix 4 bs l.2).2) else ((l.1, -1), l.2)
def sSticky (bs : List UInt8) : (List Ow × Int) × (Nat × Nat) := sFin bs (sTopics (sMany 4 bs (0, 0)).1.toNat bs (sMany 4 bs (0, 0)).2)
/-- One's own row of numbers. -/
def PaO (w : World) (base : Nat) (v : Value) (ps : List Int) : Prop := w.ownsRow base 21 1 v ps.length (ps.map fun n => .int .i32 n)
/-- One's own row of what topics say. -/
def OwD (w : World) (base : Nat) (v : Value) (D : List Ow) : Prop :=
  ∃ us : List Value, us.length = D.length ∧ w.ownsRow base 61 2 v D.length ((D.zip us).flatMap fun p => [.string ⟨p.1.1.toArray⟩, p.2]) ∧ ∀ (i : Nat) (x : Ow) (u : Value), D[i]? = some x → us[i]? = some u → PaO w base u x.2
/-- The world while it is read: the result's variable, the reader behind it. -/
structure StkW (w wx : World) (S : Nat → Prop) (bs : List UInt8) (v : Value) (D : List Ow) (gen : Int) (s : Nat × Nat) : Prop where
  rd : SRd wx (inW w S) (w.heap.size + 1) bs s
  row : wx.heap[w.heap.size]? = some (.cells #[v, .int .i32 gen] 37 (0, 0))
  own : OwD wx (w.heap.size + 2) v D
  below : Below w.heap.size w wx
  size : w.heap.size + 2 ≤ wx.heap.size
theorem OwD.kept {w w' : World} {base : Nat} {v : Value} {D : List Ow} {row : Option Nat} (h : OwD w base v D) (hg : w.grownBy w' row) (hr : ∀ k, row = some k → k < base) : OwD w' base v D := by
  obtain ⟨us, h1, h2, h3⟩ := h
  have ne : ∀ {e size n : Nat} {u : Value} {xs : List Value}, w.ownsRow base e size u n xs → w'.ownsRow base e size u n xs := fun h => h.kept hg (by
    rename_i u xs
    cases hu : u.ownBlock with
    | none => exact .inl rfl
    | some k =>
      refine .inr fun e => ?_
      have := (World.ownsRow.lt h k hu).1
      have := hr k e.symm
      omega)
  exact ⟨us, h1, ne h2, fun i x u hx hu => ne (h3 i x u hx hu)⟩
theorem StkW.step {w wx w' : World} {S : Nat → Prop} {bs : List UInt8} {v : Value} {D : List Ow} {gen : Int} {s s' : Nat × Nat} (h : StkW w wx S bs v D gen s) (hr : SRd w' (inW w S) (w.heap.size + 1) bs s') (hg : wx.grownBy w' (some (w.heap.size + 1))) : StkW w w' S bs v D gen s' := by
  have := h.size
  have := hg.size
  refine ⟨hr, ?_, h.own.kept hg (fun k e => by cases e; omega), ?_, by omega⟩
  · rw [hg.block w.heap.size (by omega) (by simp)]; exact h.row
  · exact grown_below (grown_sub (below_grown h.below none) hg (by omega))
theorem StkW.setGen {w wx : World} {S : Nat → Prop} {bs : List UInt8} {v : Value} {D : List Ow} {gen : Int} {s : Nat × Nat} (h : StkW w wx S bs v D gen s) (g : Int) : StkW w (wx.setCell ⟨w.heap.size, 1, none⟩ (.int .i32 g)) S bs v D g s := by
  have hg : wx.grownBy (wx.setCell ⟨w.heap.size, 1, none⟩ (.int .i32 g)) (some w.heap.size) := grown_setCell (grownBy_refl _ _) 1 _
  refine ⟨h.rd.kept hg (fun g hg e => by have := hg.2; have := Option.some.inj e; omega) (fun e => by have := Option.some.inj e; omega), ?_, h.own.kept hg (fun k e => by cases e; omega), ?_, ?_⟩
  · have := h.row
    simp [World.setCell, Array.getElem?_modify, this]
  · exact grown_below (grown_new (below_grown h.below none) _ _ _ (Nat.le_refl _))
  · have := h.size; have := hg.size; omega
theorem OwD.form {w : World} {base : Nat} {v : Value} {D : List Ow} (h : OwD w base v D) : ∃ a c, v = .slice a D.length c := by
  obtain ⟨us, -, ⟨-, h2⟩, -⟩ := h
  rcases h2 with ⟨rfl, e⟩ | ⟨g, cap, cur, rfl, -⟩
  · exact ⟨none, 0, by rw [e]⟩
  · exact ⟨_, _, rfl⟩
theorem add_at (g i : Nat) : (⟨g, 0, none⟩ : Addr).add i = ⟨g, i, none⟩ := by unfold Addr.add; split <;> simp_all
theorem PaO.at {w : World} {base : Nat} {v : Value} {ps : List Int} (h : PaO w base v ps) : PaAt w v ps := by
  rcases h.2 with ⟨rfl, e⟩ | ⟨g, cap, cur, rfl, hb, hg, -⟩
  · exact .inl ⟨rfl, List.length_eq_zero_iff.1 e⟩
  · refine .inr ⟨g, cap, rfl, (Array.getElem?_eq_some_iff.1 hg).1, fun i n hi => ?_⟩
    have := World.ownsRow.cells h (g := g) rfl i (.int .i32 n) (by rw [List.getElem?_map, hi]; rfl)
    rwa [add_at] at this
theorem pairs_at : ∀ (l : List (Ow × Value)) (i : Nat) (p : Ow × Value), l[i]? = some p →
    (l.flatMap fun p => [Value.string ⟨p.1.1.toArray⟩, p.2])[i * 2]? = some (.string ⟨p.1.1.toArray⟩) ∧ (l.flatMap fun p => [Value.string ⟨p.1.1.toArray⟩, p.2])[i * 2 + 1]? = some p.2
  | [], _, _, h => by cases h
  | a :: l, 0, p, h => by
    simp only [List.getElem?_cons_zero, Option.some.injEq] at h
    subst h
    exact ⟨rfl, rfl⟩
  | a :: l, i + 1, p, h => by
    rw [List.getElem?_cons_succ] at h
    have := pairs_at l i p h
    rw [List.flatMap_cons, show (i + 1) * 2 = i * 2 + 1 + 1 by omega]
    exact this
theorem OwD.at {w : World} {base : Nat} {v : Value} {D : List Ow} (h : OwD w base v D) : OwAt w v D := by
  obtain ⟨us, e1, e2, e3⟩ := h
  have e2' := e2
  rcases e2'.2 with ⟨rfl, e⟩ | ⟨g, cap, cur, rfl, hb, hg, -⟩
  · exact .inl ⟨rfl, List.length_eq_zero_iff.1 e⟩
  · refine .inr ⟨g, cap, rfl, (Array.getElem?_eq_some_iff.1 hg).1, fun i x hi => ?_⟩
    obtain ⟨u, hu⟩ : ∃ u, us[i]? = some u := ⟨us[i]'(by have := (List.getElem?_eq_some_iff.1 hi).1; omega), List.getElem?_eq_getElem _⟩
    obtain ⟨h0, h1⟩ := pairs_at (D.zip us) i (x, u) (by rw [List.getElem?_zip_eq_some]; exact ⟨hi, hu⟩)
    have c0 := World.ownsRow.cells e2 (g := g) rfl _ _ h0
    have c1 := World.ownsRow.cells e2 (g := g) rfl _ _ h1
    rw [add_at] at c0 c1
    exact ⟨c0, u, c1, (e3 i x u hi hu).at⟩
theorem fixS (k : Nat) (hk : k = 2 ∨ k = 4) {w wx : World} {S : Nat → Prop} {bs : List UInt8} {v : Value} {D : List Ow} {gen : Int} {s : Nat × Nat} (hl : bs.length < 4294967296) (h : StkW w wx S bs v D gen s) : Calls Tryd.prog 18 #[.pointer (some ⟨w.heap.size + 1, 0, none⟩), .int .i64 (k : Int)] wx fun e w' =>
    e = .returned (.int .i64 (sFix k bs s).1) ∧ StkW w w' S bs v D gen (sFix k bs s).2 ∧ wx.grownBy w' (some (w.heap.size + 1)) := by
  refine (fixed_any wx _ _ bs s k hk h.rd hl).mono ?_
  rintro e w' ⟨rfl, h1, h2⟩
  exact ⟨rfl, h.step h1 h2, h2⟩
theorem fix4S {w wx : World} {S : Nat → Prop} {bs : List UInt8} {v : Value} {D : List Ow} {gen : Int} {s : Nat × Nat} (hl : bs.length < 4294967296) (h : StkW w wx S bs v D gen s) : Calls Tryd.prog 18 #[.pointer (some ⟨w.heap.size + 1, 0, none⟩), .int .i64 4] wx fun e w' =>
    e = .returned (.int .i64 (sFix 4 bs s).1) ∧ StkW w w' S bs v D gen (sFix 4 bs s).2 ∧ wx.grownBy w' (some (w.heap.size + 1)) := fixS 4 (.inr rfl) hl h
theorem fix2S {w wx : World} {S : Nat → Prop} {bs : List UInt8} {v : Value} {D : List Ow} {gen : Int} {s : Nat × Nat} (hl : bs.length < 4294967296) (h : StkW w wx S bs v D gen s) : Calls Tryd.prog 18 #[.pointer (some ⟨w.heap.size + 1, 0, none⟩), .int .i64 2] wx fun e w' =>
    e = .returned (.int .i64 (sFix 2 bs s).1) ∧ StkW w w' S bs v D gen (sFix 2 bs s).2 ∧ wx.grownBy w' (some (w.heap.size + 1)) := fixS 2 (.inl rfl) hl h
theorem fail3S {w wx : World} {S : Nat → Prop} {bs : List UInt8} {v : Value} {D : List Ow} {gen : Int} {s : Nat × Nat} (h : StkW w wx S bs v D gen s) : Calls Tryd.prog 19 #[.pointer (some ⟨w.heap.size + 1, 0, none⟩), .int .i64 3] wx fun e w' =>
    e = .returned (.tuple #[]) ∧ StkW w w' S bs v D gen (sFail 3 s) ∧ wx.grownBy w' (some (w.heap.size + 1)) := by
  refine (fail_any wx _ _ bs s 3 h.rd).mono ?_
  rintro e w' ⟨rfl, h1, h2⟩
  exact ⟨rfl, h.step h1 h2, h2⟩
theorem sFix_bound (k : Nat) (hk : k = 2 ∨ k = 4) (bs : List UInt8) (s : Nat × Nat) : -2147483648 ≤ (sFix k bs s).1 ∧ (sFix k bs s).1 ≤ 2147483647 := by
  rcases sTake_cases k bs s with ⟨-, e, -⟩ | ⟨e1, e, -⟩
  · rw [e]; decide
  · rw [e]
    have h := beNat_lt (sTake k bs s).1
    rw [e1] at h
    generalize beNat (sTake k bs s).1 = n at *
    rcases hk with rfl | rfl
    · have : n < 65536 := h
      unfold sgn; split <;> omega
    · have : n < 4294967296 := h
      unfold sgn; split <;> omega
theorem PaO.kept {w w' : World} {base : Nat} {v : Value} {ps : List Int} {row : Option Nat} (h : PaO w base v ps) (hg : w.grownBy w' row) (hr : ∀ k, row = some k → k < base) : PaO w' base v ps :=
  World.ownsRow.kept h hg (by
    cases hu : v.ownBlock with
    | none => exact .inl rfl
    | some k =>
      refine .inr fun e => ?_
      have := (World.ownsRow.lt h k hu).1
      have := hr k e.symm
      omega)
theorem PaO.form {w : World} {base : Nat} {v : Value} {ps : List Int} (h : PaO w base v ps) : ∃ a c, v = .slice a ps.length c := by
  rcases h.2 with ⟨rfl, e⟩ | ⟨g, cap, cur, rfl, -⟩
  · exact ⟨none, 0, by rw [e]⟩
  · exact ⟨_, _, rfl⟩
theorem StkW.on {w wx w' : World} {S : Nat → Prop} {bs : List UInt8} {v : Value} {D : List Ow} {gen : Int} {s : Nat × Nat} (h : StkW w wx S bs v D gen s) (hb : Below wx.heap.size wx w') : StkW w w' S bs v D gen s := h.step (h.rd.below hb) (below_grown hb _)
/-- The world while a topic's partitions are read: the topic's variable is the first block behind w5. -/
structure PStk (w w5 wx : World) (S : Nat → Prop) (bs : List UInt8) (v : Value) (D : List Ow) (t : List UInt8) (u : Value) (l : List Int) (s : Nat × Nat) : Prop where
  stk : StkW w wx S bs v D 0 s
  gr : w5.grownBy wx (some (w.heap.size + 1))
  row : wx.heap[w5.heap.size]? = some (.cells #[strV t, u] 61 (0, 0))
  own : PaO wx (w5.heap.size + 1) u l
  size : w5.heap.size + 1 ≤ wx.heap.size
  low : w.heap.size + 2 ≤ w5.heap.size
  own5 : OwD w5 (w.heap.size + 2) v D
theorem PStk.step {w w5 wx w' : World} {S : Nat → Prop} {bs : List UInt8} {v : Value} {D : List Ow} {t : List UInt8} {u : Value} {l : List Int} {s s' : Nat × Nat} (h : PStk w w5 wx S bs v D t u l s) (hr : StkW w w' S bs v D 0 s') (hg : wx.grownBy w' (some (w.heap.size + 1))) : PStk w w5 w' S bs v D t u l s' := by
  have h1 := h.size
  have h2 := h.low
  have h3 := hg.size
  refine ⟨hr, grownBy_trans h.gr hg, ?_, h.own.kept hg (fun k e => by cases e; omega), by omega, h2, h.own5⟩
  rw [hg.block w5.heap.size (by omega) (by simp; omega)]
  exact h.row
theorem fix4P {w w5 wx : World} {S : Nat → Prop} {bs : List UInt8} {v : Value} {D : List Ow} {t : List UInt8} {u : Value} {l : List Int} {s : Nat × Nat} (hl : bs.length < 4294967296) (h : PStk w w5 wx S bs v D t u l s) : Calls Tryd.prog 18 #[.pointer (some ⟨w.heap.size + 1, 0, none⟩), .int .i64 4] wx fun e w' =>
    e = .returned (.int .i64 (sFix 4 bs s).1) ∧ PStk w w5 w' S bs v D t u l (sFix 4 bs s).2 := by
  refine (fix4S hl h.stk).mono ?_
  rintro e w' ⟨rfl, h1, h2⟩
  exact ⟨rfl, h.step h1 h2⟩
theorem fail3P {w w5 wx : World} {S : Nat → Prop} {bs : List UInt8} {v : Value} {D : List Ow} {t : List UInt8} {u : Value} {l : List Int} {s : Nat × Nat} (h : PStk w w5 wx S bs v D t u l s) : Calls Tryd.prog 19 #[.pointer (some ⟨w.heap.size + 1, 0, none⟩), .int .i64 3] wx fun e w' =>
    e = .returned (.tuple #[]) ∧ PStk w w5 w' S bs v D t u l (sFail 3 s) := by
  refine (fail3S h.stk).mono ?_
  rintro e w' ⟨rfl, h1, h2⟩
  exact ⟨rfl, h.step h1 h2⟩
theorem PStk.drew {w w5 wx : World} {S : Nat → Prop} {bs : List UInt8} {v : Value} {D : List Ow} {t : List UInt8} {u : Value} {l : List Int} {s : Nat × Nat} (h : PStk w w5 wx S bs v D t u l s) : PStk w w5 wx.drew S bs v D t u l s :=
  h.step (h.stk.step h.stk.rd (drewN_grown wx 1 _)) (drewN_grown wx 1 _)
/-- A number is put behind a topic's partitions. -/
theorem PStk.put {w w5 w2 w3 : World} {S : Nat → Prop} {bs : List UInt8} {v : Value} {D : List Ow} {t : List UInt8} {u u' : Value} {l l' : List Int} {s : Nat × Nat} (h : PStk w w5 w2 S bs v D t u l s) (o : Obj) (hg : (w2.alloc o).grownBy w3 u.ownBlock) (hp : PaO w3 (w5.heap.size + 1) u' l') :
    PStk w w5 (w3.setCell ⟨w5.heap.size, 1, none⟩ u') S bs v D t u' l' s := by
  have hu : ∀ k, u.ownBlock = some k → w5.heap.size + 1 ≤ k := fun k hk => (World.ownsRow.lt h.own k hk).1
  have e1 := (grown_alloc w2 o none).size
  have e2 := hg.size
  have e3 := h.size
  have e4 := h.low
  have g1 : w2.grownBy w3 u.ownBlock := grownBy_trans (grown_alloc w2 o _) hg
  have blk : ∀ k, k < w2.heap.size → k ≤ w5.heap.size → w3.heap[k]? = w2.heap[k]? := fun k hk hl => g1.block k hk (fun e => by have := hu k e.symm; omega)
  have hs : ∀ k, k ≠ w5.heap.size → (w3.setCell ⟨w5.heap.size, 1, none⟩ u').heap[k]? = w3.heap[k]? := fun k hk => Below.heap_setCell w3 ⟨w5.heap.size, 1, none⟩ u' k hk
  have hz : (w3.setCell ⟨w5.heap.size, 1, none⟩ u').heap.size = w3.heap.size := by simp [World.setCell]
  have hg5 : w5.grownBy (w3.setCell ⟨w5.heap.size, 1, none⟩ u') (some (w.heap.size + 1)) :=
    ⟨g1.os.trans h.gr.os, g1.tape.trans h.gr.tape, g1.output.trans h.gr.output, by rw [hz]; omega, fun k hk hr => (hs k (by omega)).trans ((blk k (by omega) (by omega)).trans (h.gr.block k hk hr))⟩
  refine ⟨⟨?_, ?_, h.own5.kept hg5 (fun k e => by cases e; omega), ?_, by rw [hz]; omega⟩, hg5, ?_, ?_, by rw [hz]; omega, h.low, h.own5⟩
  · refine (h.stk.rd.kept g1 (fun g hg e => ?_) (fun e => ?_)).kept (grown_setCell (grownBy_refl w3 (some w5.heap.size)) 1 u') (fun g hg e => ?_) (fun e => ?_)
    · have := hg.2; have := hu g e.symm; omega
    · have := hu _ e.symm; omega
    · have := hg.2; have := Option.some.inj e; omega
    · have := Option.some.inj e; omega
  · rw [hs _ (by omega), blk _ (by omega) (by omega)]
    exact h.stk.row
  · exact ⟨g1.os.trans h.stk.below.os, g1.tape.trans h.stk.below.tape, g1.output.trans h.stk.below.output, by rw [hz]; omega, fun k hk => (hs k (by omega)).trans ((blk k (by omega) (by omega)).trans (h.stk.below.block k hk))⟩
  · have := heap_setCell_row (o := 1) (u := u') ((blk w5.heap.size (by omega) (Nat.le_refl _)).trans h.row)
    exact this
  · exact hp.kept (grown_setCell (grownBy_refl w3 (some w5.heap.size)) 1 u') (fun k e => by have := Option.some.inj e; omega)
theorem PStk.row3 {w w5 w2 w3 : World} {S : Nat → Prop} {bs : List UInt8} {v : Value} {D : List Ow} {t : List UInt8} {u : Value} {l : List Int} {s : Nat × Nat} (h : PStk w w5 w2 S bs v D t u l s) (o : Obj) (hg : (w2.alloc o).grownBy w3 u.ownBlock) :
    w3.heap[w5.heap.size]? = some (.cells #[strV t, u] 61 (0, 0)) := by
  have hu : ∀ k, u.ownBlock = some k → w5.heap.size + 1 ≤ k := fun k hk => (World.ownsRow.lt h.own k hk).1
  have g1 : w2.grownBy w3 u.ownBlock := grownBy_trans (grown_alloc w2 o _) hg
  have e3 := h.size
  rw [g1.block w5.heap.size (by omega) (fun e => by have := hu _ e.symm; omega)]
  exact h.row
theorem i61 : (Tryd.prog.info? 61).map (fun i => (i.zero, i.size, i.bytes)) = some (some (.agg #[.string ⟨#[]⟩, .slice none 0 0]), 2, 40) := by kernel_rfl
theorem i21 : (Tryd.prog.info? 21).map (fun i => (i.zero, i.size, i.bytes)) = some (some (.int .i32 0), 1, 4) := by kernel_rfl
/-- Numbers are put behind one's own row of numbers. -/
theorem append_ints {w : World} {base : Nat} {v u : Value} {ps qs : List Int} {ty : TypeId} (h : PaO w base v ps) (hu : PaAt w u qs) (hl : ps.length + qs.length ≤ 4294967296) (hb : base ≤ w.heap.size) :
    ∃ v' w', (Builtin.append_ #[59, 59] ty #[v, u]).run Tryd.prog w = .ok v' w' ∧ PaO w' base v' (ps ++ qs) ∧ w.grownBy w' v.ownBlock := by
  obtain ⟨i, hi, hz, hsz, hby⟩ := info_parts i21
  rcases hu with ⟨rfl, rfl⟩ | ⟨g, c, rfl, hg, hc⟩
  · exact ⟨v, w, run_append_owned_none w base _ _ 21 i 1 Tryd.underlying59 hi v _ _ h, by rw [List.append_nil]; exact h, grownBy_refl _ _⟩
  · obtain ⟨v', w', h1, h2, h3, -⟩ := run_append_own (P := Tryd.prog) w base 59 ty 21 i _ 1 4 Tryd.underlying59 hi hz hsz hby rfl (by decide) v ps.length _ h ⟨g, 0, none⟩ qs.length c (qs.map fun n => .int .i32 n) (by simp) (fun j b hj => by
      rw [List.getElem?_map, Option.map_eq_some_iff] at hj
      obtain ⟨n, hn, rfl⟩ := hj
      rw [add_at]
      exact hc j n hn) (fun b hb => by
      obtain ⟨n, -, rfl⟩ := List.mem_map.1 hb
      rfl) (by simp only [maxLen]; omega) (by omega) hb
    refine ⟨v', w', h1, ?_, h3⟩
    unfold PaO
    rw [List.length_append, List.map_append]
    exact h2
theorem step_append_ints {ops : Array Oper} {o : Oper} {a : Act} {w : World} {K : Act → World → Prop} {Q : Exit → Act → World → Prop} {E : Prop} (hgd : o.guard = none) (s x : Operand)
    (ho : o.op = .call { callee := .builtin .append, args := #[s, x], argTypes := #[59, 59] }) (base : Nat) (v u : Value) (ps qs : List Int) (hs : a.eval s = v) (hx : a.eval x = u) (h : PaO w base v ps) (hu : PaAt w u qs)
    (hl : ps.length + qs.length ≤ 4294967296) (hb : base ≤ w.heap.size) (hk : ∀ v' w', PaO w' base v' (ps ++ qs) → w.grownBy w' v.ownBlock → K (a.put o.dst v') w') :
    if Region.wanted o (yielded ops a.tmps) = true then Oper.wp Tryd.prog o a w K Q else E := by
  have hw : Region.wanted o (yielded ops a.tmps) = true := by simp [Region.wanted, hgd]
  rw [if_pos hw]
  obtain ⟨v', w', h1, h2, h3⟩ := append_ints (ty := o.type) h hu hl hb
  exact Lib.wp_append_run w s x _ _ ho _ _ hs hx v' w' h1 (hk v' w' h2 h3)
/-- A new row of one number. -/
theorem one_int (w : World) (n : Int) : PaAt (w.alloc (.cells #[.int .i32 n] 21)) (.slice (some ⟨w.heap.size, 0, none⟩) 1 1) [n] := by
  have hz : (w.alloc (.cells #[.int .i32 n] 21)).heap[w.heap.size]? = some (.cells #[.int .i32 n] 21 (0, 0)) := Array.getElem?_push_size
  refine .inr ⟨w.heap.size, 1, rfl, (Array.getElem?_eq_some_iff.1 hz).1, fun i m hi => ?_⟩
  cases i with
  | zero => simp only [List.getElem?_cons_zero, Option.some.injEq] at hi; subst hi; rw [cell_of_row _ _ _ _ _ _ hz]; rfl
  | succ i => simp at hi
/-- Rows of different types are apart. -/
theorem rows_ne {w : World} {b b' e e' s s' n n' : Nat} {v v' : Value} {xs xs' : List Value} (h : w.ownsRow b e s v n xs) (h' : w.ownsRow b' e' s' v' n' xs') (he : e ≠ e') : v.ownBlock = none ∨ v.ownBlock ≠ v'.ownBlock := by
  rcases h.2 with ⟨rfl, _⟩ | ⟨g, cap, cur, rfl, _, hg, _⟩
  · exact .inl rfl
  · refine .inr fun e0 => ?_
    rcases h'.2 with ⟨rfl, _⟩ | ⟨g', cap', cur', rfl, _, hg', _⟩
    · simp [Value.ownBlock] at e0
    · simp only [Value.ownBlock, Option.some.injEq] at e0
      subst e0
      rw [hg] at hg'
      simp only [Option.some.injEq, Obj.cells.injEq] at hg'
      exact he hg'.2.1
theorem wpList_append_ow {ops : Array Oper} {rest : List Oper} {o : Oper} {a : Act} {Q : Exit → Act → World → Prop} {w : World} (hgd : o.guard = none) (s x : Operand)
    (ho : o.op = .call { callee := .builtin .append, args := #[s, x], argTypes := #[35, 35] }) (base : Nat) (v : Value) (D : List Ow) (t : List UInt8) (au : Option Addr) (cu : Nat) (l : List Int) (hs : a.eval s = v) (hown : OwD w base v D) (g c : Nat)
    (hx : a.eval x = .slice (some ⟨g, 0, none⟩) 1 c) (h0 : w.cell? ⟨g, 0, none⟩ = some (strV t)) (h1 : w.cell? ⟨g, 1, none⟩ = some (.slice au l.length cu)) (hu : PaO w base (.slice au l.length cu) l) (hD : D.length ≤ 2147483647) (hbase : base ≤ w.heap.size)
    (h : ∀ v' w', OwD w' base v' (D ++ [(t, l)]) → w.grownBy w' v.ownBlock → wpList Tryd.prog ops Q rest (a.put o.dst v') w') : wpList Tryd.prog ops Q (o :: rest) a w := by
  obtain ⟨us, e1, e2, e3⟩ := hown
  obtain ⟨i, hi, hz, hsz, hby⟩ := info_parts i61
  refine wpList_append_own w hgd s x 35 ho base 61 i _ 2 40 Tryd.underlying35 hi hz hsz hby rfl (by decide) v D.length _ hs e2 ⟨g, 0, none⟩ 1 c [strV t, .slice au l.length cu] hx rfl ?_ ?_ (by simp only [maxLen]; omega) (by omega) hbase ?_
  · intro j u hj
    match j, hj with
    | 0, hj => simp only [List.getElem?_cons_zero, Option.some.injEq] at hj; subst hj; exact h0
    | 1, hj => simp only [List.getElem?_cons_succ, List.getElem?_cons_zero, Option.some.injEq] at hj; subst hj; exact h1
    | j + 2, hj => simp at hj
  · intro u hu
    simp only [List.mem_cons, List.not_mem_nil, or_false] at hu
    rcases hu with rfl | rfl <;> rfl
  · intro v' w' g1 g2 _
    refine h v' w' ⟨us ++ [.slice au l.length cu], by simp [e1], ?_, ?_⟩ g2
    · rw [List.zip_append e1.symm, List.flatMap_append, List.length_append]
      exact g1
    · intro i y u hy hu'
      have kp : ∀ {z : Value} {ps : List Int}, PaO w base z ps → PaO w' base z ps := fun hz => World.ownsRow.kept hz g2 (rows_ne hz e2 (by decide))
      by_cases hi' : i < D.length
      · rw [List.getElem?_append_left hi'] at hy
        rw [List.getElem?_append_left (by omega)] at hu'
        exact kp (e3 i y u hy hu')
      · rw [List.getElem?_append_right (by omega)] at hy
        rw [List.getElem?_append_right (by omega)] at hu'
        rw [e1] at hu'
        generalize i - D.length = k at *
        match k, hy, hu' with
        | 0, hy, hu' => simp only [List.getElem?_cons_zero, Option.some.injEq] at hy hu'; subst hy; subst hu'; exact kp hu
        | k + 1, hy, hu' => simp at hy
theorem PaO.low {w : World} {b b' : Nat} {v : Value} {ps : List Int} (h : PaO w b v ps) (hb : b' ≤ b) : PaO w b' v ps := by
  refine ⟨h.1, ?_⟩
  rcases h.2 with h | ⟨g, cap, cur, e, h1, h2⟩
  · exact .inl h
  · exact .inr ⟨g, cap, cur, e, Nat.le_trans hb h1, h2⟩
theorem StkW.setList {w w' : World} {S : Nat → Prop} {bs : List UInt8} {v v' : Value} {D' : List Ow} {gen : Int} {s : Nat × Nat} (hr : SRd w' (inW w S) (w.heap.size + 1) bs s) (row : w'.heap[w.heap.size]? = some (.cells #[v, .int .i32 gen] 37 (0, 0))) (own : OwD w' (w.heap.size + 2) v' D')
    (below : Below w.heap.size w w') (size : w.heap.size + 2 ≤ w'.heap.size) : StkW w (w'.setCell ⟨w.heap.size, 0, none⟩ v') S bs v' D' gen s := by
  have hg : w'.grownBy (w'.setCell ⟨w.heap.size, 0, none⟩ v') (some w.heap.size) := grown_setCell (grownBy_refl _ _) 0 _
  refine ⟨hr.kept hg (fun g hg e => by have := hg.2; have := Option.some.inj e; omega) (fun e => by have := Option.some.inj e; omega), ?_, own.kept hg (fun k e => by cases e; omega), ?_, ?_⟩
  · simp [World.setCell, Array.getElem?_modify, row]
  · exact grown_below (grown_new (below_grown below none) _ _ _ (Nat.le_refl _))
  · have := hg.size; omega
theorem sTopics_step {bs : List UInt8} {p k : Nat} {x : Ow} {s : Nat × Nat} (h : sOne bs (p, 0) = (x, s)) : sTopics (k + 1) bs (p, 0) = (x :: (sTopics k bs s).1, (sTopics k bs s).2) := by
  have e : sTopics (k + 1) bs (p, 0) = ((sOne bs (p, 0)).1 :: (sTopics k bs (sOne bs (p, 0)).2).1, (sTopics k bs (sOne bs (p, 0)).2).2) := if_neg (fun h => h rfl)
  rw [e, h]
theorem OwD.ne {w : World} {base : Nat} {v : Value} {D : List Ow} (h : OwD w base v D) : ∀ k, v.ownBlock = some k → base ≤ k := by
  obtain ⟨us, -, h2, -⟩ := h
  exact fun k hk => (World.ownsRow.lt h2 k hk).1
theorem grown_own_below {w wx w' : World} {r : Option Nat} (hb : Below w.heap.size w wx) (hg : wx.grownBy w' r) (hr : ∀ k, r = some k → w.heap.size ≤ k) : Below w.heap.size w w' :=
  ⟨hg.os.trans hb.os, hg.tape.trans hb.tape, hg.output.trans hb.output, Nat.le_trans hb.size hg.size, fun k hk => (hg.block k (Nat.lt_of_lt_of_le hk hb.size) (fun e => by have := hr k e.symm; omega)).trans (hb.block k hk)⟩
set_option maxRecDepth 8000 in
set_option maxHeartbeats 4000000 in
theorem ReadSticky_any (w : World) (S : Nat → Prop) (v : Value) (bs : List UInt8) (h : BytesAt w S v bs) (hl : bs.length < 4294967296) : Calls Tryd.prog 9 #[v] w fun e w' =>
    ∃ u, e = .returned (.tuple #[.agg #[u, .int .i32 (sSticky bs).1.2], .int .i64 ((sSticky bs).2.1 : Int), .int .i64 ((sSticky bs).2.2 : Int)]) ∧ OwAt w' u (sSticky bs).1.1 ∧ Below w.heap.size w w' := by
  obtain ⟨ad, c, rfl⟩ := bytes_len h
  have hb : BytesAt w (inW w S) (.slice ad bs.length c) bs := bnd_bytes h
  generalize hW : (w.alloc (.cells #[.slice none 0 0, .int .i32 0] 37)).alloc (.cells #[.slice ad bs.length c, .int .i64 0, .int .i64 0] 45) = W
  have hB : Below w.heap.size w W := by rw [← hW]; exact ((Below.refl _ _).alloc (Nat.le_refl _) _).alloc (by simp) _
  have hz0 : W.heap[w.heap.size]? = some (.cells #[.slice none 0 0, .int .i32 0] 37 (0, 0)) := by
    rw [← hW]
    show ((w.heap.push _).push _)[w.heap.size]? = _
    rw [Array.getElem?_push_lt (by simp), Array.getElem_push_eq]
  have hz1 : W.heap[w.heap.size + 1]? = some (.cells #[.slice ad bs.length c, .int .i64 0, .int .i64 0] 45 (0, 0)) := by
    rw [← hW]
    show ((w.heap.push _).push _)[w.heap.size + 1]? = _
    exact (by simp : (w.heap.push (.cells #[.slice none 0 0, .int .i32 0] 37)).size = w.heap.size + 1) ▸ Array.getElem?_push_size
  have hs : w.heap.size + 2 ≤ W.heap.size := by rw [← hW]; simp
  have hs0 : SRd W (inW w S) (w.heap.size + 1) bs (0, 0) := ⟨fun h => by have := h.2; omega, by simp, _, hz1, hb.below hB (fun g h => h.2)⟩
  have HK := Lib.hid (show StkW w W S bs (.slice none 0 0) [] 0 (0, 0) from ⟨hs0, hz0, ⟨[], rfl, World.ownsRow_nil _ _ _ _, fun i x u h => by simp at h⟩, hB, hs⟩)
  have HW := Lib.hid hW
  clear hB hz0 hz1 hs hs0 hb h
  have hmb := (sFix_bound 4 (.inr rfl) bs (0, 0))
  have HF := Lib.hid (@fix4S w W S bs _ _ _ _ hl HK.out)
  have hR : ∃ R, R = sSticky bs := ⟨_, rfl⟩
  obtain ⟨R, hR⟩ := hR
  rw [← hR]
  unfold sSticky sMany at hR
  generalize sFix 4 bs (0, 0) = r at *
  obtain ⟨many, s1⟩ := r
  simp only at hmb hR
  have HR := Lib.hid hR
  clear hR
  have b1 := hmb.1
  have b2 := hmb.2
  clear hmb hW
  go_enter Tryd.func9, Tryd.ntmps9
  go_wp2_with fail
  rw [HW.out]
  refine HF.out.mono ?_
  rintro e w1 ⟨rfl, h1, -⟩
  have H1 := Lib.hid h1
  clear h1 HF HK
  go_upto_if 18 with (fail)
  go_cut [6] (fun s6 wx => s6 = .int .i64 many ∧ StkW w wx S bs (.slice none 0 0) [] 0 (if many < 0 then sFail 3 s1 else s1))
  case first =>
    by_cases hn : many < 0
    · go_wp2_with fail
      refine (fail3S H1.out).mono ?_
      rintro e w2 ⟨rfl, h2, -⟩
      have H2 := Lib.hid h2
      clear h2
      go_wp2_with fail
      go_meet
      exact ⟨rfl, by rw [if_pos hn]; exact H2.out⟩
    · have hn' := Lib.hid hn
      go_wp2_with fail
      go_meet
      exact ⟨rfl, by rw [if_neg (by have := hn'.out; omega)]; exact H1.out⟩
  case rest =>
    obtain ⟨rfl, hs⟩ := hcut
    have HR2 := Lib.hid HR.out
    clear HR H1
    generalize (if many < 0 then sFail 3 s1 else s1) = s2 at *
    have HS := Lib.hid hs
    clear hs
    go_upto_block 0 with fail
    go_cut [7] (fun s7 wx => ∃ (x : Value) (D : List Ow) (s : Nat × Nat), StkW w wx S bs x D 0 s ∧ sTopics many.toNat bs s2 = (D, s) ∧ D.length ≤ many.toNat)
    case first =>
      go_wp2_with fail
      go_loopw [7] (fun i wx => ∃ (m : Nat) (x : Value) (D : List Ow) (s : Nat × Nat), i = .int .i64 (m : Int) ∧ m ≤ many.toNat ∧ D.length = m ∧ StkW w wx S bs x D 0 s ∧ sTopics many.toNat bs s2 = (D ++ (sTopics (many.toNat - m) bs s).1, (sTopics (many.toNat - m) bs s).2)) (fun i _ => many.toNat - (intOf i).toNat)
      case atStart => exact ⟨0, _, [], s2, rfl, Nat.zero_le _, rfl, HS.out, rfl⟩
      case round =>
        obtain ⟨m, x, D, ⟨p, q⟩, rfl, hm, hD, hst, htop⟩ := hrel
        obtain ⟨ad1, c1, -, -, -, -, -, c10, c11, c12, -, -⟩ := hst.rd.parts
        have c12' : wr.cell? ⟨w.heap.size + 1, 2, none⟩ = some (.int .i64 (q : Int)) := c12
        have K1 := Lib.hid hst
        have K2 := Lib.hid htop
        have K3 := Lib.hid hD
        clear hst htop hD c10 c11 c12
        by_cases hml : m < many.toNat
        · have hmi : (m : Int) < many := by omega
          by_cases hq : q = 0
          · subst hq
            obtain ⟨⟨n, s3⟩, hr⟩ : ∃ r, sFix 2 bs (p, 0) = r := ⟨_, rfl⟩
            have hb2 := sFix_bound 2 (.inl rfl) bs (p, 0)
            have HF := @fix2S w _ S bs _ _ _ _ hl K1.out
            rw [hr] at hb2 HF
            have b3 := hb2.1
            have b4 := hb2.2
            simp only at b3 b4 HF
            have E1 := Lib.hid hr
            have HF1 := Lib.hid HF
            clear hr hb2 HF
            go_wp2_with fail
            refine HF1.out.mono ?_
            rintro e w3 ⟨rfl, h3, -⟩
            have H3 := Lib.hid h3
            clear h3 HF1 K1
            go_upto_if 36 with (fail)
            go_cut [8] (fun s8 wx => s8 = .int .i64 n ∧ StkW w wx S bs x D 0 (if n < 0 then sFail 3 s3 else s3))
            case first =>
              by_cases hn : n < 0
              · go_wp2_with fail
                refine (fail3S H3.out).mono ?_
                rintro e w4 ⟨rfl, h4, -⟩
                have H4 := Lib.hid h4
                clear h4
                go_wp2_with fail
                go_meet
                exact ⟨rfl, by rw [if_pos hn]; exact H4.out⟩
              · have hn' := Lib.hid hn
                go_wp2_with fail
                go_meet
                exact ⟨rfl, by rw [if_neg (by have := hn'.out; omega)]; exact H3.out⟩
            case rest =>
              obtain ⟨rfl, hs⟩ := hcut
              obtain ⟨s4, h4⟩ : ∃ r, (if n < 0 then sFail 3 s3 else s3) = r := ⟨_, rfl⟩
              rw [h4] at hs
              have E2 := Lib.hid h4
              have HS4 := Lib.hid hs
              have sz := hs.size
              clear h4 hs H3
              go_wp2_with fail
              refine (octets_any wc (inW w S) (w.heap.size + 1) bs s4 n HS4.out.rd hl (by omega) (by omega) (fun g hg => by have := hg.2; omega)).mono ?_
              rintro e w5 ⟨v, rfl, hv, h5, g5⟩
              obtain ⟨⟨⟨nl, t⟩, s5⟩, ho⟩ : ∃ r, sOct n bs s4 = r := ⟨_, rfl⟩
              rw [ho] at hv h5 ⊢
              simp only at hv h5 ⊢
              have E3 := Lib.hid ho
              obtain ⟨ad2, k2, rfl⟩ := bytes_len hv
              have hf := field24 nl ad2 t.length k2
              have hc := conv_string hv 22 9 rfl rfl
              have H5 := Lib.hid (HS4.out.step h5 g5)
              have sz5 := H5.out.size
              clear hv h5 g5 ho HS4
              go_wp2_with fail
              generalize hV : w5.alloc (.cells #[.string ⟨t.toArray⟩, .slice none 0 0] 61) = V
              have hVB : Below w5.heap.size w5 V := by rw [← hV]; exact (Below.refl _ _).alloc (Nat.le_refl _) _
              have hVz : V.heap[w5.heap.size]? = some (.cells #[strV t, .slice none 0 0] 61 (0, 0)) := by rw [← hV]; exact Array.getElem?_push_size
              have hVs : w5.heap.size + 1 ≤ V.heap.size := (Array.getElem?_eq_some_iff.1 hVz).1
              have HP := Lib.hid (show PStk w w5 V S bs x D t (.slice none 0 0) [] s5 from ⟨H5.out.on hVB, below_grown hVB _, hVz, World.ownsRow_nil _ _ _ _, hVs, sz5, H5.out.own⟩)
              clear hV hVB hVz hVs hf hc
              obtain ⟨⟨parts, s6⟩, hr⟩ : ∃ r, sFix 4 bs s5 = r := ⟨_, rfl⟩
              have hb2 := sFix_bound 4 (.inr rfl) bs s5
              have HF := fix4P hl HP.out
              rw [hr] at hb2 HF
              have b5 := hb2.1
              have b6 := hb2.2
              simp only at b5 b6 HF
              have E4 := Lib.hid hr
              have HF1 := Lib.hid HF
              clear hr hb2 HF HP H5
              refine HF1.out.mono ?_
              rintro e w6 ⟨rfl, h6⟩
              have H6 := Lib.hid h6
              clear h6 HF1
              go_upto_if 48 with (fail)
              go_cut [10] (fun s10 wx => s10 = .int .i64 parts ∧ PStk w w5 wx S bs x D t (.slice none 0 0) [] (if parts < 0 then sFail 3 s6 else s6))
              case first =>
                by_cases hn : parts < 0
                · go_wp2_with fail
                  refine (fail3P H6.out).mono ?_
                  rintro e w7 ⟨rfl, h7⟩
                  have H7 := Lib.hid h7
                  clear h7
                  go_wp2_with fail
                  go_meet
                  exact ⟨rfl, by rw [if_pos hn]; exact H7.out⟩
                · have hn' := Lib.hid hn
                  go_wp2_with fail
                  go_meet
                  exact ⟨rfl, by rw [if_neg (by have := hn'.out; omega)]; exact H6.out⟩
              case rest =>
                obtain ⟨rfl, hs⟩ := hcut
                obtain ⟨s7, h7⟩ : ∃ r, (if parts < 0 then sFail 3 s6 else s6) = r := ⟨_, rfl⟩
                rw [h7] at hs
                have E5 := Lib.hid h7
                have HS7 := Lib.hid hs
                clear h7 hs H6
                go_upto_block 2 with fail
                go_cut [11] (fun s11 wx => ∃ (u : Value) (l : List Int) (s : Nat × Nat), PStk w w5 wx S bs x D t u l s ∧ sParts parts.toNat bs s7 = (l, s) ∧ l.length ≤ parts.toNat)
                case first =>
                  go_wp2_with fail
                  go_loopw [11] (fun i wx => ∃ (j : Nat) (u : Value) (l : List Int) (s : Nat × Nat), i = .int .i64 (j : Int) ∧ j ≤ parts.toNat ∧ l.length = j ∧ PStk w w5 wx S bs x D t u l s ∧ sParts parts.toNat bs s7 = (l ++ (sParts (parts.toNat - j) bs s).1, (sParts (parts.toNat - j) bs s).2)) (fun i _ => parts.toNat - (intOf i).toNat)
                  case atStart => exact ⟨0, _, [], s7, rfl, Nat.zero_le _, rfl, HS7.out, rfl⟩
                  case round =>
                    obtain ⟨j, u, l, ⟨p', q'⟩, rfl, hj, hl', hst, htop⟩ := hrel
                    obtain ⟨ad1, c1, -, -, -, -, -, c10, c11, c12, -, -⟩ := hst.stk.rd.parts
                    have c12' : wr.cell? ⟨w.heap.size + 1, 2, none⟩ = some (.int .i64 (q' : Int)) := c12
                    have L1 := Lib.hid hst
                    have L2 := Lib.hid htop
                    have L3 := Lib.hid hl'
                    clear hst htop hl' c10 c11 c12
                    by_cases hjl : j < parts.toNat
                    · have hji : (j : Int) < parts := by omega
                      by_cases hq : q' = 0
                      · subst hq
                        obtain ⟨au, cu, rfl⟩ := L1.out.own.form
                        have y1 : wr.cell? ⟨w5.heap.size, 1, none⟩ = some (.slice au l.length cu) := by rw [cell_of_row wr _ _ _ _ _ L1.out.row]; rfl
                        obtain ⟨⟨k9, s9⟩, hr⟩ : ∃ r, sFix 4 bs (p', 0) = r := ⟨_, rfl⟩
                        have hb9 := sFix_bound 4 (.inr rfl) bs (p', 0)
                        have HF := fix4P hl L1.out.drew
                        rw [hr] at hb9 HF
                        have b7 := hb9.1
                        have b8 := hb9.2
                        simp only at b7 b8 HF
                        have cv : IntKind.i32.wrap k9 = k9 := by rw [IntKind.wrap_i32]; omega
                        have E9 := Lib.hid hr
                        have HF1 := Lib.hid HF
                        have lo1 := L1.out.low
                        have lo2 := L1.out.size
                        have ll : l.length ≤ 2147483647 := by rw [L3.out]; omega
                        clear hr hb9 HF
                        go_wp2_with fail
                        go_region_law (first
                          | (refine step_append_ints rfl (.tmp 64) (.tmp 68) rfl (w5.heap.size + 1) (.slice au l.length cu) (.slice (some ⟨w9.heap.size, 0, none⟩) 1 1) l [k9] rfl rfl (World.ownsRow.alloc M1.out.own _) (one_int w9 k9) (by simp only [List.length_singleton]; omega) (by rw [size_alloc]; omega) (fun v3 w3 ho3 hg3 => ?_);
                             obtain ⟨a3, c3, rfl⟩ : ∃ a c, v3 = .slice a (l.length + 1) c := (by obtain ⟨a, c, e⟩ := ho3.form; exact ⟨a, c, by rw [e, List.length_append]; rfl⟩); have M2 := Lib.hid (M1.out.put _ hg3 ho3); have r3 := M1.out.row3 _ hg3;
                             have q3 : w3.cell? ⟨w5.heap.size, 1, none⟩ = some (.slice au l.length cu) := (by rw [cell_of_row w3 _ _ _ _ _ r3]; rfl); have f3 : w3.frozen? ⟨w5.heap.size, 1, none⟩ = false := (by simp [World.frozen?, r3]); clear ho3 hg3 r3)
                          | (go_simp; go_at_call 18; refine HF1.out.mono ?_; rintro e w9 ⟨rfl, h9⟩; have M1 := Lib.hid h9; have lo9 := h9.size;
                             have y9 : w9.cell? ⟨w5.heap.size, 1, none⟩ = some (.slice au l.length cu) := (by rw [cell_of_row w9 _ _ _ _ _ h9.row]; rfl);
                             have y10 : (w9.alloc (.cells #[.int .i32 k9] 21)).cell? ⟨w5.heap.size, 1, none⟩ = some (.slice au l.length cu) := ((cell_grown (grown_alloc w9 _ none) (by simp) (by omega)).trans y9); clear h9))
                        all_goals
                          (rename_i hk
                           refine hk _ _ ?_
                           go_wp2
                           go_roundw
                           case rel =>
                             obtain ⟨k, hk'⟩ : ∃ k, parts.toNat - j = k + 1 := ⟨parts.toNat - j - 1, by omega⟩
                             refine ⟨j + 1, _, l ++ [k9], s9, by first | rfl | (congr 1; omega), by omega, by rw [List.length_append, L3.out]; rfl, M2.out, ?_⟩
                             rw [L2.out, hk', sParts_step E9.out, show parts.toNat - (j + 1) = k by omega, List.append_assoc]
                             rfl
                           case measure => simp only [intOf]; omega)
                      · have hq' : ((q' : Int) == 0) = false := by simpa using hq
                        have hq'' : ¬ ((q' : Int) = 0) := by simpa using hq
                        have HQ := Lib.hid hq
                        clear hq
                        go_wp2_with fail
                        go_meet
                        obtain ⟨k, hk⟩ : ∃ k, parts.toNat - j = k + 1 := ⟨parts.toNat - j - 1, by omega⟩
                        have e : sParts (parts.toNat - j) bs (p', q') = ([], (p', q')) := by rw [hk]; exact if_pos HQ.out
                        exact ⟨u, l, (p', q'), L1.out, by rw [L2.out, e, List.append_nil], by rw [L3.out]; omega⟩
                    · have hji : ¬ ((j : Int) < parts) := by omega
                      go_wp2_with fail
                      go_meet
                      have e : sParts (parts.toNat - j) bs (p', q') = ([], (p', q')) := by rw [show parts.toNat - j = 0 by omega]; rfl
                      exact ⟨u, l, (p', q'), L1.out, by rw [L2.out, e, List.append_nil], by rw [L3.out]; omega⟩
                case rest =>
                  obtain ⟨u, l, s8, hst, htop, hll⟩ := hcut
                  obtain ⟨ax, cx, rfl⟩ := hst.stk.own.form
                  obtain ⟨au, cu, rfl⟩ := hst.own.form
                  have y0 : wc.cell? ⟨w.heap.size, 0, none⟩ = some (.slice ax D.length cx) := by rw [cell_of_row wc _ _ _ _ _ hst.stk.row]; rfl
                  have y1 : wc.cell? ⟨w5.heap.size, 0, none⟩ = some (.string ⟨t.toArray⟩) := by rw [cell_of_row wc _ _ _ _ _ hst.row]; rfl
                  have y2 : wc.cell? ⟨w5.heap.size, 1, none⟩ = some (.slice au l.length cu) := by rw [cell_of_row wc _ _ _ _ _ hst.row]; rfl
                  have L1 := Lib.hid hst
                  have E6 := Lib.hid htop
                  have L3 := Lib.hid hll
                  clear hst htop hll
                  have hZ := Array.getElem?_push_size (xs := wc.heap) (x := Obj.cells #[.string ⟨t.toArray⟩, .slice au l.length cu] 61 (0, 0))
                  generalize hZW : wc.alloc (.cells #[.string ⟨t.toArray⟩, .slice au l.length cu] 61) = Z
                  have hZB : Below wc.heap.size wc Z := by rw [← hZW]; exact (Below.refl _ _).alloc (Nat.le_refl _) _
                  have hZr : Z.heap[wc.heap.size]? = some (.cells #[.string ⟨t.toArray⟩, .slice au l.length cu] 61 (0, 0)) := by rw [← hZW]; exact hZ
                  have L4 := Lib.hid (L1.out.stk.own.kept (below_grown hZB none) (by simp))
                  have L5 := Lib.hid ((L1.out.own.kept (below_grown hZB none) (by simp)))
                  have L6 := Lib.hid hZB
                  have L7 := Lib.hid hZr
                  have L8 := Lib.hid hZW
                  have hZ0 := hZB
                  clear hZ hZB hZr hZW
                  have hZs := hZ0.size
                  have z0 : Z.cell? ⟨wc.heap.size, 0, none⟩ = some (strV t) := by rw [cell_of_row Z _ _ _ _ _ L7.out]; rfl
                  have z1 : Z.cell? ⟨wc.heap.size, 1, none⟩ = some (.slice au l.length cu) := by rw [cell_of_row Z _ _ _ _ _ L7.out]; rfl
                  have lo1 := L1.out.low
                  have lo2 := L1.out.size
                  have Z0 := Lib.hid z0
                  have Z1 := Lib.hid z1
                  clear z0 z1
                  go_wp2_with (at_builtin; rw [L8.out]; refine wpList_append_ow rfl (.tmp 72) (.tmp 74) rfl (w.heap.size + 2) (.slice ax D.length cx) D t au cu l rfl L4.out wc.heap.size 1 rfl Z0.out Z1.out (L5.out.low (by omega)) (by rw [K3.out]; omega) (by omega) ?_)
                  intro v' w' hown' hg'
                  obtain ⟨a', c', rfl⟩ : ∃ a c, v' = .slice a (D.length + 1) c := by
                    obtain ⟨a, c, e⟩ := hown'.form
                    exact ⟨a, c, by rw [e, List.length_append]; rfl⟩
                  have hne := L4.out.ne
                  have row' : w'.heap[w.heap.size]? = some (.cells #[.slice ax D.length cx, .int .i32 0] 37 (0, 0)) :=
                    (hg'.block w.heap.size (by omega) (fun e => by have := hne _ e.symm; omega)).trans ((hZ0.block w.heap.size (by omega)).trans L1.out.stk.row)
                  have rd' : SRd w' (inW w S) (w.heap.size + 1) bs s8 := (L1.out.stk.rd.below hZ0).kept hg' (fun g hg e => by have := hg.2; have := hne _ e.symm; omega) (fun e => by have := hne _ e.symm; omega)
                  have bel' : Below w.heap.size w w' := grown_own_below (L1.out.stk.below.trans (hZ0.lower (m := w.heap.size) (by omega))) hg' (fun k e => by have := hne k e; omega)
                  have hs' := hg'.size
                  have M1 := Lib.hid (@StkW.setList w w' S bs _ (.slice a' (D.length + 1) c') _ 0 s8 rd' row' hown' bel' (by omega))
                  have f0 : w'.frozen? ⟨w.heap.size, 0, none⟩ = false := by simp [World.frozen?, row']
                  have q0 : w'.cell? ⟨w.heap.size, 0, none⟩ = some (.slice ax D.length cx) := by rw [cell_of_row w' _ _ _ _ _ row']; rfl
                  clear hne row' rd' bel' hown' hg'
                  go_wp2
                  go_roundw
                  case rel =>
                    have e1 : sOne bs (p, 0) = ((t, l), s8) := by
                      unfold sOne sMany
                      simp only [E1.out, E2.out, E3.out, E4.out, E5.out, E6.out]
                    obtain ⟨k, hk⟩ : ∃ k, many.toNat - m = k + 1 := ⟨many.toNat - m - 1, by omega⟩
                    refine ⟨m + 1, _, D ++ [(t, l)], s8, by first | rfl | (congr 1; omega), by omega, by rw [List.length_append, K3.out]; rfl, M1.out, ?_⟩
                    rw [K2.out, hk, sTopics_step e1, show many.toNat - (m + 1) = k by omega, List.append_assoc]
                    rfl
                  case measure => simp only [intOf]; omega
          · have hq' : ((q : Int) == 0) = false := by simpa using hq
            have hq'' : ¬ ((q : Int) = 0) := by simpa using hq
            have HQ := Lib.hid hq
            clear hq
            go_wp2_with fail
            go_meet
            obtain ⟨k, hk⟩ : ∃ k, many.toNat - m = k + 1 := ⟨many.toNat - m - 1, by omega⟩
            have e : sTopics (many.toNat - m) bs (p, q) = ([], (p, q)) := by rw [hk]; exact if_pos HQ.out
            exact ⟨x, D, (p, q), K1.out, by rw [K2.out, e, List.append_nil], by rw [K3.out]; omega⟩
        · have hmi : ¬ ((m : Int) < many) := by omega
          go_wp2_with fail
          go_meet
          have e : sTopics (many.toNat - m) bs (p, q) = ([], (p, q)) := by rw [show many.toNat - m = 0 by omega]; rfl
          exact ⟨x, D, (p, q), K1.out, by rw [K2.out, e, List.append_nil], by rw [K3.out]; omega⟩
    case rest =>
      obtain ⟨x, D, ⟨p, q⟩, hst, htop, -⟩ := hcut
      obtain ⟨ax, cx, rfl⟩ := hst.own.form
      obtain ⟨ad1, c1, -, -, hp, -, -, c10, c11, c12, -, -⟩ := hst.rd.parts
      have c11' : wc.cell? ⟨w.heap.size + 1, 1, none⟩ = some (.int .i64 (p : Int)) := c11
      have c12' : wc.cell? ⟨w.heap.size + 1, 2, none⟩ = some (.int .i64 (q : Int)) := c12
      have hp' : p ≤ bs.length := hp
      have y0 : wc.cell? ⟨w.heap.size, 0, none⟩ = some (.slice ax D.length cx) := by rw [cell_of_row wc _ _ _ _ _ hst.row]; rfl
      have y1 : wc.cell? ⟨w.heap.size, 1, none⟩ = some (.int .i32 0) := by rw [cell_of_row wc _ _ _ _ _ hst.row]; rfl
      have f0 : wc.frozen? ⟨w.heap.size, 0, none⟩ = false := by simp [World.frozen?, hst.row]
      have f1 : wc.frozen? ⟨w.heap.size, 1, none⟩ = false := by simp [World.frozen?, hst.row]
      have K1 := Lib.hid hst
      have K2 := Lib.hid (show R = sFin bs (D, (p, q)) by rw [HR2.out, htop])
      have w0 : IntKind.i64.wrap ((bs.length : Int) - (p : Int)) = (bs.length : Int) - (p : Int) := by rw [IntKind.wrap_i64]; omega
      clear hst htop c10 c11 c12 HR2 HS hp
      have KS := Lib.hid (K1.out.setGen (-1))
      by_cases hq : q = 0
      · subst hq
        by_cases h4 : 4 ≤ bs.length - p
        · have h4i : (4 : Int) ≤ (bs.length : Int) - (p : Int) := by omega
          have K3 := Lib.hid (show R = ((D, (sFix 4 bs (p, 0)).1), (sFix 4 bs (p, 0)).2) by rw [K2.out]; exact if_pos ⟨rfl, h4⟩)
          have hb := sFix_bound 4 (.inr rfl) bs (p, 0)
          have HF := Lib.hid (@fix4S w _ S bs _ _ _ _ hl KS.out)
          generalize sFix 4 bs (p, 0) = r at *
          obtain ⟨n, s3⟩ := r
          simp only at hb
          have b3 := hb.1
          have b4 := hb.2
          have cv : IntKind.i32.wrap n = n := by rw [IntKind.wrap_i32]; omega
          clear hb K2 h4
          go_wp2_with fail
          refine HF.out.mono ?_
          rintro e w3 ⟨rfl, h3, -⟩
          have y1 : w3.cell? ⟨w.heap.size, 1, none⟩ = some (.int .i32 (-1)) := by rw [cell_of_row w3 _ _ _ _ _ h3.row]; rfl
          have f1 : w3.frozen? ⟨w.heap.size, 1, none⟩ = false := by simp [World.frozen?, h3.row]
          have K5 := Lib.hid (h3.setGen n)
          clear h3
          go_wp2_with fail
          generalize hU : w3.setCell ⟨w.heap.size, 1, none⟩ (.int .i32 n) = U at *
          clear hU
          obtain ⟨ad2, c2, -, -, -, -, -, c20, c21, c22, -, -⟩ := K5.out.rd.parts
          have c21' : U.cell? ⟨w.heap.size + 1, 1, none⟩ = some (.int .i64 (s3.1 : Int)) := c21
          have c22' : U.cell? ⟨w.heap.size + 1, 2, none⟩ = some (.int .i64 (s3.2 : Int)) := c22
          have z0 : U.cell? ⟨w.heap.size, 0, none⟩ = some (.slice ax D.length cx) := by rw [cell_of_row U _ _ _ _ _ K5.out.row]; rfl
          have z1 : U.cell? ⟨w.heap.size, 1, none⟩ = some (.int .i32 n) := by rw [cell_of_row U _ _ _ _ _ K5.out.row]; rfl
          have g0 : U.frozen? ⟨w.heap.size, 0, none⟩ = false := by simp [World.frozen?, K5.out.row]
          have g1 : U.frozen? ⟨w.heap.size, 1, none⟩ = false := by simp [World.frozen?, K5.out.row]
          clear c20 c21 c22
          go_region
          go_wp2
          have eR := K3.out
          subst eR
          refine bodyPost_ret (v := .tuple #[.agg #[.slice ax D.length cx, .int .i32 n], .int .i64 (s3.1 : Int), .int .i64 (s3.2 : Int)]) (by simp [results, Tryd.results9, go_sem, z0, z1]) rfl ?_
          have hw : U.grownBy ((U.setCell ⟨w.heap.size, 0, none⟩ (.slice ax D.length cx)).setCell ⟨w.heap.size, 1, none⟩ (.int .i32 n)).drew (some w.heap.size) := grownBy_trans (grown_setCell (grown_setCell (grownBy_refl _ _) 0 _) 1 _) (drew_grown _ _)
          exact ⟨_, rfl, (K5.out.own.kept hw (fun k e => by cases e; omega)).at, grown_below (grown_sub (below_grown K5.out.below none) hw (Nat.le_refl _))⟩
        · have h4i : ¬ ((4 : Int) ≤ (bs.length : Int) - (p : Int)) := by omega
          have K3 := Lib.hid (show R = ((D, -1), (p, 0)) by rw [K2.out]; exact if_neg (fun h => by have := h.2; simp only at this; omega))
          have K5 := KS
          clear K2 KS K1
          go_wp2_with fail
          generalize hU : wc.setCell ⟨w.heap.size, 1, none⟩ (.int .i32 (-1)) = U at *
          clear hU
          obtain ⟨ad2, c2, -, -, -, -, -, c20, c21, c22, -, -⟩ := K5.out.rd.parts
          have c21' : U.cell? ⟨w.heap.size + 1, 1, none⟩ = some (.int .i64 (p : Int)) := c21
          have c22' : U.cell? ⟨w.heap.size + 1, 2, none⟩ = some (.int .i64 ((0 : Nat) : Int)) := c22
          have z0 : U.cell? ⟨w.heap.size, 0, none⟩ = some (.slice ax D.length cx) := by rw [cell_of_row U _ _ _ _ _ K5.out.row]; rfl
          have z1 : U.cell? ⟨w.heap.size, 1, none⟩ = some (.int .i32 (-1)) := by rw [cell_of_row U _ _ _ _ _ K5.out.row]; rfl
          have g0 : U.frozen? ⟨w.heap.size, 0, none⟩ = false := by simp [World.frozen?, K5.out.row]
          have g1 : U.frozen? ⟨w.heap.size, 1, none⟩ = false := by simp [World.frozen?, K5.out.row]
          clear c20 c21 c22
          go_region
          go_wp2
          have eR := K3.out
          subst eR
          refine bodyPost_ret (v := .tuple #[.agg #[.slice ax D.length cx, .int .i32 (-1)], .int .i64 (p : Int), .int .i64 ((0 : Nat) : Int)]) (by simp [results, Tryd.results9, go_sem, z0, z1]) rfl ?_
          have hw : U.grownBy ((U.setCell ⟨w.heap.size, 0, none⟩ (.slice ax D.length cx)).setCell ⟨w.heap.size, 1, none⟩ (.int .i32 (-1))).drew (some w.heap.size) := grownBy_trans (grown_setCell (grown_setCell (grownBy_refl _ _) 0 _) 1 _) (drew_grown _ _)
          exact ⟨_, rfl, (K5.out.own.kept hw (fun k e => by cases e; omega)).at, grown_below (grown_sub (below_grown K5.out.below none) hw (Nat.le_refl _))⟩
      · have hq' : ((q : Int) == 0) = false := by simpa using hq
        have hq'' : ¬ ((q : Int) = 0) := by simpa using hq
        have K3 := Lib.hid (show R = ((D, -1), (p, q)) by rw [K2.out]; exact if_neg (fun h => hq h.1))
        have K5 := KS
        clear hq K2 KS K1
        go_wp2_with fail
        generalize hU : wc.setCell ⟨w.heap.size, 1, none⟩ (.int .i32 (-1)) = U at *
        clear hU
        obtain ⟨ad2, c2, -, -, -, -, -, c20, c21, c22, -, -⟩ := K5.out.rd.parts
        have c21' : U.cell? ⟨w.heap.size + 1, 1, none⟩ = some (.int .i64 (p : Int)) := c21
        have c22' : U.cell? ⟨w.heap.size + 1, 2, none⟩ = some (.int .i64 (q : Int)) := c22
        have z0 : U.cell? ⟨w.heap.size, 0, none⟩ = some (.slice ax D.length cx) := by rw [cell_of_row U _ _ _ _ _ K5.out.row]; rfl
        have z1 : U.cell? ⟨w.heap.size, 1, none⟩ = some (.int .i32 (-1)) := by rw [cell_of_row U _ _ _ _ _ K5.out.row]; rfl
        have g0 : U.frozen? ⟨w.heap.size, 0, none⟩ = false := by simp [World.frozen?, K5.out.row]
        have g1 : U.frozen? ⟨w.heap.size, 1, none⟩ = false := by simp [World.frozen?, K5.out.row]
        clear c20 c21 c22
        go_region
        go_wp2
        have eR := K3.out
        subst eR
        refine bodyPost_ret (v := .tuple #[.agg #[.slice ax D.length cx, .int .i32 (-1)], .int .i64 (p : Int), .int .i64 (q : Int)]) (by simp [results, Tryd.results9, go_sem, z0, z1]) rfl ?_
        have hw : U.grownBy ((U.setCell ⟨w.heap.size, 0, none⟩ (.slice ax D.length cx)).setCell ⟨w.heap.size, 1, none⟩ (.int .i32 (-1))).drew (some w.heap.size) := grownBy_trans (grown_setCell (grown_setCell (grownBy_refl _ _) 0 _) 1 _) (drew_grown _ _)
        exact ⟨_, rfl, (K5.out.own.kept hw (fun k e => by cases e; omega)).at, grown_below (grown_sub (below_grown K5.out.below none) hw (Nat.le_refl _))⟩
end Go.Proofs.YthdfhnnoamlacaaDoor.Rec
