/-
  Records: headers are compared, one by one; a law's judgement. Conditions: none.
-/
import Derived.Test.YthdfhnnoamlacaaDoorQe
namespace Go.Proofs.YthdfhnnoamlacaaDoor.Rec
open Go.Proofs.YthdfhnnoamlacaaDoor
open Go.RowKit (Below wrap64 wrap32)
open Go.Proofs.YthdfhnnoamlacaaDoorW Go.Proofs.YthdfhnnoamlacaaDoorW.PrintWords Go.Proofs.YthdfhnnoamlacaaDoorW.PrintMore Go.Proofs.YthdfhnnoamlacaaDoor.PFnAnyHeader
open Kz

theorem same_l0 (a b : List Int) (n : Nat) (ha : a.length = n) (hb : b.length = n) (hn : n < 4294967296) : ∀ (d i : Nat), i + d = n → ∃ r, spec_Same.l0 (d + 1) a b (n : Int) (i : Int) = some r ∧ (a = b → r = true)
  | 0, i, h => by
    obtain rfl : i = n := by omega
    exact ⟨true, by simp [spec_Same.l0], fun _ => rfl⟩
  | d + 1, i, h => by
    obtain ⟨r, hr, ht⟩ := same_l0 a b n ha hb hn d (i + 1) (by omega)
    have w1 : wrap64 ((i : Int) + 1) = ((i + 1 : Nat) : Int) := by unfold wrap64; omega
    rw [spec_Same.l0]
    rw [if_pos (by omega), if_pos (by omega), if_pos (by omega), if_pos (by omega), w1]
    by_cases he : PrintWords.rd a (i : Int) = PrintWords.rd b (i : Int)
    · rw [if_pos he]; exact ⟨r, hr, ht⟩
    · rw [if_neg he]; exact ⟨false, rfl, fun e => absurd (by rw [e]) he⟩
theorem same_f (a b : List Int) (hn : a.length < 4294967296) : ∃ r, spec_Same.f (a.length + 1) a b = some r ∧ (a = b → r = true) := by
  unfold spec_Same.f
  by_cases h : a.length = b.length
  · rw [if_pos (by omega)]
    exact same_l0 a b a.length rfl h.symm hn a.length 0 (by omega)
  · rw [if_neg (by omega)]
    exact ⟨false, rfl, fun e => absurd (by rw [e]) h⟩
/-- A header as the printed words have it. -/
def s26 (k : List UInt8) (b : Bool) (d : List UInt8) : S26 := ⟨⟨k.toArray⟩, ⟨b, ns d⟩⟩
theorem heads_f (x y : S26) (hn : x.f1.f1.length < 4294967296) : ∃ r, spec_SameHeaders.f (x.f1.f1.length + 2) [x] [y] = some r ∧ (x = y → r = true) := by
  unfold spec_SameHeaders.f
  rw [if_pos (show (([x] : List S26).length : Int) = (([y] : List S26).length : Int) from rfl), spec_SameHeaders.l0, if_pos (show (0 : Int) < (([x] : List S26).length : Int) by simp), if_pos (by decide), if_pos (show (0 : Int) < (([x] : List S26).length : Int) by simp), if_pos (show (0 : Int) < (([y] : List S26).length : Int) by simp)]
  obtain ⟨r, hr, ht⟩ := same_f x.f1.f1 y.f1.f1 hn
  have e1 : rd_T26 [x] 0 = x := rfl
  have e2 : rd_T26 [y] 0 = y := rfl
  rw [e1, e2]
  have w1 : wrap64 (0 + 1) = 1 := by kernel_rfl
  have hend : spec_SameHeaders.l0 (x.f1.f1.length + 1) [x] [y] (([x] : List S26).length : Int) (wrap64 (0 + 1)) = some true := by
    rw [w1, spec_SameHeaders.l0, if_neg (show ¬ (1 : Int) < (([x] : List S26).length : Int) by simp)]
  by_cases h1 : x.f0.toList = y.f0.toList
  · rw [if_pos h1]
    unfold spec_SameOctets.f
    by_cases h2 : (x.f1.f0 == y.f1.f0) = true
    · rw [if_pos h2]
      by_cases h3 : x.f1.f0 = true
      · rw [if_pos h3]
        exact ⟨true, hend, fun _ => rfl⟩
      · rw [if_neg h3, hr]
        cases r with
        | true => exact ⟨true, hend, fun _ => rfl⟩
        | false => exact ⟨false, rfl, fun e => by subst e; exact absurd (ht rfl) (by decide)⟩
    · rw [if_neg h2]
      exact ⟨false, rfl, fun e => by subst e; exact absurd (by simp) h2⟩
  · rw [if_neg h1]
    exact ⟨false, rfl, fun e => by subst e; exact absurd rfl h1⟩
/-- A slice of one header. -/
theorem one_head {w : World} {S : Nat → Prop} {g : Nat} {k d : List UInt8} {b : Bool} {p : Option Addr} {n c : Nat} (h : w.heap[g]? = some (.cells #[.string ⟨k.toArray⟩, .bool b, .slice p n c] 26 (0, 0))) (hd : BytesAt w S (.slice p n c) d) : Kd.C k26 w (some ⟨g, 0, none⟩) 1 [s26 k b d] := by
  obtain ⟨h1, h2, h3⟩ := c_bytes hd
  refine ⟨rfl, by decide, fun _ => ⟨_, rfl, fun j x hx => ?_⟩⟩
  cases j with
  | succ j => simp at hx
  | zero =>
    simp at hx
    subst hx
    refine ⟨[.string ⟨k.toArray⟩, .bool b, .slice p n c], rfl, ?_, fun i u hu => ?_⟩
    · have := k26_mk w (s26 k b d) (A2 := p) (c2 := c) (by show (ns d).length ≤ c; omega) (by show Kd.C (Kd.int .u8) w p (ns d).length (ns d); rw [← h1]; exact h3)
      rw [show (s26 k b d).f1.f1.length = n from h1.symm] at this
      exact this
    · have e : (⟨g, 0, none⟩ : Addr).add (0 * k26.sz + i) = ⟨g, i, none⟩ := by
        rw [Nat.zero_mul, Nat.zero_add]
        cases i <;> simp [Addr.add]
      rw [e, cell_of_row w g i _ _ _ h]
      simpa using hu
theorem SameHeaders_one (w : World) (S S' : Nat → Prop) (g g' : Nat) (k k' d d' : List UInt8) (b b' : Bool) (p p' : Option Addr) (n n' c c' : Nat) (h : w.heap[g]? = some (.cells #[.string ⟨k.toArray⟩, .bool b, .slice p n c] 26 (0, 0))) (hd : BytesAt w S (.slice p n c) d)
    (h' : w.heap[g']? = some (.cells #[.string ⟨k'.toArray⟩, .bool b', .slice p' n' c'] 26 (0, 0))) (hd' : BytesAt w S' (.slice p' n' c') d') (hl : d.length < 4294967296) :
    Calls Tryd.prog 8 #[.slice (some ⟨g, 0, none⟩) 1 1, .slice (some ⟨g', 0, none⟩) 1 1] w fun e w' => ∃ r, e = .returned (.bool r) ∧ (k = k' ∧ b = b' ∧ d = d' → r = true) ∧ Below w.heap.size w w' := by
  obtain ⟨r, hr, ht⟩ := heads_f (s26 k b d) (s26 k' b' d') (by show (ns d).length < _; rw [ns_len]; exact hl)
  refine (spec_SameHeaders.calls _ (some ⟨g, 0, none⟩) 1 [s26 k b d] (some ⟨g', 0, none⟩) 1 [s26 k' b' d'] r w (one_head h hd) (Nat.le_refl _) (one_head h' hd') (Nat.le_refl _) hr).mono ?_
  rintro e w' ⟨rfl, hb⟩
  exact ⟨r, rfl, fun ⟨e1, e2, e3⟩ => ht (by rw [e1, e2, e3]), hb⟩
/-- A thing of nothing is read. -/
def Awake : Prop := ∀ w : World, ErrOk w → Calls Tryd.prog 16 #[] w fun e w' => e = .returned (.bool true) ∧ Below w.heap.size w w'
theorem judged_any (aw : Awake) (w : World) (he : ErrOk w) (size how n c : Nat) (p : Option Addr) (ok same : Bool) (h1 : how = 1 ∨ how = 2 → ok = false) (h2 : how = 0 ∧ size = n → ok = true ∧ same = true) (hs : size < 4294967296) (hh : how < 4) (hn : n < 4294967296) :
    Calls Tryd.prog 7 #[.int .i64 (size : Int), .int .i64 (how : Int), .slice p n c, .bool ok, .bool same] w fun e w' => e = .returned (.bool true) ∧ Below w.heap.size w w' := by
  have AW := Lib.hid (fun w' (hb : Below w.heap.size w w') => aw w' (he.kept (below_grown hb none) (by simp)))
  rcases (by omega : how = 1 ∨ how = 2 ∨ how = 3 ∨ how = 0) with rfl | rfl | rfl | rfl
  · obtain rfl := h1 (.inl rfl)
    clear h1 h2
    go_enter Tryd.func7, Tryd.ntmps7
    go_wp2_with fail
    refine (AW.out _ (Below.refl _ _)).mono ?_
    rintro e w1 ⟨rfl, hb⟩
    have HB := Lib.hid hb
    clear hb AW
    go_wp2
    go_ret
    exact ⟨rfl, HB.out⟩
  · obtain rfl := h1 (.inr rfl)
    clear h1 h2
    go_enter Tryd.func7, Tryd.ntmps7
    go_wp2_with fail
    refine (AW.out _ (Below.refl _ _)).mono ?_
    rintro e w1 ⟨rfl, hb⟩
    have HB := Lib.hid hb
    clear hb AW
    go_wp2
    go_ret
    exact ⟨rfl, HB.out⟩
  · clear h1 h2
    go_enter Tryd.func7, Tryd.ntmps7
    go_wp2_with fail
    refine (AW.out _ (Below.refl _ _)).mono ?_
    rintro e w1 ⟨rfl, hb⟩
    have HB := Lib.hid hb
    clear hb AW
    go_wp2
    go_ret
    exact ⟨rfl, HB.out⟩
  · by_cases hz : size = n
    · obtain ⟨rfl, rfl⟩ := h2 ⟨rfl, hz⟩
      subst hz
      clear h1 h2 AW
      go_enter Tryd.func7, Tryd.ntmps7
      go_wp2
      go_ret
      exact ⟨rfl, Below.refl _ _⟩
    · have t0 : (((size : Nat) : Int) == ((n : Nat) : Int)) = false := by simp; omega
      clear h1 h2
      go_enter Tryd.func7, Tryd.ntmps7
      go_wp2_with fail
      refine (AW.out _ (Below.refl _ _)).mono ?_
      rintro e w1 ⟨rfl, hb⟩
      have HB := Lib.hid hb
      clear hb AW
      go_wp2
      go_ret
      exact ⟨rfl, HB.out⟩
end Go.Proofs.YthdfhnnoamlacaaDoor.Rec
