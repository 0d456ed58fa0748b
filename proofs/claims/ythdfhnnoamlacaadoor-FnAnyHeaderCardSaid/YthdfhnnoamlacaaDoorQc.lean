/-
  Records: the reference reads a header. Conditions: none.
-/
import Derived.Test.YthdfhnnoamlacaaDoorQb
import Derived.RegionTactic
import Derived.BigRegion
import Derived.StillTailTactics
namespace Go.Proofs.YthdfhnnoamlacaaDoor.Rec
open Go.Proofs.YthdfhnnoamlacaaDoor
open Go.RowKit (Below wrap64)
open Kz

theorem field24 (b : Bool) (ad : Option Addr) (n c : Nat) (W : World) : (Instr.field 24 (.agg #[.bool b, .slice ad n c]) 1).run Tryd.prog W = .ok (.slice ad n c) W := by kernel_rfl
def sText (bs : List UInt8) (s : Nat × Nat) : List UInt8 × (Nat × Nat) :=
  ((sOct (sVar bs s).1 bs (if (sVar bs s).1 < 0 then sFail 3 (sVar bs s).2 else (sVar bs s).2)).1.2, (sOct (sVar bs s).1 bs (if (sVar bs s).1 < 0 then sFail 3 (sVar bs s).2 else (sVar bs s).2)).2)
def sHead (bs : List UInt8) (s : Nat × Nat) : (List UInt8 × (Bool × List UInt8)) × (Nat × Nat) :=
  (((sText bs s).1, (sOct (sVar bs (sText bs s).2).1 bs (sVar bs (sText bs s).2).2).1), (sOct (sVar bs (sText bs s).2).1 bs (sVar bs (sText bs s).2).2).2)
theorem zig_bound (u : Nat) (h : u < 4294967296) : -2147483648 ≤ zig u ∧ zig u ≤ 2147483647 := by
  unfold zig
  split <;> omega
theorem rv_bound : ∀ (k i m : Nat) (l : List UInt8), k + i = 5 → m < 128 ^ i → -2147483648 ≤ (rv k i m l).1 ∧ (rv k i m l).1 ≤ 2147483647
  | 0, _, _, _, _, _ => by simp [rv]
  | _ + 1, _, _, [], _, _ => by simp [rv]
  | k + 1, i, m, b :: r, hi, hm => by
    have hm2 : m + b.toNat % 128 * 128 ^ i < 128 ^ (i + 1) := by
      have : b.toNat % 128 * 128 ^ i ≤ 127 * 128 ^ i := Nat.mul_le_mul_right _ (by omega)
      rw [Nat.pow_succ]; omega
    simp only [rv]
    split
    · simp
    · split
      · refine zig_bound _ ?_
        by_cases hk : k = 0
        · obtain rfl : i = 4 := by omega
          rename_i h _
          have h16 : b.toNat % 128 < 16 := Nat.lt_of_not_le fun hx => h ⟨hk, hx⟩
          have h1 : (128 : Nat) ^ 4 = 268435456 := by decide
          rw [h1] at hm ⊢
          omega
        · have h1 : 128 ^ (i + 1) ≤ 268435456 := (Nat.pow_le_pow_right (by decide) (show i + 1 ≤ 4 by omega) : 128 ^ (i + 1) ≤ 128 ^ 4)
          generalize 128 ^ (i + 1) = y at *
          omega
      · exact rv_bound k (i + 1) _ r (by omega) hm2
theorem sVar_bound (bs : List UInt8) (s : Nat × Nat) : -2147483648 ≤ (sVar bs s).1 ∧ (sVar bs s).1 ≤ 2147483647 := by
  unfold sVar
  split
  · simp
  · exact rv_bound 5 0 0 _ rfl (by decide)
set_option maxRecDepth 8000 in
theorem text_any (w : World) (S : Nat → Prop) (rb : Nat) (bs : List UInt8) (s : Nat × Nat) (h : SRd w S rb bs s) (hl : bs.length < 4294967296) (hS : ∀ g, S g → g < w.heap.size) : Calls Tryd.prog 24 #[.pointer (some ⟨rb, 0, none⟩)] w fun e w' =>
    e = .returned (strV (sText bs s).1) ∧ SRd w' S rb bs (sText bs s).2 ∧ w.grownBy w' (some rb) := by
  have hb := sVar_bound bs s
  have HV := Lib.hid (varint_any w S rb bs s h hl)
  unfold sText
  generalize sVar bs s = r at *
  obtain ⟨n, s1⟩ := r
  simp only at hb ⊢
  have b1 := hb.1
  have b2 := hb.2
  clear h hb
  by_cases hn : n < 0
  · have t1 : decide (n < 0) = true := by simpa using hn
    rw [if_pos hn]
    go_enter Tryd.func24, Tryd.ntmps24
    go_wp2_with fail
    refine HV.out.mono ?_
    rintro e w1 ⟨rfl, h1, g1⟩
    have HG1 := Lib.hid g1
    have s1z := g1.size
    have H1 := Lib.hid h1
    clear h1 g1 HV
    go_wp2_with fail
    refine (fail_any w1 S rb bs s1 3 H1.out).mono ?_
    rintro e w2 ⟨rfl, h2, g2⟩
    have HG2 := Lib.hid (grownBy_trans HG1.out g2)
    have H2 := Lib.hid h2
    have s2z := g2.size
    clear h2 g2 HG1 H1
    go_wp2_with fail
    refine (octets_any w2 S rb bs (sFail 3 s1) n H2.out hl (by omega) (by omega) (fun g hg => by have := hS g hg; omega)).mono ?_
    rintro e w3 ⟨v, rfl, hv, h3, g3⟩
    obtain ⟨ad2, k2, rfl⟩ := bytes_len hv
    have hf := field24 (sOct n bs (sFail 3 s1)).1.1 ad2 (sOct n bs (sFail 3 s1)).1.2.length k2
    have hc := conv_string hv 22 9 rfl rfl
    have HG3 := Lib.hid (grownBy_trans HG2.out g3)
    have H3 := Lib.hid h3
    clear h3 g3 hv
    go_wp2
    go_ret
    exact ⟨rfl, H3.out, HG3.out⟩
  · have t1 : decide (n < 0) = false := by simpa using hn
    rw [if_neg hn]
    go_enter Tryd.func24, Tryd.ntmps24
    go_wp2_with fail
    refine HV.out.mono ?_
    rintro e w1 ⟨rfl, h1, g1⟩
    have HG1 := Lib.hid g1
    have s1z := g1.size
    have H1 := Lib.hid h1
    clear h1 g1 HV
    go_wp2_with fail
    refine (octets_any w1 S rb bs s1 n H1.out hl (by omega) (by omega) (fun g hg => by have := hS g hg; omega)).mono ?_
    rintro e w3 ⟨v, rfl, hv, h3, g3⟩
    obtain ⟨ad2, k2, rfl⟩ := bytes_len hv
    have hf := field24 (sOct n bs s1).1.1 ad2 (sOct n bs s1).1.2.length k2
    have hc := conv_string hv 22 9 rfl rfl
    have HG3 := Lib.hid (grownBy_trans HG1.out g3)
    have H3 := Lib.hid h3
    clear h3 g3 hv
    go_wp2
    go_ret
    exact ⟨rfl, H3.out, HG3.out⟩

set_option maxRecDepth 8000 in
theorem header_any (w : World) (S : Nat → Prop) (rb : Nat) (bs : List UInt8) (s : Nat × Nat) (h : SRd w S rb bs s) (hl : bs.length < 4294967296) (hS : ∀ g, S g → g < w.heap.size) : Calls Tryd.prog 12 #[.pointer (some ⟨rb, 0, none⟩)] w fun e w' =>
    ∃ v, e = .returned (.agg #[strV (sHead bs s).1.1, .bool (sHead bs s).1.2.1, v]) ∧ BytesAt w' S v (sHead bs s).1.2.2 ∧ SRd w' S rb bs (sHead bs s).2 ∧ w.grownBy w' (some rb) := by
  have hlt := (SRd.parts h).choose_spec.choose_spec.2.2.2.1
  have HT := Lib.hid (text_any (w.alloc (.cells #[.string ⟨#[]⟩, .bool false, .slice none 0 0] 26)) S rb bs s (h.below ((Below.refl _ _).alloc (Nat.le_refl _) _)) hl (fun g hg => by have := hS g hg; simp; omega))
  unfold sHead
  generalize sText bs s = r at *
  obtain ⟨k, s1⟩ := r
  simp only
  have hb := sVar_bound bs s1
  have HV := Lib.hid (fun w S h => varint_any w S rb bs s1 h hl)
  generalize sVar bs s1 = r at *
  obtain ⟨n, s2⟩ := r
  simp only at hb ⊢
  have b1 := hb.1
  have b2 := hb.2
  clear h hb
  go_enter Tryd.func12, Tryd.ntmps12
  go_wp2_with fail
  refine HT.out.mono ?_
  rintro e w1 ⟨rfl, h1, g1⟩
  have HG1 := Lib.hid g1
  have s1z := g1.size
  have H1 := Lib.hid h1
  clear h1 g1 HT
  go_wp2_with fail
  refine (HV.out w1 S H1.out).mono ?_
  rintro e w2 ⟨rfl, h2, g2⟩
  have HG2 := Lib.hid (grownBy_trans HG1.out g2)
  have H2 := Lib.hid h2
  have s2z := g2.size
  clear h2 g2 HG1 H1 HV
  go_wp2_with fail
  refine (octets_any w2 S rb bs s2 n H2.out hl (by omega) (by omega) (fun g hg => by have := hS g hg; have := (grown_alloc w (.cells #[.string ⟨#[]⟩, .bool false, .slice none 0 0] 26) none).size; omega)).mono ?_
  rintro e w3 ⟨v, rfl, hv, h3, g3⟩
  obtain ⟨ad2, k2, rfl⟩ := bytes_len hv
  have hg3 := grownBy_trans HG2.out g3
  obtain ⟨-, n1, n2⟩ := new_kept hg3 hlt
  have n10 := n1 0
  have n11 := n1 1
  have n12 := n1 2
  have n20 := n2 0
  have n21 := n2 1
  have n22 := n2 2
  have HG3 := Lib.hid hg3
  have H3 := Lib.hid h3
  have HV := Lib.hid hv
  clear h3 g3 hg3 hv n1 n2
  try simp at n10 n11 n12
  unfold strV
  go_wp2
  refine bodyPost_ret (v := .agg #[.string ⟨k.toArray⟩, .bool (sOct n bs s2).1.1, .slice ad2 (sOct n bs s2).1.2.length k2]) (by simp [results, Tryd.results12, go_sem, n10, n11, n12]) rfl ?_
  have gn : ∀ x y z, w3.grownBy (((w3.setCell ⟨w.heap.size, 0, none⟩ x).setCell ⟨w.heap.size, 1, none⟩ y).setCell ⟨w.heap.size, 2, none⟩ z) (some w.heap.size) := fun x y z => grown_setCell (grown_setCell (grown_setCell (grownBy_refl _ _) 0 _) 1 _) 2 _
  exact ⟨_, rfl, HV.out.kept (gn _ _ _) (fun g hg e => by have := hS g hg; have := Option.some.inj e; omega), H3.out.kept (gn _ _ _) (fun g hg e => by have := hS g hg; have := Option.some.inj e; omega) (fun e => by have := Option.some.inj e; omega),
    grown_new (grown_new (grown_new (grownBy_trans (grown_alloc _ _ _) HG3.out) _ _ _ (Nat.le_refl _)) _ _ _ (Nat.le_refl _)) _ _ _ (Nat.le_refl _)⟩

/-- Blocks of the call's own have been written. -/
theorem grown_sub {w w0 w1 : World} {b : Nat} (h0 : w.grownBy w0 none) (g : w0.grownBy w1 (some b)) (hb : w.heap.size ≤ b) : w.grownBy w1 none :=
  ⟨g.os.trans h0.os, g.tape.trans h0.tape, g.output.trans h0.output, Nat.le_trans h0.size g.size, fun k hk _ => (g.block k (Nat.lt_of_lt_of_le hk h0.size) (fun e => by have := Option.some.inj e; omega)).trans (h0.block k hk (by simp))⟩
theorem grown_below {w w1 : World} (g : w.grownBy w1 none) : Below w.heap.size w w1 := ⟨g.os, g.tape, g.output, g.size, fun k hk => g.block k hk (by simp)⟩
theorem drew_grown (w : World) (row : Option Nat) : w.grownBy w.drew row := ⟨rfl, rfl, rfl, Nat.le_refl _, fun _ _ _ => rfl⟩
set_option maxRecDepth 8000 in
theorem ReadHeader_any (w : World) (S : Nat → Prop) (v : Value) (bs : List UInt8) (h : BytesAt w S v bs) (hl : bs.length < 4294967296) : Calls Tryd.prog 5 #[v] w fun e w' =>
    ∃ u, e = .returned (.tuple #[.agg #[strV (sHead bs (0, 0)).1.1, .bool (sHead bs (0, 0)).1.2.1, u], .int .i64 ((sHead bs (0, 0)).2.1 : Int), .int .i64 ((sHead bs (0, 0)).2.2 : Int)]) ∧ BytesAt w' S u (sHead bs (0, 0)).1.2.2 ∧ Below w.heap.size w w' := by
  obtain ⟨ad, c, rfl⟩ := bytes_len h
  have hb : BytesAt w (inW w S) (.slice ad bs.length c) bs := bnd_bytes h
  have hs0 : SRd ((w.alloc (.cells #[.string ⟨#[]⟩, .bool false, .slice none 0 0] 26)).alloc (.cells #[.slice ad bs.length c, .int .i64 0, .int .i64 0] 45)) (inW w S) (w.heap.size + 1) bs (0, 0) :=
    ⟨fun h => by have := h.2; omega, by simp, _, (by show ((w.heap.push _).push _)[w.heap.size + 1]? = _; exact (by simp : (w.heap.push _).size = w.heap.size + 1) ▸ Array.getElem?_push_size), hb.below (((Below.refl _ _).alloc (Nat.le_refl _) _).alloc (by simp) _) (fun g h => h.2)⟩
  have HH := Lib.hid (header_any _ (inW w S) (w.heap.size + 1) bs (0, 0) hs0 hl (fun g h => by have := h.2; simp; omega))
  clear hs0 hb h
  generalize sHead bs (0, 0) = r at *
  obtain ⟨⟨k, b, d⟩, p, q⟩ := r
  simp only at HH ⊢
  go_enter Tryd.func5, Tryd.ntmps5
  go_wp2_with fail
  refine HH.out.mono ?_
  rintro e w1 ⟨v, rfl, hv, h1, g1⟩
  obtain ⟨ad2, k2, rfl⟩ := bytes_len hv
  obtain ⟨ad1, c1, -, -, -, -, -, c10, c11, c12, -, -⟩ := h1.parts
  have n0 : w1.heap[w.heap.size]? = some (.cells #[.string ⟨#[]⟩, .bool false, .slice none 0 0] 26 (0, 0)) := by
    rw [g1.block w.heap.size (by simp; omega) (by simp)]
    show ((w.heap.push _).push _)[w.heap.size]? = _
    rw [Array.getElem?_push_lt (by simp), Array.getElem_push_eq]
  have n10 : w1.cell? ⟨w.heap.size, 0, none⟩ = some (.string ⟨#[]⟩) := by rw [cell_of_row w1 _ _ _ _ _ n0]; rfl
  have n11 : w1.cell? ⟨w.heap.size, 1, none⟩ = some (.bool false) := by rw [cell_of_row w1 _ _ _ _ _ n0]; rfl
  have n12 : w1.cell? ⟨w.heap.size, 2, none⟩ = some (.slice none 0 0) := by rw [cell_of_row w1 _ _ _ _ _ n0]; rfl
  have n2 : ∀ i, w1.frozen? ⟨w.heap.size, i, none⟩ = false := fun i => by simp [World.frozen?, n0]
  have n20 := n2 0
  have n21 := n2 1
  have n22 := n2 2
  have s1 : w.heap.size + 2 ≤ w1.heap.size := by have := g1.size; simpa using this
  have HG := Lib.hid g1
  have HV := Lib.hid hv
  have H1 := Lib.hid h1
  clear g1 hv h1 n0 n2
  unfold strV
  go_wp2
  generalize hW : w1.alloc (.cells #[.string ⟨k.toArray⟩, .bool b, .slice ad2 d.length k2] 26) = W
  have hB : Below w1.heap.size w1 W := by rw [← hW]; exact (Below.refl _ _).alloc (Nat.le_refl _) _
  have hZ : W.heap[w1.heap.size]? = some (.cells #[.string ⟨k.toArray⟩, .bool b, .slice ad2 d.length k2] 26 (0, 0)) := by
    rw [← hW]; show (w1.heap.push _)[w1.heap.size]? = _; exact Array.getElem?_push_size
  have bc := bcell hB
  have m11 : W.cell? ⟨w.heap.size + 1, 1, none⟩ = some (.int .i64 (p : Int)) := (bc.1 _ _ (by omega)).trans c11
  have m12 : W.cell? ⟨w.heap.size + 1, 2, none⟩ = some (.int .i64 (q : Int)) := (bc.1 _ _ (by omega)).trans c12
  have m20 : W.cell? ⟨w1.heap.size, 0, none⟩ = some (.string ⟨k.toArray⟩) := by rw [cell_of_row W _ _ _ _ _ hZ]; rfl
  have m21 : W.cell? ⟨w1.heap.size, 1, none⟩ = some (.bool b) := by rw [cell_of_row W _ _ _ _ _ hZ]; rfl
  have m22 : W.cell? ⟨w1.heap.size, 2, none⟩ = some (.slice ad2 d.length k2) := by rw [cell_of_row W _ _ _ _ _ hZ]; rfl
  have m30 : W.cell? ⟨w.heap.size, 0, none⟩ = some (.string ⟨#[]⟩) := (bc.1 _ _ (by omega)).trans n10
  have m31 : W.cell? ⟨w.heap.size, 1, none⟩ = some (.bool false) := (bc.1 _ _ (by omega)).trans n11
  have m32 : W.cell? ⟨w.heap.size, 2, none⟩ = some (.slice none 0 0) := (bc.1 _ _ (by omega)).trans n12
  have f30 : W.frozen? ⟨w.heap.size, 0, none⟩ = false := (bc.2 _ _ (by omega)).trans n20
  have f31 : W.frozen? ⟨w.heap.size, 1, none⟩ = false := (bc.2 _ _ (by omega)).trans n21
  have f32 : W.frozen? ⟨w.heap.size, 2, none⟩ = false := (bc.2 _ _ (by omega)).trans n22
  have HB := Lib.hid hB
  clear bc hB hZ hW c10 c11 c12 n10 n11 n12 n20 n21 n22
  go_region
  go_wp2
  refine bodyPost_ret (v := .tuple #[.agg #[.string ⟨k.toArray⟩, .bool b, .slice ad2 d.length k2], .int .i64 (p : Int), .int .i64 (q : Int)]) (by simp [results, Tryd.results5, go_sem, m30, m31, m32]) rfl ?_
  have hw : W.grownBy (((W.setCell ⟨w.heap.size, 0, none⟩ (.string ⟨k.toArray⟩)).setCell ⟨w.heap.size, 1, none⟩ (.bool b)).setCell ⟨w.heap.size, 2, none⟩ (.slice ad2 d.length k2)).drew (some w.heap.size) :=
    grownBy_trans (grown_setCell (grown_setCell (grown_setCell (grownBy_refl _ _) 0 _) 1 _) 2 _) (drew_grown _ _)
  refine ⟨_, rfl, ?_, ?_⟩
  · exact ((HV.out.kept (below_grown HB.out none) (by simp)).kept hw (fun g hg e => by have := hg.2; have := Option.some.inj e; omega)).mono (fun g hg => hg.1)
  · have z0 : w.grownBy w1 none := grown_sub (grownBy_trans (grown_alloc w _ none) (grown_alloc _ _ none)) HG.out (by omega)
    exact grown_below (grown_sub (grownBy_trans z0 (below_grown HB.out none)) hw (Nat.le_refl _))
end Go.Proofs.YthdfhnnoamlacaaDoor.Rec
