/-
  Records: the package reads a header. Conditions: none.
-/
import Derived.Test.YthdfhnnoamlacaaDoorQc
namespace Go.Proofs.YthdfhnnoamlacaaDoor.Rec
open Go.Proofs.YthdfhnnoamlacaaDoor
open Go.RowKit (Below wrap64 wrap32)
open Kz

theorem rdV_some (bs : List UInt8) (n : Nat) (r : List UInt8) (h : uvA 4 bs = some (n, r)) : rdV (some bs) = (n, some r) := by simp only [rdV, h]
theorem rdV_less (bs : List UInt8) (h : uvA 4 bs = none) : rdV (some bs) = (0, none) := by simp only [rdV, h]
theorem zig32 (n : Nat) (h : n < 4294967296) : RowKit.wrap32 (bits .xor .u32 ((n / 2 : Nat) : Int) (IntKind.u32.wrap (-((n % 2 : Nat) : Int)))) = zig n := by
  unfold zig
  rcases (by omega : n % 2 = 0 ∨ n % 2 = 1) with e | e
  · rw [e, if_pos rfl, show IntKind.u32.wrap (-((0 : Nat) : Int)) = ((0 : Nat) : Int) by kernel_rfl, u32_xor_nat _ _ (by omega) (by decide), Nat.xor_zero]
    unfold RowKit.wrap32
    omega
  · rw [e, if_neg (by decide), show IntKind.u32.wrap (-((1 : Nat) : Int)) = ((4294967295 : Nat) : Int) by kernel_rfl, u32_xor_nat _ _ (by omega) (by decide)]
    have : n / 2 ^^^ 4294967295 = 4294967295 - n / 2 := by
      have := BitVec.toNat_not (x := BitVec.ofNat 32 (n / 2))
      rw [← BitVec.xor_allOnes, BitVec.toNat_xor] at this
      simp at this
      rw [Nat.mod_eq_of_lt (by omega)] at this
      exact this
    rw [this]
    unfold RowKit.wrap32
    omega
theorem Varint_of (w : World) (v : Value) (n : Nat) (hn : n < 4294967296) (k : Int)
    (hcall : Calls Tryd.prog 81 #[v] w fun e w' => e = .returned (.tuple #[.int .u32 (n : Int), .int .i64 k]) ∧ w = w') :
    Calls Tryd.prog 69 #[v] w fun e w' => e = .returned (.tuple #[.int .i32 (zig n), .int .i64 k]) ∧ w = w' := by
  have H := Lib.hid hcall
  have hz := Lib.hid (zig32 n hn)
  clear hcall
  have e1 := u32_and_nat n 1 hn (by decide)
  rw [Nat.and_one_is_mod] at e1
  have e1 : bits .and .u32 (n : Int) 1 = ((n % 2 : Nat) : Int) := e1
  go_enter Tryd.func69, Tryd.ntmps69
  go_wp2_with fail
  refine H.out.mono ?_
  rintro e w' ⟨rfl, rfl⟩
  go_wp2
  go_ret2
  have hz := hz.out
  rw [IntKind.wrap_u32, Int.natCast_ediv, Int.natCast_emod] at hz
  exact ⟨by rw [← hz]; rfl, rfl⟩

set_option maxHeartbeats 400000 in
theorem RVarint_no (w : World) (rb : Nat) (v : Value) (q : Bool) (k : Int) (hk : k ≤ 0)
    (c0 : w.cell? ⟨rb, 0, none⟩ = some v) (c1 : w.cell? ⟨rb, 1, none⟩ = some (.bool q)) (f0 : w.frozen? ⟨rb, 0, none⟩ = false) (f1 : w.frozen? ⟨rb, 1, none⟩ = false)
    (hcall : Calls Tryd.prog 69 #[v] w fun e w' => e = .returned (.tuple #[.int .i32 0, .int .i64 k]) ∧ w = w') :
    Calls Tryd.prog 59 #[.pointer (some ⟨rb, 0, none⟩)] w fun e w' =>
      e = .returned (.int .i32 0) ∧ w' = (w.setCell ⟨rb, 1, none⟩ (.bool true)).setCell ⟨rb, 0, none⟩ (.slice none 0 0) := by
  have H := Lib.hid hcall
  clear hcall
  have t0 : decide (k ≤ 0) = true := by simpa using hk
  go_enter Tryd.func59, Tryd.ntmps59
  go_wp2_with fail
  refine H.out.mono ?_
  rintro e w' ⟨rfl, rfl⟩
  go_wp2
  go_ret
  exact ⟨rfl, rfl⟩
set_option maxHeartbeats 400000 in
theorem RVarint_yes (w : World) (rb n c g o k : Nat) (m : Int) (hc : n ≤ c) (hc2 : c ≤ 9223372036854775807) (hk : k ≤ n) (hk1 : 1 ≤ k)
    (c0 : w.cell? ⟨rb, 0, none⟩ = some (.slice (some ⟨g, o, none⟩) n c)) (f0 : w.frozen? ⟨rb, 0, none⟩ = false)
    (hcall : Calls Tryd.prog 69 #[.slice (some ⟨g, o, none⟩) n c] w fun e w' => e = .returned (.tuple #[.int .i32 m, .int .i64 (k : Int)]) ∧ w = w') :
    Calls Tryd.prog 59 #[.pointer (some ⟨rb, 0, none⟩)] w fun e w' =>
      e = .returned (.int .i32 m) ∧ ∃ ad, (ad = ⟨g, o + k, none⟩ ∨ (c = k ∧ ad = ⟨g, o, none⟩)) ∧ w' = w.setCell ⟨rb, 0, none⟩ (.slice (some ad) (n - k) (c - k)) := by
  have H := Lib.hid hcall
  clear hcall
  have t0 : decide ((k : Int) ≤ 0) = false := by simp; omega
  by_cases hne : c = k
  · subst hne
    obtain rfl : n = c := by omega
    go_enter Tryd.func59, Tryd.ntmps59
    go_wp2_with fail
    refine H.out.mono ?_
    rintro e w' ⟨rfl, rfl⟩
    go_wp2
    go_ret
    refine ⟨rfl, _, .inr ⟨by trivial, rfl⟩, ?_⟩
    simp
  · go_enter Tryd.func59, Tryd.ntmps59
    go_wp2_with fail
    refine H.out.mono ?_
    rintro e w' ⟨rfl, rfl⟩
    go_wp2
    go_ret
    exact ⟨rfl, _, .inl rfl, rfl⟩
theorem uvA_lt (bs : List UInt8) (n : Nat) (r : List UInt8) (h : uvA 4 bs = some (n, r)) : n < 4294967296 := by
  have := rdV_bounds (some bs)
  rwa [rdV_some bs n r h] at this
/-- The reader's octets are a slice that is not nil. -/
def SrcNN (w : World) (rb : Nat) : Prop := ∃ ad n c, w.cell? ⟨rb, 0, none⟩ = some (.slice (some ad) n c)
theorem RVarint_any (w : World) (S : Nat → Prop) (rb : Nat) (st : St) (h : RdIs w S rb st) : Calls Tryd.prog 59 #[.pointer (some ⟨rb, 0, none⟩)] w fun e w' =>
    e = .returned (.int .i32 (zig (rdV st).1)) ∧ RdIs w' S rb (rdV st).2 ∧ w.grownBy w' (some rb) ∧ ((rdV st).2.isSome = true → SrcNN w' rb) := by
  have z0 : zig 0 = 0 := rfl
  cases st with
  | none =>
    obtain ⟨hv, h0, c0, c1, f0, f1⟩ := rd_parts_none h
    refine (RVarint_no w rb _ true 0 (by decide) c0 c1 f0 f1 (Varint_of w _ 0 (by decide) 0 (Uvarint_f0 w 0 none))).mono ?_
    rintro e w' ⟨rfl, rfl⟩
    have z := rd_fail (S := S) h0 (grownBy_refl w (some rb)) hv
    exact ⟨rfl, z.1, z.2, fun h => by cases h⟩
  | some bs =>
    obtain ⟨v, hv, hb, h0, c0, c1, f0, f1⟩ := rd_parts h
    rcases Uvarint_any w S v bs hb with ⟨m, r, hu, k, hk1, hk, hr, hc⟩ | ⟨hu, z, hz, hc⟩
    · rw [rdV_some bs m r hu]
      rcases hb with ⟨rfl, rfl⟩ | ⟨g, o, c, rfl, h2, h3, h4, h5, h6⟩
      · simp [uvA] at hu
      refine (RVarint_yes w rb bs.length c g o k (zig m) h2 h3 hk hk1 c0 f0 (Varint_of w _ m (uvA_lt bs m r hu) k hc)).mono ?_
      rintro e w' ⟨rfl, ad, had, rfl⟩
      have hd := BytesAt.drop (S := S) k hk rfl h2 h3 h4 h5 h6 ad had
      rw [hr]
      have z := rd_on h0 (grownBy_refl _ _) hv hd
      exact ⟨rfl, z.1, z.2, fun _ => ⟨ad, _, _, by rw [cell_of_row _ rb 0 _ _ _ (heap_setCell_row hv)]; rfl⟩⟩
    · rw [rdV_less bs hu]
      refine (RVarint_no w rb v false z hz c0 c1 f0 f1 (Varint_of w _ 0 (by decide) z hc)).mono ?_
      rintro e w' ⟨rfl, rfl⟩
      have z := rd_fail (S := S) h0 (grownBy_refl w (some rb)) hv
      exact ⟨rfl, z.1, z.2, fun h => by cases h⟩

/-- Octets with their length in groups ahead: none where the length is negative. -/
def rdVB (st : St) : Option (List UInt8) × St :=
  if zig (rdV st).1 < 0 then (none, (rdV st).2) else (some (rdSpan (zig (rdV st).1) (rdV st).2).1, (rdSpan (zig (rdV st).1) (rdV st).2).2)
/-- Octets as the package holds them: nil, or a slice (that is not nil where all went well). -/
def NilOr (w : World) (S : Nat → Prop) (v : Value) (ok : Bool) (x : Option (List UInt8)) : Prop :=
  match x with | none => v = .slice none 0 0 | some bs => BytesAt w S v bs ∧ (ok = true → ∃ ad n c, v = .slice (some ad) n c)
theorem Span_nn (w : World) (S : Nat → Prop) (rb : Nat) (st : St) (l : Int) (h : RdIs w S rb st) (hb1 : -9223372036854775808 ≤ l) (hb2 : l ≤ 9223372036854775807) (hn : st.isSome = true → SrcNN w rb) :
    Calls Tryd.prog 60 #[.pointer (some ⟨rb, 0, none⟩), .int .i64 l] w fun e w' =>
    ∃ v, e = .returned v ∧ NilOr w' S v (rdSpan l st).2.isSome (some (rdSpan l st).1) ∧ RdIs w' S rb (rdSpan l st).2 ∧ w.grownBy w' (some rb) := by
  cases st with
  | none => exact (Span_any w S rb none l h hb1 hb2).mono fun e w' ⟨v, h1, h2, h3⟩ => ⟨v, h1, ⟨h2, fun h => by cases h⟩, h3⟩
  | some bs =>
    by_cases hl : 0 ≤ l ∧ l ≤ bs.length
    · obtain ⟨v, hv, hb, h0, c0, c1, f0, f1⟩ := rd_parts h
      obtain ⟨ad0, n0, k0, hc⟩ := hn rfl
      rw [c0] at hc
      obtain rfl := Option.some.inj hc
      rw [rdSpan_yes l bs hl]
      obtain ⟨k, rfl⟩ : ∃ k : Nat, l = k := ⟨l.toNat, by omega⟩
      rw [Int.toNat_natCast]
      rcases hb with ⟨h, -⟩ | ⟨g, o, c, h1, h2, h3, h4, h5, h6⟩
      · simp at h
      · simp only [Value.slice.injEq, Option.some.injEq] at h1
        obtain ⟨rfl, rfl, rfl⟩ := h1
        refine (Span_yes w rb bs.length k0 g o k (by omega) h2 h3 c0 f0).mono ?_
        rintro e w' ⟨rfl, ad, had, rfl⟩
        have hd := BytesAt.drop (S := S) k (by omega) rfl h2 h3 h4 h5 h6 ad had
        have ho := rd_on h0 (grownBy_refl _ _) hv hd
        exact ⟨_, rfl, ⟨(BytesAt.take (S := S) k (by omega) h2 h3 h4 h5 h6).kept ho.2 (fun g hg e => h0 (by rw [← Option.some.inj e]; exact hg)), fun _ => ⟨_, _, _, rfl⟩⟩, ho⟩
    · refine (Span_any w S rb (some bs) l h hb1 hb2).mono fun e w' ⟨v, h1, h2, h3⟩ => ⟨v, h1, ⟨h2, fun h => ?_⟩, h3⟩
      rw [rdSpan_not l bs hl] at h
      cases h
theorem rdV_zig (st : St) : -2147483648 ≤ zig (rdV st).1 ∧ zig (rdV st).1 ≤ 2147483647 := zig_bound _ (rdV_bounds st)
theorem VarintBytes_any (w : World) (S : Nat → Prop) (rb : Nat) (st : St) (h : RdIs w S rb st) : Calls Tryd.prog 44 #[.pointer (some ⟨rb, 0, none⟩)] w fun e w' =>
    ∃ v, e = .returned v ∧ NilOr w' S v (rdVB st).2.isSome (rdVB st).1 ∧ RdIs w' S rb (rdVB st).2 ∧ w.grownBy w' (some rb) := by
  have hb := rdV_zig st
  have HV := Lib.hid (RVarint_any w S rb st h)
  unfold rdVB
  generalize (rdV st).1 = n at *
  generalize (rdV st).2 = s1 at *
  generalize zig n = l at *
  have b1 := hb.1
  have b2 := hb.2
  clear h hb
  by_cases hn : l < 0
  · have t1 : decide (l < 0) = true := by simpa using hn
    rw [if_pos hn]
    go_enter Tryd.func44, Tryd.ntmps44
    go_wp2_with fail
    refine HV.out.mono ?_
    rintro e w1 ⟨rfl, h1, g1, -⟩
    have H1 := Lib.hid h1
    clear h1
    go_wp2
    go_ret
    exact ⟨_, rfl, rfl, H1.out, g1⟩
  · have t1 : decide (l < 0) = false := by simpa using hn
    rw [if_neg hn]
    go_enter Tryd.func44, Tryd.ntmps44
    go_wp2_with fail
    refine HV.out.mono ?_
    rintro e w1 ⟨rfl, h1, g1, hn1⟩
    have H1 := Lib.hid h1
    have HN := Lib.hid hn1
    clear h1 hn1
    go_wp2_with fail
    refine (Span_nn w1 S rb s1 l H1.out (by omega) (by omega) HN.out).mono ?_
    rintro e w2 ⟨v, rfl, hv, h2, g2⟩
    have H2 := Lib.hid h2
    have HV := Lib.hid hv
    clear h2 hv
    go_wp2
    go_ret
    exact ⟨_, rfl, HV.out, H2.out, grownBy_trans g1 g2⟩
theorem NilOr.bytes {w : World} {S : Nat → Prop} {v : Value} {q : Bool} {x : Option (List UInt8)} (h : NilOr w S v q x) : BytesAt w S v (x.getD []) := by
  cases x with
  | none => exact .inl ⟨h, rfl⟩
  | some bs => exact h.1
theorem NilOr.kept {w w' : World} {S : Nat → Prop} {v : Value} {q : Bool} {x : Option (List UInt8)} {row : Option Nat} (h : NilOr w S v q x) (hg : w.grownBy w' row) (hr : ∀ g, S g → some g ≠ row) : NilOr w' S v q x := by
  cases x with
  | none => exact h
  | some bs => exact ⟨h.1.kept hg hr, h.2⟩
theorem VarintString_any (w : World) (S : Nat → Prop) (rb : Nat) (st : St) (h : RdIs w S rb st) : Calls Tryd.prog 43 #[.pointer (some ⟨rb, 0, none⟩)] w fun e w' =>
    e = .returned (strV ((rdVB st).1.getD [])) ∧ RdIs w' S rb (rdVB st).2 ∧ w.grownBy w' (some rb) := by
  have HV := Lib.hid (VarintBytes_any w S rb st h)
  generalize rdVB st = r at *
  clear h
  go_enter Tryd.func43, Tryd.ntmps43
  go_wp2_with fail
  refine HV.out.mono ?_
  rintro e w1 ⟨v, rfl, hv, h1, g1⟩
  have hc := conv_string hv.bytes 22 9 rfl rfl
  have H1 := Lib.hid h1
  clear h1 hv
  go_wp2
  go_ret
  exact ⟨rfl, H1.out, g1⟩
end Go.Proofs.YthdfhnnoamlacaaDoor.Rec
