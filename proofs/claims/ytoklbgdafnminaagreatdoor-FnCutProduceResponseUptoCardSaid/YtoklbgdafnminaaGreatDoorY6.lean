/-
  The reference: its small functions, values, fields. Conditions: none.
-/
import Derived.Test.YtoklbgdafnminaaGreatDoorY4
import Derived.BigQuiet
import Derived.Test.YtoklbgdafnminaaGreatDoorY3
import Derived.Laws.IdiomCopy
import Derived.Laws.CopyRow
import Derived.Deep.QuietTactic
import Derived.Deep.RegionWith
import Derived.Test.YtoklbgdafnminaaGreatDoorY5
import Derived.Deep.AppendLies
/-
  The reference's small functions: has, null, whole, things, width, Uvarint, Fixed. Conditions: none.
-/
namespace Go.Proofs.YtoklbgdafnminaaGreatDoor
open Go.RowKit (Below)
open Kz

/-- A number in a cell. -/
abbrev iv (n : Int) : Value := .int .i64 n
/-- A field as a value, a tree as a value. -/
abbrev fldV (f : F) (sv : Value) : Value := .agg #[iv f.kind, iv f.frm, iv f.to, iv f.null, iv f.tag, iv f.dflt, iv f.of, sv]
abbrev treV (n : Int) (nl : Bool) (s l u : Value) : Value := .agg #[iv n, s, .bool nl, l, u]

theorem below_push {w w' : World} (n : Nat) (hn : n ≤ w.heap.size) (o : Obj) (h : w' = w.alloc o) : Below n w w' := by
  subst h
  exact ⟨rfl, rfl, rfl, by simp, fun k hk => alloc_old w _ k (by omega)⟩

set_option maxRecDepth 8000 in
set_option maxHeartbeats 1000000 in
theorem has_any (w : World) (f : F) (sv : Value) (v : Int) :
    Calls Tryz.prog 55 #[fldV f sv, iv v] w fun e w' => e = .returned (.bool (f.has v)) ∧ Below w.heap.size w w' := by
  go_enter Tryz.func55, Tryz.ntmps55
  go_wp2
  · go_ret
    rename_i h1 h2
    exact ⟨by simp [F.has, h1], below_push _ (Nat.le_refl _) _ rfl⟩
  · go_ret
    rename_i h1 h2
    exact ⟨by simp [F.has, h1, h2], below_push _ (Nat.le_refl _) _ rfl⟩
  · go_ret
    rename_i h1
    exact ⟨by simp [F.has]; omega, below_push _ (Nat.le_refl _) _ rfl⟩

theorem below_push2 {w w' : World} (n : Nat) (hn : n ≤ w.heap.size) (o o' : Obj) (h : w' = (w.alloc o).alloc o') : Below n w w' := by
  subst h
  exact ⟨rfl, rfl, rfl, by simp; omega, fun k hk => (alloc_old _ _ k (by simp; omega)).trans (alloc_old w _ k (by omega))⟩

set_option maxRecDepth 8000 in
set_option maxHeartbeats 1000000 in
theorem null_any (w : World) (f : F) (sv : Value) (v n : Int) (nl : Bool) (s l u : Value) :
    Calls Tryz.prog 97 #[fldV f sv, iv v, treV n nl s l u] w fun e w' => e = .returned (.bool (nl && (decide (0 ≤ f.null) && decide (f.null ≤ v)))) ∧ Below w.heap.size w w' := by
  go_enter Tryz.func97, Tryz.ntmps97
  cases nl <;> go_wp2
  · go_ret
    exact ⟨by simp, below_push2 _ (Nat.le_refl _) _ _ rfl⟩
  · go_ret
    rename_i h
    exact ⟨by simp [h], below_push2 _ (Nat.le_refl _) _ _ rfl⟩
  · go_ret
    rename_i h
    exact ⟨by simp; omega, below_push2 _ (Nat.le_refl _) _ _ rfl⟩

set_option maxRecDepth 8000 in
set_option maxHeartbeats 1000000 in
theorem width_any (w : World) (k : Nat) :
    Calls Tryz.prog 102 #[iv k] w fun e w' => e = .returned (iv (width k)) ∧ w' = w := by
  go_enter Tryz.func102, Tryz.ntmps102
  go_wp2
  all_goals go_ret
  all_goals (refine ⟨?_, rfl⟩; simp only [beq_iff_eq, beq_eq_false_iff_ne] at *; simp only [width])
  · rw [if_pos (by omega)]; rfl
  · rw [if_neg (by omega), if_pos (by omega)]; rfl
  · rw [if_neg (by omega), if_pos (by omega)]; rfl
  · rw [if_neg (by omega), if_neg (by omega), if_pos (by omega)]; rfl
  · rw [if_neg (by omega), if_neg (by omega), if_neg (by omega)]; rfl

theorem min_most (n : Nat) : (min (n : Int) 32767).toNat = min n most := by simp only [most]; omega

set_option maxRecDepth 8000 in
set_option maxHeartbeats 1000000 in
theorem whole_any (w : World) (g o n c : Nat) (hn : n ≤ c) :
    Calls Tryz.prog 62 #[.slice (some ⟨g, o, none⟩) n c] w fun e w' => e = .returned (.slice (some ⟨g, o, none⟩) (min n most) c) ∧ w' = w := by
  go_enter Tryz.func62, Tryz.ntmps62
  go_wp2
  go_ret
  exact ⟨by rw [min_most]; rfl, rfl⟩
set_option maxRecDepth 8000 in
theorem whole_none (w : World) :
    Calls Tryz.prog 62 #[.slice none 0 0] w fun e w' => e = .returned (.slice none 0 0) ∧ w' = w := by
  go_enter Tryz.func62, Tryz.ntmps62
  go_wp2
  go_ret
  exact ⟨rfl, rfl⟩
set_option maxRecDepth 8000 in
set_option maxHeartbeats 1000000 in
theorem things_any (w : World) (g o n c : Nat) (hn : n ≤ c) :
    Calls Tryz.prog 98 #[.slice (some ⟨g, o, none⟩) n c] w fun e w' => e = .returned (.slice (some ⟨g, o, none⟩) (min n most) c) ∧ w' = w := by
  go_enter Tryz.func98, Tryz.ntmps98
  go_wp2
  go_ret
  exact ⟨by rw [min_most]; rfl, rfl⟩
set_option maxRecDepth 8000 in
theorem things_none (w : World) :
    Calls Tryz.prog 98 #[.slice none 0 0] w fun e w' => e = .returned (.slice none 0 0) ∧ w' = w := by
  go_enter Tryz.func98, Tryz.ntmps98
  go_wp2
  go_ret
  exact ⟨rfl, rfl⟩
end Go.Proofs.YtoklbgdafnminaaGreatDoor
/-
  The reference's numbers: Uvarint, Fixed. Conditions: none.
-/
namespace Go.Proofs.YtoklbgdafnminaaGreatDoor
open Go.RowKit (Below)
open Kz

theorem uvg64 (n : Nat) (h1 : n < 18446744073709551616) : bits BinOp.or IntKind.u8 (bits BinOp.and IntKind.u64 (n : Int) 127 % 256) 128 = ((n % 128 + 128 : Nat) : Int) := by
  have e1 : bits BinOp.and IntKind.u64 (n : Int) 127 = ((n % 128 : Nat) : Int) := by
    have h := u64_and_nat n 127 h1 (by decide)
    have e : n &&& 127 = n % 128 := Nat.and_two_pow_sub_one_eq_mod n 7
    rw [e] at h
    exact h
  have e0 : ((n % 128 : Nat) : Int) % 256 = ((n % 128 : Nat) : Int) := by omega
  have e2 : bits BinOp.or IntKind.u8 ((n % 128 : Nat) : Int) 128 = ((n % 128 ||| 128 : Nat) : Int) := u8_or_nat (n % 128) 128 (by omega) (by decide)
  have e3 : 128 ||| n % 128 = 128 + n % 128 := nat_join 7 128 (n % 128) (by decide) (by omega)
  rw [e1, e0, e2, Nat.or_comm, e3]
  omega
theorem uvF_lt {k m : Nat} (h : m < 128) : uvF (k + 1) m = [UInt8.ofNat m] := by simp [uvF, h]
theorem uvF_ge {k m : Nat} (h : ¬ m < 128) : uvF (k + 1) m = UInt8.ofNat (m % 128 + 128) :: uvF k (m / 128) := by simp [uvF, h]
theorem row_new1 {w : World} {z : Value} {b0 : UInt8} {ty : TypeId} (h : z = bv b0) (j : Nat) (b : UInt8) (hj : [b0][j]? = some b) : (w.alloc (.cells #[z] ty)).cell? ⟨w.heap.size, 0 + j, none⟩ = some (bv b) :=
  row_new (out := [b0]) (by rw [h]; rfl) j b hj

set_option maxRecDepth 8000 in
set_option maxHeartbeats 2000000 in
theorem specUv_any (w : World) (n : Nat) (hn : n < 18446744073709551616) :
    Calls Tryz.prog 60 #[.int .u64 n] w fun e w' => ∃ v', e = .returned v' ∧ OwnB w' w.heap.size v' (uv n) ∧ Below w.heap.size w w' := by
  go_enter Tryz.func60, Tryz.ntmps60
  go_wp2
  go_loopw [0, 3] (fun x v wr => ∃ (m k : Nat) (bs : List UInt8), x = .int .u64 (m : Int) ∧ m < 18446744073709551616 ∧ m < 128 ^ (k + 1) ∧ bs.length ≤ 10 - k ∧ k < 10 ∧ bs ++ uvF (k + 1) m = uv n ∧ OwnB wr w.heap.size v bs ∧ Below w.heap.size w wr) (fun x _ _ => (intOf x).toNat)
  case atStart => exact ⟨n, 9, [], rfl, hn, by omega, by simp, by omega, by simp [uv], OwnB.nil _ _, Below.refl _ _⟩
  case round =>
    obtain ⟨m, k, bs, rfl, hm, hk, hbl, hk9, huv, hown, hbel⟩ := hrel
    have H1 := Lib.hid hown
    have H2 := Lib.hid hbel
    have H3 := Lib.hid huv
    have hkk := Lib.hid hk
    clear hown hbel huv hk
    by_cases hlt : m < 128
    · have hgt : ¬ (127 < (m : Int)) := by omega
      have hu : uvF (k + 1) m = [UInt8.ofNat m] := uvF_lt hlt
      have H4 := Lib.hid hu
      clear hu
      go_wp2_with (at_builtin; refine wpList_append_bytes rfl _ _ rfl w.heap.size _ bs [UInt8.ofNat m] wr.heap.size 0 1 1 rfl rfl ?_ rfl ?_ ?_ ?_ ?_)
      · exact H1.out.grown fun k hk => alloc_old wr _ k hk
      · intro j b hj
        have hb : bv (UInt8.ofNat m) = Value.int .u8 (m : Int) := by rw [bv_ofNat]; congr 1; omega
        cases j with
        | zero => simp only [List.getElem?_cons_zero, Option.some.injEq] at hj ⊢; rw [← hj, hb]
        | succ j => simp at hj
      · simp only [lim]; simp; omega
      · have := H2.out.size; simp; omega
      · intro v' w' hown hg
        have H5 := Lib.hid hown
        have H6 := Lib.hid hg
        clear hown hg
        go_wp2
        go_ret
        refine ⟨v', rfl, ?_, H2.out.trans (below_allocB H1.out H2.out.size H6.out)⟩
        rw [← H3.out, H4.out]
        exact H5.out
    · have hgt : 127 < (m : Int) := by omega
      have hu : uvF (k + 1) m = UInt8.ofNat (m % 128 + 128) :: uvF k (m / 128) := uvF_ge hlt
      have H4 := Lib.hid hu
      clear hu
      obtain ⟨k, rfl⟩ : ∃ k', k = k' + 1 := by
        cases k with
        | zero => have := hkk.out; simp at this; omega
        | succ k => exact ⟨k, rfl⟩
      go_wp2_with (at_builtin; refine wpList_append_bytes rfl _ _ rfl w.heap.size _ bs [UInt8.ofNat (m % 128 + 128)] wr.heap.size 0 1 1 rfl rfl ?_ rfl ?_ ?_ ?_ ?_)
      · exact H1.out.grown fun k hk => alloc_old wr _ k hk
      · exact row_new1 (by rw [uvg64 m hm, bv_ofNat]; congr 1; omega)
      · simp only [lim, List.length_singleton]; omega
      · have := H2.out.size; simp; omega
      · intro v' w' hown hg
        have H5 := Lib.hid hown
        have H6 := Lib.hid hg
        have hofs : UInt8.ofNat (m % 128) + 128 = UInt8.ofNat (m % 128 + 128) := by rw [UInt8.ofNat_add]; rfl
        clear hown hg
        go_wp2
        go_roundw
        case rel => exact ⟨m / 128, k, bs ++ [UInt8.ofNat (m % 128 + 128)], by first | rfl | (congr 1; omega), by omega, by have := hkk.out; rw [Nat.pow_succ] at this; omega, by simp; omega, by omega, by rw [← H3.out, H4.out]; simp, hofs ▸ H5.out, H2.out.trans (below_allocB H1.out H2.out.size H6.out)⟩
        case measure => simp only [intOf]; omega

theorem fixed_succ (n : Int) (k : Nat) : fixed n (k + 1) = byteAt n k :: fixed n k := rfl
theorem fixed_length (n : Int) (k : Nat) : (fixed n k).length = k := by
  induction k with
  | zero => rfl
  | succ k ih => rw [fixed_succ, List.length_cons, ih]

set_option maxRecDepth 8000 in
set_option maxHeartbeats 2000000 in
theorem specFixed_any (w : World) (n : Int) (size : Nat) (hs : size ≤ 8) :
    Calls Tryz.prog 101 #[iv n, iv size] w fun e w' => ∃ v', e = .returned v' ∧ OwnB w' w.heap.size v' (fixed n size) ∧ Below w.heap.size w w' := by
  go_enter Tryz.func101, Tryz.ntmps101
  go_wp2
  go_loopw [5, 6] (fun v x wr => ∃ (j : Nat) (bs : List UInt8), x = .int .i64 ((j : Int) - 1) ∧ j ≤ size ∧ bs.length + j = size ∧ bs ++ fixed n j = fixed n size ∧ OwnB wr w.heap.size v bs ∧ Below w.heap.size w wr) (fun _ x _ => (intOf x + 1).toNat)
  case atStart => exact ⟨size, [], by first | rfl | (congr 1; omega), Nat.le_refl _, by simp, by simp, OwnB.nil _ _, Below.refl _ _⟩
  case round =>
    obtain ⟨j, bs, rfl, hj, hbl, hfx, hown, hbel⟩ := hrel
    have H1 := Lib.hid hown
    have H2 := Lib.hid hbel
    have H3 := Lib.hid hfx
    clear hown hbel hfx
    cases j with
    | zero =>
      have hgt : ¬ (0 ≤ (((0 : Nat) : Int) - 1)) := by omega
      go_wp2
      go_ret
      refine ⟨_, rfl, ?_, H2.out⟩
      have h := H3.out
      simp only [fixed, List.append_nil] at h
      rw [← h]
      exact H1.out
    | succ k =>
      have hgt : 0 ≤ (((k + 1 : Nat) : Int) - 1) := by omega
      go_wp2_with (at_builtin; refine wpList_append_bytes rfl _ _ rfl w.heap.size _ bs [byteAt n k] wr.heap.size 0 1 1 rfl rfl ?_ rfl ?_ ?_ ?_ ?_)
      · exact H1.out.grown fun k hk => alloc_old wr _ k hk
      · exact row_new1 (byteAt_u8 n k _ rfl)
      · simp only [lim]; simp; omega
      · have := H2.out.size; simp; omega
      · intro v' w' hown hg
        have H5 := Lib.hid hown
        have H6 := Lib.hid hg
        clear hown hg
        go_wp2
        go_roundw
        case rel => exact ⟨k, bs ++ [byteAt n k], by first | rfl | (congr 1; omega), by omega, by simp; omega, by rw [← H3.out, fixed_succ]; simp, H5.out, H2.out.trans (below_allocB H1.out H2.out.size H6.out)⟩
        case measure => simp only [intOf]; omega
end Go.Proofs.YtoklbgdafnminaaGreatDoor
/-
  The reference's counts. Conditions: none.
-/
namespace Go.Proofs.YtoklbgdafnminaaGreatDoor
open Go.RowKit (Below)
open Kz

/-- A row of one octet is one's own. -/
theorem own_one (w : World) (z : Value) (b0 : UInt8) (h : z = bv b0) : OwnB (w.alloc (.cells #[z] 5)) w.heap.size (.slice (some ⟨w.heap.size, 0, none⟩) 1 1) [b0] := by
  refine ⟨by simp, .inr ⟨w.heap.size, 1, #[z], rfl, Nat.le_refl _, ?_, Nat.le_refl _, by decide, rfl, by rw [h]; rfl⟩⟩
  show (w.heap.push _)[w.heap.size]? = _
  simp
/-- What is one's own from here on is so from further down on. -/
theorem OwnB.low {w : World} {base base' : Nat} {v : Value} {bs : List UInt8} (h : OwnB w base v bs) (hb : base' ≤ base) : OwnB w base' v bs := by
  obtain ⟨h1, h2⟩ := h
  refine ⟨h1, h2.imp id ?_⟩
  rintro ⟨g, cap, cur, e1, e2, e3⟩
  exact ⟨g, cap, cur, e1, by omega, e3⟩

set_option maxRecDepth 8000 in
set_option maxHeartbeats 2000000 in
theorem counted_any (w : World) (flex null : Bool) (n size : Nat) (hn : n < 9223372036854775807) (hs : size ≤ 8) :
    Calls Tryz.prog 99 #[.bool flex, .bool null, iv n, iv size] w fun e w' => ∃ v', e = .returned v' ∧ OwnB w' w.heap.size v' (counted flex null n size) ∧ Below w.heap.size w w' := by
  go_enter Tryz.func99, Tryz.ntmps99
  cases flex <;> cases null
  · go_wp2_with fail
    refine (specFixed_any w n size hs).mono ?_
    rintro e w' ⟨v', rfl, hown, hbel⟩
    have H1 := Lib.hid hown
    have H2 := Lib.hid hbel
    clear hown hbel
    go_wp2
    go_ret
    exact ⟨v', rfl, H1.out, H2.out⟩
  · go_wp2_with fail
    refine (specFixed_any w (-1) size hs).mono ?_
    rintro e w' ⟨v', rfl, hown, hbel⟩
    have H1 := Lib.hid hown
    have H2 := Lib.hid hbel
    clear hown hbel
    go_wp2
    go_ret
    exact ⟨v', rfl, H1.out, H2.out⟩
  · go_wp2_with fail
    refine (specUv_any w (n + 1) (by omega)).mono ?_
    rintro e w' ⟨v', rfl, hown, hbel⟩
    have H1 := Lib.hid hown
    have H2 := Lib.hid hbel
    clear hown hbel
    go_wp2
    go_ret
    exact ⟨v', rfl, H1.out, H2.out⟩
  · go_wp2
    go_ret
    exact ⟨_, rfl, own_one _ _ 0 rfl, below_push _ (Nat.le_refl _) _ rfl⟩
end Go.Proofs.YtoklbgdafnminaaGreatDoor
/-
  The reference's trees and fields in memory. Conditions: none.
-/
namespace Go.Proofs.YtoklbgdafnminaaGreatDoor
open Go.RowKit (Below)
open Kz

/-- Any block. -/
abbrev Tr : Nat → Prop := fun _ => True
/-- Octets of what came in: as they lie, or an empty slice of whatever place. -/
def BT (w : World) (v : Value) (bs : List UInt8) : Prop := (∃ ad, v = .slice ad 0 0 ∧ bs = []) ∨ BytesAt w Tr v bs
/-- Tags in memory. -/
def UTags (w : World) (v : Value) (us : List (Nat × List UInt8)) : Prop :=
  (∃ ad, v = .slice ad 0 0 ∧ us = []) ∨ ∃ g o c, v = .slice (some ⟨g, o, none⟩) us.length c ∧ us.length ≤ c ∧ c ≤ 9223372036854775807 ∧ g < w.heap.size ∧
    ∀ (i : Nat) k b, us[i]? = some (k, b) → ∃ s, w.cell? ⟨g, o + i * 2, none⟩ = some (.int .u32 (k : Int)) ∧ w.cell? ⟨g, o + i * 2 + 1, none⟩ = some s ∧ BT w s b ∧ k < 4294967296
/-- A list of trees in memory. -/
inductive TL (w : World) : Value → List T → Prop
  | nil (ad : Option Addr) : TL w (.slice ad 0 0) []
  | mk (g o c : Nat) (ts : List T) (sv lv uv : Nat → Value) : ts.length ≤ c → c ≤ 9223372036854775807 → g < w.heap.size →
      (∀ (i : Nat) t, ts[i]? = some t → w.cell? ⟨g, o + i * 5, none⟩ = some (iv t.n) ∧ w.cell? ⟨g, o + i * 5 + 1, none⟩ = some (sv i) ∧ w.cell? ⟨g, o + i * 5 + 2, none⟩ = some (.bool t.null) ∧
        w.cell? ⟨g, o + i * 5 + 3, none⟩ = some (lv i) ∧ w.cell? ⟨g, o + i * 5 + 4, none⟩ = some (uv i) ∧ BT w (sv i) t.s ∧ UTags w (uv i) t.u) →
      (∀ (i : Nat) t, ts[i]? = some t → TL w (lv i) t.l) → TL w (.slice (some ⟨g, o, none⟩) ts.length c) ts
/-- A tree as a value. -/
def TreeV (w : World) (v : Value) (t : T) : Prop := ∃ s l u, v = treV t.n t.null s l u ∧ BT w s t.s ∧ TL w l t.l ∧ UTags w u t.u
/-- Fields in memory. -/
inductive FL (w : World) : Value → List F → Prop
  | nil : FL w (.slice none 0 0) []
  | mk (g o c : Nat) (fs : List F) (sv : Nat → Value) : fs.length ≤ c → c ≤ 9223372036854775807 → g < w.heap.size →
      (∀ (i : Nat) f, fs[i]? = some f → w.cell? ⟨g, o + i * 8, none⟩ = some (iv f.kind) ∧ w.cell? ⟨g, o + i * 8 + 1, none⟩ = some (iv f.frm) ∧ w.cell? ⟨g, o + i * 8 + 2, none⟩ = some (iv f.to) ∧
        w.cell? ⟨g, o + i * 8 + 3, none⟩ = some (iv f.null) ∧ w.cell? ⟨g, o + i * 8 + 4, none⟩ = some (iv f.tag) ∧ w.cell? ⟨g, o + i * 8 + 5, none⟩ = some (iv f.dflt) ∧
        w.cell? ⟨g, o + i * 8 + 6, none⟩ = some (iv f.of) ∧ w.cell? ⟨g, o + i * 8 + 7, none⟩ = some (sv i)) →
      (∀ (i : Nat) f, fs[i]? = some f → FL w (sv i) f.sub) → FL w (.slice (some ⟨g, o, none⟩) fs.length c) fs
/-- A field as a value. -/
def FieldV (w : World) (v : Value) (f : F) : Prop := ∃ sv, v = fldV f sv ∧ FL w sv f.sub

theorem BytesAt.stay {w w' : World} {v : Value} {bs : List UInt8} (h : BytesAt w Tr v bs) (hb : Below w.heap.size w w') : BytesAt w' Tr v bs := h.kept (row := none) (below_grown hb none) (fun _ _ => by simp)
theorem BT.stay {w w' : World} {v : Value} {bs : List UInt8} (h : BT w v bs) (hb : Below w.heap.size w w') : BT w' v bs := h.imp id fun h => h.stay hb
theorem BT.len {w : World} {v : Value} {bs : List UInt8} (h : BT w v bs) : ∃ ad c, v = .slice ad bs.length c := by
  rcases h with ⟨ad, rfl, rfl⟩ | h
  · exact ⟨_, _, rfl⟩
  · exact bytes_len h
theorem BT.nil (w : World) : BT w (.slice none 0 0) [] := .inl ⟨none, rfl, rfl⟩
theorem UTags.nil (w : World) : UTags w (.slice none 0 0) [] := .inl ⟨none, rfl, rfl⟩
theorem UTags.stay {w w' : World} {v : Value} {us : List (Nat × List UInt8)} (h : UTags w v us) (hb : Below w.heap.size w w') : UTags w' v us := by
  rcases h with h | ⟨g, o, c, h1, h2, h3, h4, h5⟩
  · exact .inl h
  · refine .inr ⟨g, o, c, h1, h2, h3, Nat.lt_of_lt_of_le h4 hb.size, fun i k b hi => ?_⟩
    obtain ⟨s, e1, e2, e3, e4⟩ := h5 i k b hi
    exact ⟨s, by rw [(bcell hb).1 _ _ h4]; exact e1, by rw [(bcell hb).1 _ _ h4]; exact e2, e3.stay hb, e4⟩
theorem TL.stay {w w' : World} {v : Value} {ts : List T} (h : TL w v ts) (hb : Below w.heap.size w w') : TL w' v ts := by
  induction h with
  | nil ad => exact .nil ad
  | mk g o c ts sv lv uv h1 h2 h3 h4 _ ih =>
    refine .mk g o c ts sv lv uv h1 h2 (Nat.lt_of_lt_of_le h3 hb.size) (fun i t hi => ?_) ih
    obtain ⟨e0, e1, e2, e3, e4, e5, e6⟩ := h4 i t hi
    simp only [(bcell hb).1 _ _ h3]
    exact ⟨e0, e1, e2, e3, e4, e5.stay hb, e6.stay hb⟩
theorem TreeV.stay {w w' : World} {v : Value} {t : T} (h : TreeV w v t) (hb : Below w.heap.size w w') : TreeV w' v t := by
  obtain ⟨s, l, u, e, h1, h2, h3⟩ := h
  exact ⟨s, l, u, e, h1.stay hb, h2.stay hb, h3.stay hb⟩
theorem FL.stay {w w' : World} {v : Value} {fs : List F} (h : FL w v fs) (hb : Below w.heap.size w w') : FL w' v fs := by
  induction h with
  | nil => exact .nil
  | mk g o c fs sv h1 h2 h3 h4 _ ih =>
    refine .mk g o c fs sv h1 h2 (Nat.lt_of_lt_of_le h3 hb.size) (fun i f hi => ?_) ih
    simp only [(bcell hb).1 _ _ h3]
    exact h4 i f hi
theorem FieldV.stay {w w' : World} {v : Value} {f : F} (h : FieldV w v f) (hb : Below w.heap.size w w') : FieldV w' v f := by
  obtain ⟨sv, e, h⟩ := h
  exact ⟨sv, e, h.stay hb⟩
theorem TreeV.zero (w : World) : TreeV w (treV 0 false (.slice none 0 0) (.slice none 0 0) (.slice none 0 0)) T.zero := ⟨_, _, _, rfl, .nil _, .nil _, .nil _⟩

theorem TL.len {w : World} {v : Value} {ts : List T} (h : TL w v ts) : ∃ ad c, v = .slice ad ts.length c := by
  cases h with
  | nil ad => exact ⟨_, _, rfl⟩
  | mk g o c _ sv lv uv h1 h2 h3 h4 h5 => exact ⟨_, _, rfl⟩
theorem UTags.len {w : World} {v : Value} {us : List (Nat × List UInt8)} (h : UTags w v us) : ∃ ad c, v = .slice ad us.length c := by
  rcases h with ⟨ad, rfl, rfl⟩ | ⟨g, o, c, rfl, -⟩
  · exact ⟨_, _, rfl⟩
  · exact ⟨_, _, rfl⟩
theorem FL.len {w : World} {v : Value} {fs : List F} (h : FL w v fs) : ∃ ad c, v = .slice ad fs.length c := by
  cases h with
  | nil => exact ⟨_, _, rfl⟩
  | mk g o c _ sv h1 h2 h3 h4 h5 => exact ⟨_, _, rfl⟩
/-- A tree in a variable is read. -/
theorem tree_load {w : World} {g : Nat} {n s b l u : Value} (h : w.heap[g]? = some (.cells #[n, s, b, l, u] 26 (0, 0))) :
    (loadVar 26 ⟨g, 0, none⟩).run Tryz.prog w = .ok (.agg #[n, s, b, l, u]) w := by
  have hc : ∀ j, w.cell? ⟨g, 0 + j, none⟩ = (#[n, s, b, l, u] : Array Value)[j]? := fun j => by rw [cell_of_row _ _ _ _ _ _ h, Nat.zero_add]
  exact run_loadVar_mid _ _ _ _ [n, s, b, l, u] _ (fun j v hj => by rw [hc j]; simpa using hj) Tryz.underlying26 rfl (by kernel_rfl)
theorem alloc_last (w : World) (o : Obj) : (w.alloc o).heap[w.heap.size]? = some o := by
  show (w.heap.push _)[w.heap.size]? = _
  simp

set_option maxRecDepth 8000 in
set_option maxHeartbeats 2000000 in
theorem at_any (w : World) (v : Value) (t : T) (i : Nat) (h : TreeV w v t) :
    Calls Tryz.prog 57 #[v, iv i] w fun e w' => ∃ v', e = .returned v' ∧ TreeV w' v' (t.l.getD i T.zero) ∧ Below w.heap.size w w' := by
  obtain ⟨s, l, u, rfl, h1, h2, h3⟩ := h
  have H1 := Lib.hid h1
  have H3 := Lib.hid h3
  clear h1 h3
  generalize htl : t.l = tl at h2
  cases h2 with
  | nil ad =>
    have hi : ¬ ((i : Int) < 0) := by omega
    go_enter Tryz.func57, Tryz.ntmps57
    go_wp2
    refine ⟨rfl, _, (results_cell1 (p := 4) (ty := 26) (by kernel_rfl) _ _ _).trans (tree_load (g := w.heap.size + 1) ?_), _, rfl, TreeV.zero _, below_push2 _ (Nat.le_refl _) _ _ rfl⟩
    have := alloc_last (w.alloc (.cells #[iv t.n, s, .bool t.null, .slice ad 0 0, u] 26)) (.cells #[.int .i64 0, .slice none 0 0, .bool false, .slice none 0 0, .slice none 0 0] 26)
    simpa using this
  | mk g o c ts sv lv uv k1 k2 k3 k4 k5 =>
    have K4 := Lib.hid k4
    have K5 := Lib.hid k5
    clear k4 k5
    by_cases hi : i < tl.length
    · have hii : (i : Int) < (tl.length : Int) := by omega
      obtain ⟨e0, e1, e2, e3, e4, e5, e6⟩ := K4.out i _ (List.getElem?_eq_getElem hi)
      have E5 := Lib.hid e5
      have E6 := Lib.hid e6
      clear e5 e6
      have hd : tl.getD i T.zero = tl[i] := by simp [hi]
      rw [hd]
      have e7 := Lib.hid (K5.out i _ (List.getElem?_eq_getElem hi))
      generalize hx : tl[i] = x at *
      obtain ⟨a1, c1, hs⟩ := E5.out.len
      obtain ⟨a2, c2, hl⟩ := e7.out.len
      obtain ⟨a3, c3, hu⟩ := E6.out.len
      rw [hs] at E5 e1
      rw [hl] at e7 e3
      rw [hu] at E6 e4
      go_enter Tryz.func57, Tryz.ntmps57
      go_wp2
      have hbel : Below w.heap.size w ((w.alloc (.cells #[iv t.n, s, .bool t.null, .slice (some ⟨g, o, none⟩) tl.length c, u] 26)).alloc (.cells #[.int .i64 x.n, .slice a1 x.s.length c1, .bool x.null, .slice a2 x.l.length c2, .slice a3 x.u.length c3] 26)) := below_push2 _ (Nat.le_refl _) _ _ rfl
      refine ⟨rfl, _, (results_cell1 (p := 4) (ty := 26) (by kernel_rfl) _ _ _).trans (tree_load (g := w.heap.size + 1) ?_), _, rfl, ⟨_, _, _, rfl, E5.out.stay hbel, e7.out.stay hbel, E6.out.stay hbel⟩, hbel⟩
      have := alloc_last (w.alloc (.cells #[iv t.n, s, .bool t.null, .slice (some ⟨g, o, none⟩) tl.length c, u] 26)) (.cells #[.int .i64 x.n, .slice a1 x.s.length c1, .bool x.null, .slice a2 x.l.length c2, .slice a3 x.u.length c3] 26)
      simpa using this
    · have hii : ¬ ((i : Int) < (tl.length : Int)) := by omega
      have hd : tl.getD i T.zero = T.zero := by simp [hi]
      rw [hd]
      go_enter Tryz.func57, Tryz.ntmps57
      go_wp2
      refine ⟨rfl, _, (results_cell1 (p := 4) (ty := 26) (by kernel_rfl) _ _ _).trans (tree_load (g := w.heap.size + 1) ?_), _, rfl, TreeV.zero _, below_push2 _ (Nat.le_refl _) _ _ rfl⟩
      have := alloc_last (w.alloc (.cells #[iv t.n, s, .bool t.null, .slice (some ⟨g, o, none⟩) tl.length c, u] 26)) (.cells #[.int .i64 0, .slice none 0 0, .bool false, .slice none 0 0, .slice none 0 0] 26)
      simpa using this
end Go.Proofs.YtoklbgdafnminaaGreatDoor
/-
  The reference's known tags. Conditions: none.
-/
namespace Go.Proofs.YtoklbgdafnminaaGreatDoor
open Go.RowKit (Below)
open Kz

theorem known_append (a b : List F) : known (a ++ b) = max (known a) (known b) := by
  induction a with
  | nil => simp [known]
  | cons f a ih => rw [List.cons_append, known, known, ih, Nat.max_assoc]
/-- A slice of fields, place by place. -/
theorem FL.cell {w : World} {v : Value} {fs : List F} (h : FL w v fs) : ∃ p c, v = .slice p fs.length c ∧ fs.length ≤ 9223372036854775807 ∧ (fs ≠ [] → ∃ g o, p = some ⟨g, o, none⟩ ∧ g < w.heap.size ∧
    ∀ (i : Nat) f, fs[i]? = some f → ∃ q d, w.cell? ⟨g, o + i * 8, none⟩ = some (iv f.kind) ∧ w.cell? ⟨g, o + i * 8 + 1, none⟩ = some (iv f.frm) ∧ w.cell? ⟨g, o + i * 8 + 2, none⟩ = some (iv f.to) ∧
        w.cell? ⟨g, o + i * 8 + 3, none⟩ = some (iv f.null) ∧ w.cell? ⟨g, o + i * 8 + 4, none⟩ = some (iv f.tag) ∧ w.cell? ⟨g, o + i * 8 + 5, none⟩ = some (iv f.dflt) ∧
        w.cell? ⟨g, o + i * 8 + 6, none⟩ = some (iv f.of) ∧ w.cell? ⟨g, o + i * 8 + 7, none⟩ = some (.slice q f.sub.length d) ∧ FL w (.slice q f.sub.length d) f.sub) := by
  cases h with
  | nil => exact ⟨_, _, rfl, by simp, fun h => absurd rfl h⟩
  | mk g o c _ sv h1 h2 h3 h4 h5 =>
    refine ⟨_, _, rfl, by omega, fun _ => ⟨g, o, rfl, h3, fun i f hi => ?_⟩⟩
    obtain ⟨q, d, hs⟩ := (h5 i f hi).len
    obtain ⟨e0, e1, e2, e3, e4, e5, e6, e7⟩ := h4 i f hi
    exact ⟨q, d, e0, e1, e2, e3, e4, e5, e6, by rw [e7, hs], by rw [← hs]; exact h5 i f hi⟩
set_option maxRecDepth 8000 in
set_option maxHeartbeats 2000000 in
theorem known_any (w : World) (v : Value) (fs : List F) (h : FL w v fs) (ht : ∀ f ∈ fs, f.tag < 4294967295) :
    Calls Tryz.prog 58 #[v] w fun e w' => e = .returned (.int .u32 (known fs : Int)) ∧ Below w.heap.size w w' := by
  obtain ⟨p, c, rfl, h63, hp⟩ := h.cell
  clear h
  go_enter Tryz.func58, Tryz.ntmps58
  go_wp2
  go_loopw [3, 8] (fun x i wr => ∃ j : Nat, i = .int .i64 (j : Int) ∧ j ≤ fs.length ∧ x = .int .u32 (known (fs.take j) : Int) ∧ Below w.heap.size w wr) (fun _ i _ => fs.length - (intOf i).toNat)
  case atStart => exact ⟨0, rfl, Nat.zero_le _, by simp [known], Below.refl _ _⟩
  case round =>
    obtain ⟨j, rfl, hj, rfl, hbel⟩ := hrel
    by_cases hjl : j < fs.length
    · have hji : (j : Int) < (fs.length : Int) := by omega
      obtain ⟨g, o, rfl, hg, hpc⟩ := hp (by intro e; rw [e] at hjl; simp at hjl)
      obtain ⟨q, d, e0, e1, e2, e3, e4, e5, e6, e7, -⟩ := hpc j _ (List.getElem?_eq_getElem hjl)
      have hmem : fs[j] ∈ fs := List.getElem_mem hjl
      have htg := ht _ hmem
      have hstep : known (fs.take (j + 1)) = max (known (fs.take j)) (if 0 ≤ fs[j].tag then fs[j].tag.toNat + 1 else 0) := by
        rw [List.take_add_one, List.getElem?_eq_getElem hjl, known_append]
        simp [known]
      rw [← (bcell hbel).1 _ _ hg] at e0 e1 e2 e3 e4 e5 e6 e7
      generalize hx : fs[j] = f at *
      have bb := Lib.hid hbel
      have hs := Lib.hid hstep
      clear hp hpc hbel hstep ht hx hmem
      go_wp2
      · exact ⟨⟨j + 1, by first | rfl | (congr 1; omega), by omega, by rw [hs.out, if_pos (by assumption)]; congr 1; omega, bb.out.trans (below_push _ bb.out.size _ rfl)⟩, by simp only [intOf]; omega⟩
      · exact ⟨⟨j + 1, by first | rfl | (congr 1; omega), by omega, by rw [hs.out, if_neg (by omega)]; congr 1; omega, bb.out.trans (below_push _ bb.out.size _ rfl)⟩, by simp only [intOf]; omega⟩
    · have hji : ¬ ((j : Int) < (fs.length : Int)) := by omega
      obtain rfl : j = fs.length := by omega
      clear hp ht
      rw [List.take_length]
      go_wp2
      go_ret
      exact ⟨rfl, hbel⟩
end Go.Proofs.YtoklbgdafnminaaGreatDoor
/-
  The reference's values. Conditions: none.
-/
namespace Go.Proofs.YtoklbgdafnminaaGreatDoor
open Go.RowKit
open Kz

theorem _root_.Go.RowKit.Below.lower {n m : Nat} {w w' : World} (h : Below n w w') (hm : m ≤ n) : Below m w w' :=
  ⟨h.os, h.tape, h.output, h.size, fun k hk => h.block k (by omega)⟩
theorem below_drew {w : World} {n : Nat} {o : Obj} (hn : n ≤ w.heap.size) : Below n w (w.alloc o).drew :=
  ⟨rfl, rfl, rfl, by show w.heap.size ≤ (w.heap.push _).size; simp, fun k hk => alloc_old w _ k (by omega)⟩
theorem setRow_grown {w : World} {A : Nat} {cs : Array Value} : w.grownBy (w.setRow A cs) (some A) :=
  ⟨rfl, rfl, rfl, by simp [World.setRow], fun k _ hne => by
    simp only [World.setRow, Array.getElem?_modify]
    rw [if_neg (fun e => hne (by rw [e]))]⟩
/-- Octets are copied into a row of 16 zeros. -/
theorem copy16 {w : World} {A : Nat} {v : Value} {s : List UInt8} {ty T : TypeId} {z : Array Value} (hz : z.toList = List.replicate 16 (.int .u8 0)) (hA : w.heap[A]? = some (.cells z T (0, 0))) (hv : BT w v s) :
    ∃ (n : Int) (w2 : World), (Builtin.copy_ #[22, 22] ty #[.slice (some ⟨A, 0, none⟩) 16 16, v]).run Tryz.prog w = .ok (.int .i64 n) w2 ∧ w2.heap[A]? = some (.cells ((uuid s).map bv).toArray T (0, 0)) ∧ w.grownBy w2 (some A) := by
  have hsz : (Tryz.prog.info? 5).map (·.size) = some 1 := by kernel_rfl
  by_cases h0 : s = []
  · subst h0
    obtain ⟨p, c, rfl⟩ := hv.len
    refine ⟨0, w, run_copy_none w _ _ _ _ _ _ _ _ _ _ Tryz.underlying22 hsz (by simp), ?_, grownBy_refl _ _⟩
    have e : z = ((uuid []).map bv).toArray := by
      apply Array.toList_inj.1
      rw [hz]
      rfl
    rw [hA, e]
  · rcases hv with ⟨_, _, h⟩ | ⟨rfl, h⟩ | ⟨g, o, c, rfl, h2, h2', h3, h4, h5⟩
    · exact absurd h h0
    · exact absurd h h0
    · have hcs : ((s.take 16).map bv).length = Nat.min s.length 16 := by simp [Nat.min_comm]
      have hzl : z.size = 16 := by rw [← Array.length_toList, hz, List.length_replicate]
      have hr := run_copy_row (P := Tryz.prog) w 22 22 ty 5 A 0 16 16 ⟨g, o, none⟩ s.length c z T ((s.take 16).map bv) Tryz.underlying22 hsz hA hcs (fun j u hj => by
        simp only [List.getElem?_map, Option.map_eq_some_iff, List.getElem?_take] at hj
        obtain ⟨b, hb, rfl⟩ := hj
        rw [Addr.add_mid]
        split at hb
        · exact h5 j b hb
        · cases hb) (by rw [hcs, hzl]; have := Nat.min_le_right s.length 16; simp only [Nat.min_def] at *; omega) (fun u hu => by
        simp only [List.mem_map] at hu
        obtain ⟨b, -, rfl⟩ := hu
        rfl)
      refine ⟨_, _, hr, ?_, setRow_grown⟩
      have e : (z.toList.take 0 ++ (s.take 16).map bv ++ z.toList.drop (0 + ((s.take 16).map bv).length)) = (uuid s).map bv := by
        rw [hz, hcs, uuid, List.map_append, List.map_replicate, List.drop_replicate]
        simp only [List.take_zero, List.nil_append, Nat.zero_add]
        have e2 : 16 - Nat.min s.length 16 = 16 - s.length := by
          simp only [Nat.min_def]
          split <;> omega
        rw [e2]
        rfl
      rw [setRow_heap _ _ _ _ _ _ hA, e]

/-- Sixteen zeros. -/
def z16 : Array Value := #[.int .u8 0, .int .u8 0, .int .u8 0, .int .u8 0, .int .u8 0, .int .u8 0, .int .u8 0, .int .u8 0, .int .u8 0, .int .u8 0, .int .u8 0, .int .u8 0, .int .u8 0, .int .u8 0, .int .u8 0, .int .u8 0]
theorem made16 : madeCells (Value.cells (.int .u8 0)) 16 = z16 := by kernel_rfl
theorem make16 (w : World) : (Instr.makeSlice 22 (.int .i64 16) (.int .i64 16)).run Tryz.prog w = .ok (.slice (some ⟨w.heap.size, 0, none⟩) 16 16) (w.alloc (.cells z16 5)) := by
  have hi : (Tryz.prog.info? 5).map (fun i => (i.zero, i.size, i.bytes)) = some (some (.int .u8 0), 1, 1) := by kernel_rfl
  obtain ⟨i, hi, hz, hs, hby⟩ := info_parts hi
  rw [run_make w _ _ i _ Tryz.underlying22 hi hz _ _ _ _ (by decide) (by decide) (by rw [hby]; decide) (by decide), hs]
  show Result.ok _ (w.alloc (.cells (madeCells (Value.cells (.int .u8 0)) 16) _)) = _
  rw [made16]
  rfl

theorem and1_i64 (n : Int) : bits BinOp.and IntKind.i64 n 1 = n % 2 := by
  have h1 : (BitVec.ofInt 64 n).toNat = (n % 18446744073709551616).toNat := by simp [BitVec.toNat_ofInt]
  have h2 : (BitVec.ofInt 64 n &&& BitVec.ofInt 64 1).toNat = (n % 18446744073709551616).toNat % 2 := by
    rw [BitVec.toNat_and, h1]
    have : (BitVec.ofInt 64 1).toNat = 1 := by decide
    rw [this, Nat.and_one_is_mod]
  show IntKind.wrap .i64 ((BitVec.ofInt 64 n &&& BitVec.ofInt 64 1).toNat : Int) = _
  rw [h2, IntKind.wrap_i64]
  omega

set_option maxRecDepth 8000 in
set_option maxHeartbeats 4000000 in
theorem value_int (w : World) (k : Nat) (sv tv : Value) (nl flex : Bool) (v : Int) (t : T) (hk : k ≠ 0 ∧ k ≠ 7 ∧ k ≠ 8 ∧ k ≠ 9 ∧ k ≠ 10) (ht : TreeV w tv t) :
    Calls Tryz.prog 100 #[iv k, sv, .bool nl, iv v, .bool flex, tv] w fun e w' => ∃ v', e = .returned v' ∧ OwnB w' w.heap.size v' (fixed t.n (width k)) ∧ Below w.heap.size w w' := by
  obtain ⟨s, l, u, rfl, h1, h2, h3⟩ := ht
  obtain ⟨k0, k7, k8, k9, k10⟩ := hk
  have e0 : ¬ ((k : Int) = 0) := by omega
  have e7 : ¬ ((k : Int) = 7) := by omega
  have e8 : ¬ ((k : Int) = 8) := by omega
  have e9 : ¬ ((k : Int) = 9) := by omega
  have e10 : ¬ ((k : Int) = 10) := by omega
  have w8 : width k ≤ 8 := by simp only [width]; repeat' split <;> try omega
  have H8 := Lib.hid w8
  clear h1 h2 h3 k0 k7 k8 k9 k10 w8
  go_enter Tryz.func100, Tryz.ntmps100
  go_wp2
  go_region_with (first | (go_at_call 102; refine (width_any _ k).mono ?_; rintro e w1 ⟨rfl, rfl⟩) | (go_at_call 101; refine (specFixed_any _ t.n (width k) H8.out).mono ?_; rintro e w1 ⟨v', rfl, hown, hbel⟩; have H1 := Lib.hid hown; have H2 := Lib.hid hbel; clear hown hbel))
  all_goals (rename_i hk; refine hk _ _ ?_; go_wp2; go_ret; exact ⟨_, rfl, H1.out.low (base' := w.heap.size) (by simp), (below_drew (Nat.le_refl _)).trans (H2.out.lower (m := w.heap.size) (by simp))⟩)
end Go.Proofs.YtoklbgdafnminaaGreatDoor
/-
  The reference's values: truth, 16 octets, texts, parts. Conditions: none.
-/
namespace Go.Proofs.YtoklbgdafnminaaGreatDoor
open Go.RowKit
open Kz

theorem uuid_len (s : List UInt8) : (uuid s).length = 16 := by simp only [uuid, List.length_append, List.length_take, List.length_replicate]; omega
theorem below_two {w w2 : World} {o o' : Obj} (h : ((w.alloc o).alloc o').grownBy w2 (some (w.heap.size + 1))) : Below w.heap.size w w2 :=
  ⟨h.os, h.tape, h.output, by have := h.size; simp at this; omega, fun k hk => (h.block k (by simp; omega) (fun e => by have := Option.some.inj e; omega)).trans ((alloc_old _ _ k (by simp; omega)).trans (alloc_old w _ k hk))⟩
theorem own_at (w : World) (z : Value) (b0 : UInt8) (g : Nat) (hg : w.heap.size = g) (h : z = bv b0) : OwnB (w.alloc (.cells #[z] 5)) g (.slice (some ⟨g, 0, none⟩) 1 1) [b0] := by
  subst hg
  exact own_one w z b0 h

set_option maxRecDepth 8000 in
set_option maxHeartbeats 4000000 in
theorem value_bool (w : World) (sv tv : Value) (nl flex : Bool) (v : Int) (t : T) (ht : TreeV w tv t) :
    Calls Tryz.prog 100 #[iv (0 : Nat), sv, .bool nl, iv v, .bool flex, tv] w fun e w' => ∃ v', e = .returned v' ∧ OwnB w' w.heap.size v' [UInt8.ofNat (t.n % 2).toNat] ∧ Below w.heap.size w w' := by
  obtain ⟨s, l, u, rfl, h1, h2, h3⟩ := ht
  clear h1 h2 h3
  have ha := and1_i64 t.n
  go_enter Tryz.func100, Tryz.ntmps100
  go_wp2
  go_ret
  refine ⟨_, rfl, (own_at (w.alloc (.cells #[iv t.n, s, .bool t.null, l, u] 26)) _ (UInt8.ofNat (t.n % 2).toNat) (w.heap.size + 1) (by simp) ?_).low (base' := w.heap.size) (by simp), below_push2 _ (Nat.le_refl _) _ _ rfl⟩
  rw [bv_ofNat]
  congr 1
  omega

set_option maxRecDepth 8000 in
set_option maxHeartbeats 4000000 in
theorem value_part (w : World) (sv tv : Value) (nl flex : Bool) (v : Int) (t : T) (ht : TreeV w tv t) (out : List UInt8)
    (hP : ∀ w1, Below w.heap.size w w1 → w.heap.size ≤ w1.heap.size → Calls Tryz.prog 26 #[sv, iv v, .bool flex, tv] w1 fun e w' => ∃ v', e = .returned v' ∧ OwnB w' w1.heap.size v' out ∧ Below w1.heap.size w1 w') :
    Calls Tryz.prog 100 #[iv (10 : Nat), sv, .bool nl, iv v, .bool flex, tv] w fun e w' => ∃ v', e = .returned v' ∧ OwnB w' w.heap.size v' out ∧ Below w.heap.size w w' := by
  obtain ⟨s, l, u, rfl, h1, h2, h3⟩ := ht
  obtain ⟨a1, c1, rfl⟩ := h1.len
  obtain ⟨a2, c2, rfl⟩ := h2.len
  obtain ⟨a3, c3, rfl⟩ := h3.len
  clear h1 h2 h3
  have HP := Lib.hid hP
  clear hP
  go_enter Tryz.func100, Tryz.ntmps100
  go_wp2_with fail
  refine (HP.out _ (below_push _ (Nat.le_refl _) _ rfl) (by simp)).mono ?_
  rintro e w1 ⟨v', rfl, hown, hbel⟩
  have H1 := Lib.hid hown
  have H2 := Lib.hid hbel
  clear hown hbel
  go_wp2
  go_ret
  exact ⟨_, rfl, H1.out.low (base' := w.heap.size) (by simp), (below_push _ (Nat.le_refl _) _ rfl).trans (H2.out.lower (m := w.heap.size) (by simp))⟩

set_option maxRecDepth 8000 in
set_option maxHeartbeats 4000000 in
theorem value_uuid (w : World) (sv tv : Value) (nl flex : Bool) (v : Int) (t : T) (ht : TreeV w tv t) :
    Calls Tryz.prog 100 #[iv (7 : Nat), sv, .bool nl, iv v, .bool flex, tv] w fun e w' => ∃ v', e = .returned v' ∧ OwnB w' w.heap.size v' (uuid t.s) ∧ Below w.heap.size w w' := by
  obtain ⟨s, l, u, rfl, h1, h2, h3⟩ := ht
  have hB := below_push w.heap.size (Nat.le_refl _) (.cells #[iv t.n, s, .bool t.null, l, u] 26) rfl
  have H1 := Lib.hid ((h1.stay hB).stay (below_push _ (Nat.le_refl _) (.cells z16 5) rfl))
  obtain ⟨a1, c1, rfl⟩ := h1.len
  have hmk := make16 (w.alloc (.cells #[iv t.n, .slice a1 t.s.length c1, .bool t.null, l, u] 26))
  have hz : ((w.alloc (.cells #[iv t.n, .slice a1 t.s.length c1, .bool t.null, l, u] 26)).alloc (.cells z16 5)).heap[w.heap.size + 1]? = some (.cells z16 5 (0, 0)) := by
    have := alloc_last (w.alloc (.cells #[iv t.n, .slice a1 t.s.length c1, .bool t.null, l, u] 26)) (.cells z16 5)
    simpa using this
  obtain ⟨n, w2, hcp, hrow, hgr⟩ := copy16 (ty := 3) (A := w.heap.size + 1) rfl hz H1.out
  have H2 := Lib.hid hrow
  have H3 := Lib.hid hgr
  clear h1 h2 h3 hB hz hrow hgr
  go_enter Tryz.func100, Tryz.ntmps100
  go_wp2
  go_ret
  refine ⟨_, rfl, ⟨?_, .inr ⟨w.heap.size + 1, 16, _, ?_, by omega, H2.out, ?_, by decide, ?_, ?_⟩⟩, ?_⟩
  · simp
  · show Value.slice _ 16 16 = _
    rw [uuid_len]
  · rw [uuid_len]; exact Nat.le_refl _
  · simp [uuid_len]
  · simp [List.take_of_length_le]
  · exact below_two H3.out
end Go.Proofs.YtoklbgdafnminaaGreatDoor
/-
  The reference's values: texts. Conditions: none.
-/
namespace Go.Proofs.YtoklbgdafnminaaGreatDoor
open Go.RowKit
open Kz

theorem uvF_len (k n : Nat) : (uvF k n).length ≤ k := by
  induction k generalizing n with
  | zero => simp [uvF]
  | succ k ih => rw [uvF]; split <;> simp; exact ih _
theorem len_counted (flex nl : Bool) (n size : Nat) : (counted flex nl n size).length ≤ 10 + size := by
  unfold counted
  have := uvF_len 10 (n + 1)
  cases flex <;> cases nl <;> simp [fixed_length, uv] <;> omega
theorem wpList_append_bt {w : World} {ops : Array Oper} {rest : List Oper} {o : Oper} {a : Act} {Q : Exit → Act → World → Prop} (hgd : o.guard = none) (s x : Operand)
    (ho : o.op = .call { callee := .builtin .append, args := #[s, x], argTypes := #[22, 22] }) (base : Nat) (v u : Value) (bs out : List UInt8) (hs : a.eval s = v) (hx : a.eval x = u) (h : OwnB w base v bs) (hu : BT w u out)
    (hl : bs.length + out.length ≤ lim) (hb : base ≤ w.heap.size) (hk : ∀ v' w', OwnB w' base v' (bs ++ out) → w.grownBy w' v.ownBlock → wpList Tryz.prog ops Q rest (a.put o.dst v') w') : wpList Tryz.prog ops Q (o :: rest) a w := by
  rcases hu with ⟨ad, rfl, rfl⟩ | hu
  · rcases ad with _ | ad
    · exact wpList_append_octets hgd s x ho base v _ bs [] Tr hs hx h (.inl ⟨rfl, rfl⟩) hl hb hk
    · obtain ⟨v', w', h1, h2, h3⟩ := append_own (ty := o.type) (ad := ad) (c := 0) h (m := 0) (out := []) rfl (fun j b hj => by simp at hj) hl hb
      exact Lib.wpList_append_run w hgd s x _ _ ho _ _ hs hx v' w' h1 (hk v' w' h2 h3)
  · exact wpList_append_octets hgd s x ho base v u bs out Tr hs hx h hu hl hb hk
set_option maxRecDepth 8000 in
theorem whole_zero (w : World) (ad : Option Addr) :
    Calls Tryz.prog 62 #[.slice ad 0 0] w fun e w' => ∃ ad', e = .returned (.slice ad' 0 0) ∧ w' = w := by
  rcases ad with _ | ⟨g, o, s⟩
  · exact (whole_none w).mono fun e w' ⟨h1, h2⟩ => ⟨_, h1, h2⟩
  · go_enter Tryz.func62, Tryz.ntmps62
    go_wp2
    go_ret
    exact ⟨_, rfl, rfl⟩
/-- Octets of which only a beginning is taken. -/
theorem whole_bytes (w : World) (v : Value) (bs : List UInt8) (h : BT w v bs) :
    Calls Tryz.prog 62 #[v] w fun e w' => ∃ v', e = .returned v' ∧ BT w v' (bs.take most) ∧ w' = w := by
  rcases h with ⟨ad, rfl, rfl⟩ | ⟨rfl, rfl⟩ | ⟨g, o, c, rfl, h2, h2', h3, h4, h5⟩
  · exact (whole_zero w ad).mono fun e w' ⟨ad', he, hw⟩ => ⟨_, he, .inl ⟨ad', rfl, by simp⟩, hw⟩
  · exact (whole_zero w none).mono fun e w' ⟨ad', he, hw⟩ => ⟨_, he, .inl ⟨ad', rfl, by simp⟩, hw⟩
  · refine (whole_any w g o bs.length c h2).mono fun e w' ⟨he, hw⟩ => ⟨_, he, .inr (.inr ⟨g, o, c, ?_, ?_, h2', h3, h4, fun i b hi => ?_⟩), hw⟩
    · rw [List.length_take, Nat.min_comm]
    · rw [List.length_take]; omega
    · rw [List.getElem?_take] at hi
      split at hi
      · exact h5 i b hi
      · cases hi
set_option maxRecDepth 8000 in
set_option maxHeartbeats 4000000 in
theorem value_text (w : World) (sv tv : Value) (nl flex : Bool) (v : Int) (t : T) (ht : TreeV w tv t) :
    Calls Tryz.prog 100 #[iv (8 : Nat), sv, .bool nl, iv v, .bool flex, tv] w fun e w' => ∃ v', e = .returned v' ∧ OwnB w' w.heap.size v' (if nl then counted flex true 0 2 else counted flex false (t.s.take most).length 2 ++ t.s.take most) ∧ Below w.heap.size w w' := by
  obtain ⟨s, l, u, rfl, h1, h2, h3⟩ := ht
  have hB := below_push w.heap.size (Nat.le_refl _) (.cells #[iv t.n, s, .bool t.null, l, u] 26) rfl
  have H1 := Lib.hid (h1.stay hB)
  obtain ⟨a1, c1, rfl⟩ := h1.len
  clear h1 h2 h3 hB
  go_enter Tryz.func100, Tryz.ntmps100
  go_wp2_with fail
  refine (whole_bytes _ _ _ H1.out).mono ?_
  rintro e w1 ⟨v1, rfl, hv1, rfl⟩
  obtain ⟨a2, c2, rfl⟩ := hv1.len
  rw [List.length_take] at hv1
  have H2 := Lib.hid hv1
  clear hv1
  cases nl
  · have hlen : (t.s.take most).length = min most t.s.length := List.length_take
    go_wp2_with fail
    refine (counted_any _ flex false (min most t.s.length) 2 (by simp only [most]; omega) (by decide)).mono ?_
    rintro e w2 ⟨v2, rfl, hown, hbel⟩
    have hown : OwnB w2 (w.heap.size + 1) v2 (counted flex false (min most t.s.length) 2) := by simpa using hown
    have H3 := Lib.hid hown
    have H4 := Lib.hid hbel
    have H5 := Lib.hid (H2.out.stay hbel)
    have H6 := Lib.hid (len_counted flex false (min most t.s.length) 2)
    clear hown hbel H2
    go_wp2_with (at_builtin; refine wpList_append_bt rfl _ _ rfl (w.heap.size + 1) v2 _ (counted flex false (min most t.s.length) 2) (t.s.take most) rfl rfl H3.out H5.out ?_ ?_ ?_)
    · have := H6.out
      simp only [lim]
      rw [hlen]
      simp only [most] at this ⊢
      omega
    · have := H4.out.size
      simpa using this
    · intro v' w' hown hg
      have H7 := Lib.hid hown
      have H8 := Lib.hid (below_growB H3.out (by have := H4.out.size; simpa using this) hg)
      clear hown hg
      go_wp2
      go_ret
      exact ⟨_, rfl, H7.out.low (base' := w.heap.size) (by omega), (below_push _ (Nat.le_refl _) _ rfl).trans ((H4.out.lower (m := w.heap.size) (by simp)).trans (H8.out.lower (by omega)))⟩
  · go_wp2_with fail
    refine (counted_any _ flex true 0 2 (by decide) (by decide)).mono ?_
    rintro e w2 ⟨v2, rfl, hown, hbel⟩
    have hown : OwnB w2 (w.heap.size + 1) v2 (counted flex true 0 2) := by simpa using hown
    have H3 := Lib.hid hown
    have H4 := Lib.hid hbel
    clear hown hbel H2
    go_wp2_with (at_builtin; refine wpList_append_bt rfl _ _ rfl (w.heap.size + 1) v2 _ (counted flex true 0 2) [] rfl rfl H3.out (.nil _) ?_ ?_ ?_)
    · have := len_counted flex true 0 2
      simp only [lim]
      simp only [List.length_nil]
      omega
    · have := H4.out.size
      simpa using this
    · intro v' w' hown hg
      have H7 := Lib.hid hown
      have H8 := Lib.hid (below_growB H3.out (by have := H4.out.size; simpa using this) hg)
      clear hown hg
      go_wp2
      go_ret
      exact ⟨_, rfl, H7.out.low (base' := w.heap.size) (by omega), (below_push _ (Nat.le_refl _) _ rfl).trans ((H4.out.lower (m := w.heap.size) (by simp)).trans (H8.out.lower (by omega)))⟩

set_option maxRecDepth 8000 in
set_option maxHeartbeats 4000000 in
theorem value_octets (w : World) (sv tv : Value) (nl flex : Bool) (v : Int) (t : T) (ht : TreeV w tv t) :
    Calls Tryz.prog 100 #[iv (9 : Nat), sv, .bool nl, iv v, .bool flex, tv] w fun e w' => ∃ v', e = .returned v' ∧ OwnB w' w.heap.size v' (if nl then counted flex true 0 4 else counted flex false (t.s.take most).length 4 ++ t.s.take most) ∧ Below w.heap.size w w' := by
  obtain ⟨s, l, u, rfl, h1, h2, h3⟩ := ht
  have hB := below_push w.heap.size (Nat.le_refl _) (.cells #[iv t.n, s, .bool t.null, l, u] 26) rfl
  have H1 := Lib.hid (h1.stay hB)
  obtain ⟨a1, c1, rfl⟩ := h1.len
  clear h1 h2 h3 hB
  go_enter Tryz.func100, Tryz.ntmps100
  go_wp2_with fail
  refine (whole_bytes _ _ _ H1.out).mono ?_
  rintro e w1 ⟨v1, rfl, hv1, rfl⟩
  obtain ⟨a2, c2, rfl⟩ := hv1.len
  rw [List.length_take] at hv1
  have H2 := Lib.hid hv1
  clear hv1
  cases nl
  · have hlen : (t.s.take most).length = min most t.s.length := List.length_take
    go_wp2_with fail
    refine (counted_any _ flex false (min most t.s.length) 4 (by simp only [most]; omega) (by decide)).mono ?_
    rintro e w2 ⟨v2, rfl, hown, hbel⟩
    have hown : OwnB w2 (w.heap.size + 1) v2 (counted flex false (min most t.s.length) 4) := by simpa using hown
    have H3 := Lib.hid hown
    have H4 := Lib.hid hbel
    have H5 := Lib.hid (H2.out.stay hbel)
    have H6 := Lib.hid (len_counted flex false (min most t.s.length) 4)
    clear hown hbel H2
    go_wp2_with (at_builtin; refine wpList_append_bt rfl _ _ rfl (w.heap.size + 1) v2 _ (counted flex false (min most t.s.length) 4) (t.s.take most) rfl rfl H3.out H5.out ?_ ?_ ?_)
    · have := H6.out
      simp only [lim]
      rw [hlen]
      simp only [most] at this ⊢
      omega
    · have := H4.out.size
      simpa using this
    · intro v' w' hown hg
      have H7 := Lib.hid hown
      have H8 := Lib.hid (below_growB H3.out (by have := H4.out.size; simpa using this) hg)
      clear hown hg
      go_wp2
      go_ret
      exact ⟨_, rfl, H7.out.low (base' := w.heap.size) (by omega), (below_push _ (Nat.le_refl _) _ rfl).trans ((H4.out.lower (m := w.heap.size) (by simp)).trans (H8.out.lower (by omega)))⟩
  · go_wp2_with fail
    refine (counted_any _ flex true 0 4 (by decide) (by decide)).mono ?_
    rintro e w2 ⟨v2, rfl, hown, hbel⟩
    have hown : OwnB w2 (w.heap.size + 1) v2 (counted flex true 0 4) := by simpa using hown
    have H3 := Lib.hid hown
    have H4 := Lib.hid hbel
    clear hown hbel H2
    go_wp2_with (at_builtin; refine wpList_append_bt rfl _ _ rfl (w.heap.size + 1) v2 _ (counted flex true 0 4) [] rfl rfl H3.out (.nil _) ?_ ?_ ?_)
    · have := len_counted flex true 0 4
      simp only [lim]
      simp only [List.length_nil]
      omega
    · have := H4.out.size
      simpa using this
    · intro v' w' hown hg
      have H7 := Lib.hid hown
      have H8 := Lib.hid (below_growB H3.out (by have := H4.out.size; simpa using this) hg)
      clear hown hg
      go_wp2
      go_ret
      exact ⟨_, rfl, H7.out.low (base' := w.heap.size) (by omega), (below_push _ (Nat.le_refl _) _ rfl).trans ((H4.out.lower (m := w.heap.size) (by simp)).trans (H8.out.lower (by omega)))⟩

/-- A part that is written as it ought to be. -/
def PartOk (sub : List F) : Prop := ∀ (w : World) (sv tv : Value) (v : Int) (flex : Bool) (t : T), FL w sv sub → TreeV w tv t → (Kz.part v flex sub t).length ≤ lim →
  Calls Tryz.prog 26 #[sv, iv v, .bool flex, tv] w fun e w' => ∃ v', e = .returned v' ∧ OwnB w' w.heap.size v' (Kz.part v flex sub t) ∧ Below w.heap.size w w'
/-- A value, whatever its kind. -/
theorem value_any (w : World) (k : Nat) (sub : List F) (sv tv : Value) (nl flex : Bool) (v : Int) (t : T) (hk : k = 10 → PartOk sub) (hf : FL w sv sub) (ht : TreeV w tv t) (hl : (valW k (Kz.part v flex sub) nl flex t).length ≤ lim) :
    Calls Tryz.prog 100 #[iv k, sv, .bool nl, iv v, .bool flex, tv] w fun e w' => ∃ v', e = .returned v' ∧ OwnB w' w.heap.size v' (valW k (Kz.part v flex sub) nl flex t) ∧ Below w.heap.size w w' := by
  unfold valW at *
  by_cases h0 : k = 0
  · subst h0; exact value_bool w sv tv nl flex v t ht
  by_cases h7 : k = 7
  · subst h7; exact value_uuid w sv tv nl flex v t ht
  by_cases h8 : k = 8
  · subst h8; exact value_text w sv tv nl flex v t ht
  by_cases h9 : k = 9
  · subst h9; exact value_octets w sv tv nl flex v t ht
  by_cases h10 : k = 10
  · subst h10
    exact value_part w sv tv nl flex v t ht _ fun w1 hb _ => hk rfl w1 sv tv v flex t (hf.stay hb) (ht.stay hb) hl
  · rw [if_neg h0, if_neg h7, if_neg h8, if_neg h9, if_neg h10]
    exact value_int w k sv tv nl flex v t ⟨h0, h7, h8, h9, h10⟩ ht
end Go.Proofs.YtoklbgdafnminaaGreatDoor
/-
  The reference's fields. Conditions: none.
-/
namespace Go.Proofs.YtoklbgdafnminaaGreatDoor
open Go.RowKit
open Kz

set_option maxRecDepth 8000 in
theorem things_zero (w : World) (ad : Option Addr) :
    Calls Tryz.prog 98 #[.slice ad 0 0] w fun e w' => ∃ ad', e = .returned (.slice ad' 0 0) ∧ w' = w := by
  rcases ad with _ | ⟨g, o, s⟩
  · exact (things_none w).mono fun e w' ⟨h1, h2⟩ => ⟨_, h1, h2⟩
  · go_enter Tryz.func98, Tryz.ntmps98
    go_wp2
    go_ret
    exact ⟨_, rfl, rfl⟩
/-- Things of which only a beginning is taken. -/
theorem things_list (w : World) (v : Value) (ts : List T) (h : TL w v ts) :
    Calls Tryz.prog 98 #[v] w fun e w' => ∃ v', e = .returned v' ∧ TL w v' (ts.take most) ∧ w' = w := by
  cases h with
  | nil ad => exact (things_zero w ad).mono fun e w' ⟨ad', he, hw⟩ => ⟨_, he, by simpa using TL.nil ad', hw⟩
  | mk g o c _ sv lv uv h1 h2 h3 h4 h5 =>
    refine (things_any w g o ts.length c h1).mono fun e w' ⟨he, hw⟩ => ⟨_, he, ?_, hw⟩
    rw [Nat.min_comm, ← List.length_take]
    refine .mk g o c _ sv lv uv (by rw [List.length_take]; omega) h2 h3 (fun i t hi => ?_) (fun i t hi => ?_)
    · rw [List.getElem?_take] at hi
      split at hi
      · exact h4 i t hi
      · cases hi
    · rw [List.getElem?_take] at hi
      split at hi
      · exact h5 i t hi
      · cases hi

/-- Two boxes made one behind the other, later. -/
theorem two_boxes {w w1 : World} {cs cs' : Array Value} {t t' : TypeId} (hb : Below ((w.alloc (.cells cs t)).alloc (.cells cs' t')).heap.size ((w.alloc (.cells cs t)).alloc (.cells cs' t')) w1) :
    (∀ j, w1.cell? ⟨w.heap.size, j, none⟩ = cs[j]?) ∧ (∀ j, w1.cell? ⟨w.heap.size + 1, j, none⟩ = cs'[j]?) ∧ w.heap.size + 2 ≤ w1.heap.size := by
  have e1 : ((w.alloc (.cells cs t)).alloc (.cells cs' t')).heap[w.heap.size]? = some (.cells cs t (0, 0)) := by rw [alloc_old _ _ _ (by simp)]; exact alloc_last w _
  have e2 : ((w.alloc (.cells cs t)).alloc (.cells cs' t')).heap[w.heap.size + 1]? = some (.cells cs' t' (0, 0)) := by simpa using alloc_last (w.alloc (.cells cs t)) (.cells cs' t')
  refine ⟨fun j => ?_, fun j => ?_, by have := hb.size; simpa using this⟩
  · exact cell_of_row _ _ _ _ _ _ ((hb.block _ (by simp; omega)).trans e1)
  · exact cell_of_row _ _ _ _ _ _ ((hb.block _ (by simp)).trans e2)

set_option maxRecDepth 8000 in
set_option maxHeartbeats 4000000 in
/-- A field that is neither a list nor a part that may be null. -/
theorem field_value (w : World) (fv tv : Value) (f : F) (v : Int) (flex : Bool) (t : T) (hf : FieldV w fv f) (ht : TreeV w tv t) (h11 : f.kind ≠ 11) (h10 : ¬ (f.kind = 10 ∧ 0 ≤ f.null)) (hP : f.kind = 10 → PartOk f.sub)
    (hl : (valW f.kind (Kz.part v flex f.sub) (f.nul v t) flex t).length ≤ lim) :
    Calls Tryz.prog 56 #[fv, iv v, .bool flex, tv] w fun e w' => ∃ v', e = .returned v' ∧ OwnB w' w.heap.size v' (valW f.kind (Kz.part v flex f.sub) (f.nul v t) flex t) ∧ Below w.heap.size w w' := by
  obtain ⟨sv, rfl, hsub⟩ := hf
  obtain ⟨s, l, u, rfl, h1, h2, h3⟩ := ht
  obtain ⟨a1, c1, rfl⟩ := h1.len
  obtain ⟨a2, c2, rfl⟩ := h2.len
  obtain ⟨a3, c3, rfl⟩ := h3.len
  obtain ⟨a4, c4, rfl⟩ := hsub.len
  have HS := Lib.hid hsub
  have HT : Hid (TreeV w (treV t.n t.null (.slice a1 t.s.length c1) (.slice a2 t.l.length c2) (.slice a3 t.u.length c3)) t) := Lib.hid ⟨_, _, _, rfl, h1, h2, h3⟩
  have HP := Lib.hid hP
  have HL := Lib.hid hl
  have e11 : ¬ ((f.kind : Int) = 11) := by omega
  have HK := Lib.hid h10
  clear hsub h1 h2 h3 hP hl h11 h10
  go_enter Tryz.func56, Tryz.ntmps56
  go_wp2_with fail
  refine (null_any _ f _ v t.n t.null _ _ _).mono ?_
  rintro e w1 ⟨rfl, hb1⟩
  have H1 := Lib.hid ((below_push2 _ (Nat.le_refl _) _ _ rfl).trans (hb1.lower (m := w.heap.size) (by simp; omega)))
  obtain ⟨q1, q2, q3⟩ := two_boxes hb1
  clear hb1
  generalize hnl : (t.null && (decide (0 ≤ f.null) && decide (f.null ≤ v))) = nl at *
  have hnu : f.nul v t = nl := hnl
  have HN := Lib.hid hnu
  have hq := value_any w1 f.kind f.sub (.slice a4 f.sub.length c4) (treV t.n t.null (.slice a1 t.s.length c1) (.slice a2 t.l.length c2) (.slice a3 t.u.length c3)) nl flex v t HP.out (HS.out.stay H1.out) (HT.out.stay H1.out) (by rw [← hnu]; exact HL.out)
  have HQ := Lib.hid hq
  clear hq hnu hnl
  by_cases hk : f.kind = 10
  · have ek : (f.kind : Int) = 10 := by omega
    have e0 : f.null < 0 := by have := HK.out; omega
    go_wp2_with fail
    rw [← ek]
    refine HQ.out.mono ?_
    rintro e w2 ⟨v2, rfl, hown, hbel⟩
    have H3 := Lib.hid hown
    have H4 := Lib.hid hbel
    clear hown hbel
    go_wp2
    go_ret
    rw [HN.out]
    exact ⟨_, rfl, H3.out.low (base' := w.heap.size) (by omega), H1.out.trans (H4.out.lower (m := w.heap.size) (by omega))⟩
  · have ek : ¬ ((f.kind : Int) = 10) := by omega
    go_wp2_with fail
    refine HQ.out.mono ?_
    rintro e w2 ⟨v2, rfl, hown, hbel⟩
    have H3 := Lib.hid hown
    have H4 := Lib.hid hbel
    clear hown hbel
    go_wp2
    go_ret
    rw [HN.out]
    exact ⟨_, rfl, H3.out.low (base' := w.heap.size) (by omega), H1.out.trans (H4.out.lower (m := w.heap.size) (by omega))⟩
end Go.Proofs.YtoklbgdafnminaaGreatDoor
/-
  The reference's fields: parts that may be null. Conditions: none.
-/
namespace Go.Proofs.YtoklbgdafnminaaGreatDoor
open Go.RowKit
open Kz

theorem append_octets {w : World} {base : Nat} {v u : Value} {bs out : List UInt8} {ty : TypeId} (h : OwnB w base v bs) (hu : BytesAt w Tr u out) (hl : bs.length + out.length ≤ lim) (hb : base ≤ w.heap.size) :
    ∃ v' w', (Builtin.append_ #[22, 22] ty #[v, u]).run Tryz.prog w = .ok v' w' ∧ OwnB w' base v' (bs ++ out) ∧ w.grownBy w' v.ownBlock := by
  rcases hu with ⟨rfl, rfl⟩ | ⟨g, off, c, rfl, -, -, -, -, hc⟩
  · have hi : (Tryz.prog.info? 5).map (fun i => (i.zero, i.size, i.bytes)) = some (some (.int .u8 0), 1, 1) := by kernel_rfl
    obtain ⟨i, hi, hz, hsz, hby⟩ := info_parts hi
    exact ⟨v, w, run_append_owned_none w base _ _ 5 i 1 Tryz.underlying22 hi v _ _ h, by rw [List.append_nil]; exact h, grownBy_refl _ _⟩
  · exact append_own (ad := ⟨g, off, none⟩) h rfl (fun j b hj => by rw [Addr.add_mid]; exact hc j b hj) hl hb
/-- An append as a step of a region that draws its order. -/
theorem step_append_octets {ops : Array Oper} {o : Oper} {a : Act} {w : World} {K : Act → World → Prop} {Q : Exit → Act → World → Prop} {E : Prop} (hgd : o.guard = none) (s x : Operand)
    (ho : o.op = .call { callee := .builtin .append, args := #[s, x], argTypes := #[22, 22] }) (base : Nat) (v u : Value) (bs out : List UInt8) (hs : a.eval s = v) (hx : a.eval x = u) (h : OwnB w base v bs) (hu : BytesAt w Tr u out)
    (hl : bs.length + out.length ≤ lim) (hb : base ≤ w.heap.size) (hk : ∀ v' w', OwnB w' base v' (bs ++ out) → w.grownBy w' v.ownBlock → K (a.put o.dst v') w') :
    if Region.wanted o (yielded ops a.tmps) = true then Oper.wp Tryz.prog o a w K Q else E := by
  have hw : Region.wanted o (yielded ops a.tmps) = true := by simp [Region.wanted, hgd]
  rw [if_pos hw]
  obtain ⟨v', w', h1, h2, h3⟩ := append_octets (ty := o.type) h hu hl hb
  exact Lib.wp_append_run w s x _ _ ho _ _ hs hx v' w' h1 (hk v' w' h2 h3)
/-- What is one's own lies there. -/
theorem own_at_bytes {w : World} {base : Nat} {v : Value} {bs : List UInt8} (h : OwnB w base v bs) : BytesAt w Tr v bs := (own_bytes h).mono fun _ _ => trivial

theorem below_undrew {n : Nat} {w w2 : World} (h : Below n w.drew w2) : Below n w w2 := ⟨h.os, h.tape, h.output, h.size, h.block⟩

set_option maxRecDepth 8000 in
set_option maxHeartbeats 4000000 in
/-- A part that may be null. -/
theorem field_part_null (w : World) (fv tv : Value) (f : F) (v : Int) (flex : Bool) (t : T) (hf : FieldV w fv f) (ht : TreeV w tv t) (h10 : f.kind = 10 ∧ 0 ≤ f.null) (hn : f.nul v t = true) :
    Calls Tryz.prog 56 #[fv, iv v, .bool flex, tv] w fun e w' => ∃ v', e = .returned v' ∧ OwnB w' w.heap.size v' (fixed (-1) 1) ∧ Below w.heap.size w w' := by
  obtain ⟨sv, rfl, hsub⟩ := hf
  obtain ⟨s, l, u, rfl, h1, h2, h3⟩ := ht
  obtain ⟨a1, c1, rfl⟩ := h1.len
  obtain ⟨a2, c2, rfl⟩ := h2.len
  obtain ⟨a3, c3, rfl⟩ := h3.len
  obtain ⟨a4, c4, rfl⟩ := hsub.len
  obtain ⟨hk, hnn⟩ := h10
  have ek : (f.kind : Int) = 10 := by omega
  clear hsub h1 h2 h3 hk
  go_enter Tryz.func56, Tryz.ntmps56
  go_wp2_with fail
  rw [show (iv 10 : Value) = iv f.kind by rw [ek]]
  refine (null_any _ f _ v t.n t.null _ _ _).mono ?_
  rintro e w1 ⟨rfl, hb1⟩
  have H1 := Lib.hid ((below_push2 _ (Nat.le_refl _) _ _ rfl).trans (hb1.lower (m := w.heap.size) (by simp; omega)))
  obtain ⟨q1, q2, q3⟩ := two_boxes hb1
  clear hb1
  have hnl : (t.null && (decide (0 ≤ f.null) && decide (f.null ≤ v))) = true := hn
  rw [hnl]
  clear hnl hn
  go_wp2_with fail
  refine (specFixed_any _ (-1) 1 (by decide)).mono ?_
  rintro e w2 ⟨v2, rfl, hown, hbel⟩
  have H3 := Lib.hid hown
  have H4 := Lib.hid hbel
  clear hown hbel
  go_wp2
  go_ret
  exact ⟨_, rfl, H3.out.low (base' := w.heap.size) (by omega), H1.out.trans (H4.out.lower (m := w.heap.size) (by omega))⟩

set_option maxRecDepth 8000 in
set_option maxHeartbeats 4000000 in
/-- A part that may be null. -/
theorem field_part_some (w : World) (fv tv : Value) (f : F) (v : Int) (flex : Bool) (t : T) (hf : FieldV w fv f) (ht : TreeV w tv t) (h10 : f.kind = 10 ∧ 0 ≤ f.null) (hP : PartOk f.sub)
    (hn : f.nul v t = false) (hl : (fixed 1 1 ++ Kz.part v flex f.sub t).length ≤ lim) :
    Calls Tryz.prog 56 #[fv, iv v, .bool flex, tv] w fun e w' => ∃ v', e = .returned v' ∧ OwnB w' w.heap.size v' (fixed 1 1 ++ Kz.part v flex f.sub t) ∧ Below w.heap.size w w' := by
  obtain ⟨sv, rfl, hsub⟩ := hf
  obtain ⟨s, l, u, rfl, h1, h2, h3⟩ := ht
  obtain ⟨a1, c1, rfl⟩ := h1.len
  obtain ⟨a2, c2, rfl⟩ := h2.len
  obtain ⟨a3, c3, rfl⟩ := h3.len
  obtain ⟨a4, c4, rfl⟩ := hsub.len
  have HS := Lib.hid hsub
  have HT : Hid (TreeV w (treV t.n t.null (.slice a1 t.s.length c1) (.slice a2 t.l.length c2) (.slice a3 t.u.length c3)) t) := Lib.hid ⟨_, _, _, rfl, h1, h2, h3⟩
  have HP := Lib.hid hP
  have HL := Lib.hid hl
  obtain ⟨hk, hnn⟩ := h10
  have ek : (f.kind : Int) = 10 := by omega
  clear hsub h1 h2 h3 hP hl hk
  go_enter Tryz.func56, Tryz.ntmps56
  go_wp2_with fail
  rw [show (iv 10 : Value) = iv f.kind by rw [ek]]
  refine (null_any _ f _ v t.n t.null _ _ _).mono ?_
  rintro e w1 ⟨rfl, hb1⟩
  have H1 := Lib.hid ((below_push2 _ (Nat.le_refl _) _ _ rfl).trans (hb1.lower (m := w.heap.size) (by simp; omega)))
  obtain ⟨q1, q2, q3⟩ := two_boxes hb1
  clear hb1
  have hnl : (t.null && (decide (0 ≤ f.null) && decide (f.null ≤ v))) = false := hn
  rw [hnl]
  clear hnl hn
  have hfl : (fixed 1 1 ++ Kz.part v flex f.sub t).length ≤ lim := HL.out
  have HF := Lib.hid hfl
  clear hfl
  go_wp2_with fail
  have hln : (fixed 1 1).length + (Kz.part v flex f.sub t).length ≤ lim := by have := HF.out; rwa [List.length_append] at this
  have HG := Lib.hid hln
  clear hln
  go_region_law (first
    | (refine step_append_octets rfl (.tmp 59) (.tmp 65) rfl w.heap.size v2 v3 (fixed 1 1) (Kz.part v flex f.sub t) rfl rfl H9.out (own_at_bytes H6.out) HG.out H7.out (fun v4 w4 hown4 hg4 => ?_); have H10 := Lib.hid hown4; have H11 := Lib.hid (below_growB H9.out H7.out hg4); clear hown4 hg4)
    | (go_simp; go_at_call 101; refine (specFixed_any _ 1 1 (by decide)).mono ?_; rintro e w2 ⟨v2, rfl, hown, hbel'⟩; have hbel := below_undrew hbel'; clear hbel';
       have q1' := fun j => ((bcell hbel).1 w.heap.size j (show w.heap.size < w1.heap.size by omega)).trans (q1 j);
       have q2' := fun j => ((bcell hbel).1 (w.heap.size + 1) j (show w.heap.size + 1 < w1.heap.size by omega)).trans (q2 j);
       have H5 : Hid (Below w.heap.size w w2) := Lib.hid (H1.out.trans (hbel.lower (m := w.heap.size) (show w.heap.size ≤ w1.heap.size by omega)));
       have H3 := Lib.hid (hown.low (base' := w.heap.size) (show w.heap.size ≤ w1.heap.size by omega)); clear hown hbel)
    | (go_simp; go_at_call 26; refine (HP.out _ _ _ v flex t (HS.out.stay H5.out) (HT.out.stay H5.out) (Nat.le_trans (Nat.le_add_left _ _) HG.out)).mono ?_; rintro e w3 ⟨v3, rfl, hown, hbel⟩;
       have H6 := Lib.hid hown; have H8 := Lib.hid (H5.out.trans (hbel.lower (m := w.heap.size) H5.out.size)); have H9 := Lib.hid (H3.out.grown (fun k hk => hbel.block k hk)); have H7 := Lib.hid H8.out.size; clear hown hbel))
  all_goals (rename_i hk; refine hk _ _ ?_; go_wp2; go_ret; exact ⟨_, rfl, H10.out, H8.out.trans H11.out⟩)
end Go.Proofs.YtoklbgdafnminaaGreatDoor
/-
  The reference's fields: lists. Conditions: none.
-/
namespace Go.Proofs.YtoklbgdafnminaaGreatDoor
open Go.RowKit
open Kz

/-- A slice of trees, place by place. -/
theorem TL.cell {w : World} {v : Value} {ts : List T} (h : TL w v ts) : ∃ p c, v = .slice p ts.length c ∧ ts.length ≤ 9223372036854775807 ∧ (ts ≠ [] → ∃ g o, p = some ⟨g, o, none⟩ ∧ g < w.heap.size ∧
    ∀ (i : Nat) t, ts[i]? = some t → ∃ p1 d1 p2 d2 p3 d3, w.cell? ⟨g, o + i * 5, none⟩ = some (iv t.n) ∧ w.cell? ⟨g, o + i * 5 + 1, none⟩ = some (.slice p1 t.s.length d1) ∧ w.cell? ⟨g, o + i * 5 + 2, none⟩ = some (.bool t.null) ∧
        w.cell? ⟨g, o + i * 5 + 3, none⟩ = some (.slice p2 t.l.length d2) ∧ w.cell? ⟨g, o + i * 5 + 4, none⟩ = some (.slice p3 t.u.length d3) ∧
        TreeV w (treV t.n t.null (.slice p1 t.s.length d1) (.slice p2 t.l.length d2) (.slice p3 t.u.length d3)) t) := by
  cases h with
  | nil ad => exact ⟨_, _, rfl, by simp, fun h => absurd rfl h⟩
  | mk g o c _ sv lv uv h1 h2 h3 h4 h5 =>
    refine ⟨_, _, rfl, by omega, fun _ => ⟨g, o, rfl, h3, fun i t hi => ?_⟩⟩
    obtain ⟨e0, e1, e2, e3, e4, e5, e6⟩ := h4 i t hi
    obtain ⟨p1, d1, k1⟩ := e5.len
    obtain ⟨p2, d2, k2⟩ := (h5 i t hi).len
    obtain ⟨p3, d3, k3⟩ := e6.len
    rw [k1] at e1 e5
    rw [k2] at e3
    rw [k3] at e4 e6
    exact ⟨p1, d1, p2, d2, p3, d3, e0, e1, e2, e3, e4, ⟨_, _, _, rfl, e5, by rw [← k2]; exact h5 i t hi, e6⟩⟩
theorem flatMap_take_succ {α β : Type} (g : α → List β) (ts : List α) (j : Nat) (h : j < ts.length) : (ts.take (j + 1)).flatMap g = (ts.take j).flatMap g ++ g ts[j] := by
  rw [List.take_succ_eq_append_getElem h]
  simp only [List.flatMap_append, List.flatMap_cons, List.flatMap_nil, List.append_nil]
theorem flatMap_take_le {α β : Type} (g : α → List β) (ts : List α) (j : Nat) : ((ts.take j).flatMap g).length ≤ (ts.flatMap g).length := by
  have h : (ts.flatMap g).length = ((ts.take j).flatMap g).length + ((ts.drop j).flatMap g).length := by
    rw [← List.length_append, ← List.flatMap_append, List.take_append_drop]
  omega
theorem below_todrew {n : Nat} {w w2 : World} (h : Below n w w2) : Below n w w2.drew := ⟨h.os, h.tape, h.output, h.size, h.block⟩

set_option maxRecDepth 8000 in
set_option maxHeartbeats 4000000 in
theorem field_list_null (w : World) (fv tv : Value) (f : F) (v : Int) (flex : Bool) (t : T) (hf : FieldV w fv f) (ht : TreeV w tv t) (h11 : f.kind = 11) (hn : f.nul v t = true) :
    Calls Tryz.prog 56 #[fv, iv v, .bool flex, tv] w fun e w' => ∃ v', e = .returned v' ∧ OwnB w' w.heap.size v' (counted flex true 0 4) ∧ Below w.heap.size w w' := by
  obtain ⟨sv, rfl, hsub⟩ := hf
  obtain ⟨s, l, u, rfl, h1, h2, h3⟩ := ht
  obtain ⟨a1, c1, rfl⟩ := h1.len
  obtain ⟨a2, c2, rfl⟩ := h2.len
  obtain ⟨a3, c3, rfl⟩ := h3.len
  obtain ⟨a4, c4, rfl⟩ := hsub.len
  have HT := Lib.hid h2
  have ek : (f.kind : Int) = 11 := by omega
  clear hsub h1 h2 h3 h11
  go_enter Tryz.func56, Tryz.ntmps56
  go_wp2_with fail
  rw [show (iv 11 : Value) = iv f.kind by rw [ek]]
  refine (null_any _ f _ v t.n t.null _ _ _).mono ?_
  rintro e w1 ⟨rfl, hb1⟩
  have H1 := Lib.hid ((below_push2 _ (Nat.le_refl _) _ _ rfl).trans (hb1.lower (m := w.heap.size) (by simp; omega)))
  obtain ⟨q1, q2, q3⟩ := two_boxes hb1
  clear hb1
  have hnl : (t.null && (decide (0 ≤ f.null) && decide (f.null ≤ v))) = true := hn
  rw [hnl]
  clear hnl hn
  go_wp2_with fail
  refine (things_list w1 _ t.l (HT.out.stay H1.out)).mono ?_
  rintro e w2 ⟨v2, rfl, hl2, rfl⟩
  obtain ⟨p2, d2, rfl⟩ := hl2.len
  clear hl2
  go_wp2_with fail
  refine (counted_any _ flex true 0 4 (by decide) (by decide)).mono ?_
  rintro e w3 ⟨v3, rfl, hown, hbel⟩
  have H3 := Lib.hid hown
  have H4 := Lib.hid hbel
  clear hown hbel q1 q2
  go_wp2
  go_loopw [11, 31] (fun x i wr => i = .int .i64 0 ∧ x = v3 ∧ wr = w3) (fun _ _ _ => 0)
  case atStart => exact ⟨rfl, rfl, rfl⟩
  case round =>
    obtain ⟨rfl, rfl, rfl⟩ := hrel
    go_wp2
    go_ret
    exact ⟨_, rfl, H3.out.low (base' := w.heap.size) (by omega), H1.out.trans (H4.out.lower (m := w.heap.size) (by omega))⟩

set_option maxRecDepth 8000 in
set_option maxHeartbeats 4000000 in
theorem field_list_some (w : World) (fv tv : Value) (f : F) (v : Int) (flex : Bool) (t : T) (hf : FieldV w fv f) (ht : TreeV w tv t) (h11 : f.kind = 11) (hn : f.nul v t = false) (hP : f.of = 10 → PartOk f.sub)
    (hl : (counted flex false (t.l.take most).length 4 ++ (t.l.take most).flatMap (valW f.of (Kz.part v flex f.sub) false flex)).length ≤ lim) :
    Calls Tryz.prog 56 #[fv, iv v, .bool flex, tv] w fun e w' => ∃ v', e = .returned v' ∧ OwnB w' w.heap.size v' (counted flex false (t.l.take most).length 4 ++ (t.l.take most).flatMap (valW f.of (Kz.part v flex f.sub) false flex)) ∧ Below w.heap.size w w' := by
  obtain ⟨sv, rfl, hsub⟩ := hf
  obtain ⟨s, l, u, rfl, h1, h2, h3⟩ := ht
  obtain ⟨a1, c1, rfl⟩ := h1.len
  obtain ⟨a2, c2, rfl⟩ := h2.len
  obtain ⟨a3, c3, rfl⟩ := h3.len
  obtain ⟨a4, c4, rfl⟩ := hsub.len
  have HT := Lib.hid h2
  have HS := Lib.hid hsub
  have HP := Lib.hid hP
  generalize hts : t.l.take most = ts at *
  have htm : ts.length ≤ most := by rw [← hts, List.length_take]; omega
  have HL := Lib.hid hl
  have HE := Lib.hid hts
  have ek : (f.kind : Int) = 11 := by omega
  clear hsub h1 h2 h3 h11 hP hl hts
  go_enter Tryz.func56, Tryz.ntmps56
  go_wp2_with fail
  rw [show (iv 11 : Value) = iv f.kind by rw [ek]]
  refine (null_any _ f _ v t.n t.null _ _ _).mono ?_
  rintro e w1 ⟨rfl, hb1⟩
  have H1 := Lib.hid ((below_push2 _ (Nat.le_refl _) _ _ rfl).trans (hb1.lower (m := w.heap.size) (by simp; omega)))
  obtain ⟨q1, q2, q3⟩ := two_boxes hb1
  clear hb1
  have hnl : (t.null && (decide (0 ≤ f.null) && decide (f.null ≤ v))) = false := hn
  rw [hnl]
  clear hnl hn
  go_wp2_with fail
  refine (things_list w1 _ t.l (HT.out.stay H1.out)).mono ?_
  rintro e w2 ⟨v2, rfl, hl2, rfl⟩
  rw [HE.out] at hl2
  obtain ⟨p2, d2, rfl, h63, hp⟩ := hl2.cell
  clear hl2
  go_wp2_with fail
  refine (counted_any _ flex false ts.length 4 (by simp only [most] at htm; omega) (by decide)).mono ?_
  rintro e w3 ⟨v3, rfl, hown, hbel⟩
  have H3 := Lib.hid hown
  have H4 := Lib.hid hbel
  clear hown hbel
  go_wp2
  go_loopw [11, 31] (fun x i wr => ∃ j : Nat, i = .int .i64 (j : Int) ∧ j ≤ ts.length ∧ OwnB wr w2.heap.size x (counted flex false ts.length 4 ++ (ts.take j).flatMap (valW f.of (Kz.part v flex f.sub) false flex)) ∧ Below w2.heap.size w2 wr) (fun _ i _ => ts.length - (intOf i).toNat)
  case atStart => exact ⟨0, rfl, Nat.zero_le _, by simpa using H3.out, H4.out⟩
  case round =>
    obtain ⟨j, rfl, hj, hown, hbel⟩ := hrel
    by_cases hjl : j < ts.length
    · have hji : (j : Int) < (ts.length : Int) := by omega
      obtain ⟨g, o, rfl, hg, hpc⟩ := hp (by intro e; rw [e] at hjl; simp at hjl)
      obtain ⟨b1, d1, b2, d3, b3, d4, e0, e1, e2, e3, e4, htv⟩ := hpc j _ (List.getElem?_eq_getElem hjl)
      have hstep := flatMap_take_succ (valW f.of (Kz.part v flex f.sub) false flex) ts j hjl
      have hle : (counted flex false ts.length 4 ++ (ts.take j).flatMap (valW f.of (Kz.part v flex f.sub) false flex)).length + (valW f.of (Kz.part v flex f.sub) false flex ts[j]).length ≤ lim := by
        have h0 := HL.out
        have h2 := flatMap_take_le (valW f.of (Kz.part v flex f.sub) false flex) ts (j + 1)
        rw [hstep] at h2
        rw [List.length_append] at h0 h2 ⊢
        omega
      rw [← (bcell hbel).1 _ _ hg] at e0 e1 e2 e3 e4
      generalize hx : ts[j] = x at *
      have r1 : ∀ k, wr.cell? ⟨w.heap.size, k, none⟩ = _ := fun k => ((bcell hbel).1 _ _ (by omega)).trans (q1 k)
      have K1 := Lib.hid hown
      have K2 := Lib.hid hbel
      have K3 := Lib.hid hle
      have K4 := Lib.hid hstep
      have K5 := Lib.hid (htv.stay hbel)
      have hbw : Below w.heap.size w wr := H1.out.trans (hbel.lower (m := w.heap.size) (by omega))
      have K6 := Lib.hid hbw
      clear hp hpc hown hbel htv hle hstep hbw q1 q2 hx
      go_wp2_with fail
      go_region_law (first
        | (refine step_append_octets rfl (.tmp 34) (.tmp 45) rfl w2.heap.size u11 v5 (counted flex false ts.length 4 ++ (ts.take j).flatMap (valW f.of (Kz.part v flex f.sub) false flex)) (valW f.of (Kz.part v flex f.sub) false flex x) rfl rfl K9.out (own_at_bytes K7.out) K3.out K8.out.size (fun v6 w6 hown6 hg6 => ?_);
           have L1 := Lib.hid hown6; have L2 := Lib.hid (K8.out.trans (below_growB K9.out K8.out.size hg6)); clear hown6 hg6)
        | (go_simp; go_at_call 100; refine (value_any _ f.of f.sub _ _ false flex v x HP.out (HS.out.stay (below_todrew K6.out)) (K5.out.stay (below_todrew (Below.refl _ _))) (Nat.le_trans (Nat.le_add_left _ _) K3.out)).mono ?_; rintro e w5 ⟨v5, rfl, hown, hbel'⟩; have hbel := below_undrew hbel'; clear hbel';
           have K7 := Lib.hid hown; have K8 := Lib.hid (K2.out.trans (hbel.lower (m := w2.heap.size) K2.out.size)); have K9 := Lib.hid (K1.out.grown (fun k hk => hbel.block k hk)); clear hown hbel))
      all_goals
        (rename_i hk
         refine hk _ _ ?_
         go_wp2
         go_roundw
         case rel => exact ⟨j + 1, by first | rfl | (congr 1; omega), by omega, by rw [K4.out, ← List.append_assoc]; exact L1.out, L2.out⟩
         case measure => simp only [intOf]; omega)
    · have hji : ¬ ((j : Int) < (ts.length : Int)) := by omega
      obtain rfl : j = ts.length := by omega
      rw [List.take_length] at hown
      have K1 := Lib.hid hown
      have K2 := Lib.hid hbel
      clear hp hown hbel q1 q2
      go_wp2
      go_ret
      exact ⟨_, rfl, K1.out.low (base' := w.heap.size) (by omega), H1.out.trans (K2.out.lower (m := w.heap.size) (by omega))⟩
end Go.Proofs.YtoklbgdafnminaaGreatDoor
/-
  The reference's fields, whatever their kind. Conditions: none.
-/
namespace Go.Proofs.YtoklbgdafnminaaGreatDoor
open Go.RowKit
open Kz

/-- A field, whatever its kind. -/
theorem field_any (w : World) (fv tv : Value) (f : F) (v : Int) (flex : Bool) (t : T) (hf : FieldV w fv f) (ht : TreeV w tv t) (hP : PartOk f.sub) (hl : (fieldW v flex f (Kz.part v flex f.sub) t).length ≤ lim) :
    Calls Tryz.prog 56 #[fv, iv v, .bool flex, tv] w fun e w' => ∃ v', e = .returned v' ∧ OwnB w' w.heap.size v' (fieldW v flex f (Kz.part v flex f.sub) t) ∧ Below w.heap.size w w' := by
  unfold fieldW at *
  by_cases h11 : f.kind = 11
  · rw [if_pos h11] at hl ⊢
    cases hn : f.nul v t with
    | true => exact field_list_null w fv tv f v flex t hf ht h11 hn
    | false =>
      rw [hn] at hl
      exact field_list_some w fv tv f v flex t hf ht h11 hn (fun _ => hP) hl
  · rw [if_neg h11] at hl ⊢
    by_cases h10 : f.kind = 10 ∧ 0 ≤ f.null
    · rw [if_pos h10] at hl ⊢
      cases hn : f.nul v t with
      | true => exact field_part_null w fv tv f v flex t hf ht h10 hn
      | false =>
        rw [hn] at hl
        exact field_part_some w fv tv f v flex t hf ht h10 hP hn hl
    · rw [if_neg h10] at hl ⊢
      exact field_value w fv tv f v flex t hf ht h11 h10 (fun _ => hP) hl
theorem wr_field (v : Int) (flex : Bool) (f : F) (t : T) : wr v flex f t = fieldW v flex f (Kz.part v flex f.sub) t := by
  cases f
  rfl
end Go.Proofs.YtoklbgdafnminaaGreatDoor
/-
  Tags in a row of one's own: plain laws. Conditions: none.
-/
namespace Go.Proofs.YtoklbgdafnminaaGreatDoor
open Go.RowKit
open Kz

/-- Tags as they lie in a row: a number, a slice. -/
abbrev Ps := List (Nat × Value)
def tc (ps : Ps) : List Value := ps.flatMap fun x => [.int .u32 (x.1 : Int), x.2]
theorem tc_append (a b : Ps) : tc (a ++ b) = tc a ++ tc b := by simp [tc, List.flatMap_append]
theorem tc_key (ps : Ps) (i : Nat) : (tc ps)[i * 2]? = (ps[i]?).map fun x => Value.int .u32 (x.1 : Int) := by
  induction ps generalizing i with
  | nil => simp [tc]
  | cons p ps ih =>
    cases i with
    | zero => simp [tc]
    | succ i =>
      have e : (i + 1) * 2 = i * 2 + 1 + 1 := by omega
      rw [e]
      exact ih i
theorem tc_val (ps : Ps) (i : Nat) : (tc ps)[i * 2 + 1]? = (ps[i]?).map fun x => x.2 := by
  induction ps generalizing i with
  | nil => simp [tc]
  | cons p ps ih =>
    cases i with
    | zero => simp [tc]
    | succ i =>
      have e : (i + 1) * 2 + 1 = i * 2 + 1 + 1 + 1 := by omega
      rw [e]
      exact ih i
theorem tc_set (ps : Ps) (i : Nat) (k : Nat) (s : Value) : ((tc ps).set (i * 2) (.int .u32 (k : Int))).set (i * 2 + 1) s = tc (ps.set i (k, s)) := by
  induction ps generalizing i with
  | nil => simp [tc]
  | cons p ps ih =>
    cases i with
    | zero => simp [tc]
    | succ i =>
      have e : (i + 1) * 2 = i * 2 + 1 + 1 := by omega
      rw [e]
      show _ :: _ :: ((tc ps).set (i * 2) _).set (i * 2 + 1) s = _
      rw [ih]
      rfl

/-- A tag among sorted ones, the first of a number counts. -/
def insP (k : Nat) (s : Value) : Ps → Ps
  | [] => [(k, s)]
  | (j, x) :: r => if j < k then (j, x) :: insP k s r else if j = k then (j, x) :: r else (k, s) :: (j, x) :: r
theorem insP_split (k : Nat) (s : Value) (ps : Ps) (i : Nat) (hi : i ≤ ps.length) (h : ∀ x ∈ ps.take i, x.1 < k) (h2 : ∀ x, ps[i]? = some x → ¬ x.1 < k) :
    insP k s ps = if (ps[i]?).map (·.1) = some k then ps else ps.take i ++ (k, s) :: ps.drop i := by
  induction ps generalizing i with
  | nil => simp [insP]
  | cons p ps ih =>
    obtain ⟨j, x⟩ := p
    cases i with
    | zero =>
      have hj : ¬ j < k := h2 (j, x) rfl
      rw [insP, if_neg hj]
      simp only [List.getElem?_cons_zero, Option.map_some, Option.some.injEq, List.take_zero, List.drop_zero, List.nil_append]
    | succ i =>
      have hj : j < k := h (j, x) (by simp)
      rw [insP, if_pos hj, ih i (by simpa using hi) (fun y hy => h y (by simp [hy])) (fun y hy => h2 y (by simpa using hy))]
      simp only [List.getElem?_cons_succ]
      split <;> simp

/-- Octets in the blocks below a number. -/
def BL (w : World) (n0 : Nat) (v : Value) (bs : List UInt8) : Prop := (∃ ad, v = .slice ad 0 0 ∧ bs = []) ∨ BytesAt w (fun g => g < n0) v bs
theorem BT.bl {w : World} {v : Value} {bs : List UInt8} (h : BT w v bs) : BL w w.heap.size v bs := by
  rcases h with h | ⟨h, h'⟩ | ⟨g, o, c, h1, h2, h3, h4, h5, h6⟩
  · exact .inl h
  · exact .inl ⟨_, h, h'⟩
  · exact .inr (.inr ⟨g, o, c, h1, h2, h3, h5, h5, h6⟩)
theorem BL.bt {w : World} {n0 : Nat} {v : Value} {bs : List UInt8} (h : BL w n0 v bs) : BT w v bs := h.imp id fun h => h.mono fun _ _ => trivial
theorem bl_stay {w w' : World} {n0 : Nat} {v : Value} {bs : List UInt8} (h : BL w n0 v bs) (hb : Below n0 w w') : BL w' n0 v bs := by
  rcases h with h | ⟨h, h'⟩ | ⟨g, o, c, h1, h2, h3, h4, h5, h6⟩
  · exact .inl h
  · exact .inl ⟨_, h, h'⟩
  · exact .inr (.inr ⟨g, o, c, h1, h2, h3, h4, Nat.lt_of_lt_of_le h5 hb.size, fun i b hi => by
      rw [World.cell?_of_block (w := w) (w' := w') (hb.block g h4)]
      exact h6 i b hi⟩)
/-- What lies in the row says these tags. -/
inductive PRel (w : World) (n0 : Nat) : Ps → List (Nat × List UInt8) → Prop
  | nil : PRel w n0 [] []
  | cons {k : Nat} {s : Value} {b : List UInt8} {ps : Ps} {us : List (Nat × List UInt8)} (hk : k < 4294967296) (hb : BL w n0 s b) (h : PRel w n0 ps us) : PRel w n0 ((k, s) :: ps) ((k, b) :: us)
theorem PRel.stay {w w' : World} {n0 : Nat} {ps : Ps} {us : List (Nat × List UInt8)} (h : PRel w n0 ps us) (hb : Below n0 w w') : PRel w' n0 ps us := by
  induction h with
  | nil => exact .nil
  | cons hk hs _ ih => exact .cons hk (bl_stay hs hb) ih
theorem PRel.len {w : World} {n0 : Nat} {ps : Ps} {us : List (Nat × List UInt8)} (h : PRel w n0 ps us) : ps.length = us.length := by
  induction h with
  | nil => rfl
  | cons _ _ _ ih => simp [ih]
theorem PRel.get {w : World} {n0 : Nat} {ps : Ps} {us : List (Nat × List UInt8)} (h : PRel w n0 ps us) (i : Nat) (k : Nat) (b : List UInt8) (hi : us[i]? = some (k, b)) : ∃ s, ps[i]? = some (k, s) ∧ k < 4294967296 ∧ BT w s b := by
  induction h generalizing i with
  | nil => simp at hi
  | cons hk hs _ ih =>
    cases i with
    | zero =>
      simp only [List.getElem?_cons_zero, Option.some.injEq, Prod.mk.injEq] at hi
      obtain ⟨rfl, rfl⟩ := hi
      exact ⟨_, rfl, hk, hs.bt⟩
    | succ i => exact ih i (by simpa using hi)
theorem PRel.ins {w : World} {n0 : Nat} {ps : Ps} {us : List (Nat × List UInt8)} (h : PRel w n0 ps us) (k : Nat) (s : Value) (b : List UInt8) (hk : k < 4294967296) (hb : BL w n0 s b) : PRel w n0 (insP k s ps) (insTag k b us) := by
  induction h with
  | nil => exact .cons hk hb .nil
  | cons h1 h2 hr ih =>
    unfold insP insTag
    split
    · exact .cons h1 h2 ih
    · split
      · exact .cons h1 h2 hr
      · exact .cons hk hb (.cons h1 h2 hr)
/-- A row of tags says its tags. -/
theorem PRel.tags {w : World} {n0 base : Nat} {v : Value} {ps : Ps} {us : List (Nat × List UInt8)} (h : PRel w n0 ps us) (ho : w.ownsRow base 63 2 v ps.length (tc ps)) : UTags w v us := by
  rcases ho.2 with ⟨rfl, hn⟩ | ⟨g, cap, cur, rfl, h1, h2, h3, h4, h5, h6⟩
  · refine .inl ⟨none, rfl, ?_⟩
    have := h.len
    exact List.length_eq_zero_iff.1 (by omega)
  · refine .inr ⟨g, 0, cap, by rw [h.len], by rw [← h.len]; exact h3, by simp only [maxLen] at h4; omega, (Array.getElem?_eq_some_iff.1 h2).1, fun i k b hi => ?_⟩
    obtain ⟨s, e, hk, hs⟩ := h.get i k b hi
    have hil : i < ps.length := (List.getElem?_eq_some_iff.1 e).1
    refine ⟨s, ?_, ?_, hs, hk⟩
    · rw [Nat.zero_add, World.ownsRow.cellAt ho (i * 2) (by omega), tc_key, e]; rfl
    · rw [Nat.zero_add, World.ownsRow.cellAt ho (i * 2 + 1) (by omega), tc_val, e]; rfl
/-- Tags whose octets lie in the blocks below a number, their own row from another number on. -/
def UTagsV (w : World) (n0 n1 : Nat) (v : Value) (us : List (Nat × List UInt8)) : Prop :=
  (∃ ad, v = .slice ad 0 0 ∧ us = []) ∨ ∃ g o c, v = .slice (some ⟨g, o, none⟩) us.length c ∧ us.length ≤ c ∧ c ≤ 9223372036854775807 ∧ n1 ≤ g ∧ g < w.heap.size ∧
    ∀ (i : Nat) k b, us[i]? = some (k, b) → ∃ s, w.cell? ⟨g, o + i * 2, none⟩ = some (.int .u32 (k : Int)) ∧ w.cell? ⟨g, o + i * 2 + 1, none⟩ = some s ∧ BL w n0 s b ∧ k < 4294967296
theorem UTags.v {w : World} {v : Value} {us : List (Nat × List UInt8)} (h : UTags w v us) : UTagsV w w.heap.size 0 v us := by
  rcases h with h | ⟨g, o, c, h1, h2, h3, h4, h5⟩
  · exact .inl h
  · refine .inr ⟨g, o, c, h1, h2, h3, Nat.zero_le _, h4, fun i k b hi => ?_⟩
    obtain ⟨s, e1, e2, e3, e4⟩ := h5 i k b hi
    exact ⟨s, e1, e2, e3.bl, e4⟩
theorem UTagsV.stay {w w' : World} {n0 n1 : Nat} {v : Value} {us : List (Nat × List UInt8)} (h : UTagsV w n0 n1 v us) (hb : Below w.heap.size w w') (hn : n0 ≤ w.heap.size) : UTagsV w' n0 n1 v us := by
  rcases h with h | ⟨g, o, c, h1, h2, h3, h3', h4, h5⟩
  · exact .inl h
  · refine .inr ⟨g, o, c, h1, h2, h3, h3', Nat.lt_of_lt_of_le h4 hb.size, fun i k b hi => ?_⟩
    obtain ⟨s, e1, e2, e3, e4⟩ := h5 i k b hi
    exact ⟨s, by rw [(bcell hb).1 _ _ h4]; exact e1, by rw [(bcell hb).1 _ _ h4]; exact e2, bl_stay e3 ⟨hb.os, hb.tape, hb.output, hb.size, fun k hk => hb.block k (by omega)⟩, e4⟩
theorem UTagsV.len {w : World} {n0 n1 : Nat} {v : Value} {us : List (Nat × List UInt8)} (h : UTagsV w n0 n1 v us) : ∃ ad c, v = .slice ad us.length c := by
  rcases h with ⟨ad, rfl, rfl⟩ | ⟨g, o, c, rfl, -⟩
  · exact ⟨_, _, rfl⟩
  · exact ⟨_, _, rfl⟩
theorem PRel.getL {w : World} {n0 : Nat} {ps : Ps} {us : List (Nat × List UInt8)} (h : PRel w n0 ps us) (i : Nat) (k : Nat) (b : List UInt8) (hi : us[i]? = some (k, b)) : ∃ s, ps[i]? = some (k, s) ∧ k < 4294967296 ∧ BL w n0 s b := by
  induction h generalizing i with
  | nil => simp at hi
  | cons hk hs _ ih =>
    cases i with
    | zero =>
      simp only [List.getElem?_cons_zero, Option.some.injEq, Prod.mk.injEq] at hi
      obtain ⟨rfl, rfl⟩ := hi
      exact ⟨_, rfl, hk, hs⟩
    | succ i => exact ih i (by simpa using hi)
theorem PRel.tagsV {w : World} {n0 base : Nat} {v : Value} {ps : Ps} {us : List (Nat × List UInt8)} (h : PRel w n0 ps us) (ho : w.ownsRow base 63 2 v ps.length (tc ps)) : UTagsV w n0 base v us := by
  rcases ho.2 with ⟨rfl, hn⟩ | ⟨g, cap, cur, rfl, h1, h2, h3, h4, h5, h6⟩
  · refine .inl ⟨none, rfl, ?_⟩
    have := h.len
    exact List.length_eq_zero_iff.1 (by omega)
  · refine .inr ⟨g, 0, cap, by rw [h.len], by rw [← h.len]; exact h3, by simp only [maxLen] at h4; omega, h1, (Array.getElem?_eq_some_iff.1 h2).1, fun i k b hi => ?_⟩
    obtain ⟨s, e, hk, hs⟩ := h.getL i k b hi
    have hil : i < ps.length := (List.getElem?_eq_some_iff.1 e).1
    refine ⟨s, ?_, ?_, hs, hk⟩
    · rw [Nat.zero_add, World.ownsRow.cellAt ho (i * 2) (by omega), tc_key, e]; rfl
    · rw [Nat.zero_add, World.ownsRow.cellAt ho (i * 2 + 1) (by omega), tc_val, e]; rfl
/-- An empty tag is appended. -/
theorem wpList_append_tag {w : World} {ops : Array Oper} {rest : List Oper} {o : Oper} {a : Act} {Q : Exit → Act → World → Prop} (hgd : o.guard = none) (s x : Operand)
    (ho : o.op = .call { callee := .builtin .append, args := #[s, x], argTypes := #[24, 24] }) (base : Nat) (v : Value) (ps : Ps) (g : Nat) (hs : a.eval s = v) (hx : a.eval x = .slice (some ⟨g, 0, none⟩) 1 1)
    (hown : w.ownsRow base 63 2 v ps.length (tc ps)) (hg : ∀ j, w.cell? ⟨g, j, none⟩ = (#[.int .u32 0, .slice none 0 0] : Array Value)[j]?) (hl : ps.length ≤ most) (hb : base ≤ w.heap.size)
    (hk : ∀ g' cap w', w'.ownsRow base 63 2 (.slice (some ⟨g', 0, none⟩) (ps.length + 1) cap) (ps.length + 1) (tc (ps ++ [(0, .slice none 0 0)])) → w.grownBy w' v.ownBlock → (v.ownBlock = some g' ∨ g' = w.heap.size) → wpList Tryz.prog ops Q rest (a.put o.dst (.slice (some ⟨g', 0, none⟩) (ps.length + 1) cap)) w') : wpList Tryz.prog ops Q (o :: rest) a w := by
  have hi : (Tryz.prog.info? 63).map (fun i => (i.zero, i.size, i.bytes)) = some (some (.agg #[.int .u32 0, .slice none 0 0]), 2, 32) := by kernel_rfl
  obtain ⟨i, hi, hz, hsz, hby⟩ := info_parts hi
  refine wpList_append_lies w hgd s x _ ho base 63 i _ 2 32 Tryz.underlying24 hi hz hsz hby rfl (by decide) v ps.length (tc ps) hs hown ⟨g, 0, none⟩ 1 1 [.int .u32 0, .slice none 0 0] hx rfl (fun j u hu => ?_) (fun u hu => ?_) (by decide) ?_ ?_ hb w.heap.size rfl (fun g' cap w' h1 h2 h3 _ => ?_)
  · rw [Addr.add_mid, Nat.zero_add, hg j]
    simpa using hu
  · simp only [List.mem_cons, List.not_mem_nil, or_false] at hu
    rcases hu with rfl | rfl <;> rfl
  · simp only [most, maxLen] at *; omega
  · simp only [most] at *; omega
  · refine hk g' cap w' ?_ h2 h3
    rw [tc_append]
    exact h1

end Go.Proofs.YtoklbgdafnminaaGreatDoor
