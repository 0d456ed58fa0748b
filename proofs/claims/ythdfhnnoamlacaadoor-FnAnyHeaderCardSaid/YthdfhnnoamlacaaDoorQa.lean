/-
  Records: how the printed words read what the texts here hold; a number in groups, as the reference reads it. Conditions: none.
-/
import Derived.Test.YthdfhnnoamlacaaDoorY7
import Derived.Test.YthdfhnnoamlacaaDoorPFnAnyHeaderx6
namespace Go.Proofs.YthdfhnnoamlacaaDoor.Rec
open Go.Proofs.YthdfhnnoamlacaaDoor
open Go.RowKit (Below wrap64)
open Go.Proofs.YthdfhnnoamlacaaDoorW Go.Proofs.YthdfhnnoamlacaaDoorW.PrintWords Go.Proofs.YthdfhnnoamlacaaDoorW.PrintMore Go.Proofs.YthdfhnnoamlacaaDoor.PFnAnyHeader
open Kz

/-- Octets as numbers. -/
def ns (bs : List UInt8) : List Int := bs.map fun b => (b.toNat : Int)
theorem ns_len (bs : List UInt8) : (ns bs).length = bs.length := by simp [ns]
theorem rd_ns (bs : List UInt8) (i : Nat) (b : UInt8) (h : bs[i]? = some b) : PrintWords.rd (ns bs) (i : Int) = (b.toNat : Int) := by
  simp [PrintWords.rd, ns, List.getD_eq_getElem?_getD, h]
theorem c_bytes {w : World} {S : Nat → Prop} {ad : Option Addr} {n c : Nat} {bs : List UInt8} (h : BytesAt w S (.slice ad n c) bs) : n = (ns bs).length ∧ n ≤ c ∧ Kd.C (Kd.int .u8) w ad n (ns bs) := by
  rcases h with ⟨h1, h2⟩ | ⟨g, o, c', h1, h2, h3, -, -, h6⟩
  · simp only [Value.slice.injEq] at h1
    obtain ⟨rfl, rfl, rfl⟩ := h1
    subst h2
    exact ⟨rfl, Nat.le_refl _, rfl, by decide, fun h => absurd h (by decide)⟩
  · simp only [Value.slice.injEq] at h1
    obtain ⟨rfl, rfl, rfl⟩ := h1
    refine ⟨(ns_len bs).symm, h2, ns_len bs, by omega, fun _ => ⟨_, rfl, fun j p hp => ?_⟩⟩
    obtain ⟨b, hb, rfl⟩ : ∃ b, bs[j]? = some b ∧ p = (b.toNat : Int) := by
      simp only [ns, List.getElem?_map, Option.map_eq_some_iff] at hp
      obtain ⟨b, hb, e⟩ := hp
      exact ⟨b, hb, e.symm⟩
    refine ⟨[.int .u8 (b.toNat : Int)], rfl, rfl, fun i u hu => ?_⟩
    cases i with
    | zero =>
      simp at hu
      subst hu
      have := h6 j b hb
      have e : (⟨g, o, none⟩ : Addr).add (j * (Kd.int .u8).sz + 0) = ⟨g, o + j, none⟩ := by
        show (⟨g, o, none⟩ : Addr).add (j * 1 + 0) = _
        cases j <;> simp [Addr.add]
      rw [e]
      exact this
    | succ i => simp at hu
theorem own_of_r {w : World} {base : Nat} {ok : Nat → Prop} {v : Value} {bs : List UInt8} {r : List Int} (h : Kd.R (Kd.int .u8) 5 w base ok v r) (hr : r = ns bs) : OwnB w base v bs := by
  subst hr
  obtain ⟨-, inner, ho, hrep⟩ := h
  obtain rfl : inner = bs.map bv := by
    have hl : inner.length = bs.length := by have := ho.1; rw [ns_len] at this; exact this.trans (Nat.mul_one _)
    refine List.ext_getElem? fun i => ?_
    by_cases hi : i < bs.length
    · have h2 : (inner.drop (i * 1)).take 1 = [.int .u8 (bs[i].toNat : Int)] := hrep.2 i (bs[i].toNat : Int) (by simp [ns, hi])
      rw [Nat.mul_one] at h2
      rw [List.drop_eq_getElem_cons (by omega)] at h2
      simp only [List.take_succ_cons, List.take_zero, List.cons.injEq, and_true] at h2
      rw [List.getElem?_eq_getElem (by omega), h2]
      simp [bv, hi]
    · rw [List.getElem?_eq_none (by omega), List.getElem?_eq_none (by simp; omega)]
  rw [ns_len] at ho
  exact ho

/-- A number with a sign, out of turns. -/
def zig (u : Nat) : Int := if u % 2 = 0 then (u / 2 : Nat) else -((u / 2 : Nat) : Int) - 1
theorem xor_zig (M : Nat) (h : M < 1099511627776) : bits .xor .i64 ((M / 2 : Nat) : Int) (-((M % 2 : Nat) : Int)) = zig M := by
  unfold zig
  rcases (by omega : M % 2 = 0 ∨ M % 2 = 1) with e | e
  · rw [e]
    show IntKind.i64.wrap ((BitVec.ofInt 64 ((M / 2 : Nat) : Int) ^^^ BitVec.ofInt 64 0).toNat : Int) = _
    rw [show BitVec.ofInt 64 0 = 0#64 by decide, BitVec.xor_zero, ofInt_u64 _ (by omega), IntKind.wrap_i64, if_pos rfl]
    omega
  · rw [e]
    show IntKind.i64.wrap ((BitVec.ofInt 64 ((M / 2 : Nat) : Int) ^^^ BitVec.ofInt 64 (-1)).toNat : Int) = _
    rw [show BitVec.ofInt 64 (-1) = BitVec.allOnes 64 by decide, BitVec.xor_allOnes, BitVec.toNat_not, ofInt_u64 _ (by omega), IntKind.wrap_i64, if_neg (by decide)]
    omega
/-- What the reference reads: k groups may follow, i have been. The number, how many octets, how it went. -/
def rv : Nat → Nat → Nat → List UInt8 → Int × Nat × Nat
  | 0, _, _, _ => (0, 0, 3)
  | _ + 1, _, _, [] => (0, 0, 1)
  | k + 1, i, u, b :: r =>
    if k = 0 ∧ 16 ≤ b.toNat % 128 then (0, 0, 3)
    else if b.toNat < 128 then (zig (u + b.toNat % 128 * 128 ^ i), i + 1, 0)
    else rv k (i + 1) (u + b.toNat % 128 * 128 ^ i) r
theorem and127 (n : Nat) (h : n < 256) : bits .and .u8 (n : Int) 127 = ((n % 128 : Nat) : Int) := by
  have := u8_and_nat n 127 h (by decide)
  rw [nat_mask7] at this
  exact this
theorem pow128 (i : Nat) : 128 ^ i = 2 ^ (7 * i) := by rw [Nat.pow_mul]
theorem or_up (i m g : Nat) (hm : m < 128 ^ i) (hi : i ≤ 4) (hg : g < 128) : bits .or .u64 (m : Int) ((g * 128 ^ i : Nat) : Int) = ((m + g * 128 ^ i : Nat) : Int) := by
  have h1 : 128 ^ i ≤ 128 ^ 4 := Nat.pow_le_pow_right (by decide) hi
  have h2 : g * 128 ^ i ≤ 127 * 128 ^ 4 := Nat.mul_le_mul (by omega) h1
  rw [u64_or_nat _ _ (by omega) (by omega), Nat.or_comm, pow128, nat_join (7 * i) _ _ (Nat.mul_mod_left _ _) (by rw [← pow128]; exact hm), Nat.add_comm]
theorem shl_up (i g : Nat) (hi : i ≤ 4) (hg : g < 128) : shl .u64 (g : Int) ((7 * i : Nat) : Int) = ((g * 128 ^ i : Nat) : Int) := by
  have h1 : 128 ^ i ≤ 128 ^ 4 := Nat.pow_le_pow_right (by decide) hi
  have h2 : g * 128 ^ i ≤ 127 * 128 ^ 4 := Nat.mul_le_mul (by omega) h1
  have e : (g : Int) * 2 ^ (7 * i) = ((g * 128 ^ i : Nat) : Int) := by rw [pow128]; push_cast; rfl
  unfold shl
  rw [Int.toNat_natCast, show min (7 * i) IntKind.u64.bits = 7 * i by simp only [IntKind.bits]; omega, e, IntKind.wrap_u64]
  generalize g * 128 ^ i = x at h2 ⊢
  omega
theorem zig_of (M : Nat) (h : M < 1099511627776) : bits .xor .i64 (wrap64 ((M : Int) / 2)) (wrap64 (-(wrap64 (bits .and .u64 (M : Int) 1)))) = zig M := by
  have e1 : wrap64 ((M : Int) / 2) = ((M / 2 : Nat) : Int) := by unfold wrap64; omega
  have e2 : bits .and .u64 (M : Int) 1 = ((M % 2 : Nat) : Int) := by
    have := u64_and_nat M 1 (by omega) (by decide)
    rw [Nat.and_one_is_mod] at this
    exact this
  have e3 : wrap64 ((M % 2 : Nat) : Int) = ((M % 2 : Nat) : Int) := by unfold wrap64; omega
  have e4 : wrap64 (-((M % 2 : Nat) : Int)) = -((M % 2 : Nat) : Int) := by unfold wrap64; omega
  rw [e1, e2, e3, e4, xor_zig M h]
theorem rv_l0 (bs : List UInt8) (hb : bs.length < 4294967296) : ∀ (k i m : Nat), k + i = 5 → m < 128 ^ i → i ≤ bs.length →
    spec_ReadVarint.l0 (2 * k + 1) (ns bs) 32 (m : Int) 5 (i : Int) = some ((rv k i m (bs.drop i)).1, ((rv k i m (bs.drop i)).2.1 : Int), ((rv k i m (bs.drop i)).2.2 : Int))
  | 0, i, m, hi, hm, hl => by
    obtain rfl : i = 5 := by omega
    simp [spec_ReadVarint.l0, rv]
  | k + 1, i, m, hi, hm, hl => by
    have hi4 : i ≤ 4 := by omega
    have h1 : 128 ^ i ≤ 268435456 := (Nat.pow_le_pow_right (by decide) hi4 : 128 ^ i ≤ 128 ^ 4)
    have w1 : wrap64 (7 * (i : Int)) = ((7 * i : Nat) : Int) := by unfold wrap64; omega
    have w2 : wrap64 (((7 * i : Nat) : Int) + 7) = ((7 * i + 7 : Nat) : Int) := by unfold wrap64; omega
    have w3 : wrap64 (32 - ((7 * i : Nat) : Int)) = ((32 - 7 * i : Nat) : Int) := by unfold wrap64; omega
    have w4 : wrap64 ((i : Int) + 1) = ((i + 1 : Nat) : Int) := by unfold wrap64; omega
    rw [show 2 * (k + 1) + 1 = (2 * k + 1) + 1 + 1 by omega]
    simp only [spec_ReadVarint.l0, ns_len]
    rw [if_pos (by omega)]
    by_cases hlt : i < bs.length
    · obtain ⟨b, hb'⟩ : ∃ b, bs[i]? = some b := ⟨bs[i], List.getElem?_eq_getElem hlt⟩
      have hdrop : bs.drop i = b :: bs.drop (i + 1) := by
        obtain ⟨hlt, rfl⟩ := List.getElem?_eq_some_iff.1 hb'
        exact List.drop_eq_getElem_cons hlt
      have hb8 := b.toNat_lt
      have hg : b.toNat % 128 < 128 := Nat.mod_lt _ (by decide)
      have hg2 : b.toNat % 128 * 128 ^ i ≤ 127 * 268435456 := Nat.mul_le_mul (by omega) h1
      have hm2 : m + b.toNat % 128 * 128 ^ i < 128 ^ (i + 1) := by
        have : b.toNat % 128 * 128 ^ i ≤ 127 * 128 ^ i := Nat.mul_le_mul_right _ (by omega)
        rw [Nat.pow_succ]; omega
      have wg : IntKind.u64.wrap (bits .and .u8 (b.toNat : Int) 127) = ((b.toNat % 128 : Nat) : Int) := by
        rw [and127 _ hb8, IntKind.wrap_u64]; omega
      have hj : ∀ c : Bool, spec_ReadVarint.j1 (2 * k + 1 + 1) (ns bs) 32 (m : Int) (i : Int) ((b.toNat % 128 : Nat) : Int) 5 (i : Int) c =
          if c = true then some (0, 0, 3) else if b.toNat < 128 then some (zig (m + b.toNat % 128 * 128 ^ i), ((i + 1 : Nat) : Int), 0)
          else spec_ReadVarint.l0 (2 * k + 1) (ns bs) 32 ((m + b.toNat % 128 * 128 ^ i : Nat) : Int) 5 ((i + 1 : Nat) : Int) := by
        intro c
        simp only [spec_ReadVarint.j1, ns_len, w1, w4]
        rw [rd_ns bs i b hb', shl_up i _ hi4 hg, or_up i m _ hm hi4 hg]
        rw [zig_of _ (by omega)]
        by_cases hc : c = true
        · rw [if_pos hc, if_pos hc]
        · rw [if_neg hc, if_neg hc, if_pos (by omega), if_pos (by omega), if_pos (by omega)]
          by_cases h8 : b.toNat < 128
          · rw [if_pos (by omega), if_pos h8]
          · rw [if_neg (by omega), if_neg h8]
      rw [if_neg (by omega), if_pos (by omega), if_pos (by omega), rd_ns bs i b hb', w1, w2, w3, wg, hj, hj, hdrop]
      simp only [rv]
      have ih := rv_l0 bs hb k (i + 1) _ (by omega) hm2 (by omega)
      by_cases h4 : i = 4
      · obtain rfl : k = 0 := by omega
        subst h4
        rw [if_pos (by omega), if_pos (by omega)]
        have es : shr .u64 ((b.toNat % 128 : Nat) : Int) ((32 - 7 * 4 : Nat) : Int) = ((b.toNat % 128 / 16 : Nat) : Int) := by
          unfold shr
          rw [Int.toNat_natCast]
          show ((b.toNat % 128 : Nat) : Int) / 2 ^ 4 = _
          omega
        rw [es]
        by_cases h16 : 16 ≤ b.toNat % 128
        · have hc : (0 : Nat) = 0 ∧ 16 ≤ b.toNat % 128 := ⟨rfl, h16⟩
          rw [if_pos (show decide (((b.toNat % 128 / 16 : Nat) : Int) > 0) = true by simp; omega), if_pos hc]
          rfl
        · have hc : ¬ ((0 : Nat) = 0 ∧ 16 ≤ b.toNat % 128) := fun h => h16 h.2
          rw [if_neg (show ¬ decide (((b.toNat % 128 / 16 : Nat) : Int) > 0) = true by simp; omega), if_neg hc]
          by_cases h8 : b.toNat < 128
          · rw [if_pos h8, if_pos h8]; rfl
          · rw [if_neg h8, if_neg h8, ih]
      · have hc : ¬ (k = 0 ∧ 16 ≤ b.toNat % 128) := fun h => h4 (by have := h.1; omega)
        rw [if_neg (by omega), if_neg (by decide), if_neg hc]
        by_cases h8 : b.toNat < 128
        · rw [if_pos h8, if_pos h8]; rfl
        · rw [if_neg h8, if_neg h8, ih]
    · rw [if_pos (by omega), List.drop_eq_nil_of_le (by omega)]
      simp [rv]
theorem ReadVarint_is (w : World) (S : Nat → Prop) (v : Value) (bs : List UInt8) (h : BytesAt w S v bs) (hl : bs.length < 4294967296) : Calls Tryd.prog 40 #[v, .int .i64 32] w fun e w' =>
    e = .returned (.tuple #[.int .i64 (rv 5 0 0 bs).1, .int .i64 ((rv 5 0 0 bs).2.1 : Int), .int .i64 ((rv 5 0 0 bs).2.2 : Int)]) ∧ Drawn0 w w' := by
  obtain ⟨ad, c, rfl⟩ := bytes_len h
  obtain ⟨h1, h2, h3⟩ := c_bytes h
  have := rv_l0 bs hl 5 0 0 rfl (by decide) (by omega)
  have hf : spec_ReadVarint.f 11 (ns bs) 32 = some ((rv 5 0 0 bs).1, ((rv 5 0 0 bs).2.1 : Int), ((rv 5 0 0 bs).2.2 : Int)) := by
    unfold spec_ReadVarint.f
    rw [show wrap64 (Int.tdiv (wrap64 (32 + 6)) 7) = 5 by kernel_rfl]
    exact this
  have := spec_ReadVarint.calls 11 ad c (ns bs) 32 _ _ _ w (by rw [← h1]; exact h3) (by rw [← h1]; exact h2) hf
  rw [← h1] at this
  exact this
end Go.Proofs.YthdfhnnoamlacaaDoor.Rec
