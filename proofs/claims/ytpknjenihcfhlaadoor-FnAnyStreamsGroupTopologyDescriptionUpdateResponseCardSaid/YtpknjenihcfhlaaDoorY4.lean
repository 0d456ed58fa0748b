/-
  The writer of kbin; code that writes. Conditions: none.
-/
import Derived.Test.YtpknjenihcfhlaaDoorY2
import Derived.Test.YtpknjenihcfhlaaDoorShelf
import Derived.Laws.BitsAllLaws
import Derived.Laws.AppendOwn
import Derived.Lib.BitFns
import Derived.Lib.ItoaNum
import Derived.Test.YtpknjenihcfhlaaDoorY3
import Derived.Lib.AppendStr
import Derived.Laws.AppendOwnNone
/-
  kbin, writing: numbers. Conditions: none.
-/
namespace Go.Proofs.YtpknjenihcfhlaaDoor
open Go.RowKit (Below)
open Kz

/-- Octets in a row of one's own. -/
def OwnB (w : World) (base : Nat) (v : Value) (bs : List UInt8) : Prop := w.ownsRow base 5 1 v bs.length (bs.map bv)
/-- How long what is written may get. -/
def lim : Nat := 1099511627776
theorem OwnB.nil (w : World) (base : Nat) : OwnB w base (.slice none 0 0) [] := World.ownsRow_nil w base 5 1
theorem OwnB.base {w : World} {base : Nat} {v : Value} {bs : List UInt8} (h : OwnB w base v bs) : ∀ k, v.ownBlock = some k → base ≤ k := fun k hk => (World.ownsRow.lt h k hk).1
theorem OwnB.grown {w w' : World} {base : Nat} {v : Value} {bs : List UInt8} (h : OwnB w base v bs) (hb : ∀ k, k < w.heap.size → w'.heap[k]? = w.heap[k]?) : OwnB w' base v bs := by
  obtain ⟨h1, h2⟩ := h
  refine ⟨h1, h2.imp id ?_⟩
  rintro ⟨g, cap, cur, e1, e2, e3, e4⟩
  exact ⟨g, cap, cur, e1, e2, by rw [hb g (Array.getElem?_eq_some_iff.1 e3).1]; exact e3, e4⟩

/-- Octets are appended. -/
theorem append_own {w : World} {base : Nat} {v : Value} {bs out : List UInt8} {ad : Addr} {m c : Nat} {ty : TypeId} (h : OwnB w base v bs) (hm : m = out.length) (hc : ∀ (j : Nat) b, out[j]? = some b → w.cell? (ad.add j) = some (bv b)) (hl : bs.length + out.length ≤ lim) (hb : base ≤ w.heap.size) :
    ∃ v' w', (Builtin.append_ #[22, 22] ty #[v, .slice (some ad) m c]).run Tryd.prog w = .ok v' w' ∧ OwnB w' base v' (bs ++ out) ∧ w.grownBy w' v.ownBlock := by
  subst hm
  have hi : (Tryd.prog.info? 5).map (fun i => (i.zero, i.size, i.bytes)) = some (some (.int .u8 0), 1, 1) := by kernel_rfl
  obtain ⟨i, hi, hz, hs, hby⟩ := info_parts hi
  simp only [lim] at hl
  obtain ⟨v', w', h1, h2, h3, -⟩ := run_append_own (P := Tryd.prog) (w := w) base 22 ty 5 i (.int .u8 0) 1 1 Tryd.underlying22 hi hz hs hby rfl (by decide) v bs.length (bs.map bv) h ad out.length c (out.map bv) (by simp)
    (fun j u hu => by
      rw [List.getElem?_map, Option.map_eq_some_iff] at hu
      obtain ⟨b, hb, rfl⟩ := hu
      exact hc j b hb)
    (fun u hu => by
      simp only [List.mem_map] at hu
      obtain ⟨b, -, rfl⟩ := hu
      rfl) (by simp only [maxLen]; omega) (by omega) hb
  refine ⟨v', w', h1, ?_, h3⟩
  unfold OwnB
  rw [List.length_append, List.map_append]
  exact h2

theorem wpList_append_bytes {w : World} {ops : Array Oper} {rest : List Oper} {o : Oper} {a : Act} {Q : Exit → Act → World → Prop} (hgd : o.guard = none) (s x : Operand)
    (ho : o.op = .call { callee := .builtin .append, args := #[s, x], argTypes := #[22, 22] }) (base : Nat) (v : Value) (bs out : List UInt8) (g off m c : Nat) (hs : a.eval s = v) (hx : a.eval x = .slice (some ⟨g, off, none⟩) m c) (h : OwnB w base v bs)
    (hm : m = out.length) (hc : ∀ (j : Nat) b, out[j]? = some b → w.cell? ⟨g, off + j, none⟩ = some (bv b)) (hl : bs.length + out.length ≤ lim) (hb : base ≤ w.heap.size)
    (hk : ∀ v' w', OwnB w' base v' (bs ++ out) → w.grownBy w' v.ownBlock → wpList Tryd.prog ops Q rest (a.put o.dst v') w') : wpList Tryd.prog ops Q (o :: rest) a w := by
  obtain ⟨v', w', h1, h2, h3⟩ := append_own (ty := o.type) (ad := ⟨g, off, none⟩) (c := c) h hm (fun j b hj => by rw [Addr.add_mid]; exact hc j b hj) hl hb
  exact Lib.wpList_append_run w hgd s x _ _ ho _ _ hs hx v' w' h1 (hk v' w' h2 h3)

theorem byteAt_u8 (u : Int) (i : Nat) (z : Int) (hz : z = u / (2 : Int) ^ (8 * i) % 256) : Value.int .u8 z = bv (byteAt u i) := by
  have h0 : 0 ≤ u / (2 : Int) ^ (8 * i) % 256 := Int.emod_nonneg _ (by decide)
  have h1 : u / (2 : Int) ^ (8 * i) % 256 < 256 := Int.emod_lt_of_pos _ (by decide)
  rw [hz]
  unfold bv byteAt
  congr 1
  rw [UInt8.toNat_ofNat']
  omega

theorem alloc_old (w : World) (o : Obj) (g : Nat) (h : g < w.heap.size) : (w.alloc o).heap[g]? = w.heap[g]? := by
  simp only [World.alloc, Array.getElem?_push]
  rw [if_neg (by omega)]
theorem row_new {w : World} {cs : Array Value} {t : TypeId} {out : List UInt8} (h : cs = (out.map bv).toArray) (j : Nat) (b : UInt8) (hj : out[j]? = some b) : (w.alloc (.cells cs t)).cell? ⟨w.heap.size, 0 + j, none⟩ = some (bv b) := by
  have hr : (w.alloc (.cells cs t)).heap[w.heap.size]? = some (.cells cs t (0, 0)) := by
    show (w.heap.push _)[w.heap.size]? = _
    simp
  rw [cell_of_row _ _ _ _ _ _ hr, h, Nat.zero_add]
  simp [hj]
theorem below_own {w w1 w' : World} {base : Nat} {v : Value} {bs : List UInt8} (h : OwnB w1 base v bs) (hb : ∀ k, k < w.heap.size → w1.heap[k]? = w.heap[k]?) (ho : w1.os = w.os) (ht : w1.tape = w.tape) (hp : w1.output = w.output) (hs : w.heap.size ≤ w1.heap.size) (hbase : base ≤ w.heap.size) (hg : w1.grownBy w' v.ownBlock) : Below base w w' :=
  ⟨hg.os.trans ho, hg.tape.trans ht, hg.output.trans hp, Nat.le_trans hs hg.size, fun k hk => (hg.block k (by omega) (fun e => by have := h.base k e.symm; omega)).trans (hb k (by omega))⟩
theorem below_alloc {w w' : World} {base : Nat} {v : Value} {bs : List UInt8} {o : Obj} (h : OwnB w base v bs) (hbase : base ≤ w.heap.size) (hg : (w.alloc o).grownBy w' v.ownBlock) : Below base w w' :=
  below_own (h.grown (fun k hk => alloc_old w o k hk)) (fun k hk => alloc_old w o k hk) rfl rfl rfl (by simp) hbase hg

set_option maxRecDepth 8000 in
set_option maxHeartbeats 400000 in
theorem AppendUint16_any (w : World) (base : Nat) (v : Value) (bs : List UInt8) (u : Int) (h : OwnB w base v bs) (hb : base ≤ w.heap.size) (h0 : 0 ≤ u) (h1 : u < 65536) (hl : bs.length + 2 ≤ lim) :
    Calls Tryd.prog 86 #[v, .int .u16 u] w fun e w' => ∃ v', e = .returned v' ∧ OwnB w' base v' (bs ++ fixed u 2) ∧ Below base w w' := by
  have H := Lib.hid h
  have HL := Lib.hid hl
  clear h hl
  go_enter Tryd.func86, Tryd.ntmps86
  go_wp2_with (at_builtin; refine wpList_append_bytes rfl _ _ rfl base v bs (fixed u 2) w.heap.size 0 2 2 rfl rfl ?_ rfl ?_ HL.out ?_ ?_)
  · exact H.out.grown fun k hk => alloc_old w _ k hk
  · exact row_new (by rw [byteAt_u8 u 1 (u / 256) (by simp; omega), byteAt_u8 u 0 (u % 256) (by simp)]; rfl)
  · simp; omega
  · intro v' w' hown hg
    have H1 := Lib.hid hown
    have H2 := Lib.hid hg
    clear hown hg
    go_wp2
    go_ret
    exact ⟨v', rfl, H1.out, below_alloc H.out hb H2.out⟩
end Go.Proofs.YtpknjenihcfhlaaDoor
/-
  kbin, writing: numbers. Conditions: none.
-/
namespace Go.Proofs.YtpknjenihcfhlaaDoor
open Go.RowKit (Below)
open Kz

theorem bv_byteAt (u : Int) (i : Nat) : bv (byteAt u i) = Value.int .u8 (u / (2 : Int) ^ (8 * i) % 256) := (byteAt_u8 u i _ rfl).symm

set_option maxRecDepth 8000 in
set_option maxHeartbeats 1000000 in
theorem AppendUint32_any (w : World) (base : Nat) (v : Value) (bs : List UInt8) (u : Int) (h : OwnB w base v bs) (hb : base ≤ w.heap.size) (h0 : 0 ≤ u) (h1 : u < 4294967296) (hl : bs.length + 4 ≤ lim) :
    Calls Tryd.prog 85 #[v, .int .u32 u] w fun e w' => ∃ v', e = .returned v' ∧ OwnB w' base v' (bs ++ fixed u 4) ∧ Below base w w' := by
  have H := Lib.hid h
  have HL := Lib.hid hl
  clear h hl
  go_enter Tryd.func85, Tryd.ntmps85
  go_wp2_with (at_builtin; refine wpList_append_bytes rfl _ _ rfl base v bs (fixed u 4) w.heap.size 0 4 4 rfl rfl ?_ rfl ?_ HL.out ?_ ?_)
  · exact H.out.grown fun k hk => alloc_old w _ k hk
  · refine row_new ?_
    simp only [fixed, List.map_cons, List.map_nil, bv_byteAt]
    simp
    try omega
  · simp; omega
  · intro v' w' hown hg
    have H1 := Lib.hid hown
    have H2 := Lib.hid hg
    clear hown hg
    go_wp2
    go_ret
    exact ⟨v', rfl, H1.out, below_alloc H.out hb H2.out⟩
set_option maxRecDepth 8000 in
set_option maxHeartbeats 1000000 in
theorem appendUint64_any (w : World) (base : Nat) (v : Value) (bs : List UInt8) (u : Int) (h : OwnB w base v bs) (hb : base ≤ w.heap.size) (h0 : 0 ≤ u) (h1 : u < 18446744073709551616) (hl : bs.length + 8 ≤ lim) :
    Calls Tryd.prog 95 #[v, .int .u64 u] w fun e w' => ∃ v', e = .returned v' ∧ OwnB w' base v' (bs ++ fixed u 8) ∧ Below base w w' := by
  have H := Lib.hid h
  have HL := Lib.hid hl
  clear h hl
  go_enter Tryd.func95, Tryd.ntmps95
  go_wp2_with (at_builtin; refine wpList_append_bytes rfl _ _ rfl base v bs (fixed u 8) w.heap.size 0 8 8 rfl rfl ?_ rfl ?_ HL.out ?_ ?_)
  · exact H.out.grown fun k hk => alloc_old w _ k hk
  · refine row_new ?_
    simp only [fixed, List.map_cons, List.map_nil, bv_byteAt]
    simp
    try omega
  · simp; omega
  · intro v' w' hown hg
    have H1 := Lib.hid hown
    have H2 := Lib.hid hg
    clear hown hg
    go_wp2
    go_ret
    exact ⟨v', rfl, H1.out, below_alloc H.out hb H2.out⟩
theorem fixed_AppendInt16 (u : Int) : fixed (u % 65536) 2 = fixed u 2 := by
  simp only [fixed, List.cons.injEq, and_true]
  refine ⟨?_, ?_⟩ <;> (simp only [byteAt]; congr 2; simp; try omega)
set_option maxRecDepth 8000 in
set_option maxHeartbeats 1000000 in
theorem AppendInt16_any (w : World) (base : Nat) (v : Value) (bs : List UInt8) (u : Int) (h : OwnB w base v bs) (hb : base ≤ w.heap.size) (hl : bs.length + 2 ≤ lim) :
    Calls Tryd.prog 56 #[v, .int .i16 u] w fun e w' => ∃ v', e = .returned v' ∧ OwnB w' base v' (bs ++ fixed u 2) ∧ Below base w w' := by
  have H := Lib.hid h
  have HL := Lib.hid hl
  clear h hl
  go_enter Tryd.func56, Tryd.ntmps56
  go_wp2_with fail
  refine (AppendUint16_any w base v bs (u % 65536) H.out hb (by omega) (by omega) HL.out).mono ?_
  rintro e w' ⟨v', rfl, hown, hbel⟩
  rw [fixed_AppendInt16] at hown
  have H1 := Lib.hid hown
  have H2 := Lib.hid hbel
  clear hown hbel
  go_wp2
  go_ret
  exact ⟨v', rfl, H1.out, H2.out⟩
theorem fixed_AppendInt32 (u : Int) : fixed (u % 4294967296) 4 = fixed u 4 := by
  simp only [fixed, List.cons.injEq, and_true]
  refine ⟨?_, ?_, ?_, ?_⟩ <;> (simp only [byteAt]; congr 2; simp; try omega)
set_option maxRecDepth 8000 in
set_option maxHeartbeats 1000000 in
theorem AppendInt32_any (w : World) (base : Nat) (v : Value) (bs : List UInt8) (u : Int) (h : OwnB w base v bs) (hb : base ≤ w.heap.size) (hl : bs.length + 4 ≤ lim) :
    Calls Tryd.prog 55 #[v, .int .i32 u] w fun e w' => ∃ v', e = .returned v' ∧ OwnB w' base v' (bs ++ fixed u 4) ∧ Below base w w' := by
  have H := Lib.hid h
  have HL := Lib.hid hl
  clear h hl
  go_enter Tryd.func55, Tryd.ntmps55
  go_wp2_with fail
  refine (AppendUint32_any w base v bs (u % 4294967296) H.out hb (by omega) (by omega) HL.out).mono ?_
  rintro e w' ⟨v', rfl, hown, hbel⟩
  rw [fixed_AppendInt32] at hown
  have H1 := Lib.hid hown
  have H2 := Lib.hid hbel
  clear hown hbel
  go_wp2
  go_ret
  exact ⟨v', rfl, H1.out, H2.out⟩
theorem fixed_AppendInt64 (u : Int) : fixed (u % 18446744073709551616) 8 = fixed u 8 := by
  simp only [fixed, List.cons.injEq, and_true]
  refine ⟨?_, ?_, ?_, ?_, ?_, ?_, ?_, ?_⟩ <;> (simp only [byteAt]; congr 2; simp; try omega)
set_option maxRecDepth 8000 in
set_option maxHeartbeats 1000000 in
theorem AppendInt64_any (w : World) (base : Nat) (v : Value) (bs : List UInt8) (u : Int) (h : OwnB w base v bs) (hb : base ≤ w.heap.size) (hl : bs.length + 8 ≤ lim) :
    Calls Tryd.prog 66 #[v, .int .i64 u] w fun e w' => ∃ v', e = .returned v' ∧ OwnB w' base v' (bs ++ fixed u 8) ∧ Below base w w' := by
  have H := Lib.hid h
  have HL := Lib.hid hl
  clear h hl
  go_enter Tryd.func66, Tryd.ntmps66
  go_wp2_with fail
  refine (appendUint64_any w base v bs (u % 18446744073709551616) H.out hb (by omega) (by omega) HL.out).mono ?_
  rintro e w' ⟨v', rfl, hown, hbel⟩
  rw [fixed_AppendInt64] at hown
  have H1 := Lib.hid hown
  have H2 := Lib.hid hbel
  clear hown hbel
  go_wp2
  go_ret
  exact ⟨v', rfl, H1.out, H2.out⟩
end Go.Proofs.YtpknjenihcfhlaaDoor
/-
  kbin, writing: numbers in groups of seven bits. Conditions: none.
-/
namespace Go.Proofs.YtpknjenihcfhlaaDoor
open Go.RowKit (Below)
open Kz

/-- How many octets a number takes. -/
def uvLen (u : Nat) : Nat := if u < 128 then 1 else if u < 16384 then 2 else if u < 2097152 then 3 else if u < 268435456 then 4 else 5

def lensF (k : Nat) : Nat := if k ≤ 7 then 1 else if k ≤ 14 then 2 else if k ≤ 21 then 3 else if k ≤ 28 then 4 else 5
theorem bitLen_ge (u k : Nat) (hu : u < 4294967296) (h : 2 ^ k ≤ u) : k < Lib.bitLen u := by
  have hz : u ≠ 0 := by have := Nat.two_pow_pos k; omega
  have hb := Lib.bitLenAux_bounds 64 u (by omega) hz
  have h2 : 2 ^ k < 2 ^ Lib.bitLen u := Nat.lt_of_le_of_lt h hb.2.2
  exact (Nat.pow_lt_pow_iff_right (by decide)).1 h2
theorem uvLen_bits (u : Nat) (hu : u < 4294967296) : uvLen u = lensF (Lib.bitLen u) := by
  unfold uvLen lensF
  by_cases h1 : u < 128
  · have := Lib.bitLen_le u 7 (by decide) (by omega)
    simp [h1, this]
  · have g1 := bitLen_ge u 7 hu (by omega)
    by_cases h2 : u < 16384
    · have := Lib.bitLen_le u 14 (by decide) (by omega)
      have n1 : ¬ Lib.bitLen u ≤ 7 := by omega
      simp [h1, h2, this, n1]
    · have g2 := bitLen_ge u 14 hu (by omega)
      by_cases h3 : u < 2097152
      · have := Lib.bitLen_le u 21 (by decide) (by omega)
        have n1 : ¬ Lib.bitLen u ≤ 7 := by omega
        have n2 : ¬ Lib.bitLen u ≤ 14 := by omega
        simp [h1, h2, h3, this, n1, n2]
      · have g3 := bitLen_ge u 21 hu (by omega)
        by_cases h4 : u < 268435456
        · have := Lib.bitLen_le u 28 (by decide) (by omega)
          have n1 : ¬ Lib.bitLen u ≤ 7 := by omega
          have n2 : ¬ Lib.bitLen u ≤ 14 := by omega
          have n3 : ¬ Lib.bitLen u ≤ 21 := by omega
          simp [h1, h2, h3, h4, this, n1, n2, n3]
        · have g4 := bitLen_ge u 28 hu (by omega)
          have n1 : ¬ Lib.bitLen u ≤ 7 := by omega
          have n2 : ¬ Lib.bitLen u ≤ 14 := by omega
          have n3 : ¬ Lib.bitLen u ≤ 21 := by omega
          have n4 : ¬ Lib.bitLen u ≤ 28 := by omega
          simp [h1, h2, h3, h4, n1, n2, n3, n4]

set_option maxRecDepth 8000 in
set_option maxHeartbeats 1000000 in
theorem UvarintLen_any (w : World) (u : Nat) (hu : u < 4294967296) : Calls Tryd.prog 87 #[.int .u32 (u : Int)] w fun e w' => e = .returned (.int .i64 (uvLen u : Int)) ∧ w = w' := by
  go_enter Tryd.func87, Tryd.ntmps87
  go_wp2_with fail
  refine (Tryd.bits_Len32 (u : Int) w (by omega) (by omega)).mono ?_
  rintro e w' ⟨rfl, rfl⟩
  simp only [Int.toNat_natCast]
  have hb : Lib.bitLen u ≤ 32 := Lib.bitLen_le u 32 (by decide) (by omega)
  obtain ⟨k, hk⟩ : ∃ k, k = Lib.bitLen u := ⟨_, rfl⟩
  rw [← hk] at hb ⊢
  have HK := Lib.hid hk
  clear hk
  go_wp2_with fail
  go_ret
  refine ⟨?_, rfl⟩
  rw [uvLen_bits u hu, ← HK.out]
  clear HK
  obtain ⟨i, rfl⟩ : ∃ i : Fin 33, k = i.val := ⟨⟨k, by omega⟩, rfl⟩
  refine congrArg (fun z => Ending.returned (Value.int .i64 z)) (?_ : _ = ((lensF i.val : Nat) : Int))
  clear hu
  revert i
  decide +kernel
end Go.Proofs.YtpknjenihcfhlaaDoor
/-
  kbin, writing: a number in groups of seven bits. Conditions: none.
-/
namespace Go.Proofs.YtpknjenihcfhlaaDoor
open Go.RowKit (Below)
open Kz

theorem uvg (x : Int) (h0 : 0 ≤ x) (h1 : x < 4294967296) : bits BinOp.or IntKind.u32 (bits BinOp.and IntKind.u32 x 127) 128 = x % 128 + 128 := by
  obtain ⟨n, rfl⟩ : ∃ n : Nat, x = n := ⟨x.toNat, by omega⟩
  have e1 : bits BinOp.and IntKind.u32 (n : Int) 127 = ((n % 128 : Nat) : Int) := by
    have h := u32_and_nat n 127 (by omega) (by decide)
    have e : n &&& 127 = n % 128 := Nat.and_two_pow_sub_one_eq_mod n 7
    rw [e] at h
    exact h
  have e2 : bits BinOp.or IntKind.u32 ((n % 128 : Nat) : Int) 128 = ((n % 128 ||| 128 : Nat) : Int) := u32_or_nat (n % 128) 128 (by omega) (by decide)
  have e3 : 128 ||| n % 128 = 128 + n % 128 := nat_join 7 128 (n % 128) (by decide) (by omega)
  rw [e1, e2, Nat.or_comm, e3]
  omega
theorem bv_ofNat (n : Nat) : bv (UInt8.ofNat n) = Value.int .u8 ((n % 256 : Nat) : Int) := by
  unfold bv
  rw [UInt8.toNat_ofNat']

theorem uv_1 (u : Nat) (_h0 : 0 ≤ u) (h1 : u < 128) : uv u = [UInt8.ofNat u] := by
  have c : u  < 128 := by omega
  simp [uv, uvF, c]
set_option maxRecDepth 8000 in
set_option maxHeartbeats 1000000 in
theorem AppendUvarint_1 (w : World) (base : Nat) (v : Value) (bs : List UInt8) (u : Nat) (h : OwnB w base v bs) (hb : base ≤ w.heap.size) (h0 : 0 ≤ u) (h1 : u < 128) (hl : bs.length + 1 ≤ lim) :
    Calls Tryd.prog 59 #[v, .int .u32 (u : Int)] w fun e w' => ∃ v', e = .returned v' ∧ OwnB w' base v' (bs ++ uv u) ∧ w.grownBy w' v.ownBlock := by
  have H := Lib.hid h
  have HL := Lib.hid hl
  have hlen : uvLen u = 1 := by
    unfold uvLen
    repeat (first | rw [if_pos (by omega)] | rw [if_neg (by omega)])
  have HC := Lib.hid (UvarintLen_any w u (by omega))
  rw [hlen] at HC
  have huv : (uv u).length = 1 := by rw [uv_1 u h0 h1]; rfl
  have HU := Lib.hid huv
  clear h hl hlen huv
  go_enter Tryd.func59, Tryd.ntmps59
  go_wp2_with fail
  refine HC.out.mono ?_
  rintro e w' ⟨rfl, rfl⟩
  clear HC
  go_wp2_with (at_builtin; refine wpList_append_bytes rfl _ _ rfl base v bs (uv u) w.heap.size 0 1 1 rfl rfl ?_ HU.out.symm ?_ (by rw [HU.out]; exact HL.out) ?_ ?_)
  · exact H.out.grown fun k hk => alloc_old w _ k hk
  · refine row_new ?_
    rw [uv_1 u h0 h1]
    simp only [List.map_cons, List.map_nil, bv_ofNat]
    simp
    try omega
  · simp; omega
  · intro v' w' hown hg
    have H1 := Lib.hid hown
    have H2 := Lib.hid hg
    clear hown hg
    go_wp2
    go_ret
    exact ⟨v', rfl, H1.out, grownBy_trans (World.grownBy_alloc w _ _) H2.out⟩
theorem uv_2 (u : Nat) (h0 : 128 ≤ u) (h1 : u < 16384) : uv u = [UInt8.ofNat (u  % 128 + 128), UInt8.ofNat (u / 128)] := by
  have c0 : ¬ (u < 128) := by omega
  have c : u / 128 < 128 := by omega
  simp [uv, uvF, c, c0]
set_option maxRecDepth 8000 in
set_option maxHeartbeats 1000000 in
theorem AppendUvarint_2 (w : World) (base : Nat) (v : Value) (bs : List UInt8) (u : Nat) (h : OwnB w base v bs) (hb : base ≤ w.heap.size) (h0 : 128 ≤ u) (h1 : u < 16384) (hl : bs.length + 2 ≤ lim) :
    Calls Tryd.prog 59 #[v, .int .u32 (u : Int)] w fun e w' => ∃ v', e = .returned v' ∧ OwnB w' base v' (bs ++ uv u) ∧ w.grownBy w' v.ownBlock := by
  have H := Lib.hid h
  have HL := Lib.hid hl
  have hlen : uvLen u = 2 := by
    unfold uvLen
    repeat (first | rw [if_pos (by omega)] | rw [if_neg (by omega)])
  have HC := Lib.hid (UvarintLen_any w u (by omega))
  rw [hlen] at HC
  have huv : (uv u).length = 2 := by rw [uv_2 u h0 h1]; rfl
  have HU := Lib.hid huv
  clear h hl hlen huv
  go_enter Tryd.func59, Tryd.ntmps59
  go_wp2_with fail
  refine HC.out.mono ?_
  rintro e w' ⟨rfl, rfl⟩
  clear HC
  go_wp2_with (at_builtin; refine wpList_append_bytes rfl _ _ rfl base v bs (uv u) w.heap.size 0 2 2 rfl rfl ?_ HU.out.symm ?_ (by rw [HU.out]; exact HL.out) ?_ ?_)
  · exact H.out.grown fun k hk => alloc_old w _ k hk
  · refine row_new ?_
    rw [uv_2 u h0 h1, uvg (u : Int) (by omega) (by omega)]
    simp only [List.map_cons, List.map_nil, bv_ofNat]
    simp
    try omega
  · simp; omega
  · intro v' w' hown hg
    have H1 := Lib.hid hown
    have H2 := Lib.hid hg
    clear hown hg
    go_wp2
    go_ret
    exact ⟨v', rfl, H1.out, grownBy_trans (World.grownBy_alloc w _ _) H2.out⟩
theorem uv_3 (u : Nat) (h0 : 16384 ≤ u) (h1 : u < 2097152) : uv u = [UInt8.ofNat (u  % 128 + 128), UInt8.ofNat (u / 128 % 128 + 128), UInt8.ofNat (u / 16384)] := by
  have c0 : ¬ (u < 128) := by omega
  have c1 : ¬ (u / 128 < 128) := by omega
  have c : u / 16384 < 128 := by omega
  simp [uv, uvF, Nat.div_div_eq_div_mul, c, c0, c1]
set_option maxRecDepth 8000 in
set_option maxHeartbeats 1000000 in
theorem AppendUvarint_3 (w : World) (base : Nat) (v : Value) (bs : List UInt8) (u : Nat) (h : OwnB w base v bs) (hb : base ≤ w.heap.size) (h0 : 16384 ≤ u) (h1 : u < 2097152) (hl : bs.length + 3 ≤ lim) :
    Calls Tryd.prog 59 #[v, .int .u32 (u : Int)] w fun e w' => ∃ v', e = .returned v' ∧ OwnB w' base v' (bs ++ uv u) ∧ w.grownBy w' v.ownBlock := by
  have H := Lib.hid h
  have HL := Lib.hid hl
  have hlen : uvLen u = 3 := by
    unfold uvLen
    repeat (first | rw [if_pos (by omega)] | rw [if_neg (by omega)])
  have HC := Lib.hid (UvarintLen_any w u (by omega))
  rw [hlen] at HC
  have huv : (uv u).length = 3 := by rw [uv_3 u h0 h1]; rfl
  have HU := Lib.hid huv
  clear h hl hlen huv
  go_enter Tryd.func59, Tryd.ntmps59
  go_wp2_with fail
  refine HC.out.mono ?_
  rintro e w' ⟨rfl, rfl⟩
  clear HC
  go_wp2_with (at_builtin; refine wpList_append_bytes rfl _ _ rfl base v bs (uv u) w.heap.size 0 3 3 rfl rfl ?_ HU.out.symm ?_ (by rw [HU.out]; exact HL.out) ?_ ?_)
  · exact H.out.grown fun k hk => alloc_old w _ k hk
  · refine row_new ?_
    rw [uv_3 u h0 h1, uvg (u : Int) (by omega) (by omega), uvg ((u : Int) / 128) (by omega) (by omega)]
    simp only [List.map_cons, List.map_nil, bv_ofNat]
    simp
    try omega
  · simp; omega
  · intro v' w' hown hg
    have H1 := Lib.hid hown
    have H2 := Lib.hid hg
    clear hown hg
    go_wp2
    go_ret
    exact ⟨v', rfl, H1.out, grownBy_trans (World.grownBy_alloc w _ _) H2.out⟩
theorem uv_4 (u : Nat) (h0 : 2097152 ≤ u) (h1 : u < 268435456) : uv u = [UInt8.ofNat (u  % 128 + 128), UInt8.ofNat (u / 128 % 128 + 128), UInt8.ofNat (u / 16384 % 128 + 128), UInt8.ofNat (u / 2097152)] := by
  have c0 : ¬ (u < 128) := by omega
  have c1 : ¬ (u / 128 < 128) := by omega
  have c2 : ¬ (u / 16384 < 128) := by omega
  have c : u / 2097152 < 128 := by omega
  simp [uv, uvF, Nat.div_div_eq_div_mul, c, c0, c1, c2]
set_option maxRecDepth 8000 in
set_option maxHeartbeats 1000000 in
theorem AppendUvarint_4 (w : World) (base : Nat) (v : Value) (bs : List UInt8) (u : Nat) (h : OwnB w base v bs) (hb : base ≤ w.heap.size) (h0 : 2097152 ≤ u) (h1 : u < 268435456) (hl : bs.length + 4 ≤ lim) :
    Calls Tryd.prog 59 #[v, .int .u32 (u : Int)] w fun e w' => ∃ v', e = .returned v' ∧ OwnB w' base v' (bs ++ uv u) ∧ w.grownBy w' v.ownBlock := by
  have H := Lib.hid h
  have HL := Lib.hid hl
  have hlen : uvLen u = 4 := by
    unfold uvLen
    repeat (first | rw [if_pos (by omega)] | rw [if_neg (by omega)])
  have HC := Lib.hid (UvarintLen_any w u (by omega))
  rw [hlen] at HC
  have huv : (uv u).length = 4 := by rw [uv_4 u h0 h1]; rfl
  have HU := Lib.hid huv
  clear h hl hlen huv
  go_enter Tryd.func59, Tryd.ntmps59
  go_wp2_with fail
  refine HC.out.mono ?_
  rintro e w' ⟨rfl, rfl⟩
  clear HC
  go_wp2_with (at_builtin; refine wpList_append_bytes rfl _ _ rfl base v bs (uv u) w.heap.size 0 4 4 rfl rfl ?_ HU.out.symm ?_ (by rw [HU.out]; exact HL.out) ?_ ?_)
  · exact H.out.grown fun k hk => alloc_old w _ k hk
  · refine row_new ?_
    rw [uv_4 u h0 h1, uvg (u : Int) (by omega) (by omega), uvg ((u : Int) / 128) (by omega) (by omega), uvg ((u : Int) / 16384) (by omega) (by omega)]
    simp only [List.map_cons, List.map_nil, bv_ofNat]
    simp
    try omega
  · simp; omega
  · intro v' w' hown hg
    have H1 := Lib.hid hown
    have H2 := Lib.hid hg
    clear hown hg
    go_wp2
    go_ret
    exact ⟨v', rfl, H1.out, grownBy_trans (World.grownBy_alloc w _ _) H2.out⟩
theorem uv_5 (u : Nat) (h0 : 268435456 ≤ u) (h1 : u < 4294967296) : uv u = [UInt8.ofNat (u  % 128 + 128), UInt8.ofNat (u / 128 % 128 + 128), UInt8.ofNat (u / 16384 % 128 + 128), UInt8.ofNat (u / 2097152 % 128 + 128), UInt8.ofNat (u / 268435456)] := by
  have c0 : ¬ (u < 128) := by omega
  have c1 : ¬ (u / 128 < 128) := by omega
  have c2 : ¬ (u / 16384 < 128) := by omega
  have c3 : ¬ (u / 2097152 < 128) := by omega
  have c : u / 268435456 < 128 := by omega
  simp [uv, uvF, Nat.div_div_eq_div_mul, c, c0, c1, c2, c3]
set_option maxRecDepth 8000 in
set_option maxHeartbeats 1000000 in
theorem AppendUvarint_5 (w : World) (base : Nat) (v : Value) (bs : List UInt8) (u : Nat) (h : OwnB w base v bs) (hb : base ≤ w.heap.size) (h0 : 268435456 ≤ u) (h1 : u < 4294967296) (hl : bs.length + 5 ≤ lim) :
    Calls Tryd.prog 59 #[v, .int .u32 (u : Int)] w fun e w' => ∃ v', e = .returned v' ∧ OwnB w' base v' (bs ++ uv u) ∧ w.grownBy w' v.ownBlock := by
  have H := Lib.hid h
  have HL := Lib.hid hl
  have hlen : uvLen u = 5 := by
    unfold uvLen
    repeat (first | rw [if_pos (by omega)] | rw [if_neg (by omega)])
  have HC := Lib.hid (UvarintLen_any w u (by omega))
  rw [hlen] at HC
  have huv : (uv u).length = 5 := by rw [uv_5 u h0 h1]; rfl
  have HU := Lib.hid huv
  clear h hl hlen huv
  go_enter Tryd.func59, Tryd.ntmps59
  go_wp2_with fail
  refine HC.out.mono ?_
  rintro e w' ⟨rfl, rfl⟩
  clear HC
  go_wp2_with (at_builtin; refine wpList_append_bytes rfl _ _ rfl base v bs (uv u) w.heap.size 0 5 5 rfl rfl ?_ HU.out.symm ?_ (by rw [HU.out]; exact HL.out) ?_ ?_)
  · exact H.out.grown fun k hk => alloc_old w _ k hk
  · refine row_new ?_
    rw [uv_5 u h0 h1, uvg (u : Int) (by omega) (by omega), uvg ((u : Int) / 128) (by omega) (by omega), uvg ((u : Int) / 16384) (by omega) (by omega), uvg ((u : Int) / 2097152) (by omega) (by omega)]
    simp only [List.map_cons, List.map_nil, bv_ofNat]
    simp
    try omega
  · simp; omega
  · intro v' w' hown hg
    have H1 := Lib.hid hown
    have H2 := Lib.hid hg
    clear hown hg
    go_wp2
    go_ret
    exact ⟨v', rfl, H1.out, grownBy_trans (World.grownBy_alloc w _ _) H2.out⟩
theorem AppendUvarint_own (w : World) (base : Nat) (v : Value) (bs : List UInt8) (u : Nat) (h : OwnB w base v bs) (hb : base ≤ w.heap.size) (hu : u < 4294967296) (hl : bs.length + 5 ≤ lim) :
    Calls Tryd.prog 59 #[v, .int .u32 (u : Int)] w fun e w' => ∃ v', e = .returned v' ∧ OwnB w' base v' (bs ++ uv u) ∧ w.grownBy w' v.ownBlock := by
  by_cases h1 : u < 128
  · exact AppendUvarint_1 w base v bs u h hb (by omega) h1 (by omega)
  by_cases h2 : u < 16384
  · exact AppendUvarint_2 w base v bs u h hb (by omega) h2 (by omega)
  by_cases h3 : u < 2097152
  · exact AppendUvarint_3 w base v bs u h hb (by omega) h3 (by omega)
  by_cases h4 : u < 268435456
  · exact AppendUvarint_4 w base v bs u h hb (by omega) h4 (by omega)
  · exact AppendUvarint_5 w base v bs u h hb (by omega) hu (by omega)
theorem AppendUvarint_any (w : World) (base : Nat) (v : Value) (bs : List UInt8) (u : Nat) (h : OwnB w base v bs) (hb : base ≤ w.heap.size) (hu : u < 4294967296) (hl : bs.length + 5 ≤ lim) :
    Calls Tryd.prog 59 #[v, .int .u32 (u : Int)] w fun e w' => ∃ v', e = .returned v' ∧ OwnB w' base v' (bs ++ uv u) ∧ Below base w w' :=
  Calls.mono (AppendUvarint_own w base v bs u h hb hu hl) fun e w' ⟨v', h1, h2, hg⟩ => ⟨v', h1, h2, hg.os, hg.tape, hg.output, hg.size, fun k hk => hg.block k (by omega) (fun e => by have := h.base k e.symm; omega)⟩
end Go.Proofs.YtpknjenihcfhlaaDoor
/-
  kbin, writing: texts, octets, lengths. Conditions: none.
-/
namespace Go.Proofs.YtpknjenihcfhlaaDoor
open Go.RowKit (Below)
open Kz

theorem strCells_bv (s : List UInt8) : Lib.strCells ⟨s.toArray⟩ = s.map bv := by
  simp [Lib.strCells, bv]
theorem wpList_append_text {w : World} {ops : Array Oper} {rest : List Oper} {o : Oper} {a : Act} {Q : Exit → Act → World → Prop} (hgd : o.guard = none) (s x : Operand)
    (ho : o.op = .call { callee := .builtin .append, args := #[s, x], argTypes := #[22, 9] }) (base : Nat) (v : Value) (bs out : List UInt8) (hs : a.eval s = v) (hx : a.eval x = strV out) (h : OwnB w base v bs)
    (hl : bs.length + out.length ≤ lim) (hb : base ≤ w.heap.size) (hk : ∀ v' w', OwnB w' base v' (bs ++ out) → w.grownBy w' v.ownBlock → wpList Tryd.prog ops Q rest (a.put o.dst v') w') : wpList Tryd.prog ops Q (o :: rest) a w := by
  have hi : (Tryd.prog.info? 5).map (fun i => (i.zero, i.size, i.bytes)) = some (some (.int .u8 0), 1, 1) := by kernel_rfl
  obtain ⟨i, hi, hz, hsz, hby⟩ := info_parts hi
  simp only [lim] at hl
  have e : (⟨out.toArray⟩ : ByteArray).size = out.length := by simp [ByteArray.size]
  have hm1 : bs.length + (⟨out.toArray⟩ : ByteArray).size ≤ maxLen := by rw [e]; simp only [maxLen]; omega
  have hm2 : bs.length + (⟨out.toArray⟩ : ByteArray).size ≤ 140737488355328 := by rw [e]; omega
  refine Lib.wpList_append_own_string w hgd s x _ _ ho base 5 i Tryd.underlying22 Tryd.underlying9 hi hz hsz hby v bs.length (bs.map bv) hs h ⟨out.toArray⟩ hx hm1 hm2 hb ?_
  intro v' w' h2 h3 _
  refine hk v' w' ?_ h3
  unfold OwnB
  rw [List.length_append, List.map_append, ← strCells_bv, ← e]
  exact h2
theorem wpList_append_octets {w : World} {ops : Array Oper} {rest : List Oper} {o : Oper} {a : Act} {Q : Exit → Act → World → Prop} (hgd : o.guard = none) (s x : Operand)
    (ho : o.op = .call { callee := .builtin .append, args := #[s, x], argTypes := #[22, 22] }) (base : Nat) (v u : Value) (bs out : List UInt8) (K : Nat → Prop) (hs : a.eval s = v) (hx : a.eval x = u) (h : OwnB w base v bs) (hu : BytesAt w K u out)
    (hl : bs.length + out.length ≤ lim) (hb : base ≤ w.heap.size) (hk : ∀ v' w', OwnB w' base v' (bs ++ out) → w.grownBy w' v.ownBlock → wpList Tryd.prog ops Q rest (a.put o.dst v') w') : wpList Tryd.prog ops Q (o :: rest) a w := by
  rcases hu with ⟨rfl, rfl⟩ | ⟨g, off, c, rfl, -, -, -, -, hc⟩
  · have hi : (Tryd.prog.info? 5).map (fun i => (i.zero, i.size, i.bytes)) = some (some (.int .u8 0), 1, 1) := by kernel_rfl
    obtain ⟨i, hi, hz, hsz, hby⟩ := info_parts hi
    exact wpList_append_own_none hgd s x _ ho base 5 i 1 Tryd.underlying22 hi v _ _ hs h hx (hk v w (by rw [List.append_nil]; exact h) (grownBy_refl _ _))
  · exact wpList_append_bytes hgd s x ho base v bs out g off _ c hs hx h rfl hc hl hb hk
theorem below_grow {w w' : World} {base : Nat} {v : Value} {bs : List UInt8} (h : OwnB w base v bs) (hbase : base ≤ w.heap.size) (hg : w.grownBy w' v.ownBlock) : Below base w w' :=
  below_own h (fun _ _ => rfl) rfl rfl rfl (Nat.le_refl _) hbase hg
theorem below_size {w w' : World} {B : Nat} (h : Below B w w') (hb : B ≤ w.heap.size) : B ≤ w'.heap.size := Nat.le_trans hb h.size
/-- How long what is written may get, with what is counted ahead. -/
def lim2 : Nat := 1000000000000

theorem wrap_i16 (n : Int) : IntKind.i16.wrap n = (n + 32768) % 65536 - 32768 := by
  simp [IntKind.wrap, IntKind.bits, IntKind.signed]
  split <;> omega
theorem BytesAt.below {w w' : World} {K : Nat → Prop} {x : Value} {s : List UInt8} {B : Nat} (h : BytesAt w K x s) (hb : Below B w w') (hK : ∀ g, K g → g < B) : BytesAt w' K x s :=
  stable_bytes (fun _ hg _ => hb.block _ (hK _ hg)) hb.size (fun _ hg => hg) h

theorem AppendString_any (w : World) (base : Nat) (v : Value) (bs : List UInt8) (s : List UInt8) (h : OwnB w base v bs) (hb : base ≤ w.heap.size) (hs : s.length < 32768) (hl : bs.length + (fixed (s.length : Int) 2 ++ s).length ≤ lim2) :
    Calls Tryd.prog 65 #[v, strV s] w fun e w' => ∃ v', e = .returned v' ∧ OwnB w' base v' (bs ++ (fixed (s.length : Int) 2 ++ s)) ∧ Below base w w' := by
  rw [List.length_append] at hl
  have hl5 : bs.length + 2 ≤ lim := by simp only [lim, lim2] at hl ⊢; omega
  have hl6 : (bs ++ fixed (s.length : Int) 2).length + s.length ≤ lim := by rw [List.length_append]; simp only [lim, lim2] at hl ⊢; omega
  obtain ⟨fn, hfn, hbo, hnn⟩ := hasBody_ok (P := Tryd.prog) (f := 56) (by kernel_rfl)
  refine enter2 (res := 4) Tryd.func65 rfl (by rw [Tryd.ntmps65]; decide) (by kernel_rfl) fun a hsz hd s0 s1 => ?_
  have hN := hsz.trans Tryd.ntmps65
  refine wp_seq (reg_const (by omega) fun a1 u1 _ => ?_)
  have N1 := u1.size.trans hN
  have q0 : sl a1 0 = v := (u1.same 0 (by decide)).trans s0
  have q1 : sl a1 1 = strV s := (u1.same 1 (by decide)).trans s1
  refine wp_seq (reg_len_call hfn hbo hnn (k' := .i16) (u := (s.length : Int)) (m := (s.length : Int)) Tryd.underlying3 Tryd.underlying29 (by rw [wrap_i16]; omega) (by rw [N1]; rfl) (by rfl) (fun ρ hρ => exec_len_str Tryd.underlying9 (by rw [hρ, q1]) (by simp [ByteArray.size])) ?_)
  rw [q0]
  refine Calls.mono (AppendInt16_any w base v bs (s.length : Int) h hb hl5) ?_
  rintro e w1 ⟨w1v, rfl, hown, hbel⟩
  refine ⟨w1v, rfl, fun a2 u2 q2 => ?_⟩
  have N2 := u2.size.trans N1
  have q3 : sl a2 1 = strV s := (u2.same 1 (by decide)).trans q1
  refine wp_seq (reg_append2 (by rw [N2]; rfl) (by rfl) fun ops rest a3 hx1 hy1 hk => ?_)
  refine wpList_append_text rfl _ _ rfl base w1v (bs ++ fixed (s.length : Int) 2) s (by rw [eval_tmp, hx1, q2]) (by rw [eval_tmp, hy1, q3]) hown hl6 (below_size hbel hb) fun v' w' ho hg => hk v' w' fun a' u' s' => ?_
  refine wp_ret ⟨rfl, u'.defers.trans (u2.defers.trans (u1.defers.trans hd)), v', by rw [s'], by rw [← List.append_assoc]; exact ho, hbel.trans (below_grow hown (below_size hbel hb) hg)⟩
theorem AppendCompactString_any (w : World) (base : Nat) (v : Value) (bs : List UInt8) (s : List UInt8) (h : OwnB w base v bs) (hb : base ≤ w.heap.size) (hs : s.length < 4294967295) (hl : bs.length + (uv (s.length + 1) ++ s).length ≤ lim2) :
    Calls Tryd.prog 64 #[v, strV s] w fun e w' => ∃ v', e = .returned v' ∧ OwnB w' base v' (bs ++ (uv (s.length + 1) ++ s)) ∧ Below base w w' := by
  rw [List.length_append] at hl
  have hl5 : bs.length + 5 ≤ lim := by simp only [lim, lim2] at hl ⊢; omega
  have hl6 : (bs ++ uv (s.length + 1)).length + s.length ≤ lim := by rw [List.length_append]; simp only [lim, lim2] at hl ⊢; omega
  obtain ⟨fn, hfn, hbo, hnn⟩ := hasBody_ok (P := Tryd.prog) (f := 59) (by kernel_rfl)
  refine enter2 (res := 4) Tryd.func64 rfl (by rw [Tryd.ntmps64]; decide) (by kernel_rfl) fun a hsz hd s0 s1 => ?_
  have hN := hsz.trans Tryd.ntmps64
  refine wp_seq (reg_const (by omega) fun a1 u1 _ => ?_)
  have N1 := u1.size.trans hN
  have q0 : sl a1 0 = v := (u1.same 0 (by decide)).trans s0
  have q1 : sl a1 1 = strV s := (u1.same 1 (by decide)).trans s1
  refine wp_seq (reg_len1_call hfn hbo hnn (k' := .u32) (u := (s.length : Int)) (m := (s.length : Int)) (m2 := ((s.length + 1 : Nat) : Int)) Tryd.underlying3 Tryd.underlying59 (by rw [IntKind.wrap_u32]; omega) (by rw [IntKind.wrap_u32]; omega) (by rw [N1]; rfl) (by rfl) (fun ρ hρ => exec_len_str Tryd.underlying9 (by rw [hρ, q1]) (by simp [ByteArray.size])) ?_)
  rw [q0]
  refine Calls.mono (AppendUvarint_any w base v bs (s.length + 1) h hb (by omega) hl5) ?_
  rintro e w1 ⟨w1v, rfl, hown, hbel⟩
  refine ⟨w1v, rfl, fun a2 u2 q2 => ?_⟩
  have N2 := u2.size.trans N1
  have q3 : sl a2 1 = strV s := (u2.same 1 (by decide)).trans q1
  refine wp_seq (reg_append2 (by rw [N2]; rfl) (by rfl) fun ops rest a3 hx1 hy1 hk => ?_)
  refine wpList_append_text rfl _ _ rfl base w1v (bs ++ uv (s.length + 1)) s (by rw [eval_tmp, hx1, q2]) (by rw [eval_tmp, hy1, q3]) hown hl6 (below_size hbel hb) fun v' w' ho hg => hk v' w' fun a' u' s' => ?_
  refine wp_ret ⟨rfl, u'.defers.trans (u2.defers.trans (u1.defers.trans hd)), v', by rw [s'], by rw [← List.append_assoc]; exact ho, hbel.trans (below_grow hown (below_size hbel hb) hg)⟩
end Go.Proofs.YtpknjenihcfhlaaDoor
/-
  kbin, writing: what may be null; lengths. Conditions: none.
-/
namespace Go.Proofs.YtpknjenihcfhlaaDoor
open Go.RowKit (Below)
open Kz

set_option maxRecDepth 8000 in
set_option maxHeartbeats 400000 in
theorem AppendNullableString_nil (w : World) (base : Nat) (v : Value) (bs : List UInt8) (h : OwnB w base v bs) (hb : base ≤ w.heap.size) (hl : bs.length + 5 ≤ lim) :
    Calls Tryd.prog 58 #[v, .pointer none] w fun e w' => ∃ v', e = .returned v' ∧ OwnB w' base v' (bs ++ fixed (-1) 2) ∧ Below base w w' := by
  have hc := AppendInt16_any w base v bs (-1) h hb (by omega)
  have HC := Lib.hid hc
  clear hc h hl hb
  go_enter Tryd.func58, Tryd.ntmps58
  go_wp2_with fail
  refine HC.out.mono ?_
  rintro e w1 ⟨v1, rfl, hown, hbel⟩
  have H1 := Lib.hid hown
  have H2 := Lib.hid hbel
  clear hown hbel HC
  go_wp2
  go_ret
  exact ⟨v1, rfl, H1.out, H2.out⟩
set_option maxRecDepth 8000 in
set_option maxHeartbeats 400000 in
theorem AppendNullableString_some (w : World) (base : Nat) (v : Value) (bs s : List UInt8) (g o : Nat) (hc : w.cell? ⟨g, o, none⟩ = some (strV s)) (h : OwnB w base v bs) (hb : base ≤ w.heap.size) (hs : s.length < 32768) (hl : bs.length + (fixed (s.length : Int) 2 ++ s).length ≤ lim2) :
    Calls Tryd.prog 58 #[v, .pointer (some ⟨g, o, none⟩)] w fun e w' => ∃ v', e = .returned v' ∧ OwnB w' base v' (bs ++ (fixed (s.length : Int) 2 ++ s)) ∧ Below base w w' := by
  have hcall := AppendString_any w base v bs s h hb hs hl
  have HC := Lib.hid hcall
  clear hcall h hl hb hs
  go_enter Tryd.func58, Tryd.ntmps58
  go_wp2_with fail
  refine HC.out.mono ?_
  rintro e w1 ⟨v1, rfl, hown, hbel⟩
  have H1 := Lib.hid hown
  have H2 := Lib.hid hbel
  clear hown hbel HC
  go_wp2
  go_ret
  exact ⟨v1, rfl, H1.out, H2.out⟩
set_option maxRecDepth 8000 in
set_option maxHeartbeats 400000 in
theorem AppendCompactNullableString_nil (w : World) (base : Nat) (v : Value) (bs : List UInt8) (h : OwnB w base v bs) (hb : base ≤ w.heap.size) (hl : bs.length + 5 ≤ lim) :
    Calls Tryd.prog 57 #[v, .pointer none] w fun e w' => ∃ v', e = .returned v' ∧ OwnB w' base v' (bs ++ uv 0) ∧ Below base w w' := by
  have hc := AppendUvarint_any w base v bs 0 h hb (by decide) hl
  have HC := Lib.hid hc
  clear hc h hl hb
  go_enter Tryd.func57, Tryd.ntmps57
  go_wp2_with fail
  refine HC.out.mono ?_
  rintro e w1 ⟨v1, rfl, hown, hbel⟩
  have H1 := Lib.hid hown
  have H2 := Lib.hid hbel
  clear hown hbel HC
  go_wp2
  go_ret
  exact ⟨v1, rfl, H1.out, H2.out⟩
set_option maxRecDepth 8000 in
set_option maxHeartbeats 400000 in
theorem AppendCompactNullableString_some (w : World) (base : Nat) (v : Value) (bs s : List UInt8) (g o : Nat) (hc : w.cell? ⟨g, o, none⟩ = some (strV s)) (h : OwnB w base v bs) (hb : base ≤ w.heap.size) (hs : s.length < 4294967295) (hl : bs.length + (uv (s.length + 1) ++ s).length ≤ lim2) :
    Calls Tryd.prog 57 #[v, .pointer (some ⟨g, o, none⟩)] w fun e w' => ∃ v', e = .returned v' ∧ OwnB w' base v' (bs ++ (uv (s.length + 1) ++ s)) ∧ Below base w w' := by
  have hcall := AppendCompactString_any w base v bs s h hb hs hl
  have HC := Lib.hid hcall
  clear hcall h hl hb hs
  go_enter Tryd.func57, Tryd.ntmps57
  go_wp2_with fail
  refine HC.out.mono ?_
  rintro e w1 ⟨v1, rfl, hown, hbel⟩
  have H1 := Lib.hid hown
  have H2 := Lib.hid hbel
  clear hown hbel HC
  go_wp2
  go_ret
  exact ⟨v1, rfl, H1.out, H2.out⟩
set_option maxRecDepth 8000 in
set_option maxHeartbeats 400000 in
theorem AppendArrayLen_any (w : World) (base : Nat) (v : Value) (bs : List UInt8) (n : Nat) (h : OwnB w base v bs) (hb : base ≤ w.heap.size) (hn : n < 2147483647) (hl : bs.length + 5 ≤ lim) :
    Calls Tryd.prog 74 #[v, .int .i64 (n : Int)] w fun e w' => ∃ v', e = .returned v' ∧ OwnB w' base v' (bs ++ fixed (n : Int) 4) ∧ Below base w w' := by
  have hc := AppendInt32_any w base v bs (n : Int) h hb (by omega)
  have HC := Lib.hid hc
  have e1 : IntKind.i32.wrap (n : Int) = (n : Int) := by rw [IntKind.wrap_i32]; omega
  have e2 : IntKind.u32.wrap (n : Int) = (n : Int) := by rw [IntKind.wrap_u32]; omega
  have e3 : IntKind.u32.wrap (1 + (n : Int)) = ((n + 1 : Nat) : Int) := by rw [IntKind.wrap_u32]; omega
  clear hc h hl hb hn
  go_enter Tryd.func74, Tryd.ntmps74
  go_wp2_with fail
  refine HC.out.mono ?_
  rintro e w1 ⟨v1, rfl, hown, hbel⟩
  have H1 := Lib.hid hown
  have H2 := Lib.hid hbel
  clear hown hbel HC
  go_wp2
  go_ret
  exact ⟨v1, rfl, H1.out, H2.out⟩
set_option maxRecDepth 8000 in
set_option maxHeartbeats 400000 in
theorem AppendCompactArrayLen_any (w : World) (base : Nat) (v : Value) (bs : List UInt8) (n : Nat) (h : OwnB w base v bs) (hb : base ≤ w.heap.size) (hn : n < 2147483647) (hl : bs.length + 5 ≤ lim) :
    Calls Tryd.prog 73 #[v, .int .i64 (n : Int)] w fun e w' => ∃ v', e = .returned v' ∧ OwnB w' base v' (bs ++ uv (n + 1)) ∧ Below base w w' := by
  have hc := AppendUvarint_any w base v bs (n + 1) h hb (by omega) hl
  have HC := Lib.hid hc
  have e1 : IntKind.i32.wrap (n : Int) = (n : Int) := by rw [IntKind.wrap_i32]; omega
  have e2 : IntKind.u32.wrap (n : Int) = (n : Int) := by rw [IntKind.wrap_u32]; omega
  have e3 : IntKind.u32.wrap (1 + (n : Int)) = ((n + 1 : Nat) : Int) := by rw [IntKind.wrap_u32]; omega
  clear hc h hl hb hn
  go_enter Tryd.func73, Tryd.ntmps73
  go_wp2_with fail
  refine HC.out.mono ?_
  rintro e w1 ⟨v1, rfl, hown, hbel⟩
  have H1 := Lib.hid hown
  have H2 := Lib.hid hbel
  clear hown hbel HC
  go_wp2
  go_ret
  exact ⟨v1, rfl, H1.out, H2.out⟩
end Go.Proofs.YtpknjenihcfhlaaDoor
/-
  Code that writes: pieces one behind the other, under a condition; a value's octets. Conditions: none.
-/
namespace Go.Proofs.YtpknjenihcfhlaaDoor
open Go.RowKit (Below)
open Kz

/-- The slots of a function that writes: how many, what is written to, the version, whether it is flexible. -/
structure WE where
  N : Nat
  ds : Nat
  vs : Nat
  fs : Option Nat
def WE.slots (E : WE) : List Nat := E.vs :: E.fs.toList

structure FrW (E : WE) (v : Int) (flex : Bool) (a : Act) : Prop where
  size : a.tmps.size = E.N
  defers : a.defers = []
  vs : sl a E.vs = .int .i16 v
  fs : ∀ t, E.fs = some t → sl a t = .bool flex
theorem FrW.upd {E : WE} {v : Int} {flex : Bool} {a a' : Act} {W : List Nat} (h : FrW E v flex a) (hu : Upd a a' W) (hc : ∀ t ∈ E.slots, t ∉ W) : FrW E v flex a' where
  size := hu.size.trans h.size
  defers := hu.defers.trans h.defers
  vs := (hu.same _ (hc _ (by simp [WE.slots]))).trans h.vs
  fs := fun t ht => (hu.same _ (hc _ (by simp [WE.slots, ht]))).trans (h.fs t ht)

/-- Behind a code that writes. -/
def PostA (E : WE) (W : List Nat) (base : Nat) (bs : List UInt8) (a : Act) (w : World) : Exit → Act → World → Prop
  | .normal, a', w' => Upd a a' W ∧ Below base w w' ∧ OwnB w' base (sl a' E.ds) bs
  | _, _, _ => False
/-- What holds ahead of it. -/
structure PreA (E : WE) (v : Int) (flex : Bool) (base : Nat) (K : Nat → Prop) (bs : List UInt8) (a : Act) (w : World) : Prop where
  fr : FrW E v flex a
  le : base ≤ w.heap.size
  kb : ∀ g, K g → g < base
  own : OwnB w base (sl a E.ds) bs
/-- A code that writes a value that lies in a struct. -/
def Ap {α : Type} (E : WE) (v : Int) (flex : Bool) (sp off : Nat) (wrt : α → List UInt8) (R : Rel α) (c : Code) : Prop :=
  ∀ (base : Nat) (K : Nat → Prop) (bs : List UInt8) (a : Act) (w : World) (cb co : Nat) (x : α), PreA E v flex base K bs a w → sl a sp = .pointer (some ⟨cb, co, none⟩) → cb < base → R w K (fun j => w.cell? ⟨cb, co + off + j, none⟩) x →
    bs.length + (wrt x).length ≤ lim2 → c.wp Tryd.prog (PostA E (writes c) base (bs ++ wrt x) a w) a w
/-- A code that writes a value that a slot holds. -/
def Av {α : Type} (E : WE) (v : Int) (flex : Bool) (d : Nat) (wrt : α → List UInt8) (Arg : World → (Nat → Prop) → Value → α → Prop) (c : Code) : Prop :=
  ∀ (base : Nat) (K : Nat → Prop) (bs : List UInt8) (a : Act) (w : World) (x : α), PreA E v flex base K bs a w → Arg w K (sl a d) x → bs.length + (wrt x).length ≤ lim2 → c.wp Tryd.prog (PostA E (writes c) base (bs ++ wrt x) a w) a w
/-- A function that writes. -/
def Writes {α : Type} (f : Nat) (wrt : α → List UInt8) (Arg : World → (Nat → Prop) → Value → α → Prop) : Prop :=
  hasBody Tryd.prog f = true ∧ ∀ (base : Nat) (K : Nat → Prop) (bs : List UInt8) (w : World) (v u : Value) (x : α), OwnB w base v bs → base ≤ w.heap.size → (∀ g, K g → g < base) → Arg w K u x → bs.length + (wrt x).length ≤ lim2 →
    Calls Tryd.prog f #[v, u] w fun e w' => ∃ v', e = .returned v' ∧ OwnB w' base v' (bs ++ wrt x) ∧ Below base w w'

theorem below_cell {w w' : World} {B g i : Nat} (h : Below B w w') (hg : g < B) : w'.cell? ⟨g, i, none⟩ = w.cell? ⟨g, i, none⟩ := cell_kept (h.block g hg)

section
variable {E : WE} {v : Int} {flex : Bool}

theorem PreA.next {base : Nat} {K : Nat → Prop} {bs bs' : List UInt8} {a a' : Act} {w w' : World} {W : List Nat} (h : PreA E v flex base K bs a w) (hu : Upd a a' W) (hc : ∀ t ∈ E.slots, t ∉ W) (hb : Below base w w') (ho : OwnB w' base (sl a' E.ds) bs') : PreA E v flex base K bs' a' w' :=
  ⟨h.fr.upd hu hc, below_size hb h.le, h.kb, ho⟩
theorem PostA.mono {W W' : List Nat} {base : Nat} {bs : List UInt8} {a : Act} {w : World} (h : ∀ t ∈ W, t ∈ W') (e : Exit) (a' : Act) (w' : World) (hq : PostA E W base bs a w e a' w') : PostA E W' base bs a w e a' w' := by
  cases e with
  | normal => exact ⟨hq.1.mono h, hq.2⟩
  | _ => exact hq
/-- Behind another step. -/
theorem PostA.after {W W1 W2 : List Nat} {base : Nat} {bs : List UInt8} {a a1 : Act} {w w1 : World} (hu : Upd a a1 W1) (hb : Below base w w1) (h1 : ∀ t ∈ W1, t ∈ W) (h2 : ∀ t ∈ W2, t ∈ W) (e : Exit) (a' : Act) (w' : World) (hq : PostA E W2 base bs a1 w1 e a' w') : PostA E W base bs a w e a' w' := by
  cases e with
  | normal => exact ⟨(hu.mono h1).trans (hq.1.mono h2), hb.trans hq.2.1, hq.2.2⟩
  | _ => exact hq

theorem Ap.conv {α β : Type} {sp off : Nat} {wrt : α → List UInt8} {wrt' : β → List UInt8} {R : Rel α} {R' : Rel β} {c : Code} (h : Ap E v flex sp off wrt R c) (k : β → α) (hR : ∀ w K cc x, R' w K cc x → R w K cc (k x)) (hw : ∀ w K cc x, R' w K cc x → wrt' x = wrt (k x)) : Ap E v flex sp off wrt' R' c := by
  intro base K bs a w cb co x hp hsp hcb hr hl
  rw [hw _ _ _ _ hr] at hl ⊢
  exact h base K bs a w cb co (k x) hp hsp hcb (hR _ _ _ _ hr) hl

/-- Two pieces, of neighbouring cells. -/
theorem Ap.seq {α β : Type} {sp off n1 n2 : Nat} {w1 : α → List UInt8} {w2 : β → List UInt8} {R1 : Rel α} {R2 : Rel β} {c1 c2 : Code} (h1 : Ap E v flex sp off w1 R1 c1) (h2 : Ap E v flex sp (off + n1) w2 R2 c2) (hcl : clear (sp :: E.slots) c1 = true) (hst : Stable n2 R2) :
    Ap E v flex sp off (fun x : α × β => w1 x.1 ++ w2 x.2) (fun w K c x => R1 w K c x.1 ∧ R2 w K (fun j => c (n1 + j)) x.2) (c1.seq c2) := by
  intro base K bs a w cb co x hp hsp hcb hr hl
  have hcl' := clear_iff hcl
  rw [List.length_append] at hl
  refine wp_seq (wp_mono (h1 base K bs a w cb co x.1 hp hsp hcb hr.1 (by omega)) ?_)
  intro e a1 w1' hq
  cases e with
  | normal =>
    obtain ⟨hu, hb, ho⟩ := hq
    have hsp1 : sl a1 sp = .pointer (some ⟨cb, co, none⟩) := (hu.same _ (hcl' _ (by simp))).trans hsp
    have hr2 : R2 w1' K (fun j => w1'.cell? ⟨cb, co + (off + n1) + j, none⟩) x.2 := by
      refine hst w w1' K K _ _ _ (fun g hg _ => hb.block g (hp.kb g hg)) hb.size (fun g hg => hg) (fun j _ => ?_) hr.2
      rw [below_cell hb hcb, show co + (off + n1) + j = co + off + (n1 + j) by omega]
    refine wp_mono (h2 base K _ a1 w1' cb co x.2 (hp.next hu (fun t ht => hcl' t (List.mem_cons_of_mem _ ht)) hb ho) hsp1 hcb hr2 (by rw [List.length_append]; omega)) ?_
    intro e a2 w2' hq2
    have := PostA.after (W := writes (c1.seq c2)) hu hb (fun t ht => List.mem_append_left _ ht) (fun t ht => List.mem_append_right _ ht) e a2 w2' hq2
    rw [List.append_assoc] at this
    exact this
  | _ => exact hq.elim

/-- A test. -/
def TestW (E : WE) (v : Int) (flex : Bool) (t : Nat) (q : Bool) (r : Code) : Prop :=
  clear (E.ds :: E.slots) r = true ∧ ∀ (a : Act) (w : World) (Q : Exit → Act → World → Prop), FrW E v flex a → (∀ a', Upd a a' (writes r) → sl a' t = .bool q → Q .normal a' w) → r.wp Tryd.prog Q a w
/-- A piece that is run if a test says so. -/
theorem Ap.guard {α : Type} {sp off t : Nat} {q : Bool} {wrt : α → List UInt8} {R : Rel α} {r c : Code} (hT : TestW E v flex t q r) (hsp : clear [sp] r = true) (h : q = true → Ap E v flex sp off wrt R c) :
    Ap E v flex sp off (fun x => if q then wrt x else []) (fun w K cc x => q = true → R w K cc x) (r.seq (Code.cond (.tmp t) c Code.skip)) := by
  intro base K bs a w cb co x hp hspv hcb hr hl
  have hcl := clear_iff hT.1
  have hsp' := clear_iff hsp
  refine wp_seq (hT.2 a w _ hp.fr fun a1 hu hs => ?_)
  have hp1 : PreA E v flex base K bs a1 w := hp.next hu (fun t ht => hcl t (List.mem_cons_of_mem _ ht)) (Below.refl _ _) (by rw [hu.same _ (hcl _ (by simp))]; exact hp.own)
  cases q with
  | true =>
    refine wp_cond_true (by rw [eval_tmp, hs]) (wp_mono (h rfl base K bs a1 w cb co x hp1 ((hu.same _ (hsp' _ (by simp))).trans hspv) hcb (hr rfl) (by simpa using hl)) ?_)
    intro e a2 w2 hq
    exact PostA.after hu (Below.refl _ _) (fun t ht => by simp only [writes, List.mem_append]; exact .inl ht) (fun t ht => by simp only [writes, List.mem_append]; exact .inr (.inl ht)) e a2 w2 hq
  | false =>
    refine wp_cond_false (by rw [eval_tmp, hs]) (wp_skip ?_)
    refine ⟨hu.mono (fun t ht => by simp only [writes, List.mem_append]; exact .inl ht), Below.refl _ _, ?_⟩
    simpa using hp1.own

/-- 'v := s.F', and what is written of it. -/
theorem Ap.load {α : Type} {sp off d : Nat} {wrt : α → List UInt8} {Arg : World → (Nat → Prop) → Value → α → Prop} {c1 c : Code} (h1 : SLoad E.N sp off d c1) (h : Av E v flex d wrt Arg c) (hcl : clear (E.ds :: E.slots) c1 = true) :
    Ap E v flex sp off wrt (fun w K cc x => ∃ u, cc 0 = some u ∧ Arg w K u x) (c1.seq c) := by
  intro base K bs a w cb co x hp hsp hcb ⟨u, hu0, hr⟩ hl
  have hcl' := clear_iff hcl
  refine wp_seq (h1 a w _ cb co u hp.fr.size hsp hu0 fun a1 hu hs => ?_)
  have hp1 : PreA E v flex base K bs a1 w := hp.next hu (fun t ht => hcl' t (List.mem_cons_of_mem _ ht)) (Below.refl _ _) (by rw [hu.same _ (hcl' _ (by simp))]; exact hp.own)
  refine wp_mono (h base K bs a1 w x hp1 (by rw [hs]; exact hr) hl) ?_
  intro e a2 w2 hq
  exact PostA.after hu (Below.refl _ _) (fun t ht => List.mem_append_left _ ht) (fun t ht => List.mem_append_right _ ht) e a2 w2 hq

/-- 'dst = f(dst, x)'. -/
theorem Av.call {α : Type} {id f d t1 t2 t3 : Nat} {tys : Array TypeId} {ty1 ty2 ty3 ty4 : TypeId} {p1 p2 p3 p4 : String} {e1 e2 e3 e4 : Array Edge} {wrt : α → List UInt8} {Arg : World → (Nat → Prop) → Value → α → Prop} (hf : Writes f wrt Arg) (hn : [t1, t2, t3, E.ds].all (· < E.N) = true)
    (hd : decide (t1 ≠ t2 ∧ t1 ≠ d) = true) :
    Av E v flex d wrt Arg (Code.region id #[⟨some t1, .move (.tmp E.ds), ty1, p1, e1, none⟩, ⟨some t2, .move (.tmp d), ty2, p2, e2, none⟩, ⟨some t3, .call { callee := .value (.func f), args := #[.tmp t1, .tmp t2], argTypes := tys }, ty3, p3, e3, none⟩, ⟨some E.ds, .assign (.tmp t3), ty4, p4, e4, none⟩] false) := by
  intro base K bs a w x hp hr hl
  have hsz := hp.fr.size
  simp only [List.all_cons, List.all_nil, Bool.and_true, Bool.and_eq_true, decide_eq_true_eq] at hn hd
  obtain ⟨fn, hfn, hb, hnn⟩ := hasBody_ok hf.1
  refine wp_region_lit (st_move (st_move (st_call2 hfn hb hnn ?_)))
  rw [eval_tmp, sl_put_other _ _ _ _ (fun e => hd.1 e.symm), sl_put_self _ _ _ (by omega), eval_tmp, eval_tmp, sl_put_self _ _ _ (by rw [put_size]; omega), eval_tmp, sl_put_other _ _ _ _ hd.2]
  refine Calls.mono (hf.2 base K bs w _ _ x hp.own hp.le hp.kb hr hl) ?_
  rintro e w' ⟨v', rfl, ho, hbel⟩
  refine ⟨v', rfl, st_assign (wpList_nil ⟨((((Upd.refl a _).put t1 _ (by simp [writes])).put t2 _ (by simp [writes])).put t3 _ (by simp [writes])).put E.ds _ (by simp [writes]), hbel, ?_⟩)⟩
  rw [sl_put_self _ _ _ (by simp only [put_size]; omega), eval_tmp, sl_put_self _ _ _ (by simp only [put_size]; omega)]
  exact ho
/-- 'if isFlexible { .. } else { .. }'. -/
theorem Av.flexG {α : Type} {id t fs d : Nat} {ty : TypeId} {p : String} {eg : Array Edge} {A B : Code} {Arg : World → (Nat → Prop) → Value → α → Prop} (gt : Bool → α → List UInt8) (hfs : E.fs = some fs) (ht : decide (t < E.N) = true) (hnt : (d :: E.ds :: E.slots).contains t = false)
    (hA : Av E v flex d (gt true) Arg A) (hB : Av E v flex d (gt false) Arg B) :
    Av E v flex d (gt flex) Arg ((Code.region id #[⟨some t, .move (.tmp fs), ty, p, eg, none⟩] false).seq (Code.cond (.tmp t) A B)) := by
  intro base K bs a w x hp hr hl
  have hnt' : ∀ s ∈ d :: E.ds :: E.slots, s ∉ [t] := by
    intro s hs
    simp only [List.mem_singleton]
    rintro rfl
    rw [List.contains_eq_mem, decide_eq_false_iff_not] at hnt
    exact hnt hs
  refine wp_seq (reg_move (by rw [hp.fr.size]; exact of_decide_eq_true ht) fun a1 hu hs => ?_)
  have hp1 : PreA E v flex base K bs a1 w := hp.next hu (fun t ht => hnt' t (by simp [ht])) (Below.refl _ _) (by rw [hu.same _ (hnt' _ (by simp))]; exact hp.own)
  have hb : a1.eval (.tmp t) = .bool flex := by rw [eval_tmp, hs, hp.fr.fs _ hfs]
  have hr1 : Arg w K (sl a1 d) x := by rw [hu.same _ (hnt' _ (by simp))]; exact hr
  cases flex with
  | true =>
    refine wp_cond_true hb (wp_mono (hA base K bs a1 w x hp1 hr1 hl) ?_)
    intro e a2 w2 hq
    exact PostA.after hu (Below.refl _ _) (fun t ht => by simp only [writes, List.mem_append]; exact .inl (by simpa [writes] using ht)) (fun t ht => by simp only [writes, List.mem_append]; exact .inr (.inl ht)) e a2 w2 hq
  | false =>
    refine wp_cond_false hb (wp_mono (hB base K bs a1 w x hp1 hr1 hl) ?_)
    intro e a2 w2 hq
    exact PostA.after hu (Below.refl _ _) (fun t ht => by simp only [writes, List.mem_append]; exact .inl (by simpa [writes] using ht)) (fun t ht => by simp only [writes, List.mem_append]; exact .inr (.inr ht)) e a2 w2 hq
end
end Go.Proofs.YtpknjenihcfhlaaDoor
/-
  Code that writes: tests, fields, the fields of a part. Conditions: none.
-/
namespace Go.Proofs.YtpknjenihcfhlaaDoor
open Go.RowKit (Below)
open Kz

section
variable {E : WE} {v : Int} {flex : Bool}

theorem testW_geq {id t1 t2 : Nat} {k : Int} {T T' ty1 ty2 : TypeId} {p1 p2 : String} {e1 e2 : Array Edge} (hn : [t1, t2].all (· < E.N) = true) (hcl : clear (E.ds :: E.slots) (Code.region id #[⟨some t1, .move (.tmp E.vs), ty1, p1, e1, none⟩, ⟨some t2, .binOp .geq T (.tmp t1) (.const (.int .i16 k)) T', ty2, p2, e2, none⟩] false) = true) :
    TestW E v flex t2 (decide (k ≤ v)) (Code.region id #[⟨some t1, .move (.tmp E.vs), ty1, p1, e1, none⟩, ⟨some t2, .binOp .geq T (.tmp t1) (.const (.int .i16 k)) T', ty2, p2, e2, none⟩] false) := by
  refine ⟨hcl, fun a w Q hf hq => ?_⟩
  simp only [List.all_cons, List.all_nil, Bool.and_true, Bool.and_eq_true, decide_eq_true_eq] at hn
  exact reg_cmp (r := decide (k ≤ v)) (by rw [hf.size]; exact hn.1) (by rw [hf.size]; exact hn.2) (fun y z => eqGuard_geq ..) (by rw [hf.vs]; exact binOp_geq ..) hq
theorem testW_leq {id t1 t2 : Nat} {k : Int} {T T' ty1 ty2 : TypeId} {p1 p2 : String} {e1 e2 : Array Edge} (hn : [t1, t2].all (· < E.N) = true) (hcl : clear (E.ds :: E.slots) (Code.region id #[⟨some t1, .move (.tmp E.vs), ty1, p1, e1, none⟩, ⟨some t2, .binOp .leq T (.tmp t1) (.const (.int .i16 k)) T', ty2, p2, e2, none⟩] false) = true) :
    TestW E v flex t2 (decide (v ≤ k)) (Code.region id #[⟨some t1, .move (.tmp E.vs), ty1, p1, e1, none⟩, ⟨some t2, .binOp .leq T (.tmp t1) (.const (.int .i16 k)) T', ty2, p2, e2, none⟩] false) := by
  refine ⟨hcl, fun a w Q hf hq => ?_⟩
  simp only [List.all_cons, List.all_nil, Bool.and_true, Bool.and_eq_true, decide_eq_true_eq] at hn
  exact reg_cmp (r := decide (v ≤ k)) (by rw [hf.size]; exact hn.1) (by rw [hf.size]; exact hn.2) (fun y z => eqGuard_leq ..) (by rw [hf.vs]; exact binOp_leq ..) hq
theorem testW_lss {id t1 t2 : Nat} {k : Int} {T T' ty1 ty2 : TypeId} {p1 p2 : String} {e1 e2 : Array Edge} (hn : [t1, t2].all (· < E.N) = true) (hcl : clear (E.ds :: E.slots) (Code.region id #[⟨some t1, .move (.tmp E.vs), ty1, p1, e1, none⟩, ⟨some t2, .binOp .lss T (.tmp t1) (.const (.int .i16 k)) T', ty2, p2, e2, none⟩] false) = true) :
    TestW E v flex t2 (decide (v < k)) (Code.region id #[⟨some t1, .move (.tmp E.vs), ty1, p1, e1, none⟩, ⟨some t2, .binOp .lss T (.tmp t1) (.const (.int .i16 k)) T', ty2, p2, e2, none⟩] false) := by
  refine ⟨hcl, fun a w Q hf hq => ?_⟩
  simp only [List.all_cons, List.all_nil, Bool.and_true, Bool.and_eq_true, decide_eq_true_eq] at hn
  exact reg_cmp (r := decide (v < k)) (by rw [hf.size]; exact hn.1) (by rw [hf.size]; exact hn.2) (fun y z => eqGuard_lss ..) (by rw [hf.vs]; exact binOp_lss ..) hq
theorem testW_range {id t1 t2 t3 t4 t5 t6 : Nat} {lo hi : Int} {T1 T1' T2 T2' ty1 ty2 ty3 ty4 ty5 ty6 : TypeId} {p1 p2 p3 p4 p5 p6 : String} {e1 e2 e3 e4 e5 e6 : Array Edge}
    (hn : [t1, t2, t3, t4, t5, t6].all (· < E.N) = true) (hd : decide ([E.vs, t1, t2, t3, t4, t5, t6].Nodup) = true) (hcl : clear (E.ds :: E.slots) (Code.region id #[⟨some t1, .move (.tmp E.vs), ty1, p1, e1, none⟩, ⟨some t2, .binOp .geq T1 (.tmp t1) (.const (.int .i16 lo)) T1', ty2, p2, e2, none⟩, ⟨some t3, .move (.tmp t2), ty3, p3, e3, none⟩,
      ⟨some t4, .move (.tmp E.vs), ty4, p4, e4, some (2, true)⟩, ⟨some t5, .binOp .leq T2 (.tmp t4) (.const (.int .i16 hi)) T2', ty5, p5, e5, some (2, true)⟩, ⟨some t6, .pick (.tmp t3) (.tmp t5) (.const (.bool false)), ty6, p6, e6, none⟩] false) = true) :
    TestW E v flex t6 (decide (lo ≤ v) && decide (v ≤ hi)) (Code.region id #[⟨some t1, .move (.tmp E.vs), ty1, p1, e1, none⟩, ⟨some t2, .binOp .geq T1 (.tmp t1) (.const (.int .i16 lo)) T1', ty2, p2, e2, none⟩, ⟨some t3, .move (.tmp t2), ty3, p3, e3, none⟩,
      ⟨some t4, .move (.tmp E.vs), ty4, p4, e4, some (2, true)⟩, ⟨some t5, .binOp .leq T2 (.tmp t4) (.const (.int .i16 hi)) T2', ty5, p5, e5, some (2, true)⟩, ⟨some t6, .pick (.tmp t3) (.tmp t5) (.const (.bool false)), ty6, p6, e6, none⟩] false) := by
  refine ⟨hcl, fun a w Q hf hq => ?_⟩
  simp only [List.all_cons, List.all_nil, Bool.and_true, Bool.and_eq_true, decide_eq_true_eq] at hn
  obtain ⟨n1, n2, n3, n4, n5, n6⟩ := hn
  have hsz := hf.size
  exact reg_range (by omega) (by omega) (by omega) (by omega) (by omega) (by omega) (of_decide_eq_true hd) hf.vs hq
theorem testW_flex {id t fs : Nat} {ty1 : TypeId} {p1 : String} {e1 : Array Edge} (hfs : E.fs = some fs) (hn : [t].all (· < E.N) = true) (hcl : clear (E.ds :: E.slots) (Code.region id #[⟨some t, .move (.tmp fs), ty1, p1, e1, none⟩] false) = true) :
    TestW E v flex t flex (Code.region id #[⟨some t, .move (.tmp fs), ty1, p1, e1, none⟩] false) := by
  refine ⟨hcl, fun a w Q hf hq => ?_⟩
  simp only [List.all_cons, List.all_nil, Bool.and_true, decide_eq_true_eq] at hn
  exact reg_move (by rw [hf.size]; exact hn) fun a' hu hs => hq a' hu (by rw [hs, hf.fs _ hfs])
end

/-! ## Fields -/
section
variable (tags : Rel (List (Nat × List UInt8))) (E : WE) (v : Int) (flex ht : Bool)
def ApV (sp off : Nat) (f : F) (c : Code) : Prop := Ap E v flex sp off (wr v flex f) (fun w K cc t => repF tags v flex ht f w K cc t ∧ Fit t) c
def ApF (sp off : Nat) (f : F) (c : Code) : Prop := Ap E v flex sp off (fun t => if f.tag < 0 ∧ f.has v = true then wr v flex f t else []) (fun w K cc t => (f.on v flex = true → repF tags v flex ht f w K cc t) ∧ Fit t) c
def ApFs (sp off : Nat) (fs : List F) (c : Code) : Prop := Ap E v flex sp off (plainW v fs (wrs v flex fs)) (fun w K cc ts => plainRep v flex ht fs (repFs tags v flex ht fs) w K cc ts ∧ ∀ t ∈ ts, Fit t) c
/-- Fields, and the tags behind them. -/
def ApTl (sp off : Nat) (fs : List F) (c : Code) : Prop := Ap E v flex sp off (fun x : List T × List (Nat × List UInt8) => plainW v fs (wrs v flex fs) x.1 ++ if flex then tagsB x.2 else [])
    (fun w K cc x => (plainRep v flex ht fs (repFs tags v flex ht fs) w K cc x.1 ∧ ∀ t ∈ x.1, Fit t) ∧ (flex = true → tags w K (fun j => cc (cellsFs ht fs + j)) x.2) ∧ x.2.length ≤ most ∧ ∀ y ∈ x.2, y.1 < 4294967296 ∧ y.2.length ≤ most) c
def ApP (sp off : Nat) (fs : List F) (c : Code) : Prop := Ap E v flex sp off (Kz.part v flex fs) (fun w K cc t => repP tags v flex ht fs w K cc t ∧ Fit t) c
end

section
variable {tags : Rel (List (Nat × List UInt8))} {E : WE} {v : Int} {flex ht : Bool}
theorem ApV.always {sp off : Nat} {f : F} {c : Code} (h : ApV tags E v flex ht sp off f c) (hq : decide (f.tag < 0) && f.has v = true) : ApF tags E v flex ht sp off f c := by
  simp only [Bool.and_eq_true, decide_eq_true_eq] at hq
  exact Ap.conv h id (fun w K cc x hx => ⟨hx.1 (by simp [F.on, hq.1, hq.2]), hx.2⟩) (fun w K cc x _ => by rw [if_pos hq]; rfl)
theorem ApV.guard {sp off t : Nat} {q : Bool} {f : F} {r c : Code} (hT : TestW E v flex t q r) (hq : f.has v = q) (ht0 : f.tag < 0) (hsp : clear [sp] r = true) (h : ApV tags E v flex ht sp off f c) : ApF tags E v flex ht sp off f (r.seq (Code.cond (.tmp t) c Code.skip)) := by
  subst hq
  refine Ap.conv (Ap.guard hT hsp (fun _ => h)) id (fun w K cc x hx hh => ⟨hx.1 (by simpa [F.on, ht0] using hh), hx.2⟩) (fun w K cc x _ => ?_)
  simp only [ht0, true_and, id]
theorem ApTl.cons (htg : flex = true → ht = true) (hT : Stable 1 tags) {sp off : Nat} {f : F} {fs : List F} {c1 c2 : Code} (h1 : ApF tags E v flex ht sp off f c1) (hcl : clear (sp :: E.slots) c1 = true) (h2 : ApTl tags E v flex ht sp (off + cellsF ht f) fs c2) : ApTl tags E v flex ht sp off (f :: fs) (c1.seq c2) := by
  have hst : Stable (cellsP ht fs) (fun w K cc (x : List T × List (Nat × List UInt8)) => (plainRep v flex ht fs (repFs tags v flex ht fs) w K cc x.1 ∧ ∀ t ∈ x.1, Fit t) ∧ (flex = true → tags w K (fun j => cc (cellsFs ht fs + j)) x.2) ∧ x.2.length ≤ most ∧ ∀ y ∈ x.2, y.1 < 4294967296 ∧ y.2.length ≤ most) := by
    intro w w' K K' c c' x hk hs hK hc hx
    refine ⟨⟨stable_plainF htg hT fs w w' K K' c c' x.1 hk hs hK (fun j hj => hc j (by simp only [cellsP]; omega)) hx.1.1, hx.1.2⟩, fun hf => hT w w' K K' _ _ _ hk hs hK (fun j hj => hc _ ?_) (hx.2.1 hf), hx.2.2⟩
    simp only [cellsP, htg hf, Bool.toNat_true]; omega
  refine Ap.conv (Ap.seq h1 h2 hcl hst) (fun x => (x.1.headD T.zero, (x.1.tail, x.2))) (fun w K cc x hx => ?_) (fun w K cc x hx => ?_)
  · obtain ⟨⟨⟨y, ys, he, hy, hys⟩, hfit⟩, htl, hu⟩ := hx
    rw [he] at hfit ⊢
    refine ⟨⟨hy, hfit y (by simp)⟩, ⟨hys, fun t ht => hfit t (List.mem_cons_of_mem _ ht)⟩, fun hf => ?_, hu⟩
    have := htl hf
    simp only [cellsFs, Nat.add_assoc] at this
    exact this
  · simp only [wrs, plainW, List.append_assoc]
/-- A part without tags. -/
theorem ApTl.nil0 {sp off : Nat} (hfl : flex = false) : ApTl tags E v flex ht sp off [] Code.skip := by
  subst hfl
  intro base K bs a w cb co x hp hsp hcb hr hl
  refine wp_skip ⟨Upd.refl _ _, Below.refl _ _, ?_⟩
  simpa [wrs, plainW] using hp.own
/-- A part without tags: its last field. -/
theorem ApTl.one (hfl : flex = false) {sp off : Nat} {f : F} {c : Code} (h : ApF tags E v flex ht sp off f c) : ApTl tags E v flex ht sp off [f] c := by
  subst hfl
  refine Ap.conv h (fun x => x.1.headD T.zero) (fun w K cc x hx => ?_) (fun w K cc x hx => ?_)
  · obtain ⟨⟨⟨y, ys, he, hy, hys⟩, hfit⟩, -⟩ := hx
    rw [he] at hfit ⊢
    exact ⟨hy, hfit y (by simp)⟩
  · simp [wrs, plainW]
end
end Go.Proofs.YtpknjenihcfhlaaDoor
/-
  Code that writes: values of one cell; lists. Conditions: none.
-/
namespace Go.Proofs.YtpknjenihcfhlaaDoor
open Go.RowKit (Below)
open Kz

theorem lim_of {n m : Nat} {k : Nat} (h : n + m ≤ lim2) (hk : k ≤ 100) : n + k ≤ lim := by simp only [lim, lim2] at h ⊢; omega

/-! ## What the writing functions write -/
def TextA (_ : World) (_ : Nat → Prop) (u : Value) (t : T) : Prop := u = strV t.s ∧ t.s.length ≤ most
def NtextA (w : World) (K : Nat → Prop) (u : Value) (t : T) : Prop :=
  t.s.length ≤ most ∧ if t.null then u = .pointer none else ∃ g o, u = .pointer (some ⟨g, o, none⟩) ∧ K g ∧ w.cell? ⟨g, o, none⟩ = some (strV t.s)
def OctA (w : World) (K : Nat → Prop) (u : Value) (t : T) : Prop := BytesAt w K u t.s ∧ t.s.length ≤ most
def textB (sz : Nat) (flex : Bool) (t : T) : List UInt8 := counted flex false t.s.length sz ++ t.s
def ntextB (flex : Bool) (t : T) : List UInt8 := if t.null then counted flex true 0 2 else textB 2 flex t
def U16A (_ : World) (_ : Nat → Prop) (u : Value) (x : Int) : Prop := u = .int .u16 x ∧ 0 ≤ x ∧ x < 65536
def BoolA (_ : World) (_ : Nat → Prop) (u : Value) (x : Bool) : Prop := u = .bool x

theorem wr_Int16 : Writes 56 (fun x => fixed x 2) (IsInt .i16) := ⟨by kernel_rfl, fun base K bs w v u x ho hb hK ha hl => by cases ha; exact AppendInt16_any w base v bs x ho hb (lim_of hl (by decide))⟩
theorem wr_Int32 : Writes 55 (fun x => fixed x 4) (IsInt .i32) := ⟨by kernel_rfl, fun base K bs w v u x ho hb hK ha hl => by cases ha; exact AppendInt32_any w base v bs x ho hb (lim_of hl (by decide))⟩
theorem wr_Int64 : Writes 66 (fun x => fixed x 8) (IsInt .i64) := ⟨by kernel_rfl, fun base K bs w v u x ho hb hK ha hl => by cases ha; exact AppendInt64_any w base v bs x ho hb (lim_of hl (by decide))⟩
theorem wr_Uint16 : Writes 86 (fun x => fixed x 2) U16A := ⟨by kernel_rfl, fun base K bs w v u x ho hb hK ha hl => by obtain ⟨rfl, h0, h1⟩ := ha; exact AppendUint16_any w base v bs x ho hb h0 h1 (lim_of hl (by decide))⟩
theorem wr_String : Writes 65 (textB 2 false) TextA := ⟨by kernel_rfl, fun base K bs w v u x ho hb hK ha hl => by obtain ⟨rfl, h⟩ := ha; exact AppendString_any w base v bs x.s ho hb (by simp only [most] at h; omega) hl⟩
theorem wr_CompactString : Writes 64 (textB 2 true) TextA := ⟨by kernel_rfl, fun base K bs w v u x ho hb hK ha hl => by obtain ⟨rfl, h⟩ := ha; exact AppendCompactString_any w base v bs x.s ho hb (by simp only [most] at h; omega) hl⟩
theorem wr_NullableString : Writes 58 (ntextB false) NtextA := ⟨by kernel_rfl, fun base K bs w v u x ho hb hK ha hl => by
  obtain ⟨h0, ha⟩ := ha
  cases hn : x.null with
  | true => rw [hn, if_pos rfl] at ha; subst ha; simp only [ntextB, hn, if_true]; exact AppendNullableString_nil w base v bs ho hb (lim_of hl (by decide))
  | false =>
    rw [hn, if_neg (by simp)] at ha
    obtain ⟨g, o, rfl, -, hc⟩ := ha
    have e : ntextB false x = textB 2 false x := by simp [ntextB, hn]
    rw [e] at hl ⊢
    exact AppendNullableString_some w base v bs x.s g o hc ho hb (by simp only [most] at h0; omega) hl⟩
theorem wr_CompactNullableString : Writes 57 (ntextB true) NtextA := ⟨by kernel_rfl, fun base K bs w v u x ho hb hK ha hl => by
  obtain ⟨h0, ha⟩ := ha
  cases hn : x.null with
  | true => rw [hn, if_pos rfl] at ha; subst ha; simp only [ntextB, hn, if_true]; exact AppendCompactNullableString_nil w base v bs ho hb (lim_of hl (by decide))
  | false =>
    rw [hn, if_neg (by simp)] at ha
    obtain ⟨g, o, rfl, -, hc⟩ := ha
    have e : ntextB true x = textB 2 true x := by simp [ntextB, hn]
    rw [e] at hl ⊢
    exact AppendCompactNullableString_some w base v bs x.s g o hc ho hb (by simp only [most] at h0; omega) hl⟩

/-! ## Fields of one cell -/
section
variable {tags : Rel (List (Nat × List UInt8))} {E : WE} {v : Int} {flex ht : Bool}

theorem Av.conv {α β : Type} {d : Nat} {wrt : α → List UInt8} {wrt' : β → List UInt8} {Arg : World → (Nat → Prop) → Value → α → Prop} {Arg' : World → (Nat → Prop) → Value → β → Prop} {c : Code} (h : Av E v flex d wrt Arg c) (k : β → α) (hR : ∀ w K u x, Arg' w K u x → Arg w K u (k x))
    (hw : ∀ w K u x, Arg' w K u x → wrt' x = wrt (k x)) : Av E v flex d wrt' Arg' c := by
  intro base K bs a w x hp hr hl
  rw [hw _ _ _ _ hr] at hl ⊢
  exact h base K bs a w (k x) hp (hR _ _ _ _ hr) hl

/-- What is asked of a code that writes a field's value, which a slot holds. -/
def FA (tags : Rel (List (Nat × List UInt8))) (E : WE) (v : Int) (flex ht : Bool) (f : F) (d : Nat) (c : Code) : Prop :=
  Av E v flex d (wr v flex f) (fun w K u t => repF tags v flex ht f w K (fun _ => some u) t ∧ Fit t) c

def oneF (f : F) : Bool := decide (f.kind ≠ 7) && decide (f.kind = 10 → 0 ≤ f.null)
theorem rep_one {f : F} (h : oneF f = true) {w : World} {K : Nat → Prop} {cc : Cells} {t : T} (hr : repF tags v flex ht f w K cc t) : ∃ u, cc 0 = some u ∧ repF tags v flex ht f w K (fun _ => some u) t := by
  cases f with
  | mk kind frm to null tag dflt of sub =>
    simp only [oneF, Bool.and_eq_true, decide_eq_true_eq] at h
    simp only [repF, fieldRep] at hr ⊢
    by_cases h11 : kind = 11
    · rw [if_pos h11] at hr ⊢
      unfold listRep at hr ⊢
      split at hr
      · rename_i hq; exact ⟨_, hr.1, by rw [if_pos hq]; exact ⟨rfl, hr.2⟩⟩
      · rename_i hq
        obtain ⟨h1, h2⟩ := hr
        rcases h2 with ⟨a1, a2, a3⟩ | ⟨g, o, m, a1, a2⟩
        · exact ⟨_, a2, by rw [if_neg hq]; exact ⟨h1, .inl ⟨a1, rfl, a3⟩⟩⟩
        · exact ⟨_, a1, by rw [if_neg hq]; exact ⟨h1, .inr ⟨g, o, m, rfl, a2⟩⟩⟩
    · rw [if_neg h11] at hr ⊢
      unfold valRep at hr ⊢
      by_cases h0 : kind = 0
      · simp only [if_pos h0] at hr ⊢; exact ⟨_, hr.1, rfl, hr.2⟩
      simp only [if_neg h0, if_neg h.1] at hr ⊢
      by_cases h8 : kind = 8
      · simp only [if_pos h8] at hr ⊢
        by_cases hp : decide (0 ≤ null) = true
        · simp only [if_pos hp] at hr ⊢
          by_cases hn : t.null = true
          · simp only [if_pos hn] at hr ⊢; exact ⟨_, hr.1, rfl, hr.2⟩
          · simp only [if_neg hn] at hr ⊢
            obtain ⟨g, o, a1, a2⟩ := hr
            exact ⟨_, a1, g, o, rfl, a2⟩
        · simp only [if_neg hp] at hr ⊢; exact ⟨_, hr.1, rfl, hr.2⟩
      simp only [if_neg h8] at hr ⊢
      by_cases h9 : kind = 9
      · simp only [if_pos h9] at hr ⊢
        obtain ⟨u, a1, a2⟩ := hr
        exact ⟨u, a1, u, rfl, a2⟩
      simp only [if_neg h9] at hr ⊢
      by_cases h10 : kind = 10
      · have hp : decide (0 ≤ null) = true := decide_eq_true (h.2 h10)
        simp only [if_pos h10, if_pos hp] at hr ⊢
        by_cases hn : t.null = true
        · simp only [if_pos hn] at hr ⊢; exact ⟨_, hr, rfl⟩
        · simp only [if_neg hn] at hr ⊢
          obtain ⟨g, o, a1, a2⟩ := hr
          exact ⟨_, a1, g, o, rfl, a2⟩
      · simp only [if_neg h10] at hr ⊢; exact ⟨_, hr.1, rfl, hr.2⟩
/-- 'v := s.F', and what is written of it. -/
theorem ApV.of {sp off d : Nat} {f : F} {c1 c : Code} (h1 : SLoad E.N sp off d c1) (h : FA tags E v flex ht f d c) (h1f : oneF f = true) (hcl : clear (E.ds :: E.slots) c1 = true) : ApV tags E v flex ht sp off f (c1.seq c) :=
  Ap.conv (Ap.load h1 h hcl) id (fun w K cc x hx => by obtain ⟨u, hu, hr⟩ := rep_one h1f hx.1; exact ⟨u, hu, hr, hx.2⟩) (fun _ _ _ _ _ => rfl)

theorem FA.int {k frm to null tag dflt of sub d} {c : Code} (hk : decide (k = 1 ∨ k = 2 ∨ k = 3 ∨ k = 4) = true) (h : Av E v flex d (fun x => fixed x (width k)) (IsInt (ikOf k)) c) : FA tags E v flex ht (.mk k frm to null tag dflt of sub) d c := by
  refine Av.conv h T.n (fun w K u t ht => ?_) (fun w K u t ht => ?_)
  · rcases of_decide_eq_true hk with rfl | rfl | rfl | rfl <;> (have := ht.1; simp [repF, fieldRep, valRep] at this; simp [IsInt, this])
  · rcases of_decide_eq_true hk with rfl | rfl | rfl | rfl <;> rfl
theorem FA.uint {frm to null tag dflt of sub d} {c : Code} (h : Av E v flex d (fun x => fixed x 2) U16A c) : FA tags E v flex ht (.mk 5 frm to null tag dflt of sub) d c := by
  refine Av.conv h T.n (fun w K u t ht => ?_) (fun w K u t ht => rfl)
  have := ht.1; simp [repF, fieldRep, valRep, ikOf] at this; exact ⟨this.1, this.2⟩
theorem FA.bool {frm to null tag dflt of sub d} {c : Code} (h : Av E v flex d (fun x : Bool => [if x then 1 else 0]) BoolA c) : FA tags E v flex ht (.mk 0 frm to null tag dflt of sub) d c := by
  refine Av.conv h (fun t => decide (t.n = 1)) (fun w K u t ht => ?_) (fun w K u t ht => ?_)
  · have := ht.1; simp [repF, fieldRep, valRep] at this; exact this.1
  · have := ht.1; simp [repF, fieldRep, valRep] at this
    rcases this.2 with h0 | h0 <;> simp [wr, fieldW, valW, h0]
theorem take_fit {s : List UInt8} (h : s.length ≤ most) : s.take most = s := List.take_of_length_le h
theorem FA.text {frm to tag dflt of sub d} {c : Code} (h : Av E v flex d (textB 2 flex) TextA c) : FA tags E v flex ht (.mk 8 frm to (-1) tag dflt of sub) d c := by
  refine Av.conv h id (fun w K u t ht => ?_) (fun w K u t ht => ?_)
  · have := ht.1; simp [repF, fieldRep, valRep] at this; exact ⟨this.1, ht.2.fs⟩
  · simp [wr, fieldW, valW, F.nul, take_fit ht.2.fs, textB]
theorem FA.octets {frm to tag dflt of sub d} {c : Code} (h : Av E v flex d (textB 4 flex) OctA c) : FA tags E v flex ht (.mk 9 frm to (-1) tag dflt of sub) d c := by
  refine Av.conv h id (fun w K u t ht => ?_) (fun w K u t ht => ?_)
  · have := ht.1; simp [repF, fieldRep, valRep] at this; exact ⟨this.1, ht.2.fs⟩
  · simp [wr, fieldW, valW, F.nul, take_fit ht.2.fs, textB]
theorem FA.ntext {frm to null tag dflt of sub d} {c : Code} (hn : decide (0 ≤ null) = true) (hv : null ≤ v) (h : Av E v flex d (ntextB flex) NtextA c) : FA tags E v flex ht (.mk 8 frm to null tag dflt of sub) d c := by
  have hn' := of_decide_eq_true hn
  refine Av.conv h id (fun w K u t ht => ?_) (fun w K u t ht => ?_)
  · have := ht.1; simp [repF, fieldRep, valRep, hn'] at this
    refine ⟨ht.2.fs, ?_⟩
    show if t.null = true then _ else _
    split
    · rename_i h0; rw [if_pos h0] at this; exact this.1
    · rename_i h0; rw [if_neg h0] at this
      obtain ⟨g, o, a1, a2, -, a4⟩ := this
      exact ⟨g, o, a1, a2, a4⟩
  · show wr v flex _ t = ntextB flex t
    simp only [wr, fieldW, valW, F.nul, hn', hv, decide_true, Bool.and_true, ntextB, textB, take_fit ht.2.fs]
    cases t.null <;> simp

theorem Av.flexV {α : Type} {id t fs d : Nat} {ty : TypeId} {p : String} {eg : Array Edge} {A B : Code} {Arg : World → (Nat → Prop) → Value → α → Prop} (gt : Bool → α → List UInt8) (hfs : E.fs = some fs) (ht : decide (t < E.N) = true) (hnt : (d :: E.ds :: E.slots).contains t = false)
    (hA : Av E v flex d (gt true) Arg A) (hB : Av E v flex d (gt false) Arg B) :
    Av E v flex d (gt flex) Arg ((Code.region id #[⟨some t, .move (.tmp fs), ty, p, eg, none⟩] false).seq (Code.cond (.tmp t) A B)) := Av.flexG gt hfs ht hnt hA hB
theorem Av.plainV {α : Type} {d : Nat} {c : Code} {Arg : World → (Nat → Prop) → Value → α → Prop} (gt : Bool → α → List UInt8) (hfl : flex = false) (h : Av E v flex d (gt false) Arg c) : Av E v flex d (gt flex) Arg c := by
  subst hfl; exact h
end
end Go.Proofs.YtpknjenihcfhlaaDoor
/-
  Code that writes: lists. Conditions: none.
-/
namespace Go.Proofs.YtpknjenihcfhlaaDoor
open Go.RowKit (Below)
open Kz

/-- An element's place, the index of a kind. -/
def IndexOffK (P : Program) (k : IntKind) (T sz : Nat) : Prop := ∀ (w : World) (g o n c i : Nat), i < n → (Instr.indexAt T (.slice (some ⟨g, o, none⟩) n c) (.int k i)).run P w = .ok (.pointer (some ⟨g, o + i * sz, none⟩)) w
theorem indexOffK_of {P : Program} (k : IntKind) {T e sz : Nat} {i : TypeInfo} (h : P.underlying T = some (.slice e)) (hi : P.info? e = some i) (hs : i.size = sz) : IndexOffK P k T sz := by
  intro w g o n c j hj
  subst hs
  have hj' : (0 : Int) ≤ j ∧ (j : Int) < n := by omega
  simp only [Instr.indexAt, run_underlying h, asIntOf, sizeOf, typeInfo, hi, Addr.add_mid, Sem.run_bind, Sem.run_pure, Result.andThen_ok, run_program, if_pos hj', Int.toNat_natCast]

section
variable {P : Program} {Q : Exit → Act → World → Prop} {a : Act} {w : World} {id : Nat}
/-- 'v := &a[i]', the index of a kind. -/
theorem reg_indexK {k : IntKind} {x i t1 t2 t3 d T sz g o n c j : Nat} {ty1 ty2 ty3 ty4 : TypeId} {p1 p2 p3 p4 : String} {e1 e2 e3 e4 : Array Edge} (hs : IndexOffK P k T sz) (h1 : t1 < a.tmps.size) (h2 : t2 < a.tmps.size) (h3 : t3 < a.tmps.size) (h4 : d < a.tmps.size)
    (h12 : t1 ≠ t2) (h1i : t1 ≠ i) (hx : sl a x = .slice (some ⟨g, o, none⟩) n c) (hi : sl a i = .int k (j : Int)) (hj : j < n)
    (hq : ∀ a', Upd a a' [t1, t2, t3, d] → sl a' d = .pointer (some ⟨g, o + j * sz, none⟩) → Q .normal a' w) :
    (Code.region id #[⟨some t1, .move (.tmp x), ty1, p1, e1, none⟩, ⟨some t2, .move (.tmp i), ty2, p2, e2, none⟩, ⟨some t3, .indexAddr T (.tmp t1) (.tmp t2), ty3, p3, e3, none⟩, ⟨some d, .assign (.tmp t3), ty4, p4, e4, none⟩] false).wp P Q a w := by
  refine wp_region_lit (st_move (st_move (st_val (v := .pointer (some ⟨g, o + j * sz, none⟩)) (w' := w) ?_ (st_assign (wpList_nil (hq _ (((((Upd.refl a _).put t1 _ (by simp)).put t2 _ (by simp)).put t3 _ (by simp)).put d _ (by simp)) ?_))))))
  · have q1 : ((a.put (some t1) (a.eval (.tmp x))).put (some t2) ((a.put (some t1) (a.eval (.tmp x))).eval (.tmp i))).eval (.tmp t1) = .slice (some ⟨g, o, none⟩) n c := by
      rw [eval_tmp, sl_put_other _ _ _ _ (fun e => h12 e.symm), sl_put_self _ _ _ h1, eval_tmp, hx]
    have q2 : ((a.put (some t1) (a.eval (.tmp x))).put (some t2) ((a.put (some t1) (a.eval (.tmp x))).eval (.tmp i))).eval (.tmp t2) = .int k (j : Int) := by
      rw [eval_tmp, sl_put_self _ _ _ (by simp only [put_size]; exact h2), eval_tmp, sl_put_other _ _ _ _ h1i, hi]
    simp only [execOp, q1, q2, Sem.run_bind, hs w g o n c j hj, Result.andThen_ok, Sem.run_pure]
  · rw [sl_put_self _ _ _ (by simp only [put_size]; exact h4), eval_tmp, sl_put_self _ _ _ (by simp only [put_size]; exact h3)]
/-- 'v := a[i]', an element of one cell. -/
theorem reg_elemK {k : IntKind} {x i t1 t2 t3 t4 d T sz ty g o n c j : Nat} {ty1 ty2 ty3 ty4 ty5 : TypeId} {p1 p2 p3 p4 p5 : String} {e1 e2 e3 e4 e5 : Array Edge} {u : Value} (hs : IndexOffK P k T sz) (hl : Load1 P ty) (h1 : t1 < a.tmps.size) (h2 : t2 < a.tmps.size) (h3 : t3 < a.tmps.size) (h4 : t4 < a.tmps.size) (h5 : d < a.tmps.size)
    (h12 : t1 ≠ t2) (h1i : t1 ≠ i) (hx : sl a x = .slice (some ⟨g, o, none⟩) n c) (hi : sl a i = .int k (j : Int)) (hj : j < n) (hc : w.cell? ⟨g, o + j * sz, none⟩ = some u)
    (hq : ∀ a', Upd a a' [t1, t2, t3, t4, d] → sl a' d = u → Q .normal a' w) :
    (Code.region id #[⟨some t1, .move (.tmp x), ty1, p1, e1, none⟩, ⟨some t2, .move (.tmp i), ty2, p2, e2, none⟩, ⟨some t3, .indexAddr T (.tmp t1) (.tmp t2), ty3, p3, e3, none⟩, ⟨some t4, .load ty (.tmp t3), ty4, p4, e4, none⟩, ⟨some d, .assign (.tmp t4), ty5, p5, e5, none⟩] false).wp P Q a w := by
  refine wp_region_lit (st_move (st_move (st_val (v := .pointer (some ⟨g, o + j * sz, none⟩)) (w' := w) ?_ (st_load (b := g) (o := o + j * sz) (v := u) hl ?_ hc (st_assign (wpList_nil (hq _ ((((((Upd.refl a _).put t1 _ (by simp)).put t2 _ (by simp)).put t3 _ (by simp)).put t4 _ (by simp)).put d _ (by simp)) ?_)))))))
  · have q1 : ((a.put (some t1) (a.eval (.tmp x))).put (some t2) ((a.put (some t1) (a.eval (.tmp x))).eval (.tmp i))).eval (.tmp t1) = .slice (some ⟨g, o, none⟩) n c := by
      rw [eval_tmp, sl_put_other _ _ _ _ (fun e => h12 e.symm), sl_put_self _ _ _ h1, eval_tmp, hx]
    have q2 : ((a.put (some t1) (a.eval (.tmp x))).put (some t2) ((a.put (some t1) (a.eval (.tmp x))).eval (.tmp i))).eval (.tmp t2) = .int k (j : Int) := by
      rw [eval_tmp, sl_put_self _ _ _ (by simp only [put_size]; exact h2), eval_tmp, sl_put_other _ _ _ _ h1i, hi]
    simp only [execOp, q1, q2, Sem.run_bind, hs w g o n c j hj, Result.andThen_ok, Sem.run_pure]
  · rw [eval_tmp, sl_put_self _ _ _ (by simp only [put_size]; exact h3)]
  · rw [sl_put_self _ _ _ (by simp only [put_size]; exact h5), eval_tmp, sl_put_self _ _ _ (by simp only [put_size]; exact h4)]
end

section
variable {tags : Rel (List (Nat × List UInt8))} {E : WE} {v : Int} {flex ht : Bool}

/-- A code that writes an element. -/
def ElA (E : WE) (v : Int) (flex : Bool) (da di sz : Nat) (wrt : T → List UInt8) (R : Rel T) (c : Code) : Prop :=
  ∀ (base : Nat) (K : Nat → Prop) (bs : List UInt8) (a : Act) (w : World) (g o n m j : Nat) (x : T), PreA E v flex base K bs a w → sl a da = .slice (some ⟨g, o, none⟩) n m → sl a di = .int .i64 (j : Int) → j < n → g < base →
    R w K (fun i => w.cell? ⟨g, o + j * sz + i, none⟩) x → bs.length + (wrt x).length ≤ lim2 → c.wp Tryd.prog (PostA E (writes c) base (bs ++ wrt x) a w) a w

abbrev loopW (id ib i1 i2 i3 di tI tL tC tM tN : Nat) (T T' T2 T2' ty1 ty2 ty3 ty4 ty5 : TypeId) (p1 p2 p3 p4 p5 : String) (e1 e2 e3 e4 e5 : Array Edge) (body : Code) : Code :=
  Code.block id (Code.loop ((Code.region i1 #[⟨some tC, .binOp .lss T (.tmp tI) (.tmp tL) T', ty1, p1, e1, none⟩] false).seq ((Code.cond (.tmp tC) Code.skip (Code.exit id)).seq
    ((Code.block ib ((Code.region i2 #[⟨some tM, .move (.tmp tI), ty2, p2, e2, none⟩, ⟨some di, .assign (.tmp tM), ty3, p3, e3, none⟩] false).seq body)).seq
      (Code.region i3 #[⟨some tN, .binOp .add T2 (.tmp tI) (.const (.int .i64 1)) T2', ty4, p4, e4, none⟩, ⟨some tI, .move (.tmp tN), ty5, p5, e5, none⟩] false)))))

theorem wrap_i64 (n : Int) (h : -9223372036854775808 ≤ n ∧ n < 9223372036854775808) : IntKind.wrap .i64 n = n := by
  rw [IntKind.wrap_i64]; omega

/-- The octets of so many elements. -/
theorem loop_writes {id ib i1 i2 i3 da di tI tL tC tM tN sz : Nat} {TT T' T2 T2' ty1 ty2 ty3 ty4 ty5 : TypeId} {p1 p2 p3 p4 p5 : String} {e1 e2 e3 e4 e5 : Array Edge} {body : Code} {wrt : T → List UInt8} {R : Rel T}
    (hE : ElA E v flex da di sz wrt R body) (hst : Stable sz R) (hb : clear (da :: tI :: tL :: E.slots) body = true) (hn : [tC, tM, tN, di, tI].all (· < E.N) = true)
    (hcl : [tC, tM, tN, di].all (fun t => !(da :: E.ds :: tI :: tL :: E.slots).contains t) = true) (htI : (da :: E.ds :: tL :: E.slots).contains tI = false)
    {base : Nat} {K : Nat → Prop} {bs : List UInt8} {a0 : Act} {w0 : World} {p : Option Addr} {n m : Nat} {l : List T} (hp : PreA E v flex base K bs a0 w0) (hda : sl a0 da = .slice p n m) (hI : sl a0 tI = .int .i64 0) (hL : sl a0 tL = .int .i64 (n : Int)) (hln : l.length = n) (hn31 : n ≤ 2147483647)
    (hel : l = [] ∨ ∃ g o, p = some ⟨g, o, none⟩ ∧ g < base ∧ ∀ i x, l[i]? = some x → R w0 K (fun j => w0.cell? ⟨g, o + i * sz + j, none⟩) x) (hl : bs.length + (l.flatMap wrt).length ≤ lim2) :
    (loopW id ib i1 i2 i3 di tI tL tC tM tN TT T' T2 T2' ty1 ty2 ty3 ty4 ty5 p1 p2 p3 p4 p5 e1 e2 e3 e4 e5 body).wp Tryd.prog
      (PostA E (writes (loopW id ib i1 i2 i3 di tI tL tC tM tN TT T' T2 T2' ty1 ty2 ty3 ty4 ty5 p1 p2 p3 p4 p5 e1 e2 e3 e4 e5 body)) base (bs ++ l.flatMap wrt) a0 w0) a0 w0 := by
  simp only [List.all_cons, List.all_nil, Bool.and_true, Bool.and_eq_true, decide_eq_true_eq] at hn
  obtain ⟨n1, n2, n3, n4, n5⟩ := hn
  have hbc := clear_iff hb
  have hc4 : ∀ t ∈ da :: E.ds :: tI :: tL :: E.slots, t ∉ [tC, tM, tN, di] := by
    intro t ht hx
    have := List.all_eq_true.1 hcl t hx
    simp only [Bool.not_eq_true', List.contains_eq_mem, decide_eq_false_iff_not] at this
    exact this ht
  have htI' : tI ∉ da :: E.ds :: tL :: E.slots := by simpa [List.contains_eq_mem] using htI
  let W := writes (loopW id ib i1 i2 i3 di tI tL tC tM tN TT T' T2 T2' ty1 ty2 ty3 ty4 ty5 p1 p2 p3 p4 p5 e1 e2 e3 e4 e5 body)
  have hW : ∀ t, t ∈ W ↔ t = tC ∨ t = tM ∨ t = di ∨ t ∈ writes body ∨ t = tN ∨ t = tI := by intro t; simp [W, writes]
  -- what stays over the whole loop
  have hkeep : ∀ {a : Act}, Upd a0 a W → ∀ t ∈ da :: tL :: E.slots, sl a t = sl a0 t := by
    intro a hu t ht
    refine hu.same t fun hx => ?_
    have ht2 : t ∈ da :: E.ds :: tI :: tL :: E.slots := by
      simp only [List.mem_cons] at ht ⊢
      rcases ht with h | h | h
      · exact .inl h
      · exact .inr (.inr (.inr (.inl h)))
      · exact .inr (.inr (.inr (.inr h)))
    have ht3 : t ∈ da :: E.ds :: tL :: E.slots := by
      simp only [List.mem_cons] at ht ⊢
      rcases ht with h | h | h
      · exact .inl h
      · exact .inr (.inr (.inl h))
      · exact .inr (.inr (.inr h))
    have ht4 : t ∈ da :: tI :: tL :: E.slots := by
      simp only [List.mem_cons] at ht ⊢
      rcases ht with h | h | h
      · exact .inl h
      · exact .inr (.inr (.inl h))
      · exact .inr (.inr (.inr h))
    rcases (hW t).1 hx with rfl | rfl | rfl | h | rfl | rfl
    · exact hc4 _ ht2 (by simp)
    · exact hc4 _ ht2 (by simp)
    · exact hc4 _ ht2 (by simp)
    · exact hbc _ ht4 h
    · exact hc4 _ ht2 (by simp)
    · exact htI' ht3
  refine wp_block ?_
  refine wp_loop (I := fun a w => ∃ (i : Nat), i ≤ n ∧ Upd a0 a W ∧ sl a tI = .int .i64 (i : Int) ∧ Below base w0 w ∧ OwnB w base (sl a E.ds) (bs ++ (l.take i).flatMap wrt))
    (μ := fun a _ => match sl a tI with | .int _ i => n - i.toNat | _ => 0)
    ⟨0, Nat.zero_le _, Upd.refl _ _, hI, Below.refl _ _, by simpa using hp.own⟩ ?_
  rintro a w ⟨i, hi, hu, hti, hbel, hown⟩
  have hfr : FrW E v flex a := {
    size := hu.size.trans hp.fr.size
    defers := hu.defers.trans hp.fr.defers
    vs := (hkeep hu _ (by simp [WE.slots])).trans hp.fr.vs
    fs := fun t ht => (hkeep hu _ (by simp [WE.slots, ht])).trans (hp.fr.fs t ht) }
  have hsz := hfr.size
  refine wp_seq (wp_region_lit (st_val (v := .bool (decide (i < n))) (w' := w) ?_ (wpList_nil ?_)))
  · refine exec_bin (by rw [eval_tmp, hti]) (by rw [eval_tmp, hkeep hu tL (by simp), hL]) (eqGuard_lss ..) ?_
    rw [binOp_lss]; simp
  have hu1 : Upd a (a.put (some tC) (.bool (decide (i < n)))) [tC] := (Upd.refl a _).put tC _ (by simp)
  have hs1 : sl (a.put (some tC) (.bool (decide (i < n)))) tC = .bool (decide (i < n)) := sl_put_self _ _ _ (by omega)
  generalize a.put (some tC) (.bool (decide (i < n))) = a1 at hu1 hs1
  have hk1 : ∀ t ∈ da :: E.ds :: tI :: tL :: E.slots, sl a1 t = sl a t := fun t ht => hu1.same t (fun hx => hc4 t ht (by simp only [List.mem_singleton] at hx; simp [hx]))
  have hu01 : Upd a0 a1 W := hu.trans (hu1.mono fun t ht => (hW t).2 (by simp only [List.mem_singleton] at ht; exact .inl ht))
  by_cases hin : i < n
  · rw [decide_eq_true hin] at hs1
    refine wp_seq (wp_cond_true (by rw [eval_tmp, hs1]) (wp_skip ?_))
    have hlt : i < l.length := by omega
    obtain ⟨g, o, rfl, hg, hR⟩ : ∃ g o, p = some ⟨g, o, none⟩ ∧ g < base ∧ ∀ i x, l[i]? = some x → R w0 K (fun j => w0.cell? ⟨g, o + i * sz + j, none⟩) x := by
      rcases hel with rfl | h
      · simp at hlt
      · exact h
    have hx := hR i l[i] (List.getElem?_eq_getElem hlt)
    have hsplit : l.take (i + 1) = l.take i ++ [l[i]] := by rw [List.take_add_one, List.getElem?_eq_getElem hlt]; rfl
    have hlen : (bs ++ (l.take i).flatMap wrt).length + (wrt l[i]).length ≤ lim2 := by
      have e : l = l.take i ++ (l[i] :: l.drop (i + 1)) := by rw [← List.drop_eq_getElem_cons hlt, List.take_append_drop]
      rw [e] at hl
      simp only [List.flatMap_append, List.flatMap_cons, List.length_append] at hl ⊢
      omega
    -- the body
    refine wp_seq (wp_block (wp_seq (reg_copy (by rw [hu1.size]; omega) (by rw [hu1.size]; omega) fun a2 hu2 hs2 => ?_)))
    have hk2 : ∀ t ∈ da :: E.ds :: tI :: tL :: E.slots, sl a2 t = sl a t := fun t ht => (hu2.same t (fun hx => hc4 t ht (by
      simp only [List.mem_cons, List.not_mem_nil, or_false] at hx
      rcases hx with rfl | rfl <;> simp))).trans (hk1 t ht)
    have hu02 : Upd a0 a2 W := hu01.trans (hu2.mono fun t ht => (hW t).2 (by
      simp only [List.mem_cons, List.not_mem_nil, or_false] at ht
      rcases ht with rfl | rfl
      · exact .inr (.inl rfl)
      · exact .inr (.inr (.inl rfl))))
    have hfr2 : FrW E v flex a2 := {
      size := hu02.size.trans hp.fr.size
      defers := hu02.defers.trans hp.fr.defers
      vs := (hkeep hu02 _ (by simp [WE.slots])).trans hp.fr.vs
      fs := fun t ht => (hkeep hu02 _ (by simp [WE.slots, ht])).trans (hp.fr.fs t ht) }
    have hp2 : PreA E v flex base K (bs ++ (l.take i).flatMap wrt) a2 w := ⟨hfr2, below_size hbel hp.le, hp.kb, by rw [hk2 _ (by simp)]; exact hown⟩
    refine wp_mono (hE base K _ a2 w g o n m i l[i] hp2 ((hkeep hu02 _ (by simp)).trans hda) (hs2.trans ((hk1 _ (by simp)).trans hti)) hin hg ?_ hlen) ?_
    · exact hst w0 w K K _ _ _ (fun b hb' _ => hbel.block b (hp.kb b hb')) hbel.size (fun b hb' => hb') (fun j _ => below_cell hbel hg) hx
    intro e a3 w3 hq
    cases e with
    | normal =>
      obtain ⟨hu3, hbel3, hown3⟩ := hq
      have hu03 : Upd a0 a3 W := hu02.trans (hu3.mono fun t ht => (hW t).2 (.inr (.inr (.inr (.inl ht)))))
      have ht3 : sl a3 tI = .int .i64 (i : Int) := (hu3.same _ (hbc _ (by simp))).trans ((hk2 _ (by simp)).trans hti)
      have hN3 := hu03.size.trans hp.fr.size
      simp only [Exit.inBlock]
      refine wp_region_lit (st_val (v := .int .i64 ((i + 1 : Nat) : Int)) (w' := w3) (exec_add (k := .i64) (by rw [eval_tmp, ht3]) (eval_const _ _) (by rw [wrap_i64 _ (by omega)]; rfl)) (st_move (wpList_nil ?_)))
      generalize hA : (a3.put (some tN) (.int .i64 ((i + 1 : Nat) : Int))).put (some tI) ((a3.put (some tN) (.int .i64 ((i + 1 : Nat) : Int))).eval (.tmp tN)) = a4
      have hu4 : Upd a3 a4 [tN, tI] := by subst hA; exact (((Upd.refl a3 _).put tN _ (by simp)).put tI _ (by simp))
      have hs4 : sl a4 tI = .int .i64 ((i + 1 : Nat) : Int) := by subst hA; rw [sl_put_self _ _ _ (by rw [put_size]; omega), eval_tmp, sl_put_self _ _ _ (by omega)]
      have hd4 : sl a4 E.ds = sl a3 E.ds := hu4.same _ (by
        simp only [List.mem_cons, List.not_mem_nil, or_false]
        rintro (h | h)
        · exact hc4 E.ds (by simp) (by simp [h])
        · exact htI' (by rw [← h]; simp))
      refine ⟨⟨i + 1, by omega, hu03.trans (hu4.mono fun t ht => (hW t).2 (by
        simp only [List.mem_cons, List.not_mem_nil, or_false] at ht
        rcases ht with rfl | rfl
        · exact .inr (.inr (.inr (.inr (.inl rfl))))
        · exact .inr (.inr (.inr (.inr (.inr rfl)))))), hs4, hbel.trans hbel3, ?_⟩, ?_⟩
      · rw [hd4, hsplit]
        simp only [List.flatMap_append, List.flatMap_cons, List.flatMap_nil, List.append_nil, ← List.append_assoc]
        simpa only [List.append_assoc] using hown3
      · simp only [hs4, hti]; omega
    | _ => exact hq.elim
  · rw [decide_eq_false hin] at hs1
    refine wp_seq (wp_cond_false (by rw [eval_tmp, hs1]) (wp_exit ?_))
    simp only [Exit.then, Exit.inBlock, if_pos]
    have e : i = l.length := by omega
    subst e
    rw [List.take_length] at hown
    exact ⟨hu01, hbel, by rw [hk1 _ (by simp)]; exact hown⟩
end
end Go.Proofs.YtpknjenihcfhlaaDoor
