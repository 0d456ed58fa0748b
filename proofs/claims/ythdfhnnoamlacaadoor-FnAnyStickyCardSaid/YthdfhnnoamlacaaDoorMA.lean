/-
  Records: how the printed words read what the texts here hold; a number in groups, as the reference reads it. Conditions: none.
  Records: the reference's reader, its state and its first functions. Conditions: none.
  Records: the reference reads a header. Conditions: none.
  Records: the package reads a header. Conditions: none.
  Records: the thin package tells a header. Conditions: none.
-/
import Derived.Test.YthdfhnnoamlacaaDoorY7
import Derived.Test.YthdfhnnoamlacaaDoorPFnAnyHeaderx6
import Derived.RegionTactic
import Derived.BigRegion
import Derived.StillTailTactics
import Derived.Deep.RegionHeld3
namespace Go.Proofs.YthdfhnnoamlacaaDoor.Rec
open Go.Proofs.YthdfhnnoamlacaaDoor
open Go.RowKit (Below wrap64)
open Go.Proofs.YthdfhnnoamlacaaDoorW Go.Proofs.YthdfhnnoamlacaaDoorW.PrintWords Go.Proofs.YthdfhnnoamlacaaDoorW.PrintMore Go.Proofs.YthdfhnnoamlacaaDoor.PFnAnyHeader
open Kz

/-- Octets as numbers. -/
def ns (bs : List UInt8) : List Int := bs.map fun b => (b.toNat : Int)
theorem ns_len (bs : List UInt8) : (ns bs).length = bs.length := by simp [ns]
theorem c_bytes {w : World} {S : Nat → Prop} {ad : Option Addr} {n c : Nat} {bs : List UInt8} (h : BytesAt w S (.slice ad n c) bs) : n = (ns bs).length ∧ n ≤ c ∧ Kd.C (Kd.int .u8) w ad n (ns bs) := by
  rcases h with ⟨h1, h2⟩ | ⟨g, o, c', h1, h2, h3, -, -, h6⟩
  · simp only [Value.slice.injEq] at h1
    obtain ⟨rfl, rfl, rfl⟩ := h1
    subst h2
    exact ⟨rfl, Nat.le_refl _, rfl, by decide, fun h => absurd h (by decide)⟩
  · simp only [Value.slice.injEq] at h1
    obtain ⟨rfl, rfl, rfl⟩ := h1
    refine ⟨(ns_len bs).symm, h2, ns_len bs, by omega, fun _ => ⟨_, rfl, fun j p hp => ?_⟩⟩
    obtain ⟨b, hb, rfl⟩ : ∃ b, bs[j]? = some b ∧ p = (b.toNat : Int) := by
      simp only [ns, List.getElem?_map, Option.map_eq_some_iff] at hp
      obtain ⟨b, hb, e⟩ := hp
      exact ⟨b, hb, e.symm⟩
    refine ⟨[.int .u8 (b.toNat : Int)], rfl, rfl, fun i u hu => ?_⟩
    cases i with
    | zero =>
      simp at hu
      subst hu
      have := h6 j b hb
      have e : (⟨g, o, none⟩ : Addr).add (j * (Kd.int .u8).sz + 0) = ⟨g, o + j, none⟩ := by
        show (⟨g, o, none⟩ : Addr).add (j * 1 + 0) = _
        cases j <;> simp [Addr.add]
      rw [e]
      exact this
    | succ i => simp at hu
theorem own_of_r {w : World} {base : Nat} {ok : Nat → Prop} {v : Value} {bs : List UInt8} {r : List Int} (h : Kd.R (Kd.int .u8) 5 w base ok v r) (hr : r = ns bs) : OwnB w base v bs := by
  subst hr
  obtain ⟨-, inner, ho, hrep⟩ := h
  obtain rfl : inner = bs.map bv := by
    have hl : inner.length = bs.length := by have := ho.1; rw [ns_len] at this; exact this.trans (Nat.mul_one _)
    refine List.ext_getElem? fun i => ?_
    by_cases hi : i < bs.length
    · have h2 : (inner.drop (i * 1)).take 1 = [.int .u8 (bs[i].toNat : Int)] := hrep.2 i (bs[i].toNat : Int) (by simp [ns, hi])
      rw [Nat.mul_one] at h2
      rw [List.drop_eq_getElem_cons (by omega)] at h2
      simp only [List.take_succ_cons, List.take_zero, List.cons.injEq, and_true] at h2
      rw [List.getElem?_eq_getElem (by omega), h2]
      simp [bv, hi]
    · rw [List.getElem?_eq_none (by omega), List.getElem?_eq_none (by simp; omega)]
  rw [ns_len] at ho
  exact ho

/-- A number with a sign, out of turns. -/
def zig (u : Nat) : Int := if u % 2 = 0 then (u / 2 : Nat) else -((u / 2 : Nat) : Int) - 1
theorem and127 (n : Nat) (h : n < 256) : bits .and .u8 (n : Int) 127 = ((n % 128 : Nat) : Int) := by
  have := u8_and_nat n 127 h (by decide)
  rw [nat_mask7] at this
  exact this
end Go.Proofs.YthdfhnnoamlacaaDoor.Rec

namespace Go.Proofs.YthdfhnnoamlacaaDoor.Rec
open Go.Proofs.YthdfhnnoamlacaaDoor
open Go.RowKit (Below wrap64)
open Kz

/-- The reference's reader: the octets, where it stands, how it went. -/
def SRd (w : World) (S : Nat → Prop) (rb : Nat) (bs : List UInt8) (s : Nat × Nat) : Prop :=
  ¬ S rb ∧ s.1 ≤ bs.length ∧ ∃ v, w.heap[rb]? = some (.cells #[v, .int .i64 (s.1 : Int), .int .i64 (s.2 : Int)] 45 (0, 0)) ∧ BytesAt w S v bs
def sFail (h : Nat) (s : Nat × Nat) : Nat × Nat := if s.2 = 0 then (s.1, h) else s
def sTake (n : Nat) (bs : List UInt8) (s : Nat × Nat) : List UInt8 × (Nat × Nat) :=
  if s.2 ≠ 0 then ([], s) else if bs.length - s.1 < n then ([], (s.1, 1)) else ((bs.drop s.1).take n, (s.1 + n, 0))
theorem SRd.parts {w : World} {S : Nat → Prop} {rb : Nat} {bs : List UInt8} {s : Nat × Nat} (h : SRd w S rb bs s) : ∃ ad c, BytesAt w S (.slice ad bs.length c) bs ∧ ¬ S rb ∧ s.1 ≤ bs.length ∧ rb < w.heap.size ∧
    w.heap[rb]? = some (.cells #[.slice ad bs.length c, .int .i64 (s.1 : Int), .int .i64 (s.2 : Int)] 45 (0, 0)) ∧
    w.cell? ⟨rb, 0, none⟩ = some (.slice ad bs.length c) ∧ w.cell? ⟨rb, 1, none⟩ = some (.int .i64 (s.1 : Int)) ∧ w.cell? ⟨rb, 2, none⟩ = some (.int .i64 (s.2 : Int)) ∧ w.frozen? ⟨rb, 1, none⟩ = false ∧ w.frozen? ⟨rb, 2, none⟩ = false := by
  obtain ⟨h0, h1, v, hv, hb⟩ := h
  obtain ⟨ad, c, rfl⟩ := bytes_len hb
  exact ⟨ad, c, hb, h0, h1, (Array.getElem?_eq_some_iff.1 hv).1, hv, by rw [cell_of_row w rb 0 _ _ _ hv]; rfl, by rw [cell_of_row w rb 1 _ _ _ hv]; rfl, by rw [cell_of_row w rb 2 _ _ _ hv]; rfl, by simp [World.frozen?, hv], by simp [World.frozen?, hv]⟩
theorem SRd.kept {w w' : World} {S : Nat → Prop} {rb : Nat} {bs : List UInt8} {s : Nat × Nat} {row : Option Nat} (h : SRd w S rb bs s) (hg : w.grownBy w' row) (hr : ∀ g, S g → some g ≠ row) (hrb : some rb ≠ row) : SRd w' S rb bs s := by
  obtain ⟨h0, h1, v, hv, hb⟩ := h
  exact ⟨h0, h1, v, by rw [hg.block rb (Array.getElem?_eq_some_iff.1 hv).1 hrb]; exact hv, hb.kept hg hr⟩
theorem SRd.below {w w' : World} {S : Nat → Prop} {rb : Nat} {bs : List UInt8} {s : Nat × Nat} (h : SRd w S rb bs s) (hb : Below w.heap.size w w') : SRd w' S rb bs s := h.kept (below_grown hb none) (by simp) (by simp)
theorem SRd.set1 {w : World} {S : Nat → Prop} {rb : Nat} {bs : List UInt8} {s : Nat × Nat} (h : SRd w S rb bs s) (n : Nat) (hn : n ≤ bs.length) : SRd (w.setCell ⟨rb, 1, none⟩ (.int .i64 (n : Int))) S rb bs (n, s.2) := by
  obtain ⟨h0, h1, v, hv, hb⟩ := h
  exact ⟨h0, hn, v, heap_setCell_row hv, hb.kept (row := some rb) (grown_setCell (grownBy_refl _ _) 1 _) (fun g hg e => h0 (by rw [← Option.some.inj e]; exact hg))⟩
theorem SRd.set2 {w : World} {S : Nat → Prop} {rb : Nat} {bs : List UInt8} {s : Nat × Nat} (h : SRd w S rb bs s) (n : Nat) : SRd (w.setCell ⟨rb, 2, none⟩ (.int .i64 (n : Int))) S rb bs (s.1, n) := by
  obtain ⟨h0, h1, v, hv, hb⟩ := h
  exact ⟨h0, h1, v, heap_setCell_row hv, hb.kept (row := some rb) (grown_setCell (grownBy_refl _ _) 2 _) (fun g hg e => h0 (by rw [← Option.some.inj e]; exact hg))⟩
theorem drewN_grown (w : World) (n : Nat) (row : Option Nat) : w.grownBy (w.drewN n) row := ⟨rfl, rfl, rfl, Nat.le_refl _, fun _ _ _ => rfl⟩
theorem SRd.drewN {w : World} {S : Nat → Prop} {rb : Nat} {bs : List UInt8} {s : Nat × Nat} (h : SRd w S rb bs s) (n : Nat) : SRd (w.drewN n) S rb bs s := h

theorem size_u8 (w : World) : (Go.sizeOf 5).run Tryd.prog w = .ok 1 w := by kernel_rfl
theorem sliced_bytes {w : World} {S : Nat → Prop} {ad : Option Addr} {bs : List UInt8} {c : Nat} (h : BytesAt w S (.slice ad bs.length c) bs) (lo hi : Nat) (h1 : lo ≤ hi) (h2 : hi ≤ bs.length) : BytesAt w S (sliced ad lo hi c 1) ((bs.drop lo).take (hi - lo)) := by
  rcases h with ⟨h3, rfl⟩ | ⟨g, o, c', h3, h4, h5, h6, h7, h8⟩
  · simp only [Value.slice.injEq] at h3
    obtain ⟨rfl, -, rfl⟩ := h3
    obtain rfl : hi = 0 := by simpa using h2
    obtain rfl : lo = 0 := by omega
    exact .inl ⟨rfl, rfl⟩
  · simp only [Value.slice.injEq] at h3
    obtain ⟨rfl, -, rfl⟩ := h3
    have hl : ((bs.drop lo).take (hi - lo)).length = hi - lo := by simp; omega
    by_cases hc : c = lo
    · obtain rfl : hi = lo := by omega
      refine .inr ⟨g, o, 0, ?_, by rw [hl]; omega, by omega, h6, h7, fun i b hb => ?_⟩
      · rw [hl]; simp [sliced, hc]
      · rw [Nat.sub_self] at hb; simp at hb
    · refine .inr ⟨g, o + lo, c - lo, ?_, by rw [hl]; omega, by omega, h6, h7, fun i b hb => ?_⟩
      · rw [hl]
        by_cases h0 : lo = 0
        · subst h0; simp [sliced, hc, Addr.add]
        · simp [sliced, hc, Addr.add, h0]
      · rw [List.getElem?_take] at hb
        split at hb
        · rw [List.getElem?_drop] at hb
          rw [Nat.add_assoc]
          exact h8 _ b hb
        · cases hb
theorem cut_lh {w : World} {S : Nat → Prop} {ad : Option Addr} {bs : List UInt8} {c : Nat} (h : BytesAt w S (.slice ad bs.length c) bs) (lo hi : Nat) (h1 : lo ≤ hi) (h2 : hi ≤ bs.length) :
    ∃ v, (∀ W, (Instr.slice 22 (.slice ad bs.length c) (some (.int .i64 (lo : Int))) (some (.int .i64 (hi : Int))) none).run Tryd.prog W = .ok v W) ∧ BytesAt w S v ((bs.drop lo).take (hi - lo)) := by
  refine ⟨sliced ad lo hi c 1, fun W => ?_, sliced_bytes h lo hi h1 h2⟩
  have hc := (c_bytes h).2.1
  have ht : Tryd.prog.underlying 22 = some (.slice (Tryd.prog.elem 22)) := by rw [show Tryd.prog.elem 22 = 5 by kernel_rfl]; exact Tryd.underlying22
  rw [run_slice_lh W 22 _ _ _ ht .i64 .i64 _ _ (by omega) (by omega) (by omega), show Tryd.prog.elem 22 = 5 by kernel_rfl, size_u8]
  simp [Result.andThen]
theorem fail_any (w : World) (S : Nat → Prop) (rb : Nat) (bs : List UInt8) (s : Nat × Nat) (k : Nat) (h : SRd w S rb bs s) : Calls Tryd.prog 19 #[.pointer (some ⟨rb, 0, none⟩), .int .i64 (k : Int)] w fun e w' =>
    e = .returned (.tuple #[]) ∧ SRd w' S rb bs (sFail k s) ∧ w.grownBy w' (some rb) := by
  obtain ⟨ad, c, hb, h0, h1, hlt, hv, c0, c1, c2, f1, f2⟩ := h.parts
  have HH := Lib.hid h
  obtain ⟨p, q⟩ := s
  simp only at c1 c2
  clear h hb h0 h1 hv
  by_cases hq : q = 0
  · subst hq
    have e1 : sFail k (p, 0) = (p, k) := if_pos rfl
    rw [e1]
    go_enter Tryd.func19, Tryd.ntmps19
    go_wp2
    go_end0
    exact ⟨rfl, HH.out.set2 k, grown_setCell (grownBy_refl _ _) 2 _⟩
  · have e1 : sFail k (p, q) = (p, q) := if_neg hq
    rw [e1]
    have t0 : (((q : Nat) : Int) == 0) = false := by simp; omega
    go_enter Tryd.func19, Tryd.ntmps19
    go_wp2
    go_end0
    exact ⟨rfl, HH.out, grownBy_refl _ _⟩

set_option maxRecDepth 8000 in
theorem take_any (w : World) (S : Nat → Prop) (rb : Nat) (bs : List UInt8) (s : Nat × Nat) (n : Nat) (h : SRd w S rb bs s) (hl : bs.length < 4294967296) (hn : n < 9223372036854775807) : Calls Tryd.prog 37 #[.pointer (some ⟨rb, 0, none⟩), .int .i64 (n : Int)] w fun e w' =>
    ∃ v, e = .returned v ∧ BytesAt w' S v (sTake n bs s).1 ∧ SRd w' S rb bs (sTake n bs s).2 ∧ w.grownBy w' (some rb) := by
  obtain ⟨ad, c, hb, h0, h1, hlt, hv, c0, c1, c2, f1, f2⟩ := h.parts
  have HH := Lib.hid h
  have HB := Lib.hid hb
  obtain ⟨p, q⟩ := s
  simp only at c1 c2 h1
  clear h h0 hv
  by_cases hq : q = 0
  · subst hq
    by_cases hlt : bs.length - p < n
    · have e1 : sTake n bs (p, 0) = ([], (p, 1)) := by simp only [sTake]; rw [if_neg (by simp), if_pos hlt]
      rw [e1]
      have t0 : decide ((bs.length : Int) - (p : Int) < (n : Int)) = true := by simp; omega
      have w0 : IntKind.i64.wrap ((bs.length : Int) - (p : Int)) = (bs.length : Int) - (p : Int) := by rw [IntKind.wrap_i64]; omega
      clear h1 hlt hb
      go_enter Tryd.func37, Tryd.ntmps37
      go_wp2
      go_quiet (fail)
      go_wp2_with fail
      refine (fail_any (w.drewN nq) S rb bs (p, 0) 1 (HH.out.drewN nq)).mono ?_
      rintro e w1 ⟨rfl, hs1, g1⟩
      obtain ⟨ad1, k1, -, -, -, -, -, d0, d1, d2, -, -⟩ := hs1.parts
      have HS := Lib.hid hs1
      clear hs1
      simp only [sFail] at d1 d2
      go_wp2
      go_ret
      exact ⟨_, rfl, .inl ⟨rfl, rfl⟩, HS.out, grownBy_trans (drewN_grown w nq _) g1⟩
    · have e1 : sTake n bs (p, 0) = ((bs.drop p).take n, (p + n, 0)) := by simp only [sTake]; rw [if_neg (by simp), if_neg hlt]
      rw [e1]
      obtain ⟨v, hcut, hv⟩ := cut_lh hb p (p + n) (by omega) (by omega)
      rw [Nat.add_sub_cancel_left] at hv
      have hcut' : ∀ W, (Instr.slice 22 (.slice ad bs.length c) (some (.int .i64 (p : Int))) (some (.int .i64 ((p : Int) + (n : Int)))) none).run Tryd.prog W = .ok v W := fun W => by have := hcut W; rwa [Int.natCast_add] at this
      have HV := Lib.hid hv
      have t0 : decide ((bs.length : Int) - (p : Int) < (n : Int)) = false := by simp; omega
      have w0 : IntKind.i64.wrap ((bs.length : Int) - (p : Int)) = (bs.length : Int) - (p : Int) := by rw [IntKind.wrap_i64]; omega
      have w1 : IntKind.i64.wrap ((p : Int) + (n : Int)) = (p : Int) + (n : Int) := by rw [IntKind.wrap_i64]; omega
      have w2 : IntKind.i64.wrap ((p : Int) + (n : Int) - (n : Int)) = (p : Int) := by rw [IntKind.wrap_i64]; omega
      have hpn : p + n ≤ bs.length := by omega
      clear h1 hlt hb hv hcut
      go_enter Tryd.func37, Tryd.ntmps37
      go_wp2
      go_quiet (fail)
      go_wp2
      go_quiet (fail)
      go_wp2
      go_ret
      rename_i m1
      have hg : w.grownBy (((w.drewN m1).setCell ⟨rb, 1, none⟩ (.int .i64 ((p : Int) + (n : Int)))).drewN nq) (some rb) := grownBy_trans (grown_setCell (drewN_grown w _ _) 1 _) (drewN_grown _ _ _)
      have hs := ((HH.out.drewN m1).set1 (p + n) hpn).drewN nq
      rw [Int.natCast_add] at hs
      exact ⟨_, rfl, HV.out.kept hg (fun g hg e => HH.out.1 (by rw [← Option.some.inj e]; exact hg)), hs, hg⟩
  · have e1 : sTake n bs (p, q) = ([], (p, q)) := if_pos hq
    rw [e1]
    have t0 : (((q : Nat) : Int) == 0) = false := by simp; omega
    have t1 : (((q : Nat) : Int) != 0) = true := by simp; omega
    go_enter Tryd.func37, Tryd.ntmps37
    go_wp2
    go_quiet (fail)
    go_wp2
    go_ret
    exact ⟨_, rfl, .inl ⟨rfl, rfl⟩, HH.out.drewN nq, drewN_grown w nq _⟩

def sOct (n : Int) (bs : List UInt8) (s : Nat × Nat) : (Bool × List UInt8) × (Nat × Nat) :=
  if s.2 ≠ 0 then ((false, []), s)
  else if n = -1 then ((true, []), s)
  else if n < 0 then ((false, []), (s.1, 3))
  else if bs.length < n then ((false, []), (s.1, 1))
  else ((false, (sTake n.toNat bs s).1), (sTake n.toNat bs s).2)
theorem grown_new {w w1 : World} {row : Option Nat} (g : w.grownBy w1 row) (b o : Nat) (u : Value) (hb : w.heap.size ≤ b) : w.grownBy (w1.setCell ⟨b, o, none⟩ u) row :=
  ⟨g.os, g.tape, g.output, by have := g.size; simpa [World.setCell] using this, fun k hk hr => (Below.heap_setCell w1 ⟨b, o, none⟩ u k (by show k ≠ b; omega)).trans (g.block k hk hr)⟩
theorem grown_alloc (w : World) (o : Obj) (row : Option Nat) : w.grownBy (w.alloc o) row := below_grown ((Below.refl _ _).alloc (Nat.le_refl _) _) row
/-- A new block, some of whose neighbours have been written. -/
theorem new_kept {w w1 : World} {cs : Array Value} {T rb : Nat} (g : (w.alloc (.cells cs T)).grownBy w1 (some rb)) (h : rb < w.heap.size) : w1.heap[w.heap.size]? = some (.cells cs T (0, 0)) ∧ (∀ i, w1.cell? ⟨w.heap.size, i, none⟩ = cs[i]?) ∧ (∀ i, w1.frozen? ⟨w.heap.size, i, none⟩ = false) := by
  have h1 : w1.heap[w.heap.size]? = some (.cells cs T (0, 0)) := by
    rw [g.block w.heap.size (by simp) (by simp; omega)]
    show (w.heap.push (Obj.cells cs T (0, 0)))[w.heap.size]? = _
    exact Array.getElem?_push_size
  exact ⟨h1, fun i => by rw [cell_of_row w1 _ i _ _ _ h1], fun i => by simp [World.frozen?, h1]⟩
theorem two_end {w w1 : World} {cs : Array Value} {T rb : Nat} {S : Nat → Prop} {bs : List UInt8} {s : Nat × Nat} (g : (w.alloc (.cells cs T)).grownBy w1 (some rb)) (hs : SRd w1 S rb bs s) (hS : ∀ g, S g → g < w.heap.size) (hlt : rb < w.heap.size) (x y : Value) :
    SRd ((w1.setCell ⟨w.heap.size, 0, none⟩ x).setCell ⟨w.heap.size, 1, none⟩ y) S rb bs s ∧ w.grownBy ((w1.setCell ⟨w.heap.size, 0, none⟩ x).setCell ⟨w.heap.size, 1, none⟩ y) (some rb) :=
  ⟨hs.kept (row := some w.heap.size) (grown_setCell (grown_setCell (grownBy_refl _ _) 0 _) 1 _) (fun g hg e => by have := hS g hg; have := Option.some.inj e; omega) (fun e => by have := Option.some.inj e; omega),
   grown_new (grown_new (grownBy_trans (grown_alloc _ _ _) g) _ _ _ (Nat.le_refl _)) _ _ _ (Nat.le_refl _)⟩
set_option maxRecDepth 8000 in
set_option maxHeartbeats 400000 in
theorem octets_any (w : World) (S : Nat → Prop) (rb : Nat) (bs : List UInt8) (s : Nat × Nat) (n : Int) (h : SRd w S rb bs s) (hl : bs.length < 4294967296) (hn1 : -9223372036854775808 ≤ n) (hn2 : n < 9223372036854775807) (hS : ∀ g, S g → g < w.heap.size) : Calls Tryd.prog 20 #[.pointer (some ⟨rb, 0, none⟩), .int .i64 n] w fun e w' =>
    ∃ v, e = .returned (.agg #[.bool (sOct n bs s).1.1, v]) ∧ BytesAt w' S v (sOct n bs s).1.2 ∧ SRd w' S rb bs (sOct n bs s).2 ∧ w.grownBy w' (some rb) := by
  obtain ⟨ad, c, hb, h0, h1, hlt, hv, c0, c1, c2, f1, f2⟩ := h.parts
  have HH := Lib.hid h
  obtain ⟨p, q⟩ := s
  simp only at c1 c2 h1
  clear h h0 hv hb
  by_cases hq : q = 0
  · subst hq
    by_cases hn : n = -1
    · subst hn
      have e1 : sOct (-1) bs (p, 0) = ((true, []), (p, 0)) := rfl
      rw [e1]
      go_enter Tryd.func20, Tryd.ntmps20
      go_wp2
      refine bodyPost_ret (v := .agg #[.bool true, .slice none 0 0]) (by simp [results, Tryd.results20, go_sem]) rfl ?_
      exact ⟨_, rfl, .inl ⟨rfl, rfl⟩, HH.out.below ((Below.refl _ _).alloc (Nat.le_refl _) _), grown_alloc _ _ _⟩
    have t0 : (n == -1) = false := by simpa using hn
    by_cases hm : n < 0
    · have e1 : sOct n bs (p, 0) = ((false, []), (p, 3)) := by
        show (if n = -1 then _ else if n < 0 then _ else _) = _
        rw [if_neg hn, if_pos hm]
      rw [e1]
      have t1 : decide (n < 0) = true := by simpa using hm
      have t2 : decide ((bs.length : Int) < n) = false := by simp; omega
      go_enter Tryd.func20, Tryd.ntmps20
      go_wp2_with fail
      refine (fail_any _ S rb bs (p, 0) 3 (HH.out.below ((Below.refl _ _).alloc (Nat.le_refl _) _))).mono ?_
      rintro e w1 ⟨rfl, hs1, g1⟩
      have hs1 : SRd w1 S rb bs (p, 3) := hs1
      obtain ⟨ad1, k1, -, -, -, -, -, d0, d1, d2, d3, -⟩ := hs1.parts
      obtain ⟨-, n1, n2⟩ := new_kept g1 hlt
      have n10 := n1 0
      have n11 := n1 1
      have n20 := n2 0
      have n21 := n2 1
      have HS := Lib.hid hs1
      have HG := Lib.hid g1
      clear hs1 g1 n1 n2
      simp only at d1 d2
      simp at n10 n11
      go_wp2
      refine bodyPost_ret (v := .agg #[.bool false, .slice none 0 0]) (by simp [results, Tryd.results20, go_sem, n10, n11]) rfl ?_
      have z := two_end HG.out HS.out hS hlt (.bool false) (.slice none 0 0)
      exact ⟨_, rfl, .inl ⟨rfl, rfl⟩, z.1, z.2⟩
    have t1 : decide (n < 0) = false := by simpa using hm
    by_cases hx : (bs.length : Int) < n
    · have e1 : sOct n bs (p, 0) = ((false, []), (p, 1)) := by
        show (if n = -1 then _ else if n < 0 then _ else if (bs.length : Int) < n then _ else _) = _
        rw [if_neg hn, if_neg hm, if_pos hx]
      rw [e1]
      have t2 : decide ((bs.length : Int) < n) = true := by simpa using hx
      go_enter Tryd.func20, Tryd.ntmps20
      go_wp2_with fail
      refine (fail_any _ S rb bs (p, 0) 1 (HH.out.below ((Below.refl _ _).alloc (Nat.le_refl _) _))).mono ?_
      rintro e w1 ⟨rfl, hs1, g1⟩
      have hs1 : SRd w1 S rb bs (p, 1) := hs1
      obtain ⟨ad1, k1, -, -, -, -, -, d0, d1, d2, d3, -⟩ := hs1.parts
      obtain ⟨-, n1, n2⟩ := new_kept g1 hlt
      have n10 := n1 0
      have n11 := n1 1
      have n20 := n2 0
      have n21 := n2 1
      have HS := Lib.hid hs1
      have HG := Lib.hid g1
      clear hs1 g1 n1 n2
      simp only at d1 d2
      simp at n10 n11
      go_wp2
      refine bodyPost_ret (v := .agg #[.bool false, .slice none 0 0]) (by simp [results, Tryd.results20, go_sem, n10, n11]) rfl ?_
      have z := two_end HG.out HS.out hS hlt (.bool false) (.slice none 0 0)
      exact ⟨_, rfl, .inl ⟨rfl, rfl⟩, z.1, z.2⟩
    · obtain ⟨k, rfl⟩ : ∃ k : Nat, n = k := ⟨n.toNat, by omega⟩
      have e1 : sOct (k : Int) bs (p, 0) = ((false, (sTake k bs (p, 0)).1), (sTake k bs (p, 0)).2) := by
        unfold sOct
        rw [if_neg (show ¬ (((p, 0) : Nat × Nat).2 ≠ 0) by simp), if_neg hn, if_neg hm, if_neg hx]
        rfl
      rw [e1]
      have t2 : decide ((bs.length : Int) < (k : Int)) = false := by simpa using hx
      have HT := Lib.hid (take_any (w.alloc (.cells #[.bool false, .slice none 0 0] 24)) S rb bs (p, 0) k (HH.out.below ((Below.refl _ _).alloc (Nat.le_refl _) _)) hl (by omega))
      generalize sTake k bs (p, 0) = r at *
      clear e1
      go_enter Tryd.func20, Tryd.ntmps20
      go_wp2_with fail
      refine HT.out.mono ?_
      rintro e w1 ⟨v, rfl, hv1, hs1, g1⟩
      obtain ⟨ad2, k2, rfl⟩ := bytes_len hv1
      obtain ⟨-, n1, n2⟩ := new_kept g1 hlt
      have n10 := n1 0
      have n11 := n1 1
      have n20 := n2 0
      have n21 := n2 1
      have HS := Lib.hid hs1
      have HG := Lib.hid g1
      have HV := Lib.hid hv1
      clear hs1 g1 n1 n2 hv1
      simp at n10 n11
      go_wp2
      refine bodyPost_ret (v := .agg #[.bool false, .slice ad2 r.1.length k2]) (by simp [results, Tryd.results20, go_sem, n10, n11]) rfl ?_
      have z := two_end HG.out HS.out hS hlt (.bool false) (.slice ad2 r.1.length k2)
      exact ⟨_, rfl, HV.out.kept (row := some w.heap.size) (grown_setCell (grown_setCell (grownBy_refl _ _) 0 _) 1 _) (fun g hg e => by have := hS g hg; have := Option.some.inj e; omega), z.1, z.2⟩
  · have e1 : sOct n bs (p, q) = ((false, []), (p, q)) := if_pos hq
    rw [e1]
    have t3 : (((q : Nat) : Int) == 0) = false := by simp; omega
    have t4 : (((q : Nat) : Int) != 0) = true := by simp; omega
    have hf : ∀ k, sFail k (p, q) = (p, q) := fun k => if_neg hq
    by_cases hm : n < 0
    · have t1 : decide (n < 0) = true := by simpa using hm
      have t2 : decide ((bs.length : Int) < n) = false := by simp; omega
      have HT := Lib.hid (fail_any (w.alloc (.cells #[.bool false, .slice none 0 0] 24)) S rb bs (p, q) 3 (HH.out.below ((Below.refl _ _).alloc (Nat.le_refl _) _)))
      rw [hf] at HT
      rcases (by omega : n = -1 ∨ n < -1) with hn | hn
      · subst hn
        go_enter Tryd.func20, Tryd.ntmps20
        go_wp2_with fail
        refine HT.out.mono ?_
        rintro e w1 ⟨rfl, hs1, g1⟩
        obtain ⟨ad1, k1, -, -, -, -, -, d0, d1, d2, d3, -⟩ := hs1.parts
        obtain ⟨-, n1, n2⟩ := new_kept g1 hlt
        have n10 := n1 0
        have n11 := n1 1
        have n20 := n2 0
        have n21 := n2 1
        have HS := Lib.hid hs1
        have HG := Lib.hid g1
        clear hs1 g1 n1 n2
        simp only at d1 d2
        simp at n10 n11
        go_wp2
        refine bodyPost_ret (v := .agg #[.bool false, .slice none 0 0]) (by simp [results, Tryd.results20, go_sem, n10, n11]) rfl ?_
        have z := two_end HG.out HS.out hS hlt (.bool false) (.slice none 0 0)
        exact ⟨_, rfl, .inl ⟨rfl, rfl⟩, z.1, z.2⟩
      · have t0 : (n == -1) = false := by simp; omega
        go_enter Tryd.func20, Tryd.ntmps20
        go_wp2_with fail
        refine HT.out.mono ?_
        rintro e w1 ⟨rfl, hs1, g1⟩
        obtain ⟨ad1, k1, -, -, -, -, -, d0, d1, d2, d3, -⟩ := hs1.parts
        obtain ⟨-, n1, n2⟩ := new_kept g1 hlt
        have n10 := n1 0
        have n11 := n1 1
        have n20 := n2 0
        have n21 := n2 1
        have HS := Lib.hid hs1
        have HG := Lib.hid g1
        clear hs1 g1 n1 n2
        simp only at d1 d2
        simp at n10 n11
        go_wp2
        refine bodyPost_ret (v := .agg #[.bool false, .slice none 0 0]) (by simp [results, Tryd.results20, go_sem, n10, n11]) rfl ?_
        have z := two_end HG.out HS.out hS hlt (.bool false) (.slice none 0 0)
        exact ⟨_, rfl, .inl ⟨rfl, rfl⟩, z.1, z.2⟩
    · have t0 : (n == -1) = false := by simp; omega
      have t1 : decide (n < 0) = false := by simpa using hm
      by_cases hx : (bs.length : Int) < n
      · have t2 : decide ((bs.length : Int) < n) = true := by simpa using hx
        have HT := Lib.hid (fail_any (w.alloc (.cells #[.bool false, .slice none 0 0] 24)) S rb bs (p, q) 1 (HH.out.below ((Below.refl _ _).alloc (Nat.le_refl _) _)))
        rw [hf] at HT
        go_enter Tryd.func20, Tryd.ntmps20
        go_wp2_with fail
        refine HT.out.mono ?_
        rintro e w1 ⟨rfl, hs1, g1⟩
        obtain ⟨ad1, k1, -, -, -, -, -, d0, d1, d2, d3, -⟩ := hs1.parts
        obtain ⟨-, n1, n2⟩ := new_kept g1 hlt
        have n10 := n1 0
        have n11 := n1 1
        have n20 := n2 0
        have n21 := n2 1
        have HS := Lib.hid hs1
        have HG := Lib.hid g1
        clear hs1 g1 n1 n2
        simp only at d1 d2
        simp at n10 n11
        go_wp2
        refine bodyPost_ret (v := .agg #[.bool false, .slice none 0 0]) (by simp [results, Tryd.results20, go_sem, n10, n11]) rfl ?_
        have z := two_end HG.out HS.out hS hlt (.bool false) (.slice none 0 0)
        exact ⟨_, rfl, .inl ⟨rfl, rfl⟩, z.1, z.2⟩
      · have t2 : decide ((bs.length : Int) < n) = false := by simpa using hx
        go_enter Tryd.func20, Tryd.ntmps20
        go_wp2
        refine bodyPost_ret (v := .agg #[.bool false, .slice none 0 0]) (by simp [results, Tryd.results20, go_sem]) rfl ?_
        exact ⟨_, rfl, .inl ⟨rfl, rfl⟩, HH.out.below ((Below.refl _ _).alloc (Nat.le_refl _) _), grown_alloc _ _ _⟩
end Go.Proofs.YthdfhnnoamlacaaDoor.Rec

namespace Go.Proofs.YthdfhnnoamlacaaDoor.Rec
open Go.Proofs.YthdfhnnoamlacaaDoor
open Go.RowKit (Below wrap64)
open Kz

theorem field24 (b : Bool) (ad : Option Addr) (n c : Nat) (W : World) : (Instr.field 24 (.agg #[.bool b, .slice ad n c]) 1).run Tryd.prog W = .ok (.slice ad n c) W := by kernel_rfl
theorem zig_bound (u : Nat) (h : u < 4294967296) : -2147483648 ≤ zig u ∧ zig u ≤ 2147483647 := by
  unfold zig
  split <;> omega
/-- Blocks of the call's own have been written. -/
theorem grown_sub {w w0 w1 : World} {b : Nat} (h0 : w.grownBy w0 none) (g : w0.grownBy w1 (some b)) (hb : w.heap.size ≤ b) : w.grownBy w1 none :=
  ⟨g.os.trans h0.os, g.tape.trans h0.tape, g.output.trans h0.output, Nat.le_trans h0.size g.size, fun k hk _ => (g.block k (Nat.lt_of_lt_of_le hk h0.size) (fun e => by have := Option.some.inj e; omega)).trans (h0.block k hk (by simp))⟩
theorem grown_below {w w1 : World} (g : w.grownBy w1 none) : Below w.heap.size w w1 := ⟨g.os, g.tape, g.output, g.size, fun k hk => g.block k hk (by simp)⟩
theorem drew_grown (w : World) (row : Option Nat) : w.grownBy w.drew row := ⟨rfl, rfl, rfl, Nat.le_refl _, fun _ _ _ => rfl⟩
end Go.Proofs.YthdfhnnoamlacaaDoor.Rec

namespace Go.Proofs.YthdfhnnoamlacaaDoor.Rec
open Go.Proofs.YthdfhnnoamlacaaDoor
open Go.RowKit (Below wrap64 wrap32)
open Kz

theorem rdV_some (bs : List UInt8) (n : Nat) (r : List UInt8) (h : uvA 4 bs = some (n, r)) : rdV (some bs) = (n, some r) := by simp only [rdV, h]
theorem rdV_less (bs : List UInt8) (h : uvA 4 bs = none) : rdV (some bs) = (0, none) := by simp only [rdV, h]
theorem zig32 (n : Nat) (h : n < 4294967296) : RowKit.wrap32 (bits .xor .u32 ((n / 2 : Nat) : Int) (IntKind.u32.wrap (-((n % 2 : Nat) : Int)))) = zig n := by
  unfold zig
  rcases (by omega : n % 2 = 0 ∨ n % 2 = 1) with e | e
  · rw [e, if_pos rfl, show IntKind.u32.wrap (-((0 : Nat) : Int)) = ((0 : Nat) : Int) by kernel_rfl, u32_xor_nat _ _ (by omega) (by decide), Nat.xor_zero]
    unfold RowKit.wrap32
    omega
  · rw [e, if_neg (by decide), show IntKind.u32.wrap (-((1 : Nat) : Int)) = ((4294967295 : Nat) : Int) by kernel_rfl, u32_xor_nat _ _ (by omega) (by decide)]
    have : n / 2 ^^^ 4294967295 = 4294967295 - n / 2 := by
      have := BitVec.toNat_not (x := BitVec.ofNat 32 (n / 2))
      rw [← BitVec.xor_allOnes, BitVec.toNat_xor] at this
      simp at this
      rw [Nat.mod_eq_of_lt (by omega)] at this
      exact this
    rw [this]
    unfold RowKit.wrap32
    omega
theorem Varint_of (w : World) (v : Value) (n : Nat) (hn : n < 4294967296) (k : Int)
    (hcall : Calls Tryd.prog 81 #[v] w fun e w' => e = .returned (.tuple #[.int .u32 (n : Int), .int .i64 k]) ∧ w = w') :
    Calls Tryd.prog 69 #[v] w fun e w' => e = .returned (.tuple #[.int .i32 (zig n), .int .i64 k]) ∧ w = w' := by
  have H := Lib.hid hcall
  have hz := Lib.hid (zig32 n hn)
  clear hcall
  have e1 := u32_and_nat n 1 hn (by decide)
  rw [Nat.and_one_is_mod] at e1
  have e1 : bits .and .u32 (n : Int) 1 = ((n % 2 : Nat) : Int) := e1
  go_enter Tryd.func69, Tryd.ntmps69
  go_wp2_with fail
  refine H.out.mono ?_
  rintro e w' ⟨rfl, rfl⟩
  go_wp2
  go_ret2
  have hz := hz.out
  rw [IntKind.wrap_u32, Int.natCast_ediv, Int.natCast_emod] at hz
  exact ⟨by rw [← hz]; rfl, rfl⟩

set_option maxHeartbeats 400000 in
theorem RVarint_no (w : World) (rb : Nat) (v : Value) (q : Bool) (k : Int) (hk : k ≤ 0)
    (c0 : w.cell? ⟨rb, 0, none⟩ = some v) (c1 : w.cell? ⟨rb, 1, none⟩ = some (.bool q)) (f0 : w.frozen? ⟨rb, 0, none⟩ = false) (f1 : w.frozen? ⟨rb, 1, none⟩ = false)
    (hcall : Calls Tryd.prog 69 #[v] w fun e w' => e = .returned (.tuple #[.int .i32 0, .int .i64 k]) ∧ w = w') :
    Calls Tryd.prog 59 #[.pointer (some ⟨rb, 0, none⟩)] w fun e w' =>
      e = .returned (.int .i32 0) ∧ w' = (w.setCell ⟨rb, 1, none⟩ (.bool true)).setCell ⟨rb, 0, none⟩ (.slice none 0 0) := by
  have H := Lib.hid hcall
  clear hcall
  have t0 : decide (k ≤ 0) = true := by simpa using hk
  go_enter Tryd.func59, Tryd.ntmps59
  go_wp2_with fail
  refine H.out.mono ?_
  rintro e w' ⟨rfl, rfl⟩
  go_wp2
  go_ret
  exact ⟨rfl, rfl⟩
set_option maxHeartbeats 400000 in
theorem RVarint_yes (w : World) (rb n c g o k : Nat) (m : Int) (hc : n ≤ c) (hc2 : c ≤ 9223372036854775807) (hk : k ≤ n) (hk1 : 1 ≤ k)
    (c0 : w.cell? ⟨rb, 0, none⟩ = some (.slice (some ⟨g, o, none⟩) n c)) (f0 : w.frozen? ⟨rb, 0, none⟩ = false)
    (hcall : Calls Tryd.prog 69 #[.slice (some ⟨g, o, none⟩) n c] w fun e w' => e = .returned (.tuple #[.int .i32 m, .int .i64 (k : Int)]) ∧ w = w') :
    Calls Tryd.prog 59 #[.pointer (some ⟨rb, 0, none⟩)] w fun e w' =>
      e = .returned (.int .i32 m) ∧ ∃ ad, (ad = ⟨g, o + k, none⟩ ∨ (c = k ∧ ad = ⟨g, o, none⟩)) ∧ w' = w.setCell ⟨rb, 0, none⟩ (.slice (some ad) (n - k) (c - k)) := by
  have H := Lib.hid hcall
  clear hcall
  have t0 : decide ((k : Int) ≤ 0) = false := by simp; omega
  by_cases hne : c = k
  · subst hne
    obtain rfl : n = c := by omega
    go_enter Tryd.func59, Tryd.ntmps59
    go_wp2_with fail
    refine H.out.mono ?_
    rintro e w' ⟨rfl, rfl⟩
    go_wp2
    go_ret
    refine ⟨rfl, _, .inr ⟨by trivial, rfl⟩, ?_⟩
    simp
  · go_enter Tryd.func59, Tryd.ntmps59
    go_wp2_with fail
    refine H.out.mono ?_
    rintro e w' ⟨rfl, rfl⟩
    go_wp2
    go_ret
    exact ⟨rfl, _, .inl rfl, rfl⟩
theorem uvA_lt (bs : List UInt8) (n : Nat) (r : List UInt8) (h : uvA 4 bs = some (n, r)) : n < 4294967296 := by
  have := rdV_bounds (some bs)
  rwa [rdV_some bs n r h] at this
/-- The reader's octets are a slice that is not nil. -/
def SrcNN (w : World) (rb : Nat) : Prop := ∃ ad n c, w.cell? ⟨rb, 0, none⟩ = some (.slice (some ad) n c)
theorem RVarint_any (w : World) (S : Nat → Prop) (rb : Nat) (st : St) (h : RdIs w S rb st) : Calls Tryd.prog 59 #[.pointer (some ⟨rb, 0, none⟩)] w fun e w' =>
    e = .returned (.int .i32 (zig (rdV st).1)) ∧ RdIs w' S rb (rdV st).2 ∧ w.grownBy w' (some rb) ∧ ((rdV st).2.isSome = true → SrcNN w' rb) := by
  have z0 : zig 0 = 0 := rfl
  cases st with
  | none =>
    obtain ⟨hv, h0, c0, c1, f0, f1⟩ := rd_parts_none h
    refine (RVarint_no w rb _ true 0 (by decide) c0 c1 f0 f1 (Varint_of w _ 0 (by decide) 0 (Uvarint_f0 w 0 none))).mono ?_
    rintro e w' ⟨rfl, rfl⟩
    have z := rd_fail (S := S) h0 (grownBy_refl w (some rb)) hv
    exact ⟨rfl, z.1, z.2, fun h => by cases h⟩
  | some bs =>
    obtain ⟨v, hv, hb, h0, c0, c1, f0, f1⟩ := rd_parts h
    rcases Uvarint_any w S v bs hb with ⟨m, r, hu, k, hk1, hk, hr, hc⟩ | ⟨hu, z, hz, hc⟩
    · rw [rdV_some bs m r hu]
      rcases hb with ⟨rfl, rfl⟩ | ⟨g, o, c, rfl, h2, h3, h4, h5, h6⟩
      · simp [uvA] at hu
      refine (RVarint_yes w rb bs.length c g o k (zig m) h2 h3 hk hk1 c0 f0 (Varint_of w _ m (uvA_lt bs m r hu) k hc)).mono ?_
      rintro e w' ⟨rfl, ad, had, rfl⟩
      have hd := BytesAt.drop (S := S) k hk rfl h2 h3 h4 h5 h6 ad had
      rw [hr]
      have z := rd_on h0 (grownBy_refl _ _) hv hd
      exact ⟨rfl, z.1, z.2, fun _ => ⟨ad, _, _, by rw [cell_of_row _ rb 0 _ _ _ (heap_setCell_row hv)]; rfl⟩⟩
    · rw [rdV_less bs hu]
      refine (RVarint_no w rb v false z hz c0 c1 f0 f1 (Varint_of w _ 0 (by decide) z hc)).mono ?_
      rintro e w' ⟨rfl, rfl⟩
      have z := rd_fail (S := S) h0 (grownBy_refl w (some rb)) hv
      exact ⟨rfl, z.1, z.2, fun h => by cases h⟩

/-- Octets with their length in groups ahead: none where the length is negative. -/
def rdVB (st : St) : Option (List UInt8) × St :=
  if zig (rdV st).1 < 0 then (none, (rdV st).2) else (some (rdSpan (zig (rdV st).1) (rdV st).2).1, (rdSpan (zig (rdV st).1) (rdV st).2).2)
/-- Octets as the package holds them: nil, or a slice (that is not nil where all went well). -/
def NilOr (w : World) (S : Nat → Prop) (v : Value) (ok : Bool) (x : Option (List UInt8)) : Prop :=
  match x with | none => v = .slice none 0 0 | some bs => BytesAt w S v bs ∧ (ok = true → ∃ ad n c, v = .slice (some ad) n c)
theorem Span_nn (w : World) (S : Nat → Prop) (rb : Nat) (st : St) (l : Int) (h : RdIs w S rb st) (hb1 : -9223372036854775808 ≤ l) (hb2 : l ≤ 9223372036854775807) (hn : st.isSome = true → SrcNN w rb) :
    Calls Tryd.prog 60 #[.pointer (some ⟨rb, 0, none⟩), .int .i64 l] w fun e w' =>
    ∃ v, e = .returned v ∧ NilOr w' S v (rdSpan l st).2.isSome (some (rdSpan l st).1) ∧ RdIs w' S rb (rdSpan l st).2 ∧ w.grownBy w' (some rb) := by
  cases st with
  | none => exact (Span_any w S rb none l h hb1 hb2).mono fun e w' ⟨v, h1, h2, h3⟩ => ⟨v, h1, ⟨h2, fun h => by cases h⟩, h3⟩
  | some bs =>
    by_cases hl : 0 ≤ l ∧ l ≤ bs.length
    · obtain ⟨v, hv, hb, h0, c0, c1, f0, f1⟩ := rd_parts h
      obtain ⟨ad0, n0, k0, hc⟩ := hn rfl
      rw [c0] at hc
      obtain rfl := Option.some.inj hc
      rw [rdSpan_yes l bs hl]
      obtain ⟨k, rfl⟩ : ∃ k : Nat, l = k := ⟨l.toNat, by omega⟩
      rw [Int.toNat_natCast]
      rcases hb with ⟨h, -⟩ | ⟨g, o, c, h1, h2, h3, h4, h5, h6⟩
      · simp at h
      · simp only [Value.slice.injEq, Option.some.injEq] at h1
        obtain ⟨rfl, rfl, rfl⟩ := h1
        refine (Span_yes w rb bs.length k0 g o k (by omega) h2 h3 c0 f0).mono ?_
        rintro e w' ⟨rfl, ad, had, rfl⟩
        have hd := BytesAt.drop (S := S) k (by omega) rfl h2 h3 h4 h5 h6 ad had
        have ho := rd_on h0 (grownBy_refl _ _) hv hd
        exact ⟨_, rfl, ⟨(BytesAt.take (S := S) k (by omega) h2 h3 h4 h5 h6).kept ho.2 (fun g hg e => h0 (by rw [← Option.some.inj e]; exact hg)), fun _ => ⟨_, _, _, rfl⟩⟩, ho⟩
    · refine (Span_any w S rb (some bs) l h hb1 hb2).mono fun e w' ⟨v, h1, h2, h3⟩ => ⟨v, h1, ⟨h2, fun h => ?_⟩, h3⟩
      rw [rdSpan_not l bs hl] at h
      cases h
theorem rdV_zig (st : St) : -2147483648 ≤ zig (rdV st).1 ∧ zig (rdV st).1 ≤ 2147483647 := zig_bound _ (rdV_bounds st)
theorem VarintBytes_any (w : World) (S : Nat → Prop) (rb : Nat) (st : St) (h : RdIs w S rb st) : Calls Tryd.prog 44 #[.pointer (some ⟨rb, 0, none⟩)] w fun e w' =>
    ∃ v, e = .returned v ∧ NilOr w' S v (rdVB st).2.isSome (rdVB st).1 ∧ RdIs w' S rb (rdVB st).2 ∧ w.grownBy w' (some rb) := by
  have hb := rdV_zig st
  have HV := Lib.hid (RVarint_any w S rb st h)
  unfold rdVB
  generalize (rdV st).1 = n at *
  generalize (rdV st).2 = s1 at *
  generalize zig n = l at *
  have b1 := hb.1
  have b2 := hb.2
  clear h hb
  by_cases hn : l < 0
  · have t1 : decide (l < 0) = true := by simpa using hn
    rw [if_pos hn]
    go_enter Tryd.func44, Tryd.ntmps44
    go_wp2_with fail
    refine HV.out.mono ?_
    rintro e w1 ⟨rfl, h1, g1, -⟩
    have H1 := Lib.hid h1
    clear h1
    go_wp2
    go_ret
    exact ⟨_, rfl, rfl, H1.out, g1⟩
  · have t1 : decide (l < 0) = false := by simpa using hn
    rw [if_neg hn]
    go_enter Tryd.func44, Tryd.ntmps44
    go_wp2_with fail
    refine HV.out.mono ?_
    rintro e w1 ⟨rfl, h1, g1, hn1⟩
    have H1 := Lib.hid h1
    have HN := Lib.hid hn1
    clear h1 hn1
    go_wp2_with fail
    refine (Span_nn w1 S rb s1 l H1.out (by omega) (by omega) HN.out).mono ?_
    rintro e w2 ⟨v, rfl, hv, h2, g2⟩
    have H2 := Lib.hid h2
    have HV := Lib.hid hv
    clear h2 hv
    go_wp2
    go_ret
    exact ⟨_, rfl, HV.out, H2.out, grownBy_trans g1 g2⟩
theorem NilOr.bytes {w : World} {S : Nat → Prop} {v : Value} {q : Bool} {x : Option (List UInt8)} (h : NilOr w S v q x) : BytesAt w S v (x.getD []) := by
  cases x with
  | none => exact .inl ⟨h, rfl⟩
  | some bs => exact h.1
theorem NilOr.kept {w w' : World} {S : Nat → Prop} {v : Value} {q : Bool} {x : Option (List UInt8)} {row : Option Nat} (h : NilOr w S v q x) (hg : w.grownBy w' row) (hr : ∀ g, S g → some g ≠ row) : NilOr w' S v q x := by
  cases x with
  | none => exact h
  | some bs => exact ⟨h.1.kept hg hr, h.2⟩
theorem VarintString_any (w : World) (S : Nat → Prop) (rb : Nat) (st : St) (h : RdIs w S rb st) : Calls Tryd.prog 43 #[.pointer (some ⟨rb, 0, none⟩)] w fun e w' =>
    e = .returned (strV ((rdVB st).1.getD [])) ∧ RdIs w' S rb (rdVB st).2 ∧ w.grownBy w' (some rb) := by
  have HV := Lib.hid (VarintBytes_any w S rb st h)
  generalize rdVB st = r at *
  clear h
  go_enter Tryd.func43, Tryd.ntmps43
  go_wp2_with fail
  refine HV.out.mono ?_
  rintro e w1 ⟨v, rfl, hv, h1, g1⟩
  have hc := conv_string hv.bytes 22 9 rfl rfl
  have H1 := Lib.hid h1
  clear h1 hv
  go_wp2
  go_ret
  exact ⟨rfl, H1.out, g1⟩
end Go.Proofs.YthdfhnnoamlacaaDoor.Rec

namespace Go.Proofs.YthdfhnnoamlacaaDoor.Rec
open Go.Proofs.YthdfhnnoamlacaaDoor
open Go.RowKit (Below wrap64 wrap32)
open Kz

/-- What the package reads. -/
def pHead (bs : List UInt8) : (List UInt8 × Option (List UInt8)) × St :=
  (((rdVB (some bs)).1.getD [], (rdVB (rdVB (some bs)).2).1), (rdVB (rdVB (some bs)).2).2)
theorem kmsg_Header_Default_is (w : World) (v : Value) : Calls Tryd.prog 41 #[v] w fun e w' => e = .returned (.tuple #[]) ∧ w' = w := by
  go_enter Tryd.func41, Tryd.ntmps41
  go_wp2
  go_end0
  exact ⟨rfl, rfl⟩
set_option maxRecDepth 8000 in
theorem hreadFrom_any (w : World) (S : Nat → Prop) (B : Nat) (p : Option Addr) (c : Nat) (bs : List UInt8) (hB : w.heap[B]? = some (.cells #[.string ⟨#[]⟩, .slice none 0 0] 48 (0, 0))) (h : BytesAt w S (.slice p bs.length c) bs) (hSB : ¬ S B) (hS : ∀ g, S g → g < w.heap.size) (he : ErrOk w) (hBe : B ≠ 0) :
    Calls Tryd.prog 26 #[.pointer (some ⟨B, 0, none⟩), .slice p bs.length c, .bool false] w fun e w' => ∃ u v, e = .returned u ∧ ErrV (pHead bs).2 u ∧ w.grownBy w' (some B) ∧ w'.heap[B]? = some (.cells #[strV (pHead bs).1.1, v] 48 (0, 0)) ∧ NilOr w' S v (pHead bs).2.isSome (pHead bs).1.2 := by
  have hBl : B < w.heap.size := (Array.getElem?_eq_some_iff.1 hB).1
  have hr0 : RdIs (w.alloc (.cells #[.slice p bs.length c, .bool false] 99)) S w.heap.size (some bs) :=
    ⟨fun h => by have := hS _ h; omega, .slice p bs.length c, (by show (w.heap.push _)[w.heap.size]? = _; exact Array.getElem?_push_size), h.kept (grown_alloc w _ none) (by simp)⟩
  have HS := Lib.hid (VarintString_any _ S w.heap.size (some bs) hr0)
  have HB := Lib.hid hB
  have HE := Lib.hid he
  unfold pHead
  generalize rdVB (some bs) = r at *
  obtain ⟨k, s1⟩ := r
  have HV := Lib.hid (fun w h => VarintBytes_any w S h s1)
  generalize rdVB s1 = r at *
  obtain ⟨x, s2⟩ := r
  simp only at HS HV ⊢
  clear h hr0 hB he
  go_enter Tryd.func26, Tryd.ntmps26
  go_wp2_with fail
  refine (kmsg_Header_Default_is _ _).mono ?_
  rintro e w' ⟨rfl, hw⟩
  have hw := hw.symm
  subst hw
  go_wp2_with fail
  refine HS.out.mono ?_
  rintro e w1 ⟨rfl, h1, g1⟩
  have hB1 : w1.heap[B]? = some (.cells #[.string ⟨#[]⟩, .slice none 0 0] 48 (0, 0)) := by
    rw [g1.block B (Nat.lt_of_lt_of_le hBl (grown_alloc w _ none).size) (fun e => by have := Option.some.inj e; omega), (grown_alloc w _ none).block B hBl (by simp)]
    exact HB.out
  have c10 : w1.cell? ⟨B, 0, none⟩ = some (.string ⟨#[]⟩) := by rw [cell_of_row w1 _ _ _ _ _ hB1]; rfl
  have f10 : w1.frozen? ⟨B, 0, none⟩ = false := by simp [World.frozen?, hB1]
  have HB1 := Lib.hid hB1
  have H1 := Lib.hid h1
  have HG1 := Lib.hid (grown_sub (grown_alloc w _ none) g1 (Nat.le_refl _))
  clear h1 g1 hB1 HS
  unfold strV
  go_wp2_with fail
  have gs : w1.grownBy (w1.setCell ⟨B, 0, none⟩ (.string ⟨(k.getD []).toArray⟩)) (some B) := grown_setCell (grownBy_refl _ _) 0 _
  have hk : ∀ g, S g → some g ≠ some B := fun g hg e => hSB (by rw [← Option.some.inj e]; exact hg)
  refine (HV.out _ _ (H1.out.kept gs hk (fun e => by have := Option.some.inj e; omega))).mono ?_
  rintro e w2 ⟨v, rfl, hv, h2, g2⟩
  obtain ⟨ad2, k2, rfl⟩ := bytes_len hv.bytes
  have hB2 : w2.heap[B]? = some (.cells #[.string ⟨(k.getD []).toArray⟩, .slice none 0 0] 48 (0, 0)) := by
    rw [g2.block B (by have := HG1.out.size; have := gs.size; omega) (fun e => by have := Option.some.inj e; omega), heap_setCell_row HB1.out]
    rfl
  have c20 : w2.cell? ⟨B, 1, none⟩ = some (.slice none 0 0) := by rw [cell_of_row w2 _ _ _ _ _ hB2]; rfl
  have f20 : w2.frozen? ⟨B, 1, none⟩ = false := by simp [World.frozen?, hB2]
  have g12 : w.grownBy w2 (some B) := by
    have z := HG1.out
    have y := gs
    refine ⟨g2.os.trans (y.os.trans z.os), g2.tape.trans (y.tape.trans z.tape), g2.output.trans (y.output.trans z.output), Nat.le_trans z.size (Nat.le_trans y.size g2.size), fun j hj hr => ?_⟩
    rw [g2.block j (Nat.lt_of_lt_of_le hj (Nat.le_trans z.size y.size)) (fun e => by have := Option.some.inj e; omega), y.block j (Nat.lt_of_lt_of_le hj z.size) hr]
    exact z.block j hj (by simp)
  have gs2 : ∀ u, w2.grownBy (w2.setCell ⟨B, 1, none⟩ u) (some B) := fun u => grown_setCell (grownBy_refl _ _) 1 _
  have HC := Lib.hid (fun u => Complete_any (w2.setCell ⟨B, 1, none⟩ u) S w.heap.size s2 (h2.kept (gs2 u) hk (fun e => by have := Option.some.inj e; omega)) ((HE.out.kept (grownBy_trans g12 (gs2 u)) (fun e => hBe (Option.some.inj e)))))
  have HN := Lib.hid hv
  have HB2 := Lib.hid hB2
  have HG2 := Lib.hid g12
  clear hB2 gs g2 g12 hv h2 HV
  go_wp2_with fail
  refine (HC.out _).mono ?_
  rintro e w3 ⟨u, rfl, hu, hw3⟩
  subst hw3
  have HU := Lib.hid hu
  clear hu HC
  go_wp2
  go_ret
  refine ⟨_, _, rfl, HU.out, grownBy_trans HG2.out (gs2 _), ?_, HN.out.kept (gs2 _) hk⟩
  rw [heap_setCell_row HB2.out]
  rfl
theorem hReadFrom_any (w : World) (S : Nat → Prop) (B : Nat) (p : Option Addr) (c : Nat) (bs : List UInt8) (hB : w.heap[B]? = some (.cells #[.string ⟨#[]⟩, .slice none 0 0] 48 (0, 0))) (h : BytesAt w S (.slice p bs.length c) bs) (hSB : ¬ S B) (hS : ∀ g, S g → g < w.heap.size) (he : ErrOk w) (hBe : B ≠ 0) :
    Calls Tryd.prog 13 #[.pointer (some ⟨B, 0, none⟩), .slice p bs.length c] w fun e w' => ∃ u v, e = .returned u ∧ ErrV (pHead bs).2 u ∧ w.grownBy w' (some B) ∧ w'.heap[B]? = some (.cells #[strV (pHead bs).1.1, v] 48 (0, 0)) ∧ NilOr w' S v (pHead bs).2.isSome (pHead bs).1.2 := by
  have HH := Lib.hid (hreadFrom_any w S B p c bs hB h hSB hS he hBe)
  clear hB h he
  go_enter Tryd.func13, Tryd.ntmps13
  go_wp2_with fail
  refine HH.out.mono ?_
  rintro e w1 ⟨u, v, rfl, hr⟩
  have HR := Lib.hid hr
  clear hr
  go_wp2
  go_ret
  exact ⟨_, _, rfl, HR.out⟩
/-- New memory of the same octets. -/
theorem own_any (w : World) (S : Nat → Prop) (v : Value) (bs : List UInt8) (h : BytesAt w S v bs) (hl : bs.length < 4294967296) : Calls Tryd.prog 14 #[v] w fun e w' =>
    ∃ u, e = .returned u ∧ OwnB w' w.heap.size u bs ∧ Below w.heap.size w w' := by
  obtain ⟨p, c, rfl⟩ := bytes_len h
  have HB := Lib.hid h
  clear h
  go_enter Tryd.func14, Tryd.ntmps14
  go_wp2_with (at_builtin; refine wpList_append_octets rfl _ _ rfl w.heap.size _ _ [] bs S rfl rfl (OwnB.nil _ _) HB.out ?_ (Nat.le_refl _) ?_)
  · simp [lim]; omega
  intro v1 w1 ho hg
  have HO := Lib.hid ho
  have hg : w.grownBy w1 none := hg
  have HG := Lib.hid hg
  clear ho hg
  go_wp2
  go_ret
  exact ⟨_, rfl, HO.out, grown_below HG.out⟩
theorem size_alloc (w : World) (o : Obj) : (w.alloc o).heap.size = w.heap.size + 1 := Array.size_push _
theorem own_made2 (w : World) (o : Obj) : OwnB ((w.alloc o).alloc (.cells #[] 5)) (w.heap.size + 1) (.slice (some ⟨w.heap.size + 1, 0, none⟩) 0 0) [] := by
  have := World.ownsRow_made (base := w.heap.size + 1) (e := 5) (size := 1) (w.alloc o) #[] 0 (by rw [size_alloc]; exact Nat.le_refl _) (by decide) rfl
  rw [size_alloc] at this
  exact this
theorem octs_any (w : World) (S : Nat → Prop) (v : Value) (x : Option (List UInt8)) (h : NilOr w S v true x) (hl : (x.getD []).length < 4294967296) : Calls Tryd.prog 15 #[v] w fun e w' =>
    ∃ u, e = .returned (.agg #[.bool x.isNone, u]) ∧ BytesAt w' (fun g => w.heap.size ≤ g) u (x.getD []) ∧ Below w.heap.size w w' := by
  cases x with
  | none =>
    have h : v = .slice none 0 0 := h
    subst h
    have qS : ∀ (w : World) (a : Option Addr) (n c : Nat), (binOp .eql 22 (.slice a n c) (.slice none 0 0)).run Tryd.prog w = .ok (.bool a.isNone) w := fun w a n c => Go.Lib.run_eql_slice_nil w _ _ a n c 0 0 Tryd.underlying22
    go_enter Tryd.func15, Tryd.ntmps15
    go_wp2
    refine bodyPost_ret (v := .agg #[.bool true, .slice none 0 0]) (by simp [results, Tryd.results15, go_sem]) rfl ?_
    exact ⟨_, rfl, .inl ⟨rfl, rfl⟩, (Below.refl _ _).alloc (Nat.le_refl _) _⟩
  | some bs =>
    obtain ⟨hb, hn⟩ := h
    obtain ⟨ad, n, c, rfl⟩ := hn rfl
    have HB := Lib.hid hb
    clear hb hn
    have qS : ∀ (w : World) (a : Option Addr) (n c : Nat), (binOp .eql 22 (.slice a n c) (.slice none 0 0)).run Tryd.prog w = .ok (.bool a.isNone) w := fun w a n c => Go.Lib.run_eql_slice_nil w _ _ a n c 0 0 Tryd.underlying22
    go_enter Tryd.func15, Tryd.ntmps15
    go_wp2_with (at_builtin; refine wpList_append_octets rfl _ _ rfl (w.heap.size + 1) _ _ [] bs S rfl rfl (own_made2 _ _) (HB.out.kept (grownBy_trans (grown_alloc _ _ none) (grown_alloc _ _ none)) (by simp)) ?_ (by rw [size_alloc, size_alloc]; omega) ?_)
    · simp [lim]; simp at hl; omega
    intro v1 w1 ho hg
    have hg : ((w.alloc (.cells #[.bool false, .slice none 0 0] 24)).alloc (.cells #[] 5)).grownBy w1 (some (w.heap.size + 1)) := hg
    have hg : w.grownBy w1 none ∧ w1.heap[w.heap.size]? = some (.cells #[.bool false, .slice none 0 0] 24 (0, 0)) := by
      refine ⟨grown_sub (grownBy_trans (grown_alloc _ _ none) (grown_alloc _ _ none)) hg (by omega), ?_⟩
      rw [hg.block w.heap.size (by rw [size_alloc, size_alloc]; omega) (by simp), (grown_alloc _ _ none).block w.heap.size (by rw [size_alloc]; omega) (by simp)]
      show (w.heap.push _)[w.heap.size]? = _
      exact Array.getElem?_push_size
    obtain ⟨hg, hn⟩ := hg
    obtain ⟨ad2, n2, c2, rfl⟩ := own_slice ho
    have n10 : w1.cell? ⟨w.heap.size, 0, none⟩ = some (.bool false) := by rw [cell_of_row w1 _ _ _ _ _ hn]; rfl
    have n11 : w1.cell? ⟨w.heap.size, 1, none⟩ = some (.slice none 0 0) := by rw [cell_of_row w1 _ _ _ _ _ hn]; rfl
    have n20 : w1.frozen? ⟨w.heap.size, 0, none⟩ = false := by simp [World.frozen?, hn]
    have n21 : w1.frozen? ⟨w.heap.size, 1, none⟩ = false := by simp [World.frozen?, hn]
    have HO := Lib.hid ho
    have HG := Lib.hid hg
    clear ho hg hn
    go_wp2
    refine bodyPost_ret (v := .agg #[.bool false, .slice ad2 n2 c2]) (by simp [results, Tryd.results15, go_sem, n10, n11]) rfl ?_
    have gn : ∀ x y, w1.grownBy ((w1.setCell ⟨w.heap.size, 0, none⟩ x).setCell ⟨w.heap.size, 1, none⟩ y) (some w.heap.size) := fun x y => grown_setCell (grown_setCell (grownBy_refl _ _) 0 _) 1 _
    refine ⟨_, rfl, ((own_bytes HO.out).kept (gn _ _) (fun g hg e => ?_)).mono (fun g hg => ?_), grown_below (grown_sub HG.out (gn _ _) (Nat.le_refl _))⟩
    · have := HO.out.base g hg
      have := Option.some.inj e
      omega
    · have := HO.out.base g hg
      omega
theorem uvA_len : ∀ (k : Nat) (bs : List UInt8) (n : Nat) (r : List UInt8), uvA k bs = some (n, r) → r.length ≤ bs.length
  | _, [], _, _, h => by simp [uvA] at h
  | 0, b :: r, n, r', h => by
    simp only [uvA] at h
    split at h
    · simp only [Option.some.injEq, Prod.mk.injEq] at h; obtain ⟨-, rfl⟩ := h; simp
    · cases h
  | k + 1, b :: r, n, r', h => by
    simp only [uvA] at h
    split at h
    · simp only [Option.some.injEq, Prod.mk.injEq] at h; obtain ⟨-, rfl⟩ := h; simp
    · cases hx : uvA k r with
      | none => rw [hx] at h; cases h
      | some y =>
        rw [hx] at h
        simp only [Option.map_some, Option.some.injEq, Prod.mk.injEq] at h
        obtain ⟨-, rfl⟩ := h
        have := uvA_len k r y.1 y.2 (by rw [hx])
        simp; omega
def left (st : St) : Nat := (st.getD []).length
theorem rdV_left (st : St) : left (rdV st).2 ≤ left st := by
  cases st with
  | none => exact Nat.le_refl _
  | some bs =>
    cases h : uvA 4 bs with
    | none => rw [rdV_less bs h]; simp [left]
    | some y => obtain ⟨n, r⟩ := y; rw [rdV_some bs n r h]; exact uvA_len 4 bs _ _ h
theorem rdSpan_left (l : Int) (st : St) : (rdSpan l st).1.length ≤ left st ∧ left (rdSpan l st).2 ≤ left st := by
  cases st with
  | none => simp [rdSpan, left]
  | some bs =>
    unfold rdSpan
    simp only
    split <;> simp [left]
    omega
theorem rdVB_left (st : St) : ((rdVB st).1.getD []).length ≤ left st ∧ left (rdVB st).2 ≤ left st := by
  unfold rdVB
  have h1 := rdV_left st
  have h2 := rdSpan_left (zig (rdV st).1) (rdV st).2
  split
  · exact ⟨by simp, h1⟩
  · exact ⟨by simp only [Option.getD_some]; omega, by simp only; omega⟩
theorem pHead_len (bs : List UInt8) : ((pHead bs).1.2.getD []).length ≤ bs.length := by
  have h1 := rdVB_left (some bs)
  have h2 := rdVB_left (rdVB (some bs)).2
  unfold pHead
  simp only
  have : left (some bs) = bs.length := rfl
  omega
theorem three_keep {w3 : World} {b b' : Nat} {x y z : Value} (hne : b' ≠ b) {cs : Array Value} (h : ∀ j, w3.cell? ⟨b', j, none⟩ = cs[j]?) (j : Nat) : (((w3.setCell ⟨b, 0, none⟩ x).setCell ⟨b, 1, none⟩ y).setCell ⟨b, 2, none⟩ z).cell? ⟨b', j, none⟩ = cs[j]? := by
  rw [World.cell?_setCell_other (h := fun e => hne (congrArg Addr.block e).symm), World.cell?_setCell_other (h := fun e => hne (congrArg Addr.block e).symm), World.cell?_setCell_other (h := fun e => hne (congrArg Addr.block e).symm)]
  exact h j
/-- What the thin package tells. -/
def TellsHead (w : World) (bs : List UInt8) (e : Ending) (w' : World) : Prop :=
  ∃ u, (match (pHead bs).2 with
    | some _ => e = .returned (.tuple #[.agg #[strV (pHead bs).1.1, .bool (pHead bs).1.2.isNone, u], .bool true]) ∧ BytesAt w' (fun _ => True) u ((pHead bs).1.2.getD [])
    | none => e = .returned (.tuple #[.agg #[.string ⟨#[]⟩, .bool false, u], .bool false]) ∧ u = .slice none 0 0) ∧ Below w.heap.size w w'
set_option maxRecDepth 8000 in
theorem TellHeader_any (w : World) (S : Nat → Prop) (v : Value) (bs : List UInt8) (h : BytesAt w S v bs) (hl : bs.length < 4294967296) (he : ErrOk w) : Calls Tryd.prog 6 #[v] w (TellsHead w bs) := by
  obtain ⟨p, c, rfl⟩ := bytes_len h
  have HB := Lib.hid h
  have HE := Lib.hid he
  clear h he
  go_enter Tryd.func6, Tryd.ntmps6
  go_wp2_with fail
  refine (own_any _ S _ bs (HB.out.kept (grownBy_trans (grown_alloc _ _ none) (grown_alloc _ _ none)) (by simp)) hl).mono ?_
  rintro e w1 ⟨v1, rfl, ho, hb1⟩
  rw [size_alloc, size_alloc] at ho
  obtain ⟨g1, r0, r1⟩ : w.grownBy w1 none ∧ w1.heap[w.heap.size]? = some (.cells #[.string ⟨#[]⟩, .bool false, .slice none 0 0] 26 (0, 0)) ∧ w1.heap[w.heap.size + 1]? = some (.cells #[.string ⟨#[]⟩, .slice none 0 0] 48 (0, 0)) := by
    refine ⟨grownBy_trans (grownBy_trans (grown_alloc _ _ none) (grown_alloc _ _ none)) (below_grown hb1 none), ?_, ?_⟩
    · rw [hb1.block w.heap.size (by rw [size_alloc, size_alloc]; omega), (grown_alloc _ _ none).block w.heap.size (by rw [size_alloc]; omega) (by simp)]
      show (w.heap.push _)[w.heap.size]? = _
      exact Array.getElem?_push_size
    · rw [hb1.block (w.heap.size + 1) (by rw [size_alloc, size_alloc]; omega)]
      show ((w.alloc _).heap.push _)[w.heap.size + 1]? = _
      have := Array.getElem?_push_size (xs := (w.alloc (.cells #[.string ⟨#[]⟩, .bool false, .slice none 0 0] 26)).heap) (x := Obj.cells #[.string ⟨#[]⟩, .slice none 0 0] 48 (0, 0))
      rw [size_alloc] at this
      exact this
  obtain ⟨ad1, c1, rfl⟩ := bytes_len (own_bytes ho)
  have hS2 : ∀ g, (Value.slice ad1 bs.length c1).ownBlock = some g → w.heap.size + 2 ≤ g ∧ g < w1.heap.size := fun g hg => World.ownsRow.lt ho g hg
  have HR := Lib.hid (hReadFrom_any w1 _ (w.heap.size + 1) ad1 c1 bs r1 (own_bytes ho) (fun h => by have := hS2 _ h; omega) (fun g hg => (hS2 g hg).2) (HE.out.kept g1 (by simp)) (by omega))
  have HG1 := Lib.hid g1
  have HR0 := Lib.hid r0
  have HS2 := Lib.hid hS2
  clear ho hb1 g1 r0 r1 HB hS2
  go_wp2_with fail
  refine HR.out.mono ?_
  rintro e w2 ⟨u, v, rfl, hu, g2, hB2, hn2⟩
  have s1 : w.heap.size ≤ w1.heap.size := HG1.out.size
  have r0 : w2.heap[w.heap.size]? = some (.cells #[.string ⟨#[]⟩, .bool false, .slice none 0 0] 26 (0, 0)) := by
    rw [g2.block w.heap.size ((Array.getElem?_eq_some_iff.1 HR0.out).1) (by simp)]
    exact HR0.out
  have HG2 := Lib.hid (grown_sub HG1.out g2 (by omega))
  have n10 : w2.cell? ⟨w.heap.size, 0, none⟩ = some (.string ⟨#[]⟩) := by rw [cell_of_row w2 _ _ _ _ _ r0]; rfl
  have n11 : w2.cell? ⟨w.heap.size, 1, none⟩ = some (.bool false) := by rw [cell_of_row w2 _ _ _ _ _ r0]; rfl
  have n12 : w2.cell? ⟨w.heap.size, 2, none⟩ = some (.slice none 0 0) := by rw [cell_of_row w2 _ _ _ _ _ r0]; rfl
  have f1 : ∀ i, w2.frozen? ⟨w.heap.size, i, none⟩ = false := fun i => by simp [World.frozen?, r0]
  have f10 := f1 0
  have f11 := f1 1
  have f12 := f1 2
  have HB2 := Lib.hid hB2
  have HN2 := Lib.hid hn2
  clear r0 f1 g2 hB2 hn2 HR HR0
  obtain ⟨ad2, n2, c2, rfl⟩ : ∃ a n c, v = .slice a n c := by obtain ⟨a, c, h⟩ := bytes_len HN2.out.bytes; exact ⟨a, _, c, h⟩
  have hxl : ((pHead bs).1.2.getD []).length < 4294967296 := Nat.lt_of_le_of_lt (pHead_len bs) hl
  obtain ⟨⟨⟨k, x⟩, s⟩, hr⟩ : ∃ r, pHead bs = r := ⟨_, rfl⟩
  rw [hr] at hu hxl HN2 HB2
  have HRR := Lib.hid hr
  clear hr
  simp only at hu hxl
  cases s with
  | none =>
    obtain ⟨t, y, rfl⟩ := hu
    go_wp2
    refine bodyPost_ret (v := .tuple #[.agg #[.string ⟨#[]⟩, .bool false, .slice none 0 0], .bool false]) (by simp [results, Tryd.results6, go_sem, n10, n11, n12]) rfl ?_
    unfold TellsHead
    rw [HRR.out]
    exact ⟨_, ⟨rfl, rfl⟩, grown_below (grown_new (grown_new (grown_new HG2.out _ _ _ (Nat.le_refl _)) _ _ _ (Nat.le_refl _)) _ _ _ (Nat.le_refl _))⟩
  | some rest =>
    have hu : u = .nilIface := hu
    subst hu
    have y1 : ∀ j, w2.cell? ⟨w.heap.size + 1, j, none⟩ = (#[.string ⟨k.toArray⟩, .slice ad2 n2 c2] : Array Value)[j]? := fun j => by rw [cell_of_row w2 _ _ _ _ _ HB2.out]
    have s2 := HG2.out.size
    have h12 : w.heap.size + 1 < w2.heap.size := (Array.getElem?_eq_some_iff.1 HB2.out).1
    go_wp2
    go_region_held3 (fun w' => ∀ j, w'.cell? ⟨w.heap.size + 1, j, none⟩ = (#[.string ⟨k.toArray⟩, .slice ad2 n2 c2] : Array Value)[j]?) (first | assumption | exact three_keep (by omega) y3) (first
      | (go_at_call 15; refine (octs_any w2.drew _ (.slice ad2 n2 c2) x (show NilOr w2.drew _ (.slice ad2 n2 c2) true x from HN2.out) hxl).mono ?_; rintro e w3 ⟨u3, rfl, hu3, hb3'⟩; have hb3 : Below w2.heap.size w2 w3 := below_undrew hb3'; obtain ⟨ad3, c3, rfl⟩ := bytes_len hu3;
         have y3 := fun j => ((bcell hb3).1 (w.heap.size + 1) j h12).trans (y1 j);
         have h10 : w.heap.size < w2.heap.size := by omega;
         have m10 := ((bcell hb3).1 w.heap.size 0 h10).trans n10; have m11 := ((bcell hb3).1 w.heap.size 1 h10).trans n11; have m12 := ((bcell hb3).1 w.heap.size 2 h10).trans n12;
         have q10 := ((bcell hb3).2 w.heap.size 0 h10).trans f10; have q11 := ((bcell hb3).2 w.heap.size 1 h10).trans f11; have q12 := ((bcell hb3).2 w.heap.size 2 h10).trans f12;
         have HB3 := Lib.hid hb3; have HU3 := Lib.hid hu3; clear hb3' hb3 hu3))
    go_wp2
    refine bodyPost_ret (v := .tuple #[.agg #[.string ⟨k.toArray⟩, .bool x.isNone, .slice ad3 (x.getD []).length c3], .bool true]) (by simp [results, Tryd.results6, go_sem, m10, m11, m12]) rfl ?_
    unfold TellsHead
    rw [HRR.out]
    have g3 : w.grownBy w3 none := grownBy_trans HG2.out (below_grown HB3.out none)
    refine ⟨_, ⟨rfl, ?_⟩, grown_below (grown_new (grown_new (grown_new g3 _ _ _ (Nat.le_refl _)) _ _ _ (Nat.le_refl _)) _ _ _ (Nat.le_refl _))⟩
    exact (HU3.out.kept (row := some w.heap.size) (grown_setCell (grown_setCell (grown_setCell (grownBy_refl _ _) 0 _) 1 _) 2 _) (fun g hg e => by have hg : w2.heap.size ≤ g := hg; have := Option.some.inj e; omega)).mono (fun _ _ => trivial)
end Go.Proofs.YthdfhnnoamlacaaDoor.Rec
