/-
  Records: the reference's reader, its state and its first functions. Conditions: none.
-/
import Derived.Test.YthdfhnnoamlacaaDoorQa
namespace Go.Proofs.YthdfhnnoamlacaaDoor.Rec
open Go.Proofs.YthdfhnnoamlacaaDoor
open Go.RowKit (Below wrap64)
open Kz

/-- The reference's reader: the octets, where it stands, how it went. -/
def SRd (w : World) (S : Nat → Prop) (rb : Nat) (bs : List UInt8) (s : Nat × Nat) : Prop :=
  ¬ S rb ∧ s.1 ≤ bs.length ∧ ∃ v, w.heap[rb]? = some (.cells #[v, .int .i64 (s.1 : Int), .int .i64 (s.2 : Int)] 45 (0, 0)) ∧ BytesAt w S v bs
def sFail (h : Nat) (s : Nat × Nat) : Nat × Nat := if s.2 = 0 then (s.1, h) else s
def sTake (n : Nat) (bs : List UInt8) (s : Nat × Nat) : List UInt8 × (Nat × Nat) :=
  if s.2 ≠ 0 then ([], s) else if bs.length - s.1 < n then ([], (s.1, 1)) else ((bs.drop s.1).take n, (s.1 + n, 0))
def sVar (bs : List UInt8) (s : Nat × Nat) : Int × (Nat × Nat) :=
  if s.2 ≠ 0 then (0, s) else ((rv 5 0 0 (bs.drop s.1)).1, (s.1 + (rv 5 0 0 (bs.drop s.1)).2.1, (rv 5 0 0 (bs.drop s.1)).2.2))

theorem SRd.parts {w : World} {S : Nat → Prop} {rb : Nat} {bs : List UInt8} {s : Nat × Nat} (h : SRd w S rb bs s) : ∃ ad c, BytesAt w S (.slice ad bs.length c) bs ∧ ¬ S rb ∧ s.1 ≤ bs.length ∧ rb < w.heap.size ∧
    w.heap[rb]? = some (.cells #[.slice ad bs.length c, .int .i64 (s.1 : Int), .int .i64 (s.2 : Int)] 45 (0, 0)) ∧
    w.cell? ⟨rb, 0, none⟩ = some (.slice ad bs.length c) ∧ w.cell? ⟨rb, 1, none⟩ = some (.int .i64 (s.1 : Int)) ∧ w.cell? ⟨rb, 2, none⟩ = some (.int .i64 (s.2 : Int)) ∧ w.frozen? ⟨rb, 1, none⟩ = false ∧ w.frozen? ⟨rb, 2, none⟩ = false := by
  obtain ⟨h0, h1, v, hv, hb⟩ := h
  obtain ⟨ad, c, rfl⟩ := bytes_len hb
  exact ⟨ad, c, hb, h0, h1, (Array.getElem?_eq_some_iff.1 hv).1, hv, by rw [cell_of_row w rb 0 _ _ _ hv]; rfl, by rw [cell_of_row w rb 1 _ _ _ hv]; rfl, by rw [cell_of_row w rb 2 _ _ _ hv]; rfl, by simp [World.frozen?, hv], by simp [World.frozen?, hv]⟩
theorem SRd.kept {w w' : World} {S : Nat → Prop} {rb : Nat} {bs : List UInt8} {s : Nat × Nat} {row : Option Nat} (h : SRd w S rb bs s) (hg : w.grownBy w' row) (hr : ∀ g, S g → some g ≠ row) (hrb : some rb ≠ row) : SRd w' S rb bs s := by
  obtain ⟨h0, h1, v, hv, hb⟩ := h
  exact ⟨h0, h1, v, by rw [hg.block rb (Array.getElem?_eq_some_iff.1 hv).1 hrb]; exact hv, hb.kept hg hr⟩
theorem SRd.below {w w' : World} {S : Nat → Prop} {rb : Nat} {bs : List UInt8} {s : Nat × Nat} (h : SRd w S rb bs s) (hb : Below w.heap.size w w') : SRd w' S rb bs s := h.kept (below_grown hb none) (by simp) (by simp)
theorem SRd.set1 {w : World} {S : Nat → Prop} {rb : Nat} {bs : List UInt8} {s : Nat × Nat} (h : SRd w S rb bs s) (n : Nat) (hn : n ≤ bs.length) : SRd (w.setCell ⟨rb, 1, none⟩ (.int .i64 (n : Int))) S rb bs (n, s.2) := by
  obtain ⟨h0, h1, v, hv, hb⟩ := h
  exact ⟨h0, hn, v, heap_setCell_row hv, hb.kept (row := some rb) (grown_setCell (grownBy_refl _ _) 1 _) (fun g hg e => h0 (by rw [← Option.some.inj e]; exact hg))⟩
theorem SRd.set2 {w : World} {S : Nat → Prop} {rb : Nat} {bs : List UInt8} {s : Nat × Nat} (h : SRd w S rb bs s) (n : Nat) : SRd (w.setCell ⟨rb, 2, none⟩ (.int .i64 (n : Int))) S rb bs (s.1, n) := by
  obtain ⟨h0, h1, v, hv, hb⟩ := h
  exact ⟨h0, h1, v, heap_setCell_row hv, hb.kept (row := some rb) (grown_setCell (grownBy_refl _ _) 2 _) (fun g hg e => h0 (by rw [← Option.some.inj e]; exact hg))⟩
theorem drewN_grown (w : World) (n : Nat) (row : Option Nat) : w.grownBy (w.drewN n) row := ⟨rfl, rfl, rfl, Nat.le_refl _, fun _ _ _ => rfl⟩
theorem SRd.drewN {w : World} {S : Nat → Prop} {rb : Nat} {bs : List UInt8} {s : Nat × Nat} (h : SRd w S rb bs s) (n : Nat) : SRd (w.drewN n) S rb bs s := h

theorem size_u8 (w : World) : (Go.sizeOf 5).run Tryd.prog w = .ok 1 w := by kernel_rfl
theorem sliced_bytes {w : World} {S : Nat → Prop} {ad : Option Addr} {bs : List UInt8} {c : Nat} (h : BytesAt w S (.slice ad bs.length c) bs) (lo hi : Nat) (h1 : lo ≤ hi) (h2 : hi ≤ bs.length) : BytesAt w S (sliced ad lo hi c 1) ((bs.drop lo).take (hi - lo)) := by
  rcases h with ⟨h3, rfl⟩ | ⟨g, o, c', h3, h4, h5, h6, h7, h8⟩
  · simp only [Value.slice.injEq] at h3
    obtain ⟨rfl, -, rfl⟩ := h3
    obtain rfl : hi = 0 := by simpa using h2
    obtain rfl : lo = 0 := by omega
    exact .inl ⟨rfl, rfl⟩
  · simp only [Value.slice.injEq] at h3
    obtain ⟨rfl, -, rfl⟩ := h3
    have hl : ((bs.drop lo).take (hi - lo)).length = hi - lo := by simp; omega
    by_cases hc : c = lo
    · obtain rfl : hi = lo := by omega
      refine .inr ⟨g, o, 0, ?_, by rw [hl]; omega, by omega, h6, h7, fun i b hb => ?_⟩
      · rw [hl]; simp [sliced, hc]
      · rw [Nat.sub_self] at hb; simp at hb
    · refine .inr ⟨g, o + lo, c - lo, ?_, by rw [hl]; omega, by omega, h6, h7, fun i b hb => ?_⟩
      · rw [hl]
        by_cases h0 : lo = 0
        · subst h0; simp [sliced, hc, Addr.add]
        · simp [sliced, hc, Addr.add, h0]
      · rw [List.getElem?_take] at hb
        split at hb
        · rw [List.getElem?_drop] at hb
          rw [Nat.add_assoc]
          exact h8 _ b hb
        · cases hb
theorem cut_lh {w : World} {S : Nat → Prop} {ad : Option Addr} {bs : List UInt8} {c : Nat} (h : BytesAt w S (.slice ad bs.length c) bs) (lo hi : Nat) (h1 : lo ≤ hi) (h2 : hi ≤ bs.length) :
    ∃ v, (∀ W, (Instr.slice 22 (.slice ad bs.length c) (some (.int .i64 (lo : Int))) (some (.int .i64 (hi : Int))) none).run Tryd.prog W = .ok v W) ∧ BytesAt w S v ((bs.drop lo).take (hi - lo)) := by
  refine ⟨sliced ad lo hi c 1, fun W => ?_, sliced_bytes h lo hi h1 h2⟩
  have hc := (c_bytes h).2.1
  have ht : Tryd.prog.underlying 22 = some (.slice (Tryd.prog.elem 22)) := by rw [show Tryd.prog.elem 22 = 5 by kernel_rfl]; exact Tryd.underlying22
  rw [run_slice_lh W 22 _ _ _ ht .i64 .i64 _ _ (by omega) (by omega) (by omega), show Tryd.prog.elem 22 = 5 by kernel_rfl, size_u8]
  simp [Result.andThen]
theorem cut_l {w : World} {S : Nat → Prop} {ad : Option Addr} {bs : List UInt8} {c : Nat} (h : BytesAt w S (.slice ad bs.length c) bs) (lo : Nat) (h1 : lo ≤ bs.length) :
    ∃ v, (∀ W, (Instr.slice 22 (.slice ad bs.length c) (some (.int .i64 (lo : Int))) none none).run Tryd.prog W = .ok v W) ∧ BytesAt w S v (bs.drop lo) := by
  refine ⟨sliced ad lo bs.length c 1, fun W => ?_, ?_⟩
  · have hc := (c_bytes h).2.1
    have ht : Tryd.prog.underlying 22 = some (.slice (Tryd.prog.elem 22)) := by rw [show Tryd.prog.elem 22 = 5 by kernel_rfl]; exact Tryd.underlying22
    rw [run_slice_l W 22 _ _ _ ht .i64 _ (by omega) (by omega), show Tryd.prog.elem 22 = 5 by kernel_rfl, size_u8]
    simp [Result.andThen]
  · have := sliced_bytes h lo bs.length h1 (Nat.le_refl _)
    rwa [List.take_of_length_le (by simp)] at this
theorem fail_any (w : World) (S : Nat → Prop) (rb : Nat) (bs : List UInt8) (s : Nat × Nat) (k : Nat) (h : SRd w S rb bs s) : Calls Tryd.prog 19 #[.pointer (some ⟨rb, 0, none⟩), .int .i64 (k : Int)] w fun e w' =>
    e = .returned (.tuple #[]) ∧ SRd w' S rb bs (sFail k s) ∧ w.grownBy w' (some rb) := by
  obtain ⟨ad, c, hb, h0, h1, hlt, hv, c0, c1, c2, f1, f2⟩ := h.parts
  have HH := Lib.hid h
  obtain ⟨p, q⟩ := s
  simp only at c1 c2
  clear h hb h0 h1 hv
  by_cases hq : q = 0
  · subst hq
    have e1 : sFail k (p, 0) = (p, k) := if_pos rfl
    rw [e1]
    go_enter Tryd.func19, Tryd.ntmps19
    go_wp2
    go_end0
    exact ⟨rfl, HH.out.set2 k, grown_setCell (grownBy_refl _ _) 2 _⟩
  · have e1 : sFail k (p, q) = (p, q) := if_neg hq
    rw [e1]
    have t0 : (((q : Nat) : Int) == 0) = false := by simp; omega
    go_enter Tryd.func19, Tryd.ntmps19
    go_wp2
    go_end0
    exact ⟨rfl, HH.out, grownBy_refl _ _⟩

set_option maxRecDepth 8000 in
theorem take_any (w : World) (S : Nat → Prop) (rb : Nat) (bs : List UInt8) (s : Nat × Nat) (n : Nat) (h : SRd w S rb bs s) (hl : bs.length < 4294967296) (hn : n < 9223372036854775807) : Calls Tryd.prog 37 #[.pointer (some ⟨rb, 0, none⟩), .int .i64 (n : Int)] w fun e w' =>
    ∃ v, e = .returned v ∧ BytesAt w' S v (sTake n bs s).1 ∧ SRd w' S rb bs (sTake n bs s).2 ∧ w.grownBy w' (some rb) := by
  obtain ⟨ad, c, hb, h0, h1, hlt, hv, c0, c1, c2, f1, f2⟩ := h.parts
  have HH := Lib.hid h
  have HB := Lib.hid hb
  obtain ⟨p, q⟩ := s
  simp only at c1 c2 h1
  clear h h0 hv
  by_cases hq : q = 0
  · subst hq
    by_cases hlt : bs.length - p < n
    · have e1 : sTake n bs (p, 0) = ([], (p, 1)) := by simp only [sTake]; rw [if_neg (by simp), if_pos hlt]
      rw [e1]
      have t0 : decide ((bs.length : Int) - (p : Int) < (n : Int)) = true := by simp; omega
      have w0 : IntKind.i64.wrap ((bs.length : Int) - (p : Int)) = (bs.length : Int) - (p : Int) := by rw [IntKind.wrap_i64]; omega
      clear h1 hlt hb
      go_enter Tryd.func37, Tryd.ntmps37
      go_wp2
      go_quiet (fail)
      go_wp2_with fail
      refine (fail_any (w.drewN nq) S rb bs (p, 0) 1 (HH.out.drewN nq)).mono ?_
      rintro e w1 ⟨rfl, hs1, g1⟩
      obtain ⟨ad1, k1, -, -, -, -, -, d0, d1, d2, -, -⟩ := hs1.parts
      have HS := Lib.hid hs1
      clear hs1
      simp only [sFail] at d1 d2
      go_wp2
      go_ret
      exact ⟨_, rfl, .inl ⟨rfl, rfl⟩, HS.out, grownBy_trans (drewN_grown w nq _) g1⟩
    · have e1 : sTake n bs (p, 0) = ((bs.drop p).take n, (p + n, 0)) := by simp only [sTake]; rw [if_neg (by simp), if_neg hlt]
      rw [e1]
      obtain ⟨v, hcut, hv⟩ := cut_lh hb p (p + n) (by omega) (by omega)
      rw [Nat.add_sub_cancel_left] at hv
      have hcut' : ∀ W, (Instr.slice 22 (.slice ad bs.length c) (some (.int .i64 (p : Int))) (some (.int .i64 ((p : Int) + (n : Int)))) none).run Tryd.prog W = .ok v W := fun W => by have := hcut W; rwa [Int.natCast_add] at this
      have HV := Lib.hid hv
      have t0 : decide ((bs.length : Int) - (p : Int) < (n : Int)) = false := by simp; omega
      have w0 : IntKind.i64.wrap ((bs.length : Int) - (p : Int)) = (bs.length : Int) - (p : Int) := by rw [IntKind.wrap_i64]; omega
      have w1 : IntKind.i64.wrap ((p : Int) + (n : Int)) = (p : Int) + (n : Int) := by rw [IntKind.wrap_i64]; omega
      have w2 : IntKind.i64.wrap ((p : Int) + (n : Int) - (n : Int)) = (p : Int) := by rw [IntKind.wrap_i64]; omega
      have hpn : p + n ≤ bs.length := by omega
      clear h1 hlt hb hv hcut
      go_enter Tryd.func37, Tryd.ntmps37
      go_wp2
      go_quiet (fail)
      go_wp2
      go_quiet (fail)
      go_wp2
      go_ret
      rename_i m1
      have hg : w.grownBy (((w.drewN m1).setCell ⟨rb, 1, none⟩ (.int .i64 ((p : Int) + (n : Int)))).drewN nq) (some rb) := grownBy_trans (grown_setCell (drewN_grown w _ _) 1 _) (drewN_grown _ _ _)
      have hs := ((HH.out.drewN m1).set1 (p + n) hpn).drewN nq
      rw [Int.natCast_add] at hs
      exact ⟨_, rfl, HV.out.kept hg (fun g hg e => HH.out.1 (by rw [← Option.some.inj e]; exact hg)), hs, hg⟩
  · have e1 : sTake n bs (p, q) = ([], (p, q)) := if_pos hq
    rw [e1]
    have t0 : (((q : Nat) : Int) == 0) = false := by simp; omega
    have t1 : (((q : Nat) : Int) != 0) = true := by simp; omega
    go_enter Tryd.func37, Tryd.ntmps37
    go_wp2
    go_quiet (fail)
    go_wp2
    go_ret
    exact ⟨_, rfl, .inl ⟨rfl, rfl⟩, HH.out.drewN nq, drewN_grown w nq _⟩

theorem rv_size : ∀ (k i m : Nat) (l : List UInt8), ((rv k i m l).2.2 = 0 ∧ (rv k i m l).2.1 ≤ i + l.length) ∨ ((rv k i m l).2.2 ≠ 0 ∧ (rv k i m l).2.1 = 0)
  | 0, _, _, _ => .inr ⟨by simp [rv], rfl⟩
  | _ + 1, _, _, [] => .inr ⟨by simp [rv], rfl⟩
  | k + 1, i, m, b :: r => by
    simp only [rv]
    split
    · exact .inr ⟨by simp, rfl⟩
    · split
      · exact .inl ⟨rfl, by simp⟩
      · rcases rv_size k (i + 1) (m + b.toNat % 128 * 128 ^ i) r with ⟨h1, h2⟩ | h
        · exact .inl ⟨h1, by simp; omega⟩
        · exact .inr h
set_option maxRecDepth 8000 in
theorem varint_any (w : World) (S : Nat → Prop) (rb : Nat) (bs : List UInt8) (s : Nat × Nat) (h : SRd w S rb bs s) (hl : bs.length < 4294967296) : Calls Tryd.prog 25 #[.pointer (some ⟨rb, 0, none⟩), .int .i64 32] w fun e w' =>
    e = .returned (.int .i64 (sVar bs s).1) ∧ SRd w' S rb bs (sVar bs s).2 ∧ w.grownBy w' (some rb) := by
  obtain ⟨ad, c, hb, h0, h1, hlt, hv, c0, c1, c2, f1, f2⟩ := h.parts
  have HH := Lib.hid h
  obtain ⟨p, q⟩ := s
  simp only at c1 c2 h1
  clear h h0 hv
  by_cases hq : q = 0
  · subst hq
    have e1 : sVar bs (p, 0) = ((rv 5 0 0 (bs.drop p)).1, (p + (rv 5 0 0 (bs.drop p)).2.1, (rv 5 0 0 (bs.drop p)).2.2)) := if_neg (by simp)
    rw [e1]
    obtain ⟨v, hcut, hv⟩ := cut_l hb p h1
    have hrs := rv_size 5 0 0 (bs.drop p)
    rw [List.length_drop] at hrs
    have hR : ∀ W, BytesAt W S v (bs.drop p) → Calls Tryd.prog 40 #[v, .int .i64 32] W fun e w' => e = .returned (.tuple #[.int .i64 (rv 5 0 0 (bs.drop p)).1, .int .i64 ((rv 5 0 0 (bs.drop p)).2.1 : Int), .int .i64 ((rv 5 0 0 (bs.drop p)).2.2 : Int)]) ∧ ∃ m, w' = W.drewN m :=
      fun W hW => (ReadVarint_is W S v (bs.drop p) hW (by rw [List.length_drop]; omega)).mono fun _ _ ⟨h1, h2⟩ => ⟨h1, h2.out⟩
    generalize rv 5 0 0 (bs.drop p) = r at *
    obtain ⟨x, z, k⟩ := r
    simp only at hrs hR ⊢
    have hz : p + z ≤ bs.length := by omega
    have hRR := Lib.hid hR
    have HV := Lib.hid hv
    have HZ := Lib.hid hrs
    clear hR hv hrs hb
    go_enter Tryd.func25, Tryd.ntmps25
    go_wp2
    go_quiet ((go_at_call 40; refine Calls.quiet_of (hRR.out _ HV.out)))
    go_wp2_with fail
    refine (fail_any (w.drewN nq) S rb bs (p, 0) k (HH.out.drewN nq)).mono ?_
    rintro e w1 ⟨rfl, hs1, g1⟩
    have hs1 : SRd w1 S rb bs (p, k) := hs1
    obtain ⟨ad1, k1, -, -, -, -, -, d0, d1, d2, d3, -⟩ := hs1.parts
    have HS := Lib.hid hs1
    have w1 : IntKind.i64.wrap ((p : Int) + (z : Int)) = (p : Int) + (z : Int) := by rw [IntKind.wrap_i64]; omega
    clear hs1
    simp only at d1 d2
    go_wp2
    go_ret
    have hs := HS.out.set1 (p + z) hz
    rw [Int.natCast_add] at hs
    exact ⟨rfl, hs, grown_setCell (grownBy_trans (drewN_grown w nq _) g1) 1 _⟩
  · have e1 : sVar bs (p, q) = (0, (p, q)) := if_pos hq
    rw [e1]
    have t1 : (((q : Nat) : Int) != 0) = true := by simp; omega
    go_enter Tryd.func25, Tryd.ntmps25
    go_wp2
    go_ret
    exact ⟨rfl, HH.out, grownBy_refl _ _⟩

def sOct (n : Int) (bs : List UInt8) (s : Nat × Nat) : (Bool × List UInt8) × (Nat × Nat) :=
  if s.2 ≠ 0 then ((false, []), s)
  else if n = -1 then ((true, []), s)
  else if n < 0 then ((false, []), (s.1, 3))
  else if bs.length < n then ((false, []), (s.1, 1))
  else ((false, (sTake n.toNat bs s).1), (sTake n.toNat bs s).2)
theorem grown_new {w w1 : World} {row : Option Nat} (g : w.grownBy w1 row) (b o : Nat) (u : Value) (hb : w.heap.size ≤ b) : w.grownBy (w1.setCell ⟨b, o, none⟩ u) row :=
  ⟨g.os, g.tape, g.output, by have := g.size; simpa [World.setCell] using this, fun k hk hr => (Below.heap_setCell w1 ⟨b, o, none⟩ u k (by show k ≠ b; omega)).trans (g.block k hk hr)⟩
theorem grown_alloc (w : World) (o : Obj) (row : Option Nat) : w.grownBy (w.alloc o) row := below_grown ((Below.refl _ _).alloc (Nat.le_refl _) _) row
/-- A new block, some of whose neighbours have been written. -/
theorem new_kept {w w1 : World} {cs : Array Value} {T rb : Nat} (g : (w.alloc (.cells cs T)).grownBy w1 (some rb)) (h : rb < w.heap.size) : w1.heap[w.heap.size]? = some (.cells cs T (0, 0)) ∧ (∀ i, w1.cell? ⟨w.heap.size, i, none⟩ = cs[i]?) ∧ (∀ i, w1.frozen? ⟨w.heap.size, i, none⟩ = false) := by
  have h1 : w1.heap[w.heap.size]? = some (.cells cs T (0, 0)) := by
    rw [g.block w.heap.size (by simp) (by simp; omega)]
    show (w.heap.push (Obj.cells cs T (0, 0)))[w.heap.size]? = _
    exact Array.getElem?_push_size
  exact ⟨h1, fun i => by rw [cell_of_row w1 _ i _ _ _ h1], fun i => by simp [World.frozen?, h1]⟩
theorem two_end {w w1 : World} {cs : Array Value} {T rb : Nat} {S : Nat → Prop} {bs : List UInt8} {s : Nat × Nat} (g : (w.alloc (.cells cs T)).grownBy w1 (some rb)) (hs : SRd w1 S rb bs s) (hS : ∀ g, S g → g < w.heap.size) (hlt : rb < w.heap.size) (x y : Value) :
    SRd ((w1.setCell ⟨w.heap.size, 0, none⟩ x).setCell ⟨w.heap.size, 1, none⟩ y) S rb bs s ∧ w.grownBy ((w1.setCell ⟨w.heap.size, 0, none⟩ x).setCell ⟨w.heap.size, 1, none⟩ y) (some rb) :=
  ⟨hs.kept (row := some w.heap.size) (grown_setCell (grown_setCell (grownBy_refl _ _) 0 _) 1 _) (fun g hg e => by have := hS g hg; have := Option.some.inj e; omega) (fun e => by have := Option.some.inj e; omega),
   grown_new (grown_new (grownBy_trans (grown_alloc _ _ _) g) _ _ _ (Nat.le_refl _)) _ _ _ (Nat.le_refl _)⟩
set_option maxRecDepth 8000 in
set_option maxHeartbeats 400000 in
theorem octets_any (w : World) (S : Nat → Prop) (rb : Nat) (bs : List UInt8) (s : Nat × Nat) (n : Int) (h : SRd w S rb bs s) (hl : bs.length < 4294967296) (hn1 : -9223372036854775808 ≤ n) (hn2 : n < 9223372036854775807) (hS : ∀ g, S g → g < w.heap.size) : Calls Tryd.prog 20 #[.pointer (some ⟨rb, 0, none⟩), .int .i64 n] w fun e w' =>
    ∃ v, e = .returned (.agg #[.bool (sOct n bs s).1.1, v]) ∧ BytesAt w' S v (sOct n bs s).1.2 ∧ SRd w' S rb bs (sOct n bs s).2 ∧ w.grownBy w' (some rb) := by
  obtain ⟨ad, c, hb, h0, h1, hlt, hv, c0, c1, c2, f1, f2⟩ := h.parts
  have HH := Lib.hid h
  obtain ⟨p, q⟩ := s
  simp only at c1 c2 h1
  clear h h0 hv hb
  by_cases hq : q = 0
  · subst hq
    by_cases hn : n = -1
    · subst hn
      have e1 : sOct (-1) bs (p, 0) = ((true, []), (p, 0)) := rfl
      rw [e1]
      go_enter Tryd.func20, Tryd.ntmps20
      go_wp2
      refine bodyPost_ret (v := .agg #[.bool true, .slice none 0 0]) (by simp [results, Tryd.results20, go_sem]) rfl ?_
      exact ⟨_, rfl, .inl ⟨rfl, rfl⟩, HH.out.below ((Below.refl _ _).alloc (Nat.le_refl _) _), grown_alloc _ _ _⟩
    have t0 : (n == -1) = false := by simpa using hn
    by_cases hm : n < 0
    · have e1 : sOct n bs (p, 0) = ((false, []), (p, 3)) := by
        show (if n = -1 then _ else if n < 0 then _ else _) = _
        rw [if_neg hn, if_pos hm]
      rw [e1]
      have t1 : decide (n < 0) = true := by simpa using hm
      have t2 : decide ((bs.length : Int) < n) = false := by simp; omega
      go_enter Tryd.func20, Tryd.ntmps20
      go_wp2_with fail
      refine (fail_any _ S rb bs (p, 0) 3 (HH.out.below ((Below.refl _ _).alloc (Nat.le_refl _) _))).mono ?_
      rintro e w1 ⟨rfl, hs1, g1⟩
      have hs1 : SRd w1 S rb bs (p, 3) := hs1
      obtain ⟨ad1, k1, -, -, -, -, -, d0, d1, d2, d3, -⟩ := hs1.parts
      obtain ⟨-, n1, n2⟩ := new_kept g1 hlt
      have n10 := n1 0
      have n11 := n1 1
      have n20 := n2 0
      have n21 := n2 1
      have HS := Lib.hid hs1
      have HG := Lib.hid g1
      clear hs1 g1 n1 n2
      simp only at d1 d2
      simp at n10 n11
      go_wp2
      refine bodyPost_ret (v := .agg #[.bool false, .slice none 0 0]) (by simp [results, Tryd.results20, go_sem, n10, n11]) rfl ?_
      have z := two_end HG.out HS.out hS hlt (.bool false) (.slice none 0 0)
      exact ⟨_, rfl, .inl ⟨rfl, rfl⟩, z.1, z.2⟩
    have t1 : decide (n < 0) = false := by simpa using hm
    by_cases hx : (bs.length : Int) < n
    · have e1 : sOct n bs (p, 0) = ((false, []), (p, 1)) := by
        show (if n = -1 then _ else if n < 0 then _ else if (bs.length : Int) < n then _ else _) = _
        rw [if_neg hn, if_neg hm, if_pos hx]
      rw [e1]
      have t2 : decide ((bs.length : Int) < n) = true := by simpa using hx
      go_enter Tryd.func20, Tryd.ntmps20
      go_wp2_with fail
      refine (fail_any _ S rb bs (p, 0) 1 (HH.out.below ((Below.refl _ _).alloc (Nat.le_refl _) _))).mono ?_
      rintro e w1 ⟨rfl, hs1, g1⟩
      have hs1 : SRd w1 S rb bs (p, 1) := hs1
      obtain ⟨ad1, k1, -, -, -, -, -, d0, d1, d2, d3, -⟩ := hs1.parts
      obtain ⟨-, n1, n2⟩ := new_kept g1 hlt
      have n10 := n1 0
      have n11 := n1 1
      have n20 := n2 0
      have n21 := n2 1
      have HS := Lib.hid hs1
      have HG := Lib.hid g1
      clear hs1 g1 n1 n2
      simp only at d1 d2
      simp at n10 n11
      go_wp2
      refine bodyPost_ret (v := .agg #[.bool false, .slice none 0 0]) (by simp [results, Tryd.results20, go_sem, n10, n11]) rfl ?_
      have z := two_end HG.out HS.out hS hlt (.bool false) (.slice none 0 0)
      exact ⟨_, rfl, .inl ⟨rfl, rfl⟩, z.1, z.2⟩
    · obtain ⟨k, rfl⟩ : ∃ k : Nat, n = k := ⟨n.toNat, by omega⟩
      have e1 : sOct (k : Int) bs (p, 0) = ((false, (sTake k bs (p, 0)).1), (sTake k bs (p, 0)).2) := by
        unfold sOct
        rw [if_neg (show ¬ (((p, 0) : Nat × Nat).2 ≠ 0) by simp), if_neg hn, if_neg hm, if_neg hx]
        rfl
      rw [e1]
      have t2 : decide ((bs.length : Int) < (k : Int)) = false := by simpa using hx
      have HT := Lib.hid (take_any (w.alloc (.cells #[.bool false, .slice none 0 0] 24)) S rb bs (p, 0) k (HH.out.below ((Below.refl _ _).alloc (Nat.le_refl _) _)) hl (by omega))
      generalize sTake k bs (p, 0) = r at *
      clear e1
      go_enter Tryd.func20, Tryd.ntmps20
      go_wp2_with fail
      refine HT.out.mono ?_
      rintro e w1 ⟨v, rfl, hv1, hs1, g1⟩
      obtain ⟨ad2, k2, rfl⟩ := bytes_len hv1
      obtain ⟨-, n1, n2⟩ := new_kept g1 hlt
      have n10 := n1 0
      have n11 := n1 1
      have n20 := n2 0
      have n21 := n2 1
      have HS := Lib.hid hs1
      have HG := Lib.hid g1
      have HV := Lib.hid hv1
      clear hs1 g1 n1 n2 hv1
      simp at n10 n11
      go_wp2
      refine bodyPost_ret (v := .agg #[.bool false, .slice ad2 r.1.length k2]) (by simp [results, Tryd.results20, go_sem, n10, n11]) rfl ?_
      have z := two_end HG.out HS.out hS hlt (.bool false) (.slice ad2 r.1.length k2)
      exact ⟨_, rfl, HV.out.kept (row := some w.heap.size) (grown_setCell (grown_setCell (grownBy_refl _ _) 0 _) 1 _) (fun g hg e => by have := hS g hg; have := Option.some.inj e; omega), z.1, z.2⟩
  · have e1 : sOct n bs (p, q) = ((false, []), (p, q)) := if_pos hq
    rw [e1]
    have t3 : (((q : Nat) : Int) == 0) = false := by simp; omega
    have t4 : (((q : Nat) : Int) != 0) = true := by simp; omega
    have hf : ∀ k, sFail k (p, q) = (p, q) := fun k => if_neg hq
    by_cases hm : n < 0
    · have t1 : decide (n < 0) = true := by simpa using hm
      have t2 : decide ((bs.length : Int) < n) = false := by simp; omega
      have HT := Lib.hid (fail_any (w.alloc (.cells #[.bool false, .slice none 0 0] 24)) S rb bs (p, q) 3 (HH.out.below ((Below.refl _ _).alloc (Nat.le_refl _) _)))
      rw [hf] at HT
      rcases (by omega : n = -1 ∨ n < -1) with hn | hn
      · subst hn
        go_enter Tryd.func20, Tryd.ntmps20
        go_wp2_with fail
        refine HT.out.mono ?_
        rintro e w1 ⟨rfl, hs1, g1⟩
        obtain ⟨ad1, k1, -, -, -, -, -, d0, d1, d2, d3, -⟩ := hs1.parts
        obtain ⟨-, n1, n2⟩ := new_kept g1 hlt
        have n10 := n1 0
        have n11 := n1 1
        have n20 := n2 0
        have n21 := n2 1
        have HS := Lib.hid hs1
        have HG := Lib.hid g1
        clear hs1 g1 n1 n2
        simp only at d1 d2
        simp at n10 n11
        go_wp2
        refine bodyPost_ret (v := .agg #[.bool false, .slice none 0 0]) (by simp [results, Tryd.results20, go_sem, n10, n11]) rfl ?_
        have z := two_end HG.out HS.out hS hlt (.bool false) (.slice none 0 0)
        exact ⟨_, rfl, .inl ⟨rfl, rfl⟩, z.1, z.2⟩
      · have t0 : (n == -1) = false := by simp; omega
        go_enter Tryd.func20, Tryd.ntmps20
        go_wp2_with fail
        refine HT.out.mono ?_
        rintro e w1 ⟨rfl, hs1, g1⟩
        obtain ⟨ad1, k1, -, -, -, -, -, d0, d1, d2, d3, -⟩ := hs1.parts
        obtain ⟨-, n1, n2⟩ := new_kept g1 hlt
        have n10 := n1 0
        have n11 := n1 1
        have n20 := n2 0
        have n21 := n2 1
        have HS := Lib.hid hs1
        have HG := Lib.hid g1
        clear hs1 g1 n1 n2
        simp only at d1 d2
        simp at n10 n11
        go_wp2
        refine bodyPost_ret (v := .agg #[.bool false, .slice none 0 0]) (by simp [results, Tryd.results20, go_sem, n10, n11]) rfl ?_
        have z := two_end HG.out HS.out hS hlt (.bool false) (.slice none 0 0)
        exact ⟨_, rfl, .inl ⟨rfl, rfl⟩, z.1, z.2⟩
    · have t0 : (n == -1) = false := by simp; omega
      have t1 : decide (n < 0) = false := by simpa using hm
      by_cases hx : (bs.length : Int) < n
      · have t2 : decide ((bs.length : Int) < n) = true := by simpa using hx
        have HT := Lib.hid (fail_any (w.alloc (.cells #[.bool false, .slice none 0 0] 24)) S rb bs (p, q) 1 (HH.out.below ((Below.refl _ _).alloc (Nat.le_refl _) _)))
        rw [hf] at HT
        go_enter Tryd.func20, Tryd.ntmps20
        go_wp2_with fail
        refine HT.out.mono ?_
        rintro e w1 ⟨rfl, hs1, g1⟩
        obtain ⟨ad1, k1, -, -, -, -, -, d0, d1, d2, d3, -⟩ := hs1.parts
        obtain ⟨-, n1, n2⟩ := new_kept g1 hlt
        have n10 := n1 0
        have n11 := n1 1
        have n20 := n2 0
        have n21 := n2 1
        have HS := Lib.hid hs1
        have HG := Lib.hid g1
        clear hs1 g1 n1 n2
        simp only at d1 d2
        simp at n10 n11
        go_wp2
        refine bodyPost_ret (v := .agg #[.bool false, .slice none 0 0]) (by simp [results, Tryd.results20, go_sem, n10, n11]) rfl ?_
        have z := two_end HG.out HS.out hS hlt (.bool false) (.slice none 0 0)
        exact ⟨_, rfl, .inl ⟨rfl, rfl⟩, z.1, z.2⟩
      · have t2 : decide ((bs.length : Int) < n) = false := by simpa using hx
        go_enter Tryd.func20, Tryd.ntmps20
        go_wp2
        refine bodyPost_ret (v := .agg #[.bool false, .slice none 0 0]) (by simp [results, Tryd.results20, go_sem]) rfl ?_
        exact ⟨_, rfl, .inl ⟨rfl, rfl⟩, HH.out.below ((Below.refl _ _).alloc (Nat.le_refl _) _), grown_alloc _ _ _⟩
end Go.Proofs.YthdfhnnoamlacaaDoor.Rec
