/-
  Records: headers are compared, one by one; a law's judgement. Conditions: none.
  Records, plain: the reference and the package read a header alike. Conditions: none.
  Records: any octets as a header, the law's walk, where a thing of nothing is read. Conditions: a thing of nothing is read (Awake).
  Records: what the package reads of the octets of a thing of nothing: old messages, a batch. Conditions: none.
  Records: the thin package tells old messages and a batch of nothing. Conditions: none.
-/
import Derived.Test.YthdfhnnoamlacaaDoorMA
namespace Go.Proofs.YthdfhnnoamlacaaDoor.Rec
open Go.Proofs.YthdfhnnoamlacaaDoor
open Go.RowKit (Below wrap64 wrap32)
open Go.Proofs.YthdfhnnoamlacaaDoorW Go.Proofs.YthdfhnnoamlacaaDoorW.PrintWords Go.Proofs.YthdfhnnoamlacaaDoorW.PrintMore Go.Proofs.YthdfhnnoamlacaaDoor.PFnAnyHeader
open Kz

theorem same_l0 (a b : List Int) (n : Nat) (ha : a.length = n) (hb : b.length = n) (hn : n < 4294967296) : ∀ (d i : Nat), i + d = n → ∃ r, spec_Same.l0 (d + 1) a b (n : Int) (i : Int) = some r ∧ (a = b → r = true)
  | 0, i, h => by
    obtain rfl : i = n := by omega
    exact ⟨true, by simp [spec_Same.l0], fun _ => rfl⟩
  | d + 1, i, h => by
    obtain ⟨r, hr, ht⟩ := same_l0 a b n ha hb hn d (i + 1) (by omega)
    have w1 : wrap64 ((i : Int) + 1) = ((i + 1 : Nat) : Int) := by unfold wrap64; omega
    rw [spec_Same.l0]
    rw [if_pos (by omega), if_pos (by omega), if_pos (by omega), if_pos (by omega), w1]
    by_cases he : PrintWords.rd a (i : Int) = PrintWords.rd b (i : Int)
    · rw [if_pos he]; exact ⟨r, hr, ht⟩
    · rw [if_neg he]; exact ⟨false, rfl, fun e => absurd (by rw [e]) he⟩
theorem same_f (a b : List Int) (hn : a.length < 4294967296) : ∃ r, spec_Same.f (a.length + 1) a b = some r ∧ (a = b → r = true) := by
  unfold spec_Same.f
  by_cases h : a.length = b.length
  · rw [if_pos (by omega)]
    exact same_l0 a b a.length rfl h.symm hn a.length 0 (by omega)
  · rw [if_neg (by omega)]
    exact ⟨false, rfl, fun e => absurd (by rw [e]) h⟩
/-- A thing of nothing is read. -/
def Awake : Prop := ∀ w : World, ErrOk w → Calls Tryd.prog 16 #[] w fun e w' => e = .returned (.bool true) ∧ Below w.heap.size w w'
theorem judged_any (aw : Awake) (w : World) (he : ErrOk w) (size how n c : Nat) (p : Option Addr) (ok same : Bool) (h1 : how = 1 ∨ how = 2 → ok = false) (h2 : how = 0 ∧ size = n → ok = true ∧ same = true) (hs : size < 4294967296) (hh : how < 4) (hn : n < 4294967296) :
    Calls Tryd.prog 7 #[.int .i64 (size : Int), .int .i64 (how : Int), .slice p n c, .bool ok, .bool same] w fun e w' => e = .returned (.bool true) ∧ Below w.heap.size w w' := by
  have AW := Lib.hid (fun w' (hb : Below w.heap.size w w') => aw w' (he.kept (below_grown hb none) (by simp)))
  rcases (by omega : how = 1 ∨ how = 2 ∨ how = 3 ∨ how = 0) with rfl | rfl | rfl | rfl
  · obtain rfl := h1 (.inl rfl)
    clear h1 h2
    go_enter Tryd.func7, Tryd.ntmps7
    go_wp2_with fail
    refine (AW.out _ (Below.refl _ _)).mono ?_
    rintro e w1 ⟨rfl, hb⟩
    have HB := Lib.hid hb
    clear hb AW
    go_wp2
    go_ret
    exact ⟨rfl, HB.out⟩
  · obtain rfl := h1 (.inr rfl)
    clear h1 h2
    go_enter Tryd.func7, Tryd.ntmps7
    go_wp2_with fail
    refine (AW.out _ (Below.refl _ _)).mono ?_
    rintro e w1 ⟨rfl, hb⟩
    have HB := Lib.hid hb
    clear hb AW
    go_wp2
    go_ret
    exact ⟨rfl, HB.out⟩
  · clear h1 h2
    go_enter Tryd.func7, Tryd.ntmps7
    go_wp2_with fail
    refine (AW.out _ (Below.refl _ _)).mono ?_
    rintro e w1 ⟨rfl, hb⟩
    have HB := Lib.hid hb
    clear hb AW
    go_wp2
    go_ret
    exact ⟨rfl, HB.out⟩
  · by_cases hz : size = n
    · obtain ⟨rfl, rfl⟩ := h2 ⟨rfl, hz⟩
      subst hz
      clear h1 h2 AW
      go_enter Tryd.func7, Tryd.ntmps7
      go_wp2
      go_ret
      exact ⟨rfl, Below.refl _ _⟩
    · have t0 : (((size : Nat) : Int) == ((n : Nat) : Int)) = false := by simp; omega
      clear h1 h2
      go_enter Tryd.func7, Tryd.ntmps7
      go_wp2_with fail
      refine (AW.out _ (Below.refl _ _)).mono ?_
      rintro e w1 ⟨rfl, hb⟩
      have HB := Lib.hid hb
      clear hb AW
      go_wp2
      go_ret
      exact ⟨rfl, HB.out⟩
end Go.Proofs.YthdfhnnoamlacaaDoor.Rec

namespace Go.Proofs.YthdfhnnoamlacaaDoor.Rec
open Go.Proofs.YthdfhnnoamlacaaDoor
open Kz

/-- The reference's reader stands where the package's does. -/
structure Sim (bs : List UInt8) (s : Nat × Nat) (st : St) : Prop where
  le : s.1 ≤ bs.length
  fine : s.2 = 0 → st = some (bs.drop s.1)
  short : s.2 = 1 → st = none
  two : s.2 ≠ 2
  four : s.2 < 4
theorem sOct_sim {bs : List UInt8} {s : Nat × Nat} {st : St} (n : Int) (h : Sim bs s st) : Sim bs (sOct n bs s).2 (if n < 0 then st else (rdSpan n st).2) ∧ ((sOct n bs s).2.2 = 0 → (sOct n bs s).1.1 = decide (n < 0) ∧ (sOct n bs s).1.2 = if n < 0 then [] else (rdSpan n st).1) := by
  obtain ⟨p, q⟩ := s
  obtain ⟨h1, h2, h3, h4, h5⟩ := h
  simp only at h1 h2 h3 h4 h5
  unfold sOct
  by_cases hq : q = 0
  · subst hq
    rw [if_neg (show ¬ (((p, 0) : Nat × Nat).2 ≠ 0) by simp)]
    rw [h2 rfl]
    by_cases hn : n = -1
    · subst hn
      rw [if_pos rfl, if_pos (by decide)]
      exact ⟨⟨h1, fun _ => rfl, fun h => (by cases h), by simp, by simp⟩, fun _ => ⟨rfl, rfl⟩⟩
    · rw [if_neg hn]
      by_cases hm : n < 0
      · rw [if_pos hm, if_pos hm]
        exact ⟨⟨h1, fun h => (by cases h), fun h => (by cases h), by simp, by simp⟩, fun h => (by cases h)⟩
      · rw [if_neg hm, if_neg hm, if_neg hm]
        by_cases hx : (bs.length : Int) < n
        · rw [if_pos hx]
          have e : rdSpan n (some (bs.drop p)) = ([], none) := if_neg (by rw [List.length_drop]; omega)
          rw [e]
          exact ⟨⟨h1, fun h => (by cases h), fun _ => rfl, by simp, by simp⟩, fun h => (by cases h)⟩
        · rw [if_neg hx]
          unfold sTake
          rw [if_neg (show ¬ (((p, 0) : Nat × Nat).2 ≠ 0) by simp)]
          by_cases hz : bs.length - p < n.toNat
          · rw [if_pos hz]
            have e : rdSpan n (some (bs.drop p)) = ([], none) := if_neg (by rw [List.length_drop]; omega)
            rw [e]
            exact ⟨⟨h1, fun h => (by cases h), fun _ => rfl, by simp, by simp⟩, fun h => (by cases h)⟩
          · rw [if_neg hz]
            have e : rdSpan n (some (bs.drop p)) = ((bs.drop p).take n.toNat, some ((bs.drop p).drop n.toNat)) := if_pos (by rw [List.length_drop]; omega)
            rw [e]
            exact ⟨⟨by simp only; omega, fun _ => by rw [List.drop_drop], fun h => (by cases h), by simp, by simp⟩, fun _ => ⟨by simpa using hm, rfl⟩⟩
  · rw [if_pos hq]
    refine ⟨⟨h1, fun h => absurd h hq, fun h => ?_, h4, h5⟩, fun h => absurd h hq⟩
    rw [h3 h]
    split <;> rfl
/-- What a state that has ended says. -/
theorem Sim.ended {bs : List UInt8} {s s' : Nat × Nat} {st st' : St} (h : Sim bs s st) (hs : s.2 ≠ 0) (he : s' = s) (hst : st = none → st' = none) : Sim bs s' st' := by
  subst he
  exact ⟨h.le, fun h0 => absurd h0 hs, fun h1 => hst (h.short h1), h.two, h.four⟩
end Go.Proofs.YthdfhnnoamlacaaDoor.Rec

namespace Go.Proofs.YthdfhnnoamlacaaDoor.Rec
open Go.Proofs.YthdfhnnoamlacaaDoor
open Go.RowKit (Below wrap64 wrap32)
open Kz

theorem TellHeader_form (w : World) (S : Nat → Prop) (v : Value) (bs : List UInt8) (h : BytesAt w S v bs) (hl : bs.length < 4294967296) (he : ErrOk w) : Calls Tryd.prog 6 #[v] w fun e w' =>
    ∃ (k d : List UInt8) (b : Bool) (u : Value), e = .returned (.tuple #[.agg #[.string ⟨k.toArray⟩, .bool b, u], .bool (pHead bs).2.isSome]) ∧ BytesAt w' (fun _ => True) u d ∧ ((pHead bs).2.isSome = true → k = (pHead bs).1.1 ∧ b = (pHead bs).1.2.isNone ∧ d = (pHead bs).1.2.getD []) ∧ d.length ≤ bs.length ∧ Below w.heap.size w w' := by
  refine (TellHeader_any w S v bs h hl he).mono ?_
  rintro e w' ⟨u, h1, h2⟩
  cases hp : (pHead bs).2 with
  | none =>
    rw [hp] at h1
    exact ⟨[], [], false, u, h1.1, .inl ⟨h1.2, rfl⟩, fun h => (by cases h), Nat.zero_le _, h2⟩
  | some r =>
    rw [hp] at h1
    exact ⟨_, _, _, u, h1.1, h1.2, fun _ => ⟨rfl, rfl, rfl⟩, pHead_len bs, h2⟩
end Go.Proofs.YthdfhnnoamlacaaDoor.Rec

namespace Go.Proofs.YthdfhnnoamlacaaDoor.Rec
open Go.Proofs.YthdfhnnoamlacaaDoor
open Go.RowKit (Below wrap64 wrap32)
open Kz

/-- So many octets of nothing. -/
def zz (n : Nat) : List UInt8 := List.replicate n 0
theorem default_is {f : Nat} {fn : Func} (hf : Tryd.prog.funcs[f]? = some fn) (hb : fn.body = some Code.skip) (hr : fn.results = #[]) (w : World) (x : Value) : Calls Tryd.prog f #[x] w fun e w' => e = .returned (.tuple #[]) ∧ w' = w := by
  refine calls_of_wp hf hb (wp_skip ?_)
  exact ⟨rfl, .tuple #[], results_none hr _ _ _, rfl, rfl⟩
section
variable {w : World} {S : Nat → Prop} {rb : Nat} {st st' : St} {x : Int}
theorem rI64 (h : RdIs w S rb st) (e : rdI 8 st = (x, st')) : Calls Tryd.prog 71 #[.pointer (some ⟨rb, 0, none⟩)] w fun e w' => e = .returned (.int .i64 x) ∧ RdIs w' S rb st' ∧ w.grownBy w' (some rb) := by have := Int64_any w S rb st h; rw [e] at this; exact this
theorem rI32 (h : RdIs w S rb st) (e : rdI 4 st = (x, st')) : Calls Tryd.prog 57 #[.pointer (some ⟨rb, 0, none⟩)] w fun e w' => e = .returned (.int .i32 x) ∧ RdIs w' S rb st' ∧ w.grownBy w' (some rb) := by have := Int32_any w S rb st h; rw [e] at this; exact this
theorem rI16 (h : RdIs w S rb st) (e : rdI 2 st = (x, st')) : Calls Tryd.prog 67 #[.pointer (some ⟨rb, 0, none⟩)] w fun e w' => e = .returned (.int .i16 x) ∧ RdIs w' S rb st' ∧ w.grownBy w' (some rb) := by have := Int16_any w S rb st h; rw [e] at this; exact this
theorem rI8 (h : RdIs w S rb st) (e : rdI 1 st = (x, st')) : Calls Tryd.prog 72 #[.pointer (some ⟨rb, 0, none⟩)] w fun e w' => e = .returned (.int .i8 x) ∧ RdIs w' S rb st' ∧ w.grownBy w' (some rb) := by have := Int8_any w S rb st h; rw [e] at this; exact this
theorem rSpan {n : Int} {l : List UInt8} (h : RdIs w S rb st) (e : rdSpan n st = (l, st')) (h1 : -9223372036854775808 ≤ n) (h2 : n ≤ 9223372036854775807) : Calls Tryd.prog 60 #[.pointer (some ⟨rb, 0, none⟩), .int .i64 n] w fun e w' => ∃ v, e = .returned v ∧ BytesAt w' S v l ∧ RdIs w' S rb st' ∧ w.grownBy w' (some rb) := by have := Span_any w S rb st n h h1 h2; rw [e] at this; exact this
def rdNB (st : St) : List UInt8 × St := if (rdI 4 st).1 < 0 then ([], (rdI 4 st).2) else rdSpan (rdI 4 st).1 (rdI 4 st).2
theorem rNB {l : List UInt8} (h : RdIs w S rb st) (e : rdNB st = (l, st')) : Calls Tryd.prog 73 #[.pointer (some ⟨rb, 0, none⟩)] w fun e w' => ∃ v, e = .returned v ∧ BytesAt w' S v l ∧ RdIs w' S rb st' ∧ w.grownBy w' (some rb) := by
  have hb := rdI4_b st
  have HV := Lib.hid (Int32_any w S rb st h)
  unfold rdNB at e
  generalize (rdI 4 st).1 = n at *
  generalize (rdI 4 st).2 = s1 at *
  have b1 := hb.1
  have b2 := hb.2
  clear h hb
  by_cases hn : n < 0
  · have t1 : decide (n < 0) = true := by simpa using hn
    rw [if_pos hn] at e
    obtain ⟨rfl, rfl⟩ := Prod.mk.inj e
    clear e
    go_enter Tryd.func73, Tryd.ntmps73
    go_wp2_with fail
    refine HV.out.mono ?_
    rintro e w1 ⟨rfl, h1, g1⟩
    have H1 := Lib.hid h1
    clear h1
    go_wp2
    go_ret
    exact ⟨_, rfl, .inl ⟨rfl, rfl⟩, H1.out, g1⟩
  · have t1 : decide (n < 0) = false := by simpa using hn
    rw [if_neg hn] at e
    have HEE := Lib.hid e
    clear e
    go_enter Tryd.func73, Tryd.ntmps73
    go_wp2_with fail
    refine HV.out.mono ?_
    rintro e w1 ⟨rfl, h1, g1⟩
    have H1 := Lib.hid h1
    clear h1
    go_wp2_with fail
    refine (rSpan H1.out HEE.out (by omega) (by omega)).mono ?_
    rintro e w2 ⟨v, rfl, hv, h2, g2⟩
    have H2 := Lib.hid h2
    have HV := Lib.hid hv
    clear h2 hv
    go_wp2
    go_ret
    exact ⟨_, rfl, HV.out, H2.out, grownBy_trans g1 g2⟩
end
/-- A reader beside a struct that is being written. -/
structure Rs (w w1 : World) (S : Nat → Prop) (B : Nat) (T : TypeId) (cs : Array Value) (st : St) : Prop where
  row : w1.heap[B]? = some (.cells cs T (0, 0))
  rd : RdIs w1 S w.heap.size st
  grown : w.grownBy w1 (some B)
section
variable {w w1 w2 : World} {S : Nat → Prop} {B : Nat} {T : TypeId} {cs : Array Value} {st st' : St}
theorem Rs.start {p : Option Addr} {n c : Nat} {bs : List UInt8} (hB : w.heap[B]? = some (.cells cs T (0, 0))) (h : BytesAt w S (.slice p n c) bs) (hS : ∀ g, S g → g < w.heap.size) : Rs w (w.alloc (.cells #[.slice p n c, .bool false] 99)) S B T cs (some bs) :=
  ⟨by rw [(grown_alloc w _ none).block B (Array.getElem?_eq_some_iff.1 hB).1 (by simp)]; exact hB, ⟨fun h => by have := hS _ h; omega, .slice p n c, (by show (w.heap.push _)[w.heap.size]? = _; exact Array.getElem?_push_size), h.kept (grown_alloc w _ none) (by simp)⟩, grown_alloc w _ _⟩
theorem Rs.read (h : Rs w w1 S B T cs st) (hBl : B < w.heap.size) (g : w1.grownBy w2 (some w.heap.size)) (r : RdIs w2 S w.heap.size st') : Rs w w2 S B T cs st' :=
  ⟨by rw [g.block B (Nat.lt_of_lt_of_le hBl h.grown.size) (fun e => by have := Option.some.inj e; omega)]; exact h.row, r,
    ⟨g.os.trans h.grown.os, g.tape.trans h.grown.tape, g.output.trans h.grown.output, Nat.le_trans h.grown.size g.size, fun j hj hr => by rw [g.block j (Nat.lt_of_lt_of_le hj h.grown.size) (fun e => by have := Option.some.inj e; omega)]; exact h.grown.block j hj hr⟩⟩
theorem Rs.store (h : Rs w w1 S B T cs st) (hSB : ¬ S B) (hBl : B < w.heap.size) (k : Nat) (x : Value) : Rs w (w1.setCell ⟨B, k, none⟩ x) S B T (cs.setIfInBounds k x) st :=
  have g : w1.grownBy (w1.setCell ⟨B, k, none⟩ x) (some B) := grown_setCell (grownBy_refl _ _) k x
  ⟨heap_setCell_row h.row, h.rd.kept g (fun g hg e => hSB (by rw [← Option.some.inj e]; exact hg)) (fun e => by have := Option.some.inj e; omega), grownBy_trans h.grown g⟩
theorem Rs.cell (h : Rs w w1 S B T cs st) (k : Nat) : w1.cell? ⟨B, k, none⟩ = cs[k]? := cell_of_row w1 B k _ _ _ h.row
theorem Rs.frozen (h : Rs w w1 S B T cs st) (k : Nat) : w1.frozen? ⟨B, k, none⟩ = false := by simp [World.frozen?, h.row]
end
theorem nil_s {w w1 w' : World} {S : Nat → Prop} {v : Value} {row : Option Nat} (h : BytesAt w1 S v []) (hS : ∀ g, S g → g < w.heap.size) (hg : w.grownBy w' row) : BytesAt w' S v [] := by
  rcases h with h | ⟨g, o, c, h1, h2, h3, h4, h5, -⟩
  · exact .inl h
  · exact .inr ⟨g, o, c, h1, h2, h3, h4, Nat.lt_of_lt_of_le (hS g h4) hg.size, fun i b hb => by simp at hb⟩
set_option maxRecDepth 8000 in
set_option maxHeartbeats 4000000 in
theorem v0readFrom (w : World) (S : Nat → Prop) (B : Nat) (p : Option Addr) (c : Nat) (hB : w.heap[B]? = some (.cells #[.int .i64 0, .int .i32 0, .int .i32 0, .int .i8 0, .int .i8 0, .slice none 0 0, .slice none 0 0] 105 (0, 0))) (h : BytesAt w S (.slice p 26 c) (zz 26)) (hSB : ¬ S B) (hS : ∀ g, S g → g < w.heap.size) (he : ErrOk w) (hBe : B ≠ 0) :
    Calls Tryd.prog 63 #[.pointer (some ⟨B, 0, none⟩), .slice p 26 c, .bool false] w fun e w' => ∃ v5 v6 : Value, e = .returned .nilIface ∧ w.grownBy w' (some B) ∧ w'.heap[B]? = some (.cells #[.int .i64 (0), .int .i32 (0), .int .i32 (0), .int .i8 (0), .int .i8 (0), v5, v6] 105 (0, 0)) ∧ BytesAt w' S v5 [] ∧ BytesAt w' S v6 [] := by
  have hBl : B < w.heap.size := (Array.getElem?_eq_some_iff.1 hB).1
  have HE := Lib.hid he
  have HR := Lib.hid (Rs.start hB h hS)
  have HSS := Lib.hid hS
  clear h hB he hS
  go_enter Tryd.func63, Tryd.ntmps63
  go_wp2_with fail
  refine (default_is Tryd.func70 rfl rfl _ _).mono ?_
  rintro e w' ⟨rfl, hw⟩
  have hw := hw.symm
  subst hw
  go_wp2_with fail
  refine (rI64 (st := some (zz 26)) (x := 0) (st' := some (zz 18)) HR.out.rd (by kernel_rfl)).mono ?_
  rintro e w1 ⟨rfl, hr, g⟩
  have hR := HR.out.read hBl g hr
  have hc : w1.cell? ⟨B, 0, none⟩ = some (.int .i64 0) := hR.cell 0
  have hf : w1.frozen? ⟨B, 0, none⟩ = false := hR.frozen 0
  have hR2 : Rs w (w1.setCell ⟨B, 0, none⟩ (.int .i64 (0))) S B 105 #[.int .i64 (0), .int .i32 0, .int .i32 0, .int .i8 0, .int .i8 0, .slice none 0 0, .slice none 0 0] (some (zz 18)) := hR.store hSB hBl 0 (.int .i64 (0))
  have HR := Lib.hid hR2
  clear hR hR2 g hr
  go_wp2_with fail
  refine (rI32 (st := some (zz 18)) (x := 0) (st' := some (zz 14)) HR.out.rd (by kernel_rfl)).mono ?_
  rintro e w2 ⟨rfl, hr, g⟩
  have hR := HR.out.read hBl g hr
  have hc : w2.cell? ⟨B, 1, none⟩ = some (.int .i32 0) := hR.cell 1
  have hf : w2.frozen? ⟨B, 1, none⟩ = false := hR.frozen 1
  have hR2 : Rs w (w2.setCell ⟨B, 1, none⟩ (.int .i32 (0))) S B 105 #[.int .i64 (0), .int .i32 (0), .int .i32 0, .int .i8 0, .int .i8 0, .slice none 0 0, .slice none 0 0] (some (zz 14)) := hR.store hSB hBl 1 (.int .i32 (0))
  have HR := Lib.hid hR2
  clear hR hR2 g hr
  go_wp2_with fail
  refine (rI32 (st := some (zz 14)) (x := 0) (st' := some (zz 10)) HR.out.rd (by kernel_rfl)).mono ?_
  rintro e w3 ⟨rfl, hr, g⟩
  have hR := HR.out.read hBl g hr
  have hc : w3.cell? ⟨B, 2, none⟩ = some (.int .i32 0) := hR.cell 2
  have hf : w3.frozen? ⟨B, 2, none⟩ = false := hR.frozen 2
  have hR2 : Rs w (w3.setCell ⟨B, 2, none⟩ (.int .i32 (0))) S B 105 #[.int .i64 (0), .int .i32 (0), .int .i32 (0), .int .i8 0, .int .i8 0, .slice none 0 0, .slice none 0 0] (some (zz 10)) := hR.store hSB hBl 2 (.int .i32 (0))
  have HR := Lib.hid hR2
  clear hR hR2 g hr
  go_wp2_with fail
  refine (rI8 (st := some (zz 10)) (x := 0) (st' := some (zz 9)) HR.out.rd (by kernel_rfl)).mono ?_
  rintro e w4 ⟨rfl, hr, g⟩
  have hR := HR.out.read hBl g hr
  have hc : w4.cell? ⟨B, 3, none⟩ = some (.int .i8 0) := hR.cell 3
  have hf : w4.frozen? ⟨B, 3, none⟩ = false := hR.frozen 3
  have hR2 : Rs w (w4.setCell ⟨B, 3, none⟩ (.int .i8 (0))) S B 105 #[.int .i64 (0), .int .i32 (0), .int .i32 (0), .int .i8 (0), .int .i8 0, .slice none 0 0, .slice none 0 0] (some (zz 9)) := hR.store hSB hBl 3 (.int .i8 (0))
  have HR := Lib.hid hR2
  clear hR hR2 g hr
  go_wp2_with fail
  refine (rI8 (st := some (zz 9)) (x := 0) (st' := some (zz 8)) HR.out.rd (by kernel_rfl)).mono ?_
  rintro e w5 ⟨rfl, hr, g⟩
  have hR := HR.out.read hBl g hr
  have hc : w5.cell? ⟨B, 4, none⟩ = some (.int .i8 0) := hR.cell 4
  have hf : w5.frozen? ⟨B, 4, none⟩ = false := hR.frozen 4
  have hR2 : Rs w (w5.setCell ⟨B, 4, none⟩ (.int .i8 (0))) S B 105 #[.int .i64 (0), .int .i32 (0), .int .i32 (0), .int .i8 (0), .int .i8 (0), .slice none 0 0, .slice none 0 0] (some (zz 8)) := hR.store hSB hBl 4 (.int .i8 (0))
  have HR := Lib.hid hR2
  clear hR hR2 g hr
  go_wp2_with fail
  refine (rNB (st := some (zz 8)) (l := []) (st' := some (zz 4)) HR.out.rd rfl).mono ?_
  rintro e w6 ⟨v5, rfl, hv, hr, g⟩
  obtain ⟨a5, c5, rfl⟩ := bytes_len hv
  have HV5 := Lib.hid hv
  have hR := HR.out.read hBl g hr
  have hc : w6.cell? ⟨B, 5, none⟩ = some (.slice none 0 0) := hR.cell 5
  have hf : w6.frozen? ⟨B, 5, none⟩ = false := hR.frozen 5
  have hR2 : Rs w (w6.setCell ⟨B, 5, none⟩ (.slice a5 0 c5)) S B 105 #[.int .i64 (0), .int .i32 (0), .int .i32 (0), .int .i8 (0), .int .i8 (0), .slice a5 0 c5, .slice none 0 0] (some (zz 4)) := hR.store hSB hBl 5 (.slice a5 0 c5)
  have HR := Lib.hid hR2
  clear hR hR2 g hr hv
  go_wp2_with fail
  refine (rNB (st := some (zz 4)) (l := []) (st' := some (zz 0)) HR.out.rd rfl).mono ?_
  rintro e w7 ⟨v6, rfl, hv, hr, g⟩
  obtain ⟨a6, c6, rfl⟩ := bytes_len hv
  have HV6 := Lib.hid hv
  have hR := HR.out.read hBl g hr
  have hc : w7.cell? ⟨B, 6, none⟩ = some (.slice none 0 0) := hR.cell 6
  have hf : w7.frozen? ⟨B, 6, none⟩ = false := hR.frozen 6
  have hR2 : Rs w (w7.setCell ⟨B, 6, none⟩ (.slice a6 0 c6)) S B 105 #[.int .i64 (0), .int .i32 (0), .int .i32 (0), .int .i8 (0), .int .i8 (0), .slice a5 0 c5, .slice a6 0 c6] (some (zz 0)) := hR.store hSB hBl 6 (.slice a6 0 c6)
  have HR := Lib.hid hR2
  clear hR hR2 g hr hv
  have hE := HE.out.kept HR.out.grown (fun e => hBe (Option.some.inj e))
  go_wp2_with fail
  refine (Complete_any _ S w.heap.size _ HR.out.rd hE).mono ?_
  rintro e w99 ⟨u, rfl, hu, hw99⟩
  subst hw99
  have hu : u = .nilIface := hu
  subst hu
  clear hE
  go_wp2
  go_ret
  exact ⟨_, _, rfl, HR.out.grown, HR.out.row, nil_s HV5.out HSS.out HR.out.grown, nil_s HV6.out HSS.out HR.out.grown⟩
theorem v0ReadFrom (w : World) (S : Nat → Prop) (B : Nat) (p : Option Addr) (c : Nat) (hB : w.heap[B]? = some (.cells #[.int .i64 0, .int .i32 0, .int .i32 0, .int .i8 0, .int .i8 0, .slice none 0 0, .slice none 0 0] 105 (0, 0))) (h : BytesAt w S (.slice p 26 c) (zz 26)) (hSB : ¬ S B) (hS : ∀ g, S g → g < w.heap.size) (he : ErrOk w) (hBe : B ≠ 0) :
    Calls Tryd.prog 48 #[.pointer (some ⟨B, 0, none⟩), .slice p 26 c] w fun e w' => ∃ v5 v6 : Value, e = .returned .nilIface ∧ w.grownBy w' (some B) ∧ w'.heap[B]? = some (.cells #[.int .i64 (0), .int .i32 (0), .int .i32 (0), .int .i8 (0), .int .i8 (0), v5, v6] 105 (0, 0)) ∧ BytesAt w' S v5 [] ∧ BytesAt w' S v6 [] := by
  have HH := Lib.hid (v0readFrom w S B p c hB h hSB hS he hBe)
  clear hB h he
  go_enter Tryd.func48, Tryd.ntmps48
  go_wp2_with fail
  refine HH.out.mono ?_
  rintro e w1 ⟨v5, v6, rfl, hr⟩
  have HR := Lib.hid hr
  clear hr
  go_wp2
  go_ret
  exact ⟨_, _, rfl, HR.out⟩
set_option maxRecDepth 8000 in
set_option maxHeartbeats 4000000 in
theorem v1readFrom (w : World) (S : Nat → Prop) (B : Nat) (p : Option Addr) (c : Nat) (hB : w.heap[B]? = some (.cells #[.int .i64 0, .int .i32 0, .int .i32 0, .int .i8 0, .int .i8 0, .int .i64 0, .slice none 0 0, .slice none 0 0] 107 (0, 0))) (h : BytesAt w S (.slice p 34 c) (zz 34)) (hSB : ¬ S B) (hS : ∀ g, S g → g < w.heap.size) (he : ErrOk w) (hBe : B ≠ 0) :
    Calls Tryd.prog 64 #[.pointer (some ⟨B, 0, none⟩), .slice p 34 c, .bool false] w fun e w' => ∃ v6 v7 : Value, e = .returned .nilIface ∧ w.grownBy w' (some B) ∧ w'.heap[B]? = some (.cells #[.int .i64 (0), .int .i32 (0), .int .i32 (0), .int .i8 (0), .int .i8 (0), .int .i64 (0), v6, v7] 107 (0, 0)) ∧ BytesAt w' S v6 [] ∧ BytesAt w' S v7 [] := by
  have hBl : B < w.heap.size := (Array.getElem?_eq_some_iff.1 hB).1
  have HE := Lib.hid he
  have HR := Lib.hid (Rs.start hB h hS)
  have HSS := Lib.hid hS
  clear h hB he hS
  go_enter Tryd.func64, Tryd.ntmps64
  go_wp2_with fail
  refine (default_is Tryd.func74 rfl rfl _ _).mono ?_
  rintro e w' ⟨rfl, hw⟩
  have hw := hw.symm
  subst hw
  go_wp2_with fail
  refine (rI64 (st := some (zz 34)) (x := 0) (st' := some (zz 26)) HR.out.rd (by kernel_rfl)).mono ?_
  rintro e w1 ⟨rfl, hr, g⟩
  have hR := HR.out.read hBl g hr
  have hc : w1.cell? ⟨B, 0, none⟩ = some (.int .i64 0) := hR.cell 0
  have hf : w1.frozen? ⟨B, 0, none⟩ = false := hR.frozen 0
  have hR2 : Rs w (w1.setCell ⟨B, 0, none⟩ (.int .i64 (0))) S B 107 #[.int .i64 (0), .int .i32 0, .int .i32 0, .int .i8 0, .int .i8 0, .int .i64 0, .slice none 0 0, .slice none 0 0] (some (zz 26)) := hR.store hSB hBl 0 (.int .i64 (0))
  have HR := Lib.hid hR2
  clear hR hR2 g hr
  go_wp2_with fail
  refine (rI32 (st := some (zz 26)) (x := 0) (st' := some (zz 22)) HR.out.rd (by kernel_rfl)).mono ?_
  rintro e w2 ⟨rfl, hr, g⟩
  have hR := HR.out.read hBl g hr
  have hc : w2.cell? ⟨B, 1, none⟩ = some (.int .i32 0) := hR.cell 1
  have hf : w2.frozen? ⟨B, 1, none⟩ = false := hR.frozen 1
  have hR2 : Rs w (w2.setCell ⟨B, 1, none⟩ (.int .i32 (0))) S B 107 #[.int .i64 (0), .int .i32 (0), .int .i32 0, .int .i8 0, .int .i8 0, .int .i64 0, .slice none 0 0, .slice none 0 0] (some (zz 22)) := hR.store hSB hBl 1 (.int .i32 (0))
  have HR := Lib.hid hR2
  clear hR hR2 g hr
  go_wp2_with fail
  refine (rI32 (st := some (zz 22)) (x := 0) (st' := some (zz 18)) HR.out.rd (by kernel_rfl)).mono ?_
  rintro e w3 ⟨rfl, hr, g⟩
  have hR := HR.out.read hBl g hr
  have hc : w3.cell? ⟨B, 2, none⟩ = some (.int .i32 0) := hR.cell 2
  have hf : w3.frozen? ⟨B, 2, none⟩ = false := hR.frozen 2
  have hR2 : Rs w (w3.setCell ⟨B, 2, none⟩ (.int .i32 (0))) S B 107 #[.int .i64 (0), .int .i32 (0), .int .i32 (0), .int .i8 0, .int .i8 0, .int .i64 0, .slice none 0 0, .slice none 0 0] (some (zz 18)) := hR.store hSB hBl 2 (.int .i32 (0))
  have HR := Lib.hid hR2
  clear hR hR2 g hr
  go_wp2_with fail
  refine (rI8 (st := some (zz 18)) (x := 0) (st' := some (zz 17)) HR.out.rd (by kernel_rfl)).mono ?_
  rintro e w4 ⟨rfl, hr, g⟩
  have hR := HR.out.read hBl g hr
  have hc : w4.cell? ⟨B, 3, none⟩ = some (.int .i8 0) := hR.cell 3
  have hf : w4.frozen? ⟨B, 3, none⟩ = false := hR.frozen 3
  have hR2 : Rs w (w4.setCell ⟨B, 3, none⟩ (.int .i8 (0))) S B 107 #[.int .i64 (0), .int .i32 (0), .int .i32 (0), .int .i8 (0), .int .i8 0, .int .i64 0, .slice none 0 0, .slice none 0 0] (some (zz 17)) := hR.store hSB hBl 3 (.int .i8 (0))
  have HR := Lib.hid hR2
  clear hR hR2 g hr
  go_wp2_with fail
  refine (rI8 (st := some (zz 17)) (x := 0) (st' := some (zz 16)) HR.out.rd (by kernel_rfl)).mono ?_
  rintro e w5 ⟨rfl, hr, g⟩
  have hR := HR.out.read hBl g hr
  have hc : w5.cell? ⟨B, 4, none⟩ = some (.int .i8 0) := hR.cell 4
  have hf : w5.frozen? ⟨B, 4, none⟩ = false := hR.frozen 4
  have hR2 : Rs w (w5.setCell ⟨B, 4, none⟩ (.int .i8 (0))) S B 107 #[.int .i64 (0), .int .i32 (0), .int .i32 (0), .int .i8 (0), .int .i8 (0), .int .i64 0, .slice none 0 0, .slice none 0 0] (some (zz 16)) := hR.store hSB hBl 4 (.int .i8 (0))
  have HR := Lib.hid hR2
  clear hR hR2 g hr
  go_wp2_with fail
  refine (rI64 (st := some (zz 16)) (x := 0) (st' := some (zz 8)) HR.out.rd (by kernel_rfl)).mono ?_
  rintro e w6 ⟨rfl, hr, g⟩
  have hR := HR.out.read hBl g hr
  have hc : w6.cell? ⟨B, 5, none⟩ = some (.int .i64 0) := hR.cell 5
  have hf : w6.frozen? ⟨B, 5, none⟩ = false := hR.frozen 5
  have hR2 : Rs w (w6.setCell ⟨B, 5, none⟩ (.int .i64 (0))) S B 107 #[.int .i64 (0), .int .i32 (0), .int .i32 (0), .int .i8 (0), .int .i8 (0), .int .i64 (0), .slice none 0 0, .slice none 0 0] (some (zz 8)) := hR.store hSB hBl 5 (.int .i64 (0))
  have HR := Lib.hid hR2
  clear hR hR2 g hr
  go_wp2_with fail
  refine (rNB (st := some (zz 8)) (l := []) (st' := some (zz 4)) HR.out.rd rfl).mono ?_
  rintro e w7 ⟨v6, rfl, hv, hr, g⟩
  obtain ⟨a6, c6, rfl⟩ := bytes_len hv
  have HV6 := Lib.hid hv
  have hR := HR.out.read hBl g hr
  have hc : w7.cell? ⟨B, 6, none⟩ = some (.slice none 0 0) := hR.cell 6
  have hf : w7.frozen? ⟨B, 6, none⟩ = false := hR.frozen 6
  have hR2 : Rs w (w7.setCell ⟨B, 6, none⟩ (.slice a6 0 c6)) S B 107 #[.int .i64 (0), .int .i32 (0), .int .i32 (0), .int .i8 (0), .int .i8 (0), .int .i64 (0), .slice a6 0 c6, .slice none 0 0] (some (zz 4)) := hR.store hSB hBl 6 (.slice a6 0 c6)
  have HR := Lib.hid hR2
  clear hR hR2 g hr hv
  go_wp2_with fail
  refine (rNB (st := some (zz 4)) (l := []) (st' := some (zz 0)) HR.out.rd rfl).mono ?_
  rintro e w8 ⟨v7, rfl, hv, hr, g⟩
  obtain ⟨a7, c7, rfl⟩ := bytes_len hv
  have HV7 := Lib.hid hv
  have hR := HR.out.read hBl g hr
  have hc : w8.cell? ⟨B, 7, none⟩ = some (.slice none 0 0) := hR.cell 7
  have hf : w8.frozen? ⟨B, 7, none⟩ = false := hR.frozen 7
  have hR2 : Rs w (w8.setCell ⟨B, 7, none⟩ (.slice a7 0 c7)) S B 107 #[.int .i64 (0), .int .i32 (0), .int .i32 (0), .int .i8 (0), .int .i8 (0), .int .i64 (0), .slice a6 0 c6, .slice a7 0 c7] (some (zz 0)) := hR.store hSB hBl 7 (.slice a7 0 c7)
  have HR := Lib.hid hR2
  clear hR hR2 g hr hv
  have hE := HE.out.kept HR.out.grown (fun e => hBe (Option.some.inj e))
  go_wp2_with fail
  refine (Complete_any _ S w.heap.size _ HR.out.rd hE).mono ?_
  rintro e w99 ⟨u, rfl, hu, hw99⟩
  subst hw99
  have hu : u = .nilIface := hu
  subst hu
  clear hE
  go_wp2
  go_ret
  exact ⟨_, _, rfl, HR.out.grown, HR.out.row, nil_s HV6.out HSS.out HR.out.grown, nil_s HV7.out HSS.out HR.out.grown⟩
theorem v1ReadFrom (w : World) (S : Nat → Prop) (B : Nat) (p : Option Addr) (c : Nat) (hB : w.heap[B]? = some (.cells #[.int .i64 0, .int .i32 0, .int .i32 0, .int .i8 0, .int .i8 0, .int .i64 0, .slice none 0 0, .slice none 0 0] 107 (0, 0))) (h : BytesAt w S (.slice p 34 c) (zz 34)) (hSB : ¬ S B) (hS : ∀ g, S g → g < w.heap.size) (he : ErrOk w) (hBe : B ≠ 0) :
    Calls Tryd.prog 50 #[.pointer (some ⟨B, 0, none⟩), .slice p 34 c] w fun e w' => ∃ v6 v7 : Value, e = .returned .nilIface ∧ w.grownBy w' (some B) ∧ w'.heap[B]? = some (.cells #[.int .i64 (0), .int .i32 (0), .int .i32 (0), .int .i8 (0), .int .i8 (0), .int .i64 (0), v6, v7] 107 (0, 0)) ∧ BytesAt w' S v6 [] ∧ BytesAt w' S v7 [] := by
  have HH := Lib.hid (v1readFrom w S B p c hB h hSB hS he hBe)
  clear hB h he
  go_enter Tryd.func50, Tryd.ntmps50
  go_wp2_with fail
  refine HH.out.mono ?_
  rintro e w1 ⟨v6, v7, rfl, hr⟩
  have HR := Lib.hid hr
  clear hr
  go_wp2
  go_ret
  exact ⟨_, _, rfl, HR.out⟩
set_option maxRecDepth 8000 in
set_option maxHeartbeats 4000000 in
theorem batchreadFrom (w : World) (S : Nat → Prop) (B : Nat) (p : Option Addr) (c : Nat) (hB : w.heap[B]? = some (.cells #[.int .i64 0, .int .i32 0, .int .i32 0, .int .i8 0, .int .i32 0, .int .i16 0, .int .i32 0, .int .i64 0, .int .i64 0, .int .i64 0, .int .i16 0, .int .i32 0, .int .i32 0, .slice none 0 0] 112 (0, 0))) (h : BytesAt w S (.slice p 61 c) ([0, 0, 0, 0, 0, 0, 0, 0, 0, 0, 0, 49, 0, 0, 0, 0, 0, 0, 0, 0, 0, 0, 0, 0, 0, 0, 0, 0, 0, 0, 0, 0, 0, 0, 0, 0, 0, 0, 0, 0, 0, 0, 0, 0, 0, 0, 0, 0, 0, 0, 0, 0, 0, 0, 0, 0, 0, 0, 0, 0, 0])) (hSB : ¬ S B) (hS : ∀ g, S g → g < w.heap.size) (he : ErrOk w) (hBe : B ≠ 0) :
    Calls Tryd.prog 66 #[.pointer (some ⟨B, 0, none⟩), .slice p 61 c, .bool false] w fun e w' => ∃ v13 : Value, e = .returned .nilIface ∧ w.grownBy w' (some B) ∧ w'.heap[B]? = some (.cells #[.int .i64 (0), .int .i32 (49), .int .i32 (0), .int .i8 (0), .int .i32 (0), .int .i16 (0), .int .i32 (0), .int .i64 (0), .int .i64 (0), .int .i64 (0), .int .i16 (0), .int .i32 (0), .int .i32 (0), v13] 112 (0, 0)) ∧ BytesAt w' S v13 [] := by
  have hBl : B < w.heap.size := (Array.getElem?_eq_some_iff.1 hB).1
  have HE := Lib.hid he
  have HR := Lib.hid (Rs.start hB h hS)
  have HSS := Lib.hid hS
  clear h hB he hS
  go_enter Tryd.func66, Tryd.ntmps66
  go_wp2_with fail
  refine (default_is Tryd.func79 rfl rfl _ _).mono ?_
  rintro e w' ⟨rfl, hw⟩
  have hw := hw.symm
  subst hw
  go_wp2_with fail
  refine (rI64 (st := some ([0, 0, 0, 0, 0, 0, 0, 0, 0, 0, 0, 49, 0, 0, 0, 0, 0, 0, 0, 0, 0, 0, 0, 0, 0, 0, 0, 0, 0, 0, 0, 0, 0, 0, 0, 0, 0, 0, 0, 0, 0, 0, 0, 0, 0, 0, 0, 0, 0, 0, 0, 0, 0, 0, 0, 0, 0, 0, 0, 0, 0])) (x := 0) (st' := some ([0, 0, 0, 49, 0, 0, 0, 0, 0, 0, 0, 0, 0, 0, 0, 0, 0, 0, 0, 0, 0, 0, 0, 0, 0, 0, 0, 0, 0, 0, 0, 0, 0, 0, 0, 0, 0, 0, 0, 0, 0, 0, 0, 0, 0, 0, 0, 0, 0, 0, 0, 0, 0])) HR.out.rd (by kernel_rfl)).mono ?_
  rintro e w1 ⟨rfl, hr, g⟩
  have hR := HR.out.read hBl g hr
  have hc : w1.cell? ⟨B, 0, none⟩ = some (.int .i64 0) := hR.cell 0
  have hf : w1.frozen? ⟨B, 0, none⟩ = false := hR.frozen 0
  have hR2 : Rs w (w1.setCell ⟨B, 0, none⟩ (.int .i64 (0))) S B 112 #[.int .i64 (0), .int .i32 0, .int .i32 0, .int .i8 0, .int .i32 0, .int .i16 0, .int .i32 0, .int .i64 0, .int .i64 0, .int .i64 0, .int .i16 0, .int .i32 0, .int .i32 0, .slice none 0 0] (some ([0, 0, 0, 49, 0, 0, 0, 0, 0, 0, 0, 0, 0, 0, 0, 0, 0, 0, 0, 0, 0, 0, 0, 0, 0, 0, 0, 0, 0, 0, 0, 0, 0, 0, 0, 0, 0, 0, 0, 0, 0, 0, 0, 0, 0, 0, 0, 0, 0, 0, 0, 0, 0])) := hR.store hSB hBl 0 (.int .i64 (0))
  have HR := Lib.hid hR2
  clear hR hR2 g hr
  go_wp2_with fail
  refine (rI32 (st := some ([0, 0, 0, 49, 0, 0, 0, 0, 0, 0, 0, 0, 0, 0, 0, 0, 0, 0, 0, 0, 0, 0, 0, 0, 0, 0, 0, 0, 0, 0, 0, 0, 0, 0, 0, 0, 0, 0, 0, 0, 0, 0, 0, 0, 0, 0, 0, 0, 0, 0, 0, 0, 0])) (x := 49) (st' := some (zz 49)) HR.out.rd (by kernel_rfl)).mono ?_
  rintro e w2 ⟨rfl, hr, g⟩
  have hR := HR.out.read hBl g hr
  have hc : w2.cell? ⟨B, 1, none⟩ = some (.int .i32 0) := hR.cell 1
  have hf : w2.frozen? ⟨B, 1, none⟩ = false := hR.frozen 1
  have hR2 : Rs w (w2.setCell ⟨B, 1, none⟩ (.int .i32 (49))) S B 112 #[.int .i64 (0), .int .i32 (49), .int .i32 0, .int .i8 0, .int .i32 0, .int .i16 0, .int .i32 0, .int .i64 0, .int .i64 0, .int .i64 0, .int .i16 0, .int .i32 0, .int .i32 0, .slice none 0 0] (some (zz 49)) := hR.store hSB hBl 1 (.int .i32 (49))
  have HR := Lib.hid hR2
  clear hR hR2 g hr
  go_wp2_with fail
  refine (rI32 (st := some (zz 49)) (x := 0) (st' := some (zz 45)) HR.out.rd (by kernel_rfl)).mono ?_
  rintro e w3 ⟨rfl, hr, g⟩
  have hR := HR.out.read hBl g hr
  have hc : w3.cell? ⟨B, 2, none⟩ = some (.int .i32 0) := hR.cell 2
  have hf : w3.frozen? ⟨B, 2, none⟩ = false := hR.frozen 2
  have hR2 : Rs w (w3.setCell ⟨B, 2, none⟩ (.int .i32 (0))) S B 112 #[.int .i64 (0), .int .i32 (49), .int .i32 (0), .int .i8 0, .int .i32 0, .int .i16 0, .int .i32 0, .int .i64 0, .int .i64 0, .int .i64 0, .int .i16 0, .int .i32 0, .int .i32 0, .slice none 0 0] (some (zz 45)) := hR.store hSB hBl 2 (.int .i32 (0))
  have HR := Lib.hid hR2
  clear hR hR2 g hr
  go_wp2_with fail
  refine (rI8 (st := some (zz 45)) (x := 0) (st' := some (zz 44)) HR.out.rd (by kernel_rfl)).mono ?_
  rintro e w4 ⟨rfl, hr, g⟩
  have hR := HR.out.read hBl g hr
  have hc : w4.cell? ⟨B, 3, none⟩ = some (.int .i8 0) := hR.cell 3
  have hf : w4.frozen? ⟨B, 3, none⟩ = false := hR.frozen 3
  have hR2 : Rs w (w4.setCell ⟨B, 3, none⟩ (.int .i8 (0))) S B 112 #[.int .i64 (0), .int .i32 (49), .int .i32 (0), .int .i8 (0), .int .i32 0, .int .i16 0, .int .i32 0, .int .i64 0, .int .i64 0, .int .i64 0, .int .i16 0, .int .i32 0, .int .i32 0, .slice none 0 0] (some (zz 44)) := hR.store hSB hBl 3 (.int .i8 (0))
  have HR := Lib.hid hR2
  clear hR hR2 g hr
  go_wp2_with fail
  refine (rI32 (st := some (zz 44)) (x := 0) (st' := some (zz 40)) HR.out.rd (by kernel_rfl)).mono ?_
  rintro e w5 ⟨rfl, hr, g⟩
  have hR := HR.out.read hBl g hr
  have hc : w5.cell? ⟨B, 4, none⟩ = some (.int .i32 0) := hR.cell 4
  have hf : w5.frozen? ⟨B, 4, none⟩ = false := hR.frozen 4
  have hR2 : Rs w (w5.setCell ⟨B, 4, none⟩ (.int .i32 (0))) S B 112 #[.int .i64 (0), .int .i32 (49), .int .i32 (0), .int .i8 (0), .int .i32 (0), .int .i16 0, .int .i32 0, .int .i64 0, .int .i64 0, .int .i64 0, .int .i16 0, .int .i32 0, .int .i32 0, .slice none 0 0] (some (zz 40)) := hR.store hSB hBl 4 (.int .i32 (0))
  have HR := Lib.hid hR2
  clear hR hR2 g hr
  go_wp2_with fail
  refine (rI16 (st := some (zz 40)) (x := 0) (st' := some (zz 38)) HR.out.rd (by kernel_rfl)).mono ?_
  rintro e w6 ⟨rfl, hr, g⟩
  have hR := HR.out.read hBl g hr
  have hc : w6.cell? ⟨B, 5, none⟩ = some (.int .i16 0) := hR.cell 5
  have hf : w6.frozen? ⟨B, 5, none⟩ = false := hR.frozen 5
  have hR2 : Rs w (w6.setCell ⟨B, 5, none⟩ (.int .i16 (0))) S B 112 #[.int .i64 (0), .int .i32 (49), .int .i32 (0), .int .i8 (0), .int .i32 (0), .int .i16 (0), .int .i32 0, .int .i64 0, .int .i64 0, .int .i64 0, .int .i16 0, .int .i32 0, .int .i32 0, .slice none 0 0] (some (zz 38)) := hR.store hSB hBl 5 (.int .i16 (0))
  have HR := Lib.hid hR2
  clear hR hR2 g hr
  go_wp2_with fail
  refine (rI32 (st := some (zz 38)) (x := 0) (st' := some (zz 34)) HR.out.rd (by kernel_rfl)).mono ?_
  rintro e w7 ⟨rfl, hr, g⟩
  have hR := HR.out.read hBl g hr
  have hc : w7.cell? ⟨B, 6, none⟩ = some (.int .i32 0) := hR.cell 6
  have hf : w7.frozen? ⟨B, 6, none⟩ = false := hR.frozen 6
  have hR2 : Rs w (w7.setCell ⟨B, 6, none⟩ (.int .i32 (0))) S B 112 #[.int .i64 (0), .int .i32 (49), .int .i32 (0), .int .i8 (0), .int .i32 (0), .int .i16 (0), .int .i32 (0), .int .i64 0, .int .i64 0, .int .i64 0, .int .i16 0, .int .i32 0, .int .i32 0, .slice none 0 0] (some (zz 34)) := hR.store hSB hBl 6 (.int .i32 (0))
  have HR := Lib.hid hR2
  clear hR hR2 g hr
  go_wp2_with fail
  refine (rI64 (st := some (zz 34)) (x := 0) (st' := some (zz 26)) HR.out.rd (by kernel_rfl)).mono ?_
  rintro e w8 ⟨rfl, hr, g⟩
  have hR := HR.out.read hBl g hr
  have hc : w8.cell? ⟨B, 7, none⟩ = some (.int .i64 0) := hR.cell 7
  have hf : w8.frozen? ⟨B, 7, none⟩ = false := hR.frozen 7
  have hR2 : Rs w (w8.setCell ⟨B, 7, none⟩ (.int .i64 (0))) S B 112 #[.int .i64 (0), .int .i32 (49), .int .i32 (0), .int .i8 (0), .int .i32 (0), .int .i16 (0), .int .i32 (0), .int .i64 (0), .int .i64 0, .int .i64 0, .int .i16 0, .int .i32 0, .int .i32 0, .slice none 0 0] (some (zz 26)) := hR.store hSB hBl 7 (.int .i64 (0))
  have HR := Lib.hid hR2
  clear hR hR2 g hr
  go_wp2_with fail
  refine (rI64 (st := some (zz 26)) (x := 0) (st' := some (zz 18)) HR.out.rd (by kernel_rfl)).mono ?_
  rintro e w9 ⟨rfl, hr, g⟩
  have hR := HR.out.read hBl g hr
  have hc : w9.cell? ⟨B, 8, none⟩ = some (.int .i64 0) := hR.cell 8
  have hf : w9.frozen? ⟨B, 8, none⟩ = false := hR.frozen 8
  have hR2 : Rs w (w9.setCell ⟨B, 8, none⟩ (.int .i64 (0))) S B 112 #[.int .i64 (0), .int .i32 (49), .int .i32 (0), .int .i8 (0), .int .i32 (0), .int .i16 (0), .int .i32 (0), .int .i64 (0), .int .i64 (0), .int .i64 0, .int .i16 0, .int .i32 0, .int .i32 0, .slice none 0 0] (some (zz 18)) := hR.store hSB hBl 8 (.int .i64 (0))
  have HR := Lib.hid hR2
  clear hR hR2 g hr
  go_wp2_with fail
  refine (rI64 (st := some (zz 18)) (x := 0) (st' := some (zz 10)) HR.out.rd (by kernel_rfl)).mono ?_
  rintro e w10 ⟨rfl, hr, g⟩
  have hR := HR.out.read hBl g hr
  have hc : w10.cell? ⟨B, 9, none⟩ = some (.int .i64 0) := hR.cell 9
  have hf : w10.frozen? ⟨B, 9, none⟩ = false := hR.frozen 9
  have hR2 : Rs w (w10.setCell ⟨B, 9, none⟩ (.int .i64 (0))) S B 112 #[.int .i64 (0), .int .i32 (49), .int .i32 (0), .int .i8 (0), .int .i32 (0), .int .i16 (0), .int .i32 (0), .int .i64 (0), .int .i64 (0), .int .i64 (0), .int .i16 0, .int .i32 0, .int .i32 0, .slice none 0 0] (some (zz 10)) := hR.store hSB hBl 9 (.int .i64 (0))
  have HR := Lib.hid hR2
  clear hR hR2 g hr
  go_wp2_with fail
  refine (rI16 (st := some (zz 10)) (x := 0) (st' := some (zz 8)) HR.out.rd (by kernel_rfl)).mono ?_
  rintro e w11 ⟨rfl, hr, g⟩
  have hR := HR.out.read hBl g hr
  have hc : w11.cell? ⟨B, 10, none⟩ = some (.int .i16 0) := hR.cell 10
  have hf : w11.frozen? ⟨B, 10, none⟩ = false := hR.frozen 10
  have hR2 : Rs w (w11.setCell ⟨B, 10, none⟩ (.int .i16 (0))) S B 112 #[.int .i64 (0), .int .i32 (49), .int .i32 (0), .int .i8 (0), .int .i32 (0), .int .i16 (0), .int .i32 (0), .int .i64 (0), .int .i64 (0), .int .i64 (0), .int .i16 (0), .int .i32 0, .int .i32 0, .slice none 0 0] (some (zz 8)) := hR.store hSB hBl 10 (.int .i16 (0))
  have HR := Lib.hid hR2
  clear hR hR2 g hr
  go_wp2_with fail
  refine (rI32 (st := some (zz 8)) (x := 0) (st' := some (zz 4)) HR.out.rd (by kernel_rfl)).mono ?_
  rintro e w12 ⟨rfl, hr, g⟩
  have hR := HR.out.read hBl g hr
  have hc : w12.cell? ⟨B, 11, none⟩ = some (.int .i32 0) := hR.cell 11
  have hf : w12.frozen? ⟨B, 11, none⟩ = false := hR.frozen 11
  have hR2 : Rs w (w12.setCell ⟨B, 11, none⟩ (.int .i32 (0))) S B 112 #[.int .i64 (0), .int .i32 (49), .int .i32 (0), .int .i8 (0), .int .i32 (0), .int .i16 (0), .int .i32 (0), .int .i64 (0), .int .i64 (0), .int .i64 (0), .int .i16 (0), .int .i32 (0), .int .i32 0, .slice none 0 0] (some (zz 4)) := hR.store hSB hBl 11 (.int .i32 (0))
  have HR := Lib.hid hR2
  clear hR hR2 g hr
  go_wp2_with fail
  refine (rI32 (st := some (zz 4)) (x := 0) (st' := some (zz 0)) HR.out.rd (by kernel_rfl)).mono ?_
  rintro e w13 ⟨rfl, hr, g⟩
  have hR := HR.out.read hBl g hr
  have hc : w13.cell? ⟨B, 12, none⟩ = some (.int .i32 0) := hR.cell 12
  have hf : w13.frozen? ⟨B, 12, none⟩ = false := hR.frozen 12
  have hR2 : Rs w (w13.setCell ⟨B, 12, none⟩ (.int .i32 (0))) S B 112 #[.int .i64 (0), .int .i32 (49), .int .i32 (0), .int .i8 (0), .int .i32 (0), .int .i16 (0), .int .i32 (0), .int .i64 (0), .int .i64 (0), .int .i64 (0), .int .i16 (0), .int .i32 (0), .int .i32 (0), .slice none 0 0] (some (zz 0)) := hR.store hSB hBl 12 (.int .i32 (0))
  have HR := Lib.hid hR2
  have hlen : (w13.setCell ⟨B, 12, none⟩ (.int .i32 (0))).cell? ⟨B, 1, none⟩ = some (.int .i32 49) := hR2.cell 1
  clear hR hR2 g hr
  go_wp2_with fail
  refine (rSpan (st := some (zz 0)) (n := 0) (l := []) (st' := some (zz 0)) HR.out.rd rfl (by decide) (by decide)).mono ?_
  rintro e w14 ⟨v13, rfl, hv, hr, g⟩
  obtain ⟨a13, c13, rfl⟩ := bytes_len hv
  have HV13 := Lib.hid hv
  have hR := HR.out.read hBl g hr
  have hc : w14.cell? ⟨B, 13, none⟩ = some (.slice none 0 0) := hR.cell 13
  have hf : w14.frozen? ⟨B, 13, none⟩ = false := hR.frozen 13
  have hR2 : Rs w (w14.setCell ⟨B, 13, none⟩ (.slice a13 0 c13)) S B 112 #[.int .i64 (0), .int .i32 (49), .int .i32 (0), .int .i8 (0), .int .i32 (0), .int .i16 (0), .int .i32 (0), .int .i64 (0), .int .i64 (0), .int .i64 (0), .int .i16 (0), .int .i32 (0), .int .i32 (0), .slice a13 0 c13] (some (zz 0)) := hR.store hSB hBl 13 (.slice a13 0 c13)
  have HR := Lib.hid hR2
  clear hR hR2 g hr hv
  have hE := HE.out.kept HR.out.grown (fun e => hBe (Option.some.inj e))
  go_wp2_with fail
  refine (Complete_any _ S w.heap.size _ HR.out.rd hE).mono ?_
  rintro e w99 ⟨u, rfl, hu, hw99⟩
  subst hw99
  have hu : u = .nilIface := hu
  subst hu
  clear hE
  go_wp2
  go_ret
  exact ⟨_, rfl, HR.out.grown, HR.out.row, nil_s HV13.out HSS.out HR.out.grown⟩
theorem batchReadFrom (w : World) (S : Nat → Prop) (B : Nat) (p : Option Addr) (c : Nat) (hB : w.heap[B]? = some (.cells #[.int .i64 0, .int .i32 0, .int .i32 0, .int .i8 0, .int .i32 0, .int .i16 0, .int .i32 0, .int .i64 0, .int .i64 0, .int .i64 0, .int .i16 0, .int .i32 0, .int .i32 0, .slice none 0 0] 112 (0, 0))) (h : BytesAt w S (.slice p 61 c) ([0, 0, 0, 0, 0, 0, 0, 0, 0, 0, 0, 49, 0, 0, 0, 0, 0, 0, 0, 0, 0, 0, 0, 0, 0, 0, 0, 0, 0, 0, 0, 0, 0, 0, 0, 0, 0, 0, 0, 0, 0, 0, 0, 0, 0, 0, 0, 0, 0, 0, 0, 0, 0, 0, 0, 0, 0, 0, 0, 0, 0])) (hSB : ¬ S B) (hS : ∀ g, S g → g < w.heap.size) (he : ErrOk w) (hBe : B ≠ 0) :
    Calls Tryd.prog 53 #[.pointer (some ⟨B, 0, none⟩), .slice p 61 c] w fun e w' => ∃ v13 : Value, e = .returned .nilIface ∧ w.grownBy w' (some B) ∧ w'.heap[B]? = some (.cells #[.int .i64 (0), .int .i32 (49), .int .i32 (0), .int .i8 (0), .int .i32 (0), .int .i16 (0), .int .i32 (0), .int .i64 (0), .int .i64 (0), .int .i64 (0), .int .i16 (0), .int .i32 (0), .int .i32 (0), v13] 112 (0, 0)) ∧ BytesAt w' S v13 [] := by
  have HH := Lib.hid (batchreadFrom w S B p c hB h hSB hS he hBe)
  clear hB h he
  go_enter Tryd.func53, Tryd.ntmps53
  go_wp2_with fail
  refine HH.out.mono ?_
  rintro e w1 ⟨v13, rfl, hr⟩
  have HR := Lib.hid hr
  clear hr
  go_wp2
  go_ret
  exact ⟨_, rfl, HR.out⟩
end Go.Proofs.YthdfhnnoamlacaaDoor.Rec

namespace Go.Proofs.YthdfhnnoamlacaaDoor.Rec
open Go.Proofs.YthdfhnnoamlacaaDoor
open Go.RowKit (Below wrap64 wrap32)
open Kz

theorem set_keep {w : World} {b b' o : Nat} {x : Value} (hne : b' ≠ b) {cs : Array Value} (h : ∀ j, w.cell? ⟨b', j, none⟩ = cs[j]?) (j : Nat) : (w.setCell ⟨b, o, none⟩ x).cell? ⟨b', j, none⟩ = cs[j]? := by
  rw [World.cell?_setCell_other (h := fun e => hne (congrArg Addr.block e).symm)]
  exact h j
/-- Octets of which there are none: a slice's form. -/
theorem nil_grow {w W : World} {S : Nat → Prop} {v : Value} (h : BytesAt w S v []) (hs : w.heap.size ≤ W.heap.size) : BytesAt W S v [] := by
  rcases h with h | ⟨g, o, c, h1, h2, h3, h4, h5, -⟩
  · exact .inl h
  · exact .inr ⟨g, o, c, h1, h2, h3, h4, Nat.lt_of_lt_of_le h5 hs, fun i b hb => by simp at hb⟩
theorem octs_nil (w : World) (S : Nat → Prop) (v : Value) (h : BytesAt w S v []) : Calls Tryd.prog 15 #[v] w fun e w' => ∃ b a c, e = .returned (.agg #[.bool b, .slice a 0 c]) ∧ Below w.heap.size w w' := by
  rcases h with ⟨rfl, -⟩ | ⟨g, o, c, h1, h2, h3, h4, h5, h6⟩
  · refine (octs_any w S _ none rfl (by decide)).mono ?_
    rintro e w' ⟨u, rfl, hu, hb⟩
    obtain ⟨a, c, rfl⟩ := bytes_len hu
    exact ⟨_, a, c, rfl, hb⟩
  · refine (octs_any w S v (some []) ⟨.inr ⟨g, o, c, h1, h2, h3, h4, h5, h6⟩, fun _ => ⟨_, _, _, h1⟩⟩ (by decide)).mono ?_
    rintro e w' ⟨u, rfl, hu, hb⟩
    obtain ⟨a, c, rfl⟩ := bytes_len hu
    exact ⟨_, a, c, rfl, hb⟩
theorem own_nil (w : World) (S : Nat → Prop) (v : Value) (h : BytesAt w S v []) : Calls Tryd.prog 14 #[v] w fun e w' => ∃ a c, e = .returned (.slice a 0 c) ∧ Below w.heap.size w w' := by
  refine (own_any w S v [] h (by decide)).mono ?_
  rintro e w' ⟨u, rfl, hu, hb⟩
  obtain ⟨a, c, rfl⟩ := bytes_len (own_bytes hu)
  exact ⟨a, c, rfl, hb⟩
set_option maxRecDepth 8000 in
set_option maxHeartbeats 4000000 in
theorem tellv0 (w : World) (S : Nat → Prop) (p : Option Addr) (c : Nat) (h : BytesAt w S (.slice p 26 c) (zz 26)) (he : ErrOk w) :
    Calls Tryd.prog 28 #[.slice p 26 c] w fun e w' => ∃ (b5 : Bool) (e5 : Option Addr) (k5 : Nat) (b6 : Bool) (e6 : Option Addr) (k6 : Nat), e = .returned (.tuple #[.agg #[.int .i64 (0), .int .i32 (0), .int .i32 (0), .int .i8 (0), .int .i8 (0), .int .i64 0, .bool b5, .slice e5 0 k5, .bool b6, .slice e6 0 k6], .bool true]) ∧ Below w.heap.size w w' := by
  have HB := Lib.hid h
  have HE := Lib.hid he
  clear h he
  go_enter Tryd.func28, Tryd.ntmps28
  go_wp2_with fail
  refine (own_any _ S _ (zz 26) (HB.out.kept (grownBy_trans (grown_alloc _ _ none) (grown_alloc _ _ none)) (by simp)) (by decide)).mono ?_
  rintro e w1 ⟨v1, rfl, ho, hb1⟩
  rw [size_alloc, size_alloc] at ho
  obtain ⟨g1, r0, r1⟩ : w.grownBy w1 none ∧ w1.heap[w.heap.size]? = some (.cells #[.int .i64 0, .int .i32 0, .int .i32 0, .int .i8 0, .int .i8 0, .int .i64 0, .bool false, .slice none 0 0, .bool false, .slice none 0 0] 75 (0, 0)) ∧ w1.heap[w.heap.size + 1]? = some (.cells #[.int .i64 0, .int .i32 0, .int .i32 0, .int .i8 0, .int .i8 0, .slice none 0 0, .slice none 0 0] 105 (0, 0)) := by
    refine ⟨grownBy_trans (grownBy_trans (grown_alloc _ _ none) (grown_alloc _ _ none)) (below_grown hb1 none), ?_, ?_⟩
    · rw [hb1.block w.heap.size (by rw [size_alloc, size_alloc]; omega), (grown_alloc _ _ none).block w.heap.size (by rw [size_alloc]; omega) (by simp)]
      show (w.heap.push _)[w.heap.size]? = _
      exact Array.getElem?_push_size
    · rw [hb1.block (w.heap.size + 1) (by rw [size_alloc, size_alloc]; omega)]
      have := Array.getElem?_push_size (xs := (w.alloc (.cells #[.int .i64 0, .int .i32 0, .int .i32 0, .int .i8 0, .int .i8 0, .int .i64 0, .bool false, .slice none 0 0, .bool false, .slice none 0 0] 75)).heap) (x := Obj.cells #[.int .i64 0, .int .i32 0, .int .i32 0, .int .i8 0, .int .i8 0, .slice none 0 0, .slice none 0 0] 105 (0, 0))
      rw [size_alloc] at this
      exact this
  obtain ⟨ad1, c1, rfl⟩ := bytes_len (own_bytes ho)
  have hS2 : ∀ g, (Value.slice ad1 (zz 26).length c1).ownBlock = some g → w.heap.size + 2 ≤ g ∧ g < w1.heap.size := fun g hg => World.ownsRow.lt ho g hg
  have HR := Lib.hid (v0ReadFrom w1 _ (w.heap.size + 1) ad1 c1 r1 (own_bytes ho) (fun h => by have := hS2 _ h; omega) (fun g hg => (hS2 g hg).2) (HE.out.kept g1 (by simp)) (by omega))
  have HG1 := Lib.hid g1
  have HR0 := Lib.hid r0
  clear ho hb1 g1 r0 r1 HB hS2
  go_wp2_with fail
  refine HR.out.mono ?_
  rintro e w2 ⟨v5, v6, rfl, g2, hB2, hv5, hv6⟩
  obtain ⟨a5, c5, rfl⟩ := bytes_len hv5
  have HV5 := Lib.hid hv5
  obtain ⟨a6, c6, rfl⟩ := bytes_len hv6
  have HV6 := Lib.hid hv6
  have s1 : w.heap.size ≤ w1.heap.size := HG1.out.size
  have r0 : w2.heap[w.heap.size]? = some (.cells #[.int .i64 0, .int .i32 0, .int .i32 0, .int .i8 0, .int .i8 0, .int .i64 0, .bool false, .slice none 0 0, .bool false, .slice none 0 0] 75 (0, 0)) := by
    rw [g2.block w.heap.size ((Array.getElem?_eq_some_iff.1 HR0.out).1) (by simp)]
    exact HR0.out
  have HG2 := Lib.hid (grown_sub HG1.out g2 (by omega))
  have n10 : w2.cell? ⟨w.heap.size, 0, none⟩ = some (.int .i64 0) := by rw [cell_of_row w2 _ _ _ _ _ r0]; rfl
  have n11 : w2.cell? ⟨w.heap.size, 1, none⟩ = some (.int .i32 0) := by rw [cell_of_row w2 _ _ _ _ _ r0]; rfl
  have n12 : w2.cell? ⟨w.heap.size, 2, none⟩ = some (.int .i32 0) := by rw [cell_of_row w2 _ _ _ _ _ r0]; rfl
  have n13 : w2.cell? ⟨w.heap.size, 3, none⟩ = some (.int .i8 0) := by rw [cell_of_row w2 _ _ _ _ _ r0]; rfl
  have n14 : w2.cell? ⟨w.heap.size, 4, none⟩ = some (.int .i8 0) := by rw [cell_of_row w2 _ _ _ _ _ r0]; rfl
  have n15 : w2.cell? ⟨w.heap.size, 5, none⟩ = some (.int .i64 0) := by rw [cell_of_row w2 _ _ _ _ _ r0]; rfl
  have n16 : w2.cell? ⟨w.heap.size, 6, none⟩ = some (.bool false) := by rw [cell_of_row w2 _ _ _ _ _ r0]; rfl
  have n17 : w2.cell? ⟨w.heap.size, 7, none⟩ = some (.slice none 0 0) := by rw [cell_of_row w2 _ _ _ _ _ r0]; rfl
  have n18 : w2.cell? ⟨w.heap.size, 8, none⟩ = some (.bool false) := by rw [cell_of_row w2 _ _ _ _ _ r0]; rfl
  have n19 : w2.cell? ⟨w.heap.size, 9, none⟩ = some (.slice none 0 0) := by rw [cell_of_row w2 _ _ _ _ _ r0]; rfl
  have f1 : ∀ i, w2.frozen? ⟨w.heap.size, i, none⟩ = false := fun i => by simp [World.frozen?, r0]
  have f10 := f1 0
  have f11 := f1 1
  have f12 := f1 2
  have f13 := f1 3
  have f14 := f1 4
  have f15 := f1 5
  have f16 := f1 6
  have f17 := f1 7
  have f18 := f1 8
  have f19 := f1 9
  have y1 : ∀ j, w2.cell? ⟨w.heap.size + 1, j, none⟩ = (#[.int .i64 (0), .int .i32 (0), .int .i32 (0), .int .i8 (0), .int .i8 (0), .slice a5 0 c5, .slice a6 0 c6] : Array Value)[j]? := fun j => by rw [cell_of_row w2 _ _ _ _ _ hB2]; rfl
  have y0 : ∀ j, w2.drew.cell? ⟨w.heap.size + 1, j, none⟩ = (#[.int .i64 (0), .int .i32 (0), .int .i32 (0), .int .i8 (0), .int .i8 (0), .slice a5 0 c5, .slice a6 0 c6] : Array Value)[j]? := y1
  have s2 := HG2.out.size
  have h12 : w.heap.size + 1 < w2.heap.size := (Array.getElem?_eq_some_iff.1 hB2).1
  have h10 : w.heap.size < w2.heap.size := by omega
  have hne : w.heap.size + 1 ≠ w.heap.size := by omega
  have hq : BytesAt w2.drew _ (.slice a5 0 c5) [] := HV5.out
  have HQ5 := Lib.hid hq
  clear r0 f1 g2 hB2 hv5 hv6 HR HR0 hq
  go_wp2
  go_region_held3 (fun w' => ∀ j, w'.cell? ⟨w.heap.size + 1, j, none⟩ = (#[.int .i64 (0), .int .i32 (0), .int .i32 (0), .int .i8 (0), .int .i8 (0), .slice a5 0 c5, .slice a6 0 c6] : Array Value)[j]?) (first | with_reducible assumption | ((repeat (with_reducible refine set_keep hne ?_)); with_reducible assumption)) (first
      | (go_at_call 15; (with_reducible refine (octs_nil w2.drew _ (.slice a5 0 c5) HQ5.out).mono ?_); rintro e w3 ⟨b5, e5, k5, rfl, hb3'⟩;
         have hb3 : Below w2.heap.size w2 w3 := below_undrew hb3';
         have t3 := hb3.size;
         have y3 := fun j => ((bcell hb3).1 (w.heap.size + 1) j h12).trans (y1 j);
         have HB3 := Lib.hid hb3; clear hb3' hb3)
      | (go_at_call 15; (with_reducible refine (octs_nil w3 _ (.slice a6 0 c6) (nil_grow HV6.out t3)).mono ?_); rintro e w4 ⟨b6, e6, k6, rfl, hb4'⟩;
         have hb4 : Below w2.heap.size w2 w4 := HB3.out.trans (hb4'.lower (m := w2.heap.size) t3);
         have t4 := hb4.size;
         have y4 := fun j => ((bcell hb4).1 (w.heap.size + 1) j h12).trans (y1 j);
         have m10 := ((bcell hb4).1 w.heap.size 0 h10).trans n10; have q10 := ((bcell hb4).2 w.heap.size 0 h10).trans f10;
         have m11 := ((bcell hb4).1 w.heap.size 1 h10).trans n11; have q11 := ((bcell hb4).2 w.heap.size 1 h10).trans f11;
         have m12 := ((bcell hb4).1 w.heap.size 2 h10).trans n12; have q12 := ((bcell hb4).2 w.heap.size 2 h10).trans f12;
         have m13 := ((bcell hb4).1 w.heap.size 3 h10).trans n13; have q13 := ((bcell hb4).2 w.heap.size 3 h10).trans f13;
         have m14 := ((bcell hb4).1 w.heap.size 4 h10).trans n14; have q14 := ((bcell hb4).2 w.heap.size 4 h10).trans f14;
         have m15 := ((bcell hb4).1 w.heap.size 5 h10).trans n15; have q15 := ((bcell hb4).2 w.heap.size 5 h10).trans f15;
         have m16 := ((bcell hb4).1 w.heap.size 6 h10).trans n16; have q16 := ((bcell hb4).2 w.heap.size 6 h10).trans f16;
         have m17 := ((bcell hb4).1 w.heap.size 7 h10).trans n17; have q17 := ((bcell hb4).2 w.heap.size 7 h10).trans f17;
         have m18 := ((bcell hb4).1 w.heap.size 8 h10).trans n18; have q18 := ((bcell hb4).2 w.heap.size 8 h10).trans f18;
         have m19 := ((bcell hb4).1 w.heap.size 9 h10).trans n19; have q19 := ((bcell hb4).2 w.heap.size 9 h10).trans f19;
         have HB4 := Lib.hid hb4; clear hb4' hb4))
  go_wp2
  refine bodyPost_ret (v := .tuple #[.agg #[.int .i64 (0), .int .i32 (0), .int .i32 (0), .int .i8 (0), .int .i8 (0), .int .i64 0, .bool b5, .slice e5 0 k5, .bool b6, .slice e6 0 k6], .bool true]) (by simp [results, Tryd.results28, go_sem, m10, m11, m12, m13, m14, m15, m16, m17, m18, m19]) rfl ?_
  refine ⟨_, _, _, _, _, _, rfl, grown_below ?_⟩
  repeat refine grown_new ?_ _ _ _ (Nat.le_refl _)
  exact grownBy_trans HG2.out (below_grown HB4.out none)
set_option maxRecDepth 8000 in
set_option maxHeartbeats 4000000 in
theorem tellv1 (w : World) (S : Nat → Prop) (p : Option Addr) (c : Nat) (h : BytesAt w S (.slice p 34 c) (zz 34)) (he : ErrOk w) :
    Calls Tryd.prog 30 #[.slice p 34 c] w fun e w' => ∃ (b6 : Bool) (e6 : Option Addr) (k6 : Nat) (b7 : Bool) (e7 : Option Addr) (k7 : Nat), e = .returned (.tuple #[.agg #[.int .i64 (0), .int .i32 (0), .int .i32 (0), .int .i8 (0), .int .i8 (0), .int .i64 (0), .bool b6, .slice e6 0 k6, .bool b7, .slice e7 0 k7], .bool true]) ∧ Below w.heap.size w w' := by
  have HB := Lib.hid h
  have HE := Lib.hid he
  clear h he
  go_enter Tryd.func30, Tryd.ntmps30
  go_wp2_with fail
  refine (own_any _ S _ (zz 34) (HB.out.kept (grownBy_trans (grown_alloc _ _ none) (grown_alloc _ _ none)) (by simp)) (by decide)).mono ?_
  rintro e w1 ⟨v1, rfl, ho, hb1⟩
  rw [size_alloc, size_alloc] at ho
  obtain ⟨g1, r0, r1⟩ : w.grownBy w1 none ∧ w1.heap[w.heap.size]? = some (.cells #[.int .i64 0, .int .i32 0, .int .i32 0, .int .i8 0, .int .i8 0, .int .i64 0, .bool false, .slice none 0 0, .bool false, .slice none 0 0] 75 (0, 0)) ∧ w1.heap[w.heap.size + 1]? = some (.cells #[.int .i64 0, .int .i32 0, .int .i32 0, .int .i8 0, .int .i8 0, .int .i64 0, .slice none 0 0, .slice none 0 0] 107 (0, 0)) := by
    refine ⟨grownBy_trans (grownBy_trans (grown_alloc _ _ none) (grown_alloc _ _ none)) (below_grown hb1 none), ?_, ?_⟩
    · rw [hb1.block w.heap.size (by rw [size_alloc, size_alloc]; omega), (grown_alloc _ _ none).block w.heap.size (by rw [size_alloc]; omega) (by simp)]
      show (w.heap.push _)[w.heap.size]? = _
      exact Array.getElem?_push_size
    · rw [hb1.block (w.heap.size + 1) (by rw [size_alloc, size_alloc]; omega)]
      have := Array.getElem?_push_size (xs := (w.alloc (.cells #[.int .i64 0, .int .i32 0, .int .i32 0, .int .i8 0, .int .i8 0, .int .i64 0, .bool false, .slice none 0 0, .bool false, .slice none 0 0] 75)).heap) (x := Obj.cells #[.int .i64 0, .int .i32 0, .int .i32 0, .int .i8 0, .int .i8 0, .int .i64 0, .slice none 0 0, .slice none 0 0] 107 (0, 0))
      rw [size_alloc] at this
      exact this
  obtain ⟨ad1, c1, rfl⟩ := bytes_len (own_bytes ho)
  have hS2 : ∀ g, (Value.slice ad1 (zz 34).length c1).ownBlock = some g → w.heap.size + 2 ≤ g ∧ g < w1.heap.size := fun g hg => World.ownsRow.lt ho g hg
  have HR := Lib.hid (v1ReadFrom w1 _ (w.heap.size + 1) ad1 c1 r1 (own_bytes ho) (fun h => by have := hS2 _ h; omega) (fun g hg => (hS2 g hg).2) (HE.out.kept g1 (by simp)) (by omega))
  have HG1 := Lib.hid g1
  have HR0 := Lib.hid r0
  clear ho hb1 g1 r0 r1 HB hS2
  go_wp2_with fail
  refine HR.out.mono ?_
  rintro e w2 ⟨v6, v7, rfl, g2, hB2, hv6, hv7⟩
  obtain ⟨a6, c6, rfl⟩ := bytes_len hv6
  have HV6 := Lib.hid hv6
  obtain ⟨a7, c7, rfl⟩ := bytes_len hv7
  have HV7 := Lib.hid hv7
  have s1 : w.heap.size ≤ w1.heap.size := HG1.out.size
  have r0 : w2.heap[w.heap.size]? = some (.cells #[.int .i64 0, .int .i32 0, .int .i32 0, .int .i8 0, .int .i8 0, .int .i64 0, .bool false, .slice none 0 0, .bool false, .slice none 0 0] 75 (0, 0)) := by
    rw [g2.block w.heap.size ((Array.getElem?_eq_some_iff.1 HR0.out).1) (by simp)]
    exact HR0.out
  have HG2 := Lib.hid (grown_sub HG1.out g2 (by omega))
  have n10 : w2.cell? ⟨w.heap.size, 0, none⟩ = some (.int .i64 0) := by rw [cell_of_row w2 _ _ _ _ _ r0]; rfl
  have n11 : w2.cell? ⟨w.heap.size, 1, none⟩ = some (.int .i32 0) := by rw [cell_of_row w2 _ _ _ _ _ r0]; rfl
  have n12 : w2.cell? ⟨w.heap.size, 2, none⟩ = some (.int .i32 0) := by rw [cell_of_row w2 _ _ _ _ _ r0]; rfl
  have n13 : w2.cell? ⟨w.heap.size, 3, none⟩ = some (.int .i8 0) := by rw [cell_of_row w2 _ _ _ _ _ r0]; rfl
  have n14 : w2.cell? ⟨w.heap.size, 4, none⟩ = some (.int .i8 0) := by rw [cell_of_row w2 _ _ _ _ _ r0]; rfl
  have n15 : w2.cell? ⟨w.heap.size, 5, none⟩ = some (.int .i64 0) := by rw [cell_of_row w2 _ _ _ _ _ r0]; rfl
  have n16 : w2.cell? ⟨w.heap.size, 6, none⟩ = some (.bool false) := by rw [cell_of_row w2 _ _ _ _ _ r0]; rfl
  have n17 : w2.cell? ⟨w.heap.size, 7, none⟩ = some (.slice none 0 0) := by rw [cell_of_row w2 _ _ _ _ _ r0]; rfl
  have n18 : w2.cell? ⟨w.heap.size, 8, none⟩ = some (.bool false) := by rw [cell_of_row w2 _ _ _ _ _ r0]; rfl
  have n19 : w2.cell? ⟨w.heap.size, 9, none⟩ = some (.slice none 0 0) := by rw [cell_of_row w2 _ _ _ _ _ r0]; rfl
  have f1 : ∀ i, w2.frozen? ⟨w.heap.size, i, none⟩ = false := fun i => by simp [World.frozen?, r0]
  have f10 := f1 0
  have f11 := f1 1
  have f12 := f1 2
  have f13 := f1 3
  have f14 := f1 4
  have f15 := f1 5
  have f16 := f1 6
  have f17 := f1 7
  have f18 := f1 8
  have f19 := f1 9
  have y1 : ∀ j, w2.cell? ⟨w.heap.size + 1, j, none⟩ = (#[.int .i64 (0), .int .i32 (0), .int .i32 (0), .int .i8 (0), .int .i8 (0), .int .i64 (0), .slice a6 0 c6, .slice a7 0 c7] : Array Value)[j]? := fun j => by rw [cell_of_row w2 _ _ _ _ _ hB2]; rfl
  have y0 : ∀ j, w2.drew.cell? ⟨w.heap.size + 1, j, none⟩ = (#[.int .i64 (0), .int .i32 (0), .int .i32 (0), .int .i8 (0), .int .i8 (0), .int .i64 (0), .slice a6 0 c6, .slice a7 0 c7] : Array Value)[j]? := y1
  have s2 := HG2.out.size
  have h12 : w.heap.size + 1 < w2.heap.size := (Array.getElem?_eq_some_iff.1 hB2).1
  have h10 : w.heap.size < w2.heap.size := by omega
  have hne : w.heap.size + 1 ≠ w.heap.size := by omega
  have hq : BytesAt w2.drew _ (.slice a6 0 c6) [] := HV6.out
  have HQ6 := Lib.hid hq
  clear r0 f1 g2 hB2 hv6 hv7 HR HR0 hq
  go_wp2
  go_region_held3 (fun w' => ∀ j, w'.cell? ⟨w.heap.size + 1, j, none⟩ = (#[.int .i64 (0), .int .i32 (0), .int .i32 (0), .int .i8 (0), .int .i8 (0), .int .i64 (0), .slice a6 0 c6, .slice a7 0 c7] : Array Value)[j]?) (first | with_reducible assumption | ((repeat (with_reducible refine set_keep hne ?_)); with_reducible assumption)) (first
      | (go_at_call 15; (with_reducible refine (octs_nil w2.drew _ (.slice a6 0 c6) HQ6.out).mono ?_); rintro e w3 ⟨b6, e6, k6, rfl, hb3'⟩;
         have hb3 : Below w2.heap.size w2 w3 := below_undrew hb3';
         have t3 := hb3.size;
         have y3 := fun j => ((bcell hb3).1 (w.heap.size + 1) j h12).trans (y1 j);
         have HB3 := Lib.hid hb3; clear hb3' hb3)
      | (go_at_call 15; (with_reducible refine (octs_nil w3 _ (.slice a7 0 c7) (nil_grow HV7.out t3)).mono ?_); rintro e w4 ⟨b7, e7, k7, rfl, hb4'⟩;
         have hb4 : Below w2.heap.size w2 w4 := HB3.out.trans (hb4'.lower (m := w2.heap.size) t3);
         have t4 := hb4.size;
         have y4 := fun j => ((bcell hb4).1 (w.heap.size + 1) j h12).trans (y1 j);
         have m10 := ((bcell hb4).1 w.heap.size 0 h10).trans n10; have q10 := ((bcell hb4).2 w.heap.size 0 h10).trans f10;
         have m11 := ((bcell hb4).1 w.heap.size 1 h10).trans n11; have q11 := ((bcell hb4).2 w.heap.size 1 h10).trans f11;
         have m12 := ((bcell hb4).1 w.heap.size 2 h10).trans n12; have q12 := ((bcell hb4).2 w.heap.size 2 h10).trans f12;
         have m13 := ((bcell hb4).1 w.heap.size 3 h10).trans n13; have q13 := ((bcell hb4).2 w.heap.size 3 h10).trans f13;
         have m14 := ((bcell hb4).1 w.heap.size 4 h10).trans n14; have q14 := ((bcell hb4).2 w.heap.size 4 h10).trans f14;
         have m15 := ((bcell hb4).1 w.heap.size 5 h10).trans n15; have q15 := ((bcell hb4).2 w.heap.size 5 h10).trans f15;
         have m16 := ((bcell hb4).1 w.heap.size 6 h10).trans n16; have q16 := ((bcell hb4).2 w.heap.size 6 h10).trans f16;
         have m17 := ((bcell hb4).1 w.heap.size 7 h10).trans n17; have q17 := ((bcell hb4).2 w.heap.size 7 h10).trans f17;
         have m18 := ((bcell hb4).1 w.heap.size 8 h10).trans n18; have q18 := ((bcell hb4).2 w.heap.size 8 h10).trans f18;
         have m19 := ((bcell hb4).1 w.heap.size 9 h10).trans n19; have q19 := ((bcell hb4).2 w.heap.size 9 h10).trans f19;
         have HB4 := Lib.hid hb4; clear hb4' hb4))
  go_wp2
  refine bodyPost_ret (v := .tuple #[.agg #[.int .i64 (0), .int .i32 (0), .int .i32 (0), .int .i8 (0), .int .i8 (0), .int .i64 (0), .bool b6, .slice e6 0 k6, .bool b7, .slice e7 0 k7], .bool true]) (by simp [results, Tryd.results30, go_sem, m10, m11, m12, m13, m14, m15, m16, m17, m18, m19]) rfl ?_
  refine ⟨_, _, _, _, _, _, rfl, grown_below ?_⟩
  repeat refine grown_new ?_ _ _ _ (Nat.le_refl _)
  exact grownBy_trans HG2.out (below_grown HB4.out none)
set_option maxRecDepth 8000 in
set_option maxHeartbeats 4000000 in
theorem tellbatch (w : World) (S : Nat → Prop) (p : Option Addr) (c : Nat) (h : BytesAt w S (.slice p 61 c) ([0, 0, 0, 0, 0, 0, 0, 0, 0, 0, 0, 49, 0, 0, 0, 0, 0, 0, 0, 0, 0, 0, 0, 0, 0, 0, 0, 0, 0, 0, 0, 0, 0, 0, 0, 0, 0, 0, 0, 0, 0, 0, 0, 0, 0, 0, 0, 0, 0, 0, 0, 0, 0, 0, 0, 0, 0, 0, 0, 0, 0])) (he : ErrOk w) :
    Calls Tryd.prog 34 #[.slice p 61 c] w fun e w' => ∃ (e13 : Option Addr) (k13 : Nat), e = .returned (.tuple #[.agg #[.int .i64 (0), .int .i32 (49), .int .i32 (0), .int .i8 (0), .int .i32 (0), .int .i16 (0), .int .i32 (0), .int .i64 (0), .int .i64 (0), .int .i64 (0), .int .i16 (0), .int .i32 (0), .int .i32 (0), .slice e13 0 k13], .bool true]) ∧ Below w.heap.size w w' := by
  have HB := Lib.hid h
  have HE := Lib.hid he
  clear h he
  go_enter Tryd.func34, Tryd.ntmps34
  go_wp2_with fail
  refine (own_any _ S _ ([0, 0, 0, 0, 0, 0, 0, 0, 0, 0, 0, 49, 0, 0, 0, 0, 0, 0, 0, 0, 0, 0, 0, 0, 0, 0, 0, 0, 0, 0, 0, 0, 0, 0, 0, 0, 0, 0, 0, 0, 0, 0, 0, 0, 0, 0, 0, 0, 0, 0, 0, 0, 0, 0, 0, 0, 0, 0, 0, 0, 0]) (HB.out.kept (grownBy_trans (grown_alloc _ _ none) (grown_alloc _ _ none)) (by simp)) (by decide)).mono ?_
  rintro e w1 ⟨v1, rfl, ho, hb1⟩
  rw [size_alloc, size_alloc] at ho
  obtain ⟨g1, r0, r1⟩ : w.grownBy w1 none ∧ w1.heap[w.heap.size]? = some (.cells #[.int .i64 0, .int .i32 0, .int .i32 0, .int .i8 0, .int .i32 0, .int .i16 0, .int .i32 0, .int .i64 0, .int .i64 0, .int .i64 0, .int .i16 0, .int .i32 0, .int .i32 0, .slice none 0 0] 87 (0, 0)) ∧ w1.heap[w.heap.size + 1]? = some (.cells #[.int .i64 0, .int .i32 0, .int .i32 0, .int .i8 0, .int .i32 0, .int .i16 0, .int .i32 0, .int .i64 0, .int .i64 0, .int .i64 0, .int .i16 0, .int .i32 0, .int .i32 0, .slice none 0 0] 112 (0, 0)) := by
    refine ⟨grownBy_trans (grownBy_trans (grown_alloc _ _ none) (grown_alloc _ _ none)) (below_grown hb1 none), ?_, ?_⟩
    · rw [hb1.block w.heap.size (by rw [size_alloc, size_alloc]; omega), (grown_alloc _ _ none).block w.heap.size (by rw [size_alloc]; omega) (by simp)]
      show (w.heap.push _)[w.heap.size]? = _
      exact Array.getElem?_push_size
    · rw [hb1.block (w.heap.size + 1) (by rw [size_alloc, size_alloc]; omega)]
      have := Array.getElem?_push_size (xs := (w.alloc (.cells #[.int .i64 0, .int .i32 0, .int .i32 0, .int .i8 0, .int .i32 0, .int .i16 0, .int .i32 0, .int .i64 0, .int .i64 0, .int .i64 0, .int .i16 0, .int .i32 0, .int .i32 0, .slice none 0 0] 87)).heap) (x := Obj.cells #[.int .i64 0, .int .i32 0, .int .i32 0, .int .i8 0, .int .i32 0, .int .i16 0, .int .i32 0, .int .i64 0, .int .i64 0, .int .i64 0, .int .i16 0, .int .i32 0, .int .i32 0, .slice none 0 0] 112 (0, 0))
      rw [size_alloc] at this
      exact this
  obtain ⟨ad1, c1, rfl⟩ := bytes_len (own_bytes ho)
  have hS2 : ∀ g, (Value.slice ad1 ([0, 0, 0, 0, 0, 0, 0, 0, 0, 0, 0, 49, 0, 0, 0, 0, 0, 0, 0, 0, 0, 0, 0, 0, 0, 0, 0, 0, 0, 0, 0, 0, 0, 0, 0, 0, 0, 0, 0, 0, 0, 0, 0, 0, 0, 0, 0, 0, 0, 0, 0, 0, 0, 0, 0, 0, 0, 0, 0, 0, 0]).length c1).ownBlock = some g → w.heap.size + 2 ≤ g ∧ g < w1.heap.size := fun g hg => World.ownsRow.lt ho g hg
  have HR := Lib.hid (batchReadFrom w1 _ (w.heap.size + 1) ad1 c1 r1 (own_bytes ho) (fun h => by have := hS2 _ h; omega) (fun g hg => (hS2 g hg).2) (HE.out.kept g1 (by simp)) (by omega))
  have HG1 := Lib.hid g1
  have HR0 := Lib.hid r0
  clear ho hb1 g1 r0 r1 HB hS2
  go_wp2_with fail
  refine HR.out.mono ?_
  rintro e w2 ⟨v13, rfl, g2, hB2, hv13⟩
  obtain ⟨a13, c13, rfl⟩ := bytes_len hv13
  have HV13 := Lib.hid hv13
  have s1 : w.heap.size ≤ w1.heap.size := HG1.out.size
  have r0 : w2.heap[w.heap.size]? = some (.cells #[.int .i64 0, .int .i32 0, .int .i32 0, .int .i8 0, .int .i32 0, .int .i16 0, .int .i32 0, .int .i64 0, .int .i64 0, .int .i64 0, .int .i16 0, .int .i32 0, .int .i32 0, .slice none 0 0] 87 (0, 0)) := by
    rw [g2.block w.heap.size ((Array.getElem?_eq_some_iff.1 HR0.out).1) (by simp)]
    exact HR0.out
  have HG2 := Lib.hid (grown_sub HG1.out g2 (by omega))
  have n10 : w2.cell? ⟨w.heap.size, 0, none⟩ = some (.int .i64 0) := by rw [cell_of_row w2 _ _ _ _ _ r0]; rfl
  have n11 : w2.cell? ⟨w.heap.size, 1, none⟩ = some (.int .i32 0) := by rw [cell_of_row w2 _ _ _ _ _ r0]; rfl
  have n12 : w2.cell? ⟨w.heap.size, 2, none⟩ = some (.int .i32 0) := by rw [cell_of_row w2 _ _ _ _ _ r0]; rfl
  have n13 : w2.cell? ⟨w.heap.size, 3, none⟩ = some (.int .i8 0) := by rw [cell_of_row w2 _ _ _ _ _ r0]; rfl
  have n14 : w2.cell? ⟨w.heap.size, 4, none⟩ = some (.int .i32 0) := by rw [cell_of_row w2 _ _ _ _ _ r0]; rfl
  have n15 : w2.cell? ⟨w.heap.size, 5, none⟩ = some (.int .i16 0) := by rw [cell_of_row w2 _ _ _ _ _ r0]; rfl
  have n16 : w2.cell? ⟨w.heap.size, 6, none⟩ = some (.int .i32 0) := by rw [cell_of_row w2 _ _ _ _ _ r0]; rfl
  have n17 : w2.cell? ⟨w.heap.size, 7, none⟩ = some (.int .i64 0) := by rw [cell_of_row w2 _ _ _ _ _ r0]; rfl
  have n18 : w2.cell? ⟨w.heap.size, 8, none⟩ = some (.int .i64 0) := by rw [cell_of_row w2 _ _ _ _ _ r0]; rfl
  have n19 : w2.cell? ⟨w.heap.size, 9, none⟩ = some (.int .i64 0) := by rw [cell_of_row w2 _ _ _ _ _ r0]; rfl
  have n110 : w2.cell? ⟨w.heap.size, 10, none⟩ = some (.int .i16 0) := by rw [cell_of_row w2 _ _ _ _ _ r0]; rfl
  have n111 : w2.cell? ⟨w.heap.size, 11, none⟩ = some (.int .i32 0) := by rw [cell_of_row w2 _ _ _ _ _ r0]; rfl
  have n112 : w2.cell? ⟨w.heap.size, 12, none⟩ = some (.int .i32 0) := by rw [cell_of_row w2 _ _ _ _ _ r0]; rfl
  have n113 : w2.cell? ⟨w.heap.size, 13, none⟩ = some (.slice none 0 0) := by rw [cell_of_row w2 _ _ _ _ _ r0]; rfl
  have f1 : ∀ i, w2.frozen? ⟨w.heap.size, i, none⟩ = false := fun i => by simp [World.frozen?, r0]
  have f10 := f1 0
  have f11 := f1 1
  have f12 := f1 2
  have f13 := f1 3
  have f14 := f1 4
  have f15 := f1 5
  have f16 := f1 6
  have f17 := f1 7
  have f18 := f1 8
  have f19 := f1 9
  have f110 := f1 10
  have f111 := f1 11
  have f112 := f1 12
  have f113 := f1 13
  have y1 : ∀ j, w2.cell? ⟨w.heap.size + 1, j, none⟩ = (#[.int .i64 (0), .int .i32 (49), .int .i32 (0), .int .i8 (0), .int .i32 (0), .int .i16 (0), .int .i32 (0), .int .i64 (0), .int .i64 (0), .int .i64 (0), .int .i16 (0), .int .i32 (0), .int .i32 (0), .slice a13 0 c13] : Array Value)[j]? := fun j => by rw [cell_of_row w2 _ _ _ _ _ hB2]; rfl
  have y0 : ∀ j, w2.drew.cell? ⟨w.heap.size + 1, j, none⟩ = (#[.int .i64 (0), .int .i32 (49), .int .i32 (0), .int .i8 (0), .int .i32 (0), .int .i16 (0), .int .i32 (0), .int .i64 (0), .int .i64 (0), .int .i64 (0), .int .i16 (0), .int .i32 (0), .int .i32 (0), .slice a13 0 c13] : Array Value)[j]? := y1
  have s2 := HG2.out.size
  have h12 : w.heap.size + 1 < w2.heap.size := (Array.getElem?_eq_some_iff.1 hB2).1
  have h10 : w.heap.size < w2.heap.size := by omega
  have hne : w.heap.size + 1 ≠ w.heap.size := by omega
  have hq : BytesAt w2.drew _ (.slice a13 0 c13) [] := HV13.out
  have HQ13 := Lib.hid hq
  clear r0 f1 g2 hB2 hv13 HR HR0 hq
  go_wp2
  go_region_held3 (fun w' => ∀ j, w'.cell? ⟨w.heap.size + 1, j, none⟩ = (#[.int .i64 (0), .int .i32 (49), .int .i32 (0), .int .i8 (0), .int .i32 (0), .int .i16 (0), .int .i32 (0), .int .i64 (0), .int .i64 (0), .int .i64 (0), .int .i16 (0), .int .i32 (0), .int .i32 (0), .slice a13 0 c13] : Array Value)[j]?) (first | with_reducible assumption | ((repeat (with_reducible refine set_keep hne ?_)); with_reducible assumption)) (first
      | (go_at_call 14; (with_reducible refine (own_nil w2.drew _ (.slice a13 0 c13) HQ13.out).mono ?_); rintro e w3 ⟨e13, k13, rfl, hb3'⟩;
         have hb3 : Below w2.heap.size w2 w3 := below_undrew hb3';
         have t3 := hb3.size;
         have y3 := fun j => ((bcell hb3).1 (w.heap.size + 1) j h12).trans (y1 j);
         have m10 := ((bcell hb3).1 w.heap.size 0 h10).trans n10; have q10 := ((bcell hb3).2 w.heap.size 0 h10).trans f10;
         have m11 := ((bcell hb3).1 w.heap.size 1 h10).trans n11; have q11 := ((bcell hb3).2 w.heap.size 1 h10).trans f11;
         have m12 := ((bcell hb3).1 w.heap.size 2 h10).trans n12; have q12 := ((bcell hb3).2 w.heap.size 2 h10).trans f12;
         have m13 := ((bcell hb3).1 w.heap.size 3 h10).trans n13; have q13 := ((bcell hb3).2 w.heap.size 3 h10).trans f13;
         have m14 := ((bcell hb3).1 w.heap.size 4 h10).trans n14; have q14 := ((bcell hb3).2 w.heap.size 4 h10).trans f14;
         have m15 := ((bcell hb3).1 w.heap.size 5 h10).trans n15; have q15 := ((bcell hb3).2 w.heap.size 5 h10).trans f15;
         have m16 := ((bcell hb3).1 w.heap.size 6 h10).trans n16; have q16 := ((bcell hb3).2 w.heap.size 6 h10).trans f16;
         have m17 := ((bcell hb3).1 w.heap.size 7 h10).trans n17; have q17 := ((bcell hb3).2 w.heap.size 7 h10).trans f17;
         have m18 := ((bcell hb3).1 w.heap.size 8 h10).trans n18; have q18 := ((bcell hb3).2 w.heap.size 8 h10).trans f18;
         have m19 := ((bcell hb3).1 w.heap.size 9 h10).trans n19; have q19 := ((bcell hb3).2 w.heap.size 9 h10).trans f19;
         have m110 := ((bcell hb3).1 w.heap.size 10 h10).trans n110; have q110 := ((bcell hb3).2 w.heap.size 10 h10).trans f110;
         have m111 := ((bcell hb3).1 w.heap.size 11 h10).trans n111; have q111 := ((bcell hb3).2 w.heap.size 11 h10).trans f111;
         have m112 := ((bcell hb3).1 w.heap.size 12 h10).trans n112; have q112 := ((bcell hb3).2 w.heap.size 12 h10).trans f112;
         have m113 := ((bcell hb3).1 w.heap.size 13 h10).trans n113; have q113 := ((bcell hb3).2 w.heap.size 13 h10).trans f113;
         have HB3 := Lib.hid hb3; clear hb3' hb3))
  go_wp2
  refine bodyPost_ret (v := .tuple #[.agg #[.int .i64 (0), .int .i32 (49), .int .i32 (0), .int .i8 (0), .int .i32 (0), .int .i16 (0), .int .i32 (0), .int .i64 (0), .int .i64 (0), .int .i64 (0), .int .i16 (0), .int .i32 (0), .int .i32 (0), .slice e13 0 k13], .bool true]) (by simp [results, Tryd.results34, go_sem, m10, m11, m12, m13, m14, m15, m16, m17, m18, m19, m110, m111, m112, m113]) rfl ?_
  refine ⟨_, _, rfl, grown_below ?_⟩
  repeat refine grown_new ?_ _ _ _ (Nat.le_refl _)
  exact grownBy_trans HG2.out (below_grown HB3.out none)
end Go.Proofs.YthdfhnnoamlacaaDoor.Rec
