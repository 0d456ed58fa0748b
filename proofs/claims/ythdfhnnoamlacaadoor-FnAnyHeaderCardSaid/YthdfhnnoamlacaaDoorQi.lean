/-
  Records: what the package reads of the octets of a thing of nothing: old messages, a batch. Conditions: none.
-/
import Derived.Test.YthdfhnnoamlacaaDoorQh
namespace Go.Proofs.YthdfhnnoamlacaaDoor.Rec
open Go.Proofs.YthdfhnnoamlacaaDoor
open Go.RowKit (Below wrap64 wrap32)
open Kz

/-- So many octets of nothing. -/
def zz (n : Nat) : List UInt8 := List.replicate n 0
theorem default_is {f : Nat} {fn : Func} (hf : Tryd.prog.funcs[f]? = some fn) (hb : fn.body = some Code.skip) (hr : fn.results = #[]) (w : World) (x : Value) : Calls Tryd.prog f #[x] w fun e w' => e = .returned (.tuple #[]) ∧ w' = w := by
  refine calls_of_wp hf hb (wp_skip ?_)
  exact ⟨rfl, .tuple #[], results_none hr _ _ _, rfl, rfl⟩
section
variable {w : World} {S : Nat → Prop} {rb : Nat} {st st' : St} {x : Int}
theorem rI64 (h : RdIs w S rb st) (e : rdI 8 st = (x, st')) : Calls Tryd.prog 71 #[.pointer (some ⟨rb, 0, none⟩)] w fun e w' => e = .returned (.int .i64 x) ∧ RdIs w' S rb st' ∧ w.grownBy w' (some rb) := by have := Int64_any w S rb st h; rw [e] at this; exact this
theorem rI32 (h : RdIs w S rb st) (e : rdI 4 st = (x, st')) : Calls Tryd.prog 57 #[.pointer (some ⟨rb, 0, none⟩)] w fun e w' => e = .returned (.int .i32 x) ∧ RdIs w' S rb st' ∧ w.grownBy w' (some rb) := by have := Int32_any w S rb st h; rw [e] at this; exact this
theorem rI16 (h : RdIs w S rb st) (e : rdI 2 st = (x, st')) : Calls Tryd.prog 67 #[.pointer (some ⟨rb, 0, none⟩)] w fun e w' => e = .returned (.int .i16 x) ∧ RdIs w' S rb st' ∧ w.grownBy w' (some rb) := by have := Int16_any w S rb st h; rw [e] at this; exact this
theorem rI8 (h : RdIs w S rb st) (e : rdI 1 st = (x, st')) : Calls Tryd.prog 72 #[.pointer (some ⟨rb, 0, none⟩)] w fun e w' => e = .returned (.int .i8 x) ∧ RdIs w' S rb st' ∧ w.grownBy w' (some rb) := by have := Int8_any w S rb st h; rw [e] at this; exact this
theorem rSpan {n : Int} {l : List UInt8} (h : RdIs w S rb st) (e : rdSpan n st = (l, st')) (h1 : -9223372036854775808 ≤ n) (h2 : n ≤ 9223372036854775807) : Calls Tryd.prog 60 #[.pointer (some ⟨rb, 0, none⟩), .int .i64 n] w fun e w' => ∃ v, e = .returned v ∧ BytesAt w' S v l ∧ RdIs w' S rb st' ∧ w.grownBy w' (some rb) := by have := Span_any w S rb st n h h1 h2; rw [e] at this; exact this
def rdNB (st : St) : List UInt8 × St := if (rdI 4 st).1 < 0 then ([], (rdI 4 st).2) else rdSpan (rdI 4 st).1 (rdI 4 st).2
theorem rNB {l : List UInt8} (h : RdIs w S rb st) (e : rdNB st = (l, st')) : Calls Tryd.prog 73 #[.pointer (some ⟨rb, 0, none⟩)] w fun e w' => ∃ v, e = .returned v ∧ BytesAt w' S v l ∧ RdIs w' S rb st' ∧ w.grownBy w' (some rb) := by
  have hb := rdI4_b st
  have HV := Lib.hid (Int32_any w S rb st h)
  unfold rdNB at e
  generalize (rdI 4 st).1 = n at *
  generalize (rdI 4 st).2 = s1 at *
  have b1 := hb.1
  have b2 := hb.2
  clear h hb
  by_cases hn : n < 0
  · have t1 : decide (n < 0) = true := by simpa using hn
    rw [if_pos hn] at e
    obtain ⟨rfl, rfl⟩ := Prod.mk.inj e
    clear e
    go_enter Tryd.func73, Tryd.ntmps73
    go_wp2_with fail
    refine HV.out.mono ?_
    rintro e w1 ⟨rfl, h1, g1⟩
    have H1 := Lib.hid h1
    clear h1
    go_wp2
    go_ret
    exact ⟨_, rfl, .inl ⟨rfl, rfl⟩, H1.out, g1⟩
  · have t1 : decide (n < 0) = false := by simpa using hn
    rw [if_neg hn] at e
    have HEE := Lib.hid e
    clear e
    go_enter Tryd.func73, Tryd.ntmps73
    go_wp2_with fail
    refine HV.out.mono ?_
    rintro e w1 ⟨rfl, h1, g1⟩
    have H1 := Lib.hid h1
    clear h1
    go_wp2_with fail
    refine (rSpan H1.out HEE.out (by omega) (by omega)).mono ?_
    rintro e w2 ⟨v, rfl, hv, h2, g2⟩
    have H2 := Lib.hid h2
    have HV := Lib.hid hv
    clear h2 hv
    go_wp2
    go_ret
    exact ⟨_, rfl, HV.out, H2.out, grownBy_trans g1 g2⟩
end
/-- A reader beside a struct that is being written. -/
structure Rs (w w1 : World) (S : Nat → Prop) (B : Nat) (T : TypeId) (cs : Array Value) (st : St) : Prop where
  row : w1.heap[B]? = some (.cells cs T (0, 0))
  rd : RdIs w1 S w.heap.size st
  grown : w.grownBy w1 (some B)
section
variable {w w1 w2 : World} {S : Nat → Prop} {B : Nat} {T : TypeId} {cs : Array Value} {st st' : St}
theorem Rs.start {p : Option Addr} {n c : Nat} {bs : List UInt8} (hB : w.heap[B]? = some (.cells cs T (0, 0))) (h : BytesAt w S (.slice p n c) bs) (hS : ∀ g, S g → g < w.heap.size) : Rs w (w.alloc (.cells #[.slice p n c, .bool false] 99)) S B T cs (some bs) :=
  ⟨by rw [(grown_alloc w _ none).block B (Array.getElem?_eq_some_iff.1 hB).1 (by simp)]; exact hB, ⟨fun h => by have := hS _ h; omega, .slice p n c, (by show (w.heap.push _)[w.heap.size]? = _; exact Array.getElem?_push_size), h.kept (grown_alloc w _ none) (by simp)⟩, grown_alloc w _ _⟩
theorem Rs.read (h : Rs w w1 S B T cs st) (hBl : B < w.heap.size) (g : w1.grownBy w2 (some w.heap.size)) (r : RdIs w2 S w.heap.size st') : Rs w w2 S B T cs st' :=
  ⟨by rw [g.block B (Nat.lt_of_lt_of_le hBl h.grown.size) (fun e => by have := Option.some.inj e; omega)]; exact h.row, r,
    ⟨g.os.trans h.grown.os, g.tape.trans h.grown.tape, g.output.trans h.grown.output, Nat.le_trans h.grown.size g.size, fun j hj hr => by rw [g.block j (Nat.lt_of_lt_of_le hj h.grown.size) (fun e => by have := Option.some.inj e; omega)]; exact h.grown.block j hj hr⟩⟩
theorem Rs.store (h : Rs w w1 S B T cs st) (hSB : ¬ S B) (hBl : B < w.heap.size) (k : Nat) (x : Value) : Rs w (w1.setCell ⟨B, k, none⟩ x) S B T (cs.setIfInBounds k x) st :=
  have g : w1.grownBy (w1.setCell ⟨B, k, none⟩ x) (some B) := grown_setCell (grownBy_refl _ _) k x
  ⟨heap_setCell_row h.row, h.rd.kept g (fun g hg e => hSB (by rw [← Option.some.inj e]; exact hg)) (fun e => by have := Option.some.inj e; omega), grownBy_trans h.grown g⟩
theorem Rs.cell (h : Rs w w1 S B T cs st) (k : Nat) : w1.cell? ⟨B, k, none⟩ = cs[k]? := cell_of_row w1 B k _ _ _ h.row
theorem Rs.frozen (h : Rs w w1 S B T cs st) (k : Nat) : w1.frozen? ⟨B, k, none⟩ = false := by simp [World.frozen?, h.row]
end
theorem nil_s {w w1 w' : World} {S : Nat → Prop} {v : Value} {row : Option Nat} (h : BytesAt w1 S v []) (hS : ∀ g, S g → g < w.heap.size) (hg : w.grownBy w' row) : BytesAt w' S v [] := by
  rcases h with h | ⟨g, o, c, h1, h2, h3, h4, h5, -⟩
  · exact .inl h
  · exact .inr ⟨g, o, c, h1, h2, h3, h4, Nat.lt_of_lt_of_le (hS g h4) hg.size, fun i b hb => by simp at hb⟩
set_option maxRecDepth 8000 in
set_option maxHeartbeats 4000000 in
theorem v0readFrom (w : World) (S : Nat → Prop) (B : Nat) (p : Option Addr) (c : Nat) (hB : w.heap[B]? = some (.cells #[.int .i64 0, .int .i32 0, .int .i32 0, .int .i8 0, .int .i8 0, .slice none 0 0, .slice none 0 0] 105 (0, 0))) (h : BytesAt w S (.slice p 26 c) (zz 26)) (hSB : ¬ S B) (hS : ∀ g, S g → g < w.heap.size) (he : ErrOk w) (hBe : B ≠ 0) :
    Calls Tryd.prog 63 #[.pointer (some ⟨B, 0, none⟩), .slice p 26 c, .bool false] w fun e w' => ∃ v5 v6 : Value, e = .returned .nilIface ∧ w.grownBy w' (some B) ∧ w'.heap[B]? = some (.cells #[.int .i64 (0), .int .i32 (0), .int .i32 (0), .int .i8 (0), .int .i8 (0), v5, v6] 105 (0, 0)) ∧ BytesAt w' S v5 [] ∧ BytesAt w' S v6 [] := by
  have hBl : B < w.heap.size := (Array.getElem?_eq_some_iff.1 hB).1
  have HE := Lib.hid he
  have HR := Lib.hid (Rs.start hB h hS)
  have HSS := Lib.hid hS
  clear h hB he hS
  go_enter Tryd.func63, Tryd.ntmps63
  go_wp2_with fail
  refine (default_is Tryd.func70 rfl rfl _ _).mono ?_
  rintro e w' ⟨rfl, hw⟩
  have hw := hw.symm
  subst hw
  go_wp2_with fail
  refine (rI64 (st := some (zz 26)) (x := 0) (st' := some (zz 18)) HR.out.rd (by kernel_rfl)).mono ?_
  rintro e w1 ⟨rfl, hr, g⟩
  have hR := HR.out.read hBl g hr
  have hc : w1.cell? ⟨B, 0, none⟩ = some (.int .i64 0) := hR.cell 0
  have hf : w1.frozen? ⟨B, 0, none⟩ = false := hR.frozen 0
  have hR2 : Rs w (w1.setCell ⟨B, 0, none⟩ (.int .i64 (0))) S B 105 #[.int .i64 (0), .int .i32 0, .int .i32 0, .int .i8 0, .int .i8 0, .slice none 0 0, .slice none 0 0] (some (zz 18)) := hR.store hSB hBl 0 (.int .i64 (0))
  have HR := Lib.hid hR2
  clear hR hR2 g hr
  go_wp2_with fail
  refine (rI32 (st := some (zz 18)) (x := 0) (st' := some (zz 14)) HR.out.rd (by kernel_rfl)).mono ?_
  rintro e w2 ⟨rfl, hr, g⟩
  have hR := HR.out.read hBl g hr
  have hc : w2.cell? ⟨B, 1, none⟩ = some (.int .i32 0) := hR.cell 1
  have hf : w2.frozen? ⟨B, 1, none⟩ = false := hR.frozen 1
  have hR2 : Rs w (w2.setCell ⟨B, 1, none⟩ (.int .i32 (0))) S B 105 #[.int .i64 (0), .int .i32 (0), .int .i32 0, .int .i8 0, .int .i8 0, .slice none 0 0, .slice none 0 0] (some (zz 14)) := hR.store hSB hBl 1 (.int .i32 (0))
  have HR := Lib.hid hR2
  clear hR hR2 g hr
  go_wp2_with fail
  refine (rI32 (st := some (zz 14)) (x := 0) (st' := some (zz 10)) HR.out.rd (by kernel_rfl)).mono ?_
  rintro e w3 ⟨rfl, hr, g⟩
  have hR := HR.out.read hBl g hr
  have hc : w3.cell? ⟨B, 2, none⟩ = some (.int .i32 0) := hR.cell 2
  have hf : w3.frozen? ⟨B, 2, none⟩ = false := hR.frozen 2
  have hR2 : Rs w (w3.setCell ⟨B, 2, none⟩ (.int .i32 (0))) S B 105 #[.int .i64 (0), .int .i32 (0), .int .i32 (0), .int .i8 0, .int .i8 0, .slice none 0 0, .slice none 0 0] (some (zz 10)) := hR.store hSB hBl 2 (.int .i32 (0))
  have HR := Lib.hid hR2
  clear hR hR2 g hr
  go_wp2_with fail
  refine (rI8 (st := some (zz 10)) (x := 0) (st' := some (zz 9)) HR.out.rd (by kernel_rfl)).mono ?_
  rintro e w4 ⟨rfl, hr, g⟩
  have hR := HR.out.read hBl g hr
  have hc : w4.cell? ⟨B, 3, none⟩ = some (.int .i8 0) := hR.cell 3
  have hf : w4.frozen? ⟨B, 3, none⟩ = false := hR.frozen 3
  have hR2 : Rs w (w4.setCell ⟨B, 3, none⟩ (.int .i8 (0))) S B 105 #[.int .i64 (0), .int .i32 (0), .int .i32 (0), .int .i8 (0), .int .i8 0, .slice none 0 0, .slice none 0 0] (some (zz 9)) := hR.store hSB hBl 3 (.int .i8 (0))
  have HR := Lib.hid hR2
  clear hR hR2 g hr
  go_wp2_with fail
  refine (rI8 (st := some (zz 9)) (x := 0) (st' := some (zz 8)) HR.out.rd (by kernel_rfl)).mono ?_
  rintro e w5 ⟨rfl, hr, g⟩
  have hR := HR.out.read hBl g hr
  have hc : w5.cell? ⟨B, 4, none⟩ = some (.int .i8 0) := hR.cell 4
  have hf : w5.frozen? ⟨B, 4, none⟩ = false := hR.frozen 4
  have hR2 : Rs w (w5.setCell ⟨B, 4, none⟩ (.int .i8 (0))) S B 105 #[.int .i64 (0), .int .i32 (0), .int .i32 (0), .int .i8 (0), .int .i8 (0), .slice none 0 0, .slice none 0 0] (some (zz 8)) := hR.store hSB hBl 4 (.int .i8 (0))
  have HR := Lib.hid hR2
  clear hR hR2 g hr
  go_wp2_with fail
  refine (rNB (st := some (zz 8)) (l := []) (st' := some (zz 4)) HR.out.rd rfl).mono ?_
  rintro e w6 ⟨v5, rfl, hv, hr, g⟩
  obtain ⟨a5, c5, rfl⟩ := bytes_len hv
  have HV5 := Lib.hid hv
  have hR := HR.out.read hBl g hr
  have hc : w6.cell? ⟨B, 5, none⟩ = some (.slice none 0 0) := hR.cell 5
  have hf : w6.frozen? ⟨B, 5, none⟩ = false := hR.frozen 5
  have hR2 : Rs w (w6.setCell ⟨B, 5, none⟩ (.slice a5 0 c5)) S B 105 #[.int .i64 (0), .int .i32 (0), .int .i32 (0), .int .i8 (0), .int .i8 (0), .slice a5 0 c5, .slice none 0 0] (some (zz 4)) := hR.store hSB hBl 5 (.slice a5 0 c5)
  have HR := Lib.hid hR2
  clear hR hR2 g hr hv
  go_wp2_with fail
  refine (rNB (st := some (zz 4)) (l := []) (st' := some (zz 0)) HR.out.rd rfl).mono ?_
  rintro e w7 ⟨v6, rfl, hv, hr, g⟩
  obtain ⟨a6, c6, rfl⟩ := bytes_len hv
  have HV6 := Lib.hid hv
  have hR := HR.out.read hBl g hr
  have hc : w7.cell? ⟨B, 6, none⟩ = some (.slice none 0 0) := hR.cell 6
  have hf : w7.frozen? ⟨B, 6, none⟩ = false := hR.frozen 6
  have hR2 : Rs w (w7.setCell ⟨B, 6, none⟩ (.slice a6 0 c6)) S B 105 #[.int .i64 (0), .int .i32 (0), .int .i32 (0), .int .i8 (0), .int .i8 (0), .slice a5 0 c5, .slice a6 0 c6] (some (zz 0)) := hR.store hSB hBl 6 (.slice a6 0 c6)
  have HR := Lib.hid hR2
  clear hR hR2 g hr hv
  have hE := HE.out.kept HR.out.grown (fun e => hBe (Option.some.inj e))
  go_wp2_with fail
  refine (Complete_any _ S w.heap.size _ HR.out.rd hE).mono ?_
  rintro e w99 ⟨u, rfl, hu, hw99⟩
  subst hw99
  have hu : u = .nilIface := hu
  subst hu
  clear hE
  go_wp2
  go_ret
  exact ⟨_, _, rfl, HR.out.grown, HR.out.row, nil_s HV5.out HSS.out HR.out.grown, nil_s HV6.out HSS.out HR.out.grown⟩
theorem v0ReadFrom (w : World) (S : Nat → Prop) (B : Nat) (p : Option Addr) (c : Nat) (hB : w.heap[B]? = some (.cells #[.int .i64 0, .int .i32 0, .int .i32 0, .int .i8 0, .int .i8 0, .slice none 0 0, .slice none 0 0] 105 (0, 0))) (h : BytesAt w S (.slice p 26 c) (zz 26)) (hSB : ¬ S B) (hS : ∀ g, S g → g < w.heap.size) (he : ErrOk w) (hBe : B ≠ 0) :
    Calls Tryd.prog 48 #[.pointer (some ⟨B, 0, none⟩), .slice p 26 c] w fun e w' => ∃ v5 v6 : Value, e = .returned .nilIface ∧ w.grownBy w' (some B) ∧ w'.heap[B]? = some (.cells #[.int .i64 (0), .int .i32 (0), .int .i32 (0), .int .i8 (0), .int .i8 (0), v5, v6] 105 (0, 0)) ∧ BytesAt w' S v5 [] ∧ BytesAt w' S v6 [] := by
  have HH := Lib.hid (v0readFrom w S B p c hB h hSB hS he hBe)
  clear hB h he
  go_enter Tryd.func48, Tryd.ntmps48
  go_wp2_with fail
  refine HH.out.mono ?_
  rintro e w1 ⟨v5, v6, rfl, hr⟩
  have HR := Lib.hid hr
  clear hr
  go_wp2
  go_ret
  exact ⟨_, _, rfl, HR.out⟩
set_option maxRecDepth 8000 in
set_option maxHeartbeats 4000000 in
theorem v1readFrom (w : World) (S : Nat → Prop) (B : Nat) (p : Option Addr) (c : Nat) (hB : w.heap[B]? = some (.cells #[.int .i64 0, .int .i32 0, .int .i32 0, .int .i8 0, .int .i8 0, .int .i64 0, .slice none 0 0, .slice none 0 0] 107 (0, 0))) (h : BytesAt w S (.slice p 34 c) (zz 34)) (hSB : ¬ S B) (hS : ∀ g, S g → g < w.heap.size) (he : ErrOk w) (hBe : B ≠ 0) :
    Calls Tryd.prog 64 #[.pointer (some ⟨B, 0, none⟩), .slice p 34 c, .bool false] w fun e w' => ∃ v6 v7 : Value, e = .returned .nilIface ∧ w.grownBy w' (some B) ∧ w'.heap[B]? = some (.cells #[.int .i64 (0), .int .i32 (0), .int .i32 (0), .int .i8 (0), .int .i8 (0), .int .i64 (0), v6, v7] 107 (0, 0)) ∧ BytesAt w' S v6 [] ∧ BytesAt w' S v7 [] := by
  have hBl : B < w.heap.size := (Array.getElem?_eq_some_iff.1 hB).1
  have HE := Lib.hid he
  have HR := Lib.hid (Rs.start hB h hS)
  have HSS := Lib.hid hS
  clear h hB he hS
  go_enter Tryd.func64, Tryd.ntmps64
  go_wp2_with fail
  refine (default_is Tryd.func74 rfl rfl _ _).mono ?_
  rintro e w' ⟨rfl, hw⟩
  have hw := hw.symm
  subst hw
  go_wp2_with fail
  refine (rI64 (st := some (zz 34)) (x := 0) (st' := some (zz 26)) HR.out.rd (by kernel_rfl)).mono ?_
  rintro e w1 ⟨rfl, hr, g⟩
  have hR := HR.out.read hBl g hr
  have hc : w1.cell? ⟨B, 0, none⟩ = some (.int .i64 0) := hR.cell 0
  have hf : w1.frozen? ⟨B, 0, none⟩ = false := hR.frozen 0
  have hR2 : Rs w (w1.setCell ⟨B, 0, none⟩ (.int .i64 (0))) S B 107 #[.int .i64 (0), .int .i32 0, .int .i32 0, .int .i8 0, .int .i8 0, .int .i64 0, .slice none 0 0, .slice none 0 0] (some (zz 26)) := hR.store hSB hBl 0 (.int .i64 (0))
  have HR := Lib.hid hR2
  clear hR hR2 g hr
  go_wp2_with fail
  refine (rI32 (st := some (zz 26)) (x := 0) (st' := some (zz 22)) HR.out.rd (by kernel_rfl)).mono ?_
  rintro e w2 ⟨rfl, hr, g⟩
  have hR := HR.out.read hBl g hr
  have hc : w2.cell? ⟨B, 1, none⟩ = some (.int .i32 0) := hR.cell 1
  have hf : w2.frozen? ⟨B, 1, none⟩ = false := hR.frozen 1
  have hR2 : Rs w (w2.setCell ⟨B, 1, none⟩ (.int .i32 (0))) S B 107 #[.int .i64 (0), .int .i32 (0), .int .i32 0, .int .i8 0, .int .i8 0, .int .i64 0, .slice none 0 0, .slice none 0 0] (some (zz 22)) := hR.store hSB hBl 1 (.int .i32 (0))
  have HR := Lib.hid hR2
  clear hR hR2 g hr
  go_wp2_with fail
  refine (rI32 (st := some (zz 22)) (x := 0) (st' := some (zz 18)) HR.out.rd (by kernel_rfl)).mono ?_
  rintro e w3 ⟨rfl, hr, g⟩
  have hR := HR.out.read hBl g hr
  have hc : w3.cell? ⟨B, 2, none⟩ = some (.int .i32 0) := hR.cell 2
  have hf : w3.frozen? ⟨B, 2, none⟩ = false := hR.frozen 2
  have hR2 : Rs w (w3.setCell ⟨B, 2, none⟩ (.int .i32 (0))) S B 107 #[.int .i64 (0), .int .i32 (0), .int .i32 (0), .int .i8 0, .int .i8 0, .int .i64 0, .slice none 0 0, .slice none 0 0] (some (zz 18)) := hR.store hSB hBl 2 (.int .i32 (0))
  have HR := Lib.hid hR2
  clear hR hR2 g hr
  go_wp2_with fail
  refine (rI8 (st := some (zz 18)) (x := 0) (st' := some (zz 17)) HR.out.rd (by kernel_rfl)).mono ?_
  rintro e w4 ⟨rfl, hr, g⟩
  have hR := HR.out.read hBl g hr
  have hc : w4.cell? ⟨B, 3, none⟩ = some (.int .i8 0) := hR.cell 3
  have hf : w4.frozen? ⟨B, 3, none⟩ = false := hR.frozen 3
  have hR2 : Rs w (w4.setCell ⟨B, 3, none⟩ (.int .i8 (0))) S B 107 #[.int .i64 (0), .int .i32 (0), .int .i32 (0), .int .i8 (0), .int .i8 0, .int .i64 0, .slice none 0 0, .slice none 0 0] (some (zz 17)) := hR.store hSB hBl 3 (.int .i8 (0))
  have HR := Lib.hid hR2
  clear hR hR2 g hr
  go_wp2_with fail
  refine (rI8 (st := some (zz 17)) (x := 0) (st' := some (zz 16)) HR.out.rd (by kernel_rfl)).mono ?_
  rintro e w5 ⟨rfl, hr, g⟩
  have hR := HR.out.read hBl g hr
  have hc : w5.cell? ⟨B, 4, none⟩ = some (.int .i8 0) := hR.cell 4
  have hf : w5.frozen? ⟨B, 4, none⟩ = false := hR.frozen 4
  have hR2 : Rs w (w5.setCell ⟨B, 4, none⟩ (.int .i8 (0))) S B 107 #[.int .i64 (0), .int .i32 (0), .int .i32 (0), .int .i8 (0), .int .i8 (0), .int .i64 0, .slice none 0 0, .slice none 0 0] (some (zz 16)) := hR.store hSB hBl 4 (.int .i8 (0))
  have HR := Lib.hid hR2
  clear hR hR2 g hr
  go_wp2_with fail
  refine (rI64 (st := some (zz 16)) (x := 0) (st' := some (zz 8)) HR.out.rd (by kernel_rfl)).mono ?_
  rintro e w6 ⟨rfl, hr, g⟩
  have hR := HR.out.read hBl g hr
  have hc : w6.cell? ⟨B, 5, none⟩ = some (.int .i64 0) := hR.cell 5
  have hf : w6.frozen? ⟨B, 5, none⟩ = false := hR.frozen 5
  have hR2 : Rs w (w6.setCell ⟨B, 5, none⟩ (.int .i64 (0))) S B 107 #[.int .i64 (0), .int .i32 (0), .int .i32 (0), .int .i8 (0), .int .i8 (0), .int .i64 (0), .slice none 0 0, .slice none 0 0] (some (zz 8)) := hR.store hSB hBl 5 (.int .i64 (0))
  have HR := Lib.hid hR2
  clear hR hR2 g hr
  go_wp2_with fail
  refine (rNB (st := some (zz 8)) (l := []) (st' := some (zz 4)) HR.out.rd rfl).mono ?_
  rintro e w7 ⟨v6, rfl, hv, hr, g⟩
  obtain ⟨a6, c6, rfl⟩ := bytes_len hv
  have HV6 := Lib.hid hv
  have hR := HR.out.read hBl g hr
  have hc : w7.cell? ⟨B, 6, none⟩ = some (.slice none 0 0) := hR.cell 6
  have hf : w7.frozen? ⟨B, 6, none⟩ = false := hR.frozen 6
  have hR2 : Rs w (w7.setCell ⟨B, 6, none⟩ (.slice a6 0 c6)) S B 107 #[.int .i64 (0), .int .i32 (0), .int .i32 (0), .int .i8 (0), .int .i8 (0), .int .i64 (0), .slice a6 0 c6, .slice none 0 0] (some (zz 4)) := hR.store hSB hBl 6 (.slice a6 0 c6)
  have HR := Lib.hid hR2
  clear hR hR2 g hr hv
  go_wp2_with fail
  refine (rNB (st := some (zz 4)) (l := []) (st' := some (zz 0)) HR.out.rd rfl).mono ?_
  rintro e w8 ⟨v7, rfl, hv, hr, g⟩
  obtain ⟨a7, c7, rfl⟩ := bytes_len hv
  have HV7 := Lib.hid hv
  have hR := HR.out.read hBl g hr
  have hc : w8.cell? ⟨B, 7, none⟩ = some (.slice none 0 0) := hR.cell 7
  have hf : w8.frozen? ⟨B, 7, none⟩ = false := hR.frozen 7
  have hR2 : Rs w (w8.setCell ⟨B, 7, none⟩ (.slice a7 0 c7)) S B 107 #[.int .i64 (0), .int .i32 (0), .int .i32 (0), .int .i8 (0), .int .i8 (0), .int .i64 (0), .slice a6 0 c6, .slice a7 0 c7] (some (zz 0)) := hR.store hSB hBl 7 (.slice a7 0 c7)
  have HR := Lib.hid hR2
  clear hR hR2 g hr hv
  have hE := HE.out.kept HR.out.grown (fun e => hBe (Option.some.inj e))
  go_wp2_with fail
  refine (Complete_any _ S w.heap.size _ HR.out.rd hE).mono ?_
  rintro e w99 ⟨u, rfl, hu, hw99⟩
  subst hw99
  have hu : u = .nilIface := hu
  subst hu
  clear hE
  go_wp2
  go_ret
  exact ⟨_, _, rfl, HR.out.grown, HR.out.row, nil_s HV6.out HSS.out HR.out.grown, nil_s HV7.out HSS.out HR.out.grown⟩
theorem v1ReadFrom (w : World) (S : Nat → Prop) (B : Nat) (p : Option Addr) (c : Nat) (hB : w.heap[B]? = some (.cells #[.int .i64 0, .int .i32 0, .int .i32 0, .int .i8 0, .int .i8 0, .int .i64 0, .slice none 0 0, .slice none 0 0] 107 (0, 0))) (h : BytesAt w S (.slice p 34 c) (zz 34)) (hSB : ¬ S B) (hS : ∀ g, S g → g < w.heap.size) (he : ErrOk w) (hBe : B ≠ 0) :
    Calls Tryd.prog 50 #[.pointer (some ⟨B, 0, none⟩), .slice p 34 c] w fun e w' => ∃ v6 v7 : Value, e = .returned .nilIface ∧ w.grownBy w' (some B) ∧ w'.heap[B]? = some (.cells #[.int .i64 (0), .int .i32 (0), .int .i32 (0), .int .i8 (0), .int .i8 (0), .int .i64 (0), v6, v7] 107 (0, 0)) ∧ BytesAt w' S v6 [] ∧ BytesAt w' S v7 [] := by
  have HH := Lib.hid (v1readFrom w S B p c hB h hSB hS he hBe)
  clear hB h he
  go_enter Tryd.func50, Tryd.ntmps50
  go_wp2_with fail
  refine HH.out.mono ?_
  rintro e w1 ⟨v6, v7, rfl, hr⟩
  have HR := Lib.hid hr
  clear hr
  go_wp2
  go_ret
  exact ⟨_, _, rfl, HR.out⟩
set_option maxRecDepth 8000 in
set_option maxHeartbeats 4000000 in
theorem batchreadFrom (w : World) (S : Nat → Prop) (B : Nat) (p : Option Addr) (c : Nat) (hB : w.heap[B]? = some (.cells #[.int .i64 0, .int .i32 0, .int .i32 0, .int .i8 0, .int .i32 0, .int .i16 0, .int .i32 0, .int .i64 0, .int .i64 0, .int .i64 0, .int .i16 0, .int .i32 0, .int .i32 0, .slice none 0 0] 112 (0, 0))) (h : BytesAt w S (.slice p 61 c) ([0, 0, 0, 0, 0, 0, 0, 0, 0, 0, 0, 49, 0, 0, 0, 0, 0, 0, 0, 0, 0, 0, 0, 0, 0, 0, 0, 0, 0, 0, 0, 0, 0, 0, 0, 0, 0, 0, 0, 0, 0, 0, 0, 0, 0, 0, 0, 0, 0, 0, 0, 0, 0, 0, 0, 0, 0, 0, 0, 0, 0])) (hSB : ¬ S B) (hS : ∀ g, S g → g < w.heap.size) (he : ErrOk w) (hBe : B ≠ 0) :
    Calls Tryd.prog 66 #[.pointer (some ⟨B, 0, none⟩), .slice p 61 c, .bool false] w fun e w' => ∃ v13 : Value, e = .returned .nilIface ∧ w.grownBy w' (some B) ∧ w'.heap[B]? = some (.cells #[.int .i64 (0), .int .i32 (49), .int .i32 (0), .int .i8 (0), .int .i32 (0), .int .i16 (0), .int .i32 (0), .int .i64 (0), .int .i64 (0), .int .i64 (0), .int .i16 (0), .int .i32 (0), .int .i32 (0), v13] 112 (0, 0)) ∧ BytesAt w' S v13 [] := by
  have hBl : B < w.heap.size := (Array.getElem?_eq_some_iff.1 hB).1
  have HE := Lib.hid he
  have HR := Lib.hid (Rs.start hB h hS)
  have HSS := Lib.hid hS
  clear h hB he hS
  go_enter Tryd.func66, Tryd.ntmps66
  go_wp2_with fail
  refine (default_is Tryd.func79 rfl rfl _ _).mono ?_
  rintro e w' ⟨rfl, hw⟩
  have hw := hw.symm
  subst hw
  go_wp2_with fail
  refine (rI64 (st := some ([0, 0, 0, 0, 0, 0, 0, 0, 0, 0, 0, 49, 0, 0, 0, 0, 0, 0, 0, 0, 0, 0, 0, 0, 0, 0, 0, 0, 0, 0, 0, 0, 0, 0, 0, 0, 0, 0, 0, 0, 0, 0, 0, 0, 0, 0, 0, 0, 0, 0, 0, 0, 0, 0, 0, 0, 0, 0, 0, 0, 0])) (x := 0) (st' := some ([0, 0, 0, 49, 0, 0, 0, 0, 0, 0, 0, 0, 0, 0, 0, 0, 0, 0, 0, 0, 0, 0, 0, 0, 0, 0, 0, 0, 0, 0, 0, 0, 0, 0, 0, 0, 0, 0, 0, 0, 0, 0, 0, 0, 0, 0, 0, 0, 0, 0, 0, 0, 0])) HR.out.rd (by kernel_rfl)).mono ?_
  rintro e w1 ⟨rfl, hr, g⟩
  have hR := HR.out.read hBl g hr
  have hc : w1.cell? ⟨B, 0, none⟩ = some (.int .i64 0) := hR.cell 0
  have hf : w1.frozen? ⟨B, 0, none⟩ = false := hR.frozen 0
  have hR2 : Rs w (w1.setCell ⟨B, 0, none⟩ (.int .i64 (0))) S B 112 #[.int .i64 (0), .int .i32 0, .int .i32 0, .int .i8 0, .int .i32 0, .int .i16 0, .int .i32 0, .int .i64 0, .int .i64 0, .int .i64 0, .int .i16 0, .int .i32 0, .int .i32 0, .slice none 0 0] (some ([0, 0, 0, 49, 0, 0, 0, 0, 0, 0, 0, 0, 0, 0, 0, 0, 0, 0, 0, 0, 0, 0, 0, 0, 0, 0, 0, 0, 0, 0, 0, 0, 0, 0, 0, 0, 0, 0, 0, 0, 0, 0, 0, 0, 0, 0, 0, 0, 0, 0, 0, 0, 0])) := hR.store hSB hBl 0 (.int .i64 (0))
  have HR := Lib.hid hR2
  clear hR hR2 g hr
  go_wp2_with fail
  refine (rI32 (st := some ([0, 0, 0, 49, 0, 0, 0, 0, 0, 0, 0, 0, 0, 0, 0, 0, 0, 0, 0, 0, 0, 0, 0, 0, 0, 0, 0, 0, 0, 0, 0, 0, 0, 0, 0, 0, 0, 0, 0, 0, 0, 0, 0, 0, 0, 0, 0, 0, 0, 0, 0, 0, 0])) (x := 49) (st' := some (zz 49)) HR.out.rd (by kernel_rfl)).mono ?_
  rintro e w2 ⟨rfl, hr, g⟩
  have hR := HR.out.read hBl g hr
  have hc : w2.cell? ⟨B, 1, none⟩ = some (.int .i32 0) := hR.cell 1
  have hf : w2.frozen? ⟨B, 1, none⟩ = false := hR.frozen 1
  have hR2 : Rs w (w2.setCell ⟨B, 1, none⟩ (.int .i32 (49))) S B 112 #[.int .i64 (0), .int .i32 (49), .int .i32 0, .int .i8 0, .int .i32 0, .int .i16 0, .int .i32 0, .int .i64 0, .int .i64 0, .int .i64 0, .int .i16 0, .int .i32 0, .int .i32 0, .slice none 0 0] (some (zz 49)) := hR.store hSB hBl 1 (.int .i32 (49))
  have HR := Lib.hid hR2
  clear hR hR2 g hr
  go_wp2_with fail
  refine (rI32 (st := some (zz 49)) (x := 0) (st' := some (zz 45)) HR.out.rd (by kernel_rfl)).mono ?_
  rintro e w3 ⟨rfl, hr, g⟩
  have hR := HR.out.read hBl g hr
  have hc : w3.cell? ⟨B, 2, none⟩ = some (.int .i32 0) := hR.cell 2
  have hf : w3.frozen? ⟨B, 2, none⟩ = false := hR.frozen 2
  have hR2 : Rs w (w3.setCell ⟨B, 2, none⟩ (.int .i32 (0))) S B 112 #[.int .i64 (0), .int .i32 (49), .int .i32 (0), .int .i8 0, .int .i32 0, .int .i16 0, .int .i32 0, .int .i64 0, .int .i64 0, .int .i64 0, .int .i16 0, .int .i32 0, .int .i32 0, .slice none 0 0] (some (zz 45)) := hR.store hSB hBl 2 (.int .i32 (0))
  have HR := Lib.hid hR2
  clear hR hR2 g hr
  go_wp2_with fail
  refine (rI8 (st := some (zz 45)) (x := 0) (st' := some (zz 44)) HR.out.rd (by kernel_rfl)).mono ?_
  rintro e w4 ⟨rfl, hr, g⟩
  have hR := HR.out.read hBl g hr
  have hc : w4.cell? ⟨B, 3, none⟩ = some (.int .i8 0) := hR.cell 3
  have hf : w4.frozen? ⟨B, 3, none⟩ = false := hR.frozen 3
  have hR2 : Rs w (w4.setCell ⟨B, 3, none⟩ (.int .i8 (0))) S B 112 #[.int .i64 (0), .int .i32 (49), .int .i32 (0), .int .i8 (0), .int .i32 0, .int .i16 0, .int .i32 0, .int .i64 0, .int .i64 0, .int .i64 0, .int .i16 0, .int .i32 0, .int .i32 0, .slice none 0 0] (some (zz 44)) := hR.store hSB hBl 3 (.int .i8 (0))
  have HR := Lib.hid hR2
  clear hR hR2 g hr
  go_wp2_with fail
  refine (rI32 (st := some (zz 44)) (x := 0) (st' := some (zz 40)) HR.out.rd (by kernel_rfl)).mono ?_
  rintro e w5 ⟨rfl, hr, g⟩
  have hR := HR.out.read hBl g hr
  have hc : w5.cell? ⟨B, 4, none⟩ = some (.int .i32 0) := hR.cell 4
  have hf : w5.frozen? ⟨B, 4, none⟩ = false := hR.frozen 4
  have hR2 : Rs w (w5.setCell ⟨B, 4, none⟩ (.int .i32 (0))) S B 112 #[.int .i64 (0), .int .i32 (49), .int .i32 (0), .int .i8 (0), .int .i32 (0), .int .i16 0, .int .i32 0, .int .i64 0, .int .i64 0, .int .i64 0, .int .i16 0, .int .i32 0, .int .i32 0, .slice none 0 0] (some (zz 40)) := hR.store hSB hBl 4 (.int .i32 (0))
  have HR := Lib.hid hR2
  clear hR hR2 g hr
  go_wp2_with fail
  refine (rI16 (st := some (zz 40)) (x := 0) (st' := some (zz 38)) HR.out.rd (by kernel_rfl)).mono ?_
  rintro e w6 ⟨rfl, hr, g⟩
  have hR := HR.out.read hBl g hr
  have hc : w6.cell? ⟨B, 5, none⟩ = some (.int .i16 0) := hR.cell 5
  have hf : w6.frozen? ⟨B, 5, none⟩ = false := hR.frozen 5
  have hR2 : Rs w (w6.setCell ⟨B, 5, none⟩ (.int .i16 (0))) S B 112 #[.int .i64 (0), .int .i32 (49), .int .i32 (0), .int .i8 (0), .int .i32 (0), .int .i16 (0), .int .i32 0, .int .i64 0, .int .i64 0, .int .i64 0, .int .i16 0, .int .i32 0, .int .i32 0, .slice none 0 0] (some (zz 38)) := hR.store hSB hBl 5 (.int .i16 (0))
  have HR := Lib.hid hR2
  clear hR hR2 g hr
  go_wp2_with fail
  refine (rI32 (st := some (zz 38)) (x := 0) (st' := some (zz 34)) HR.out.rd (by kernel_rfl)).mono ?_
  rintro e w7 ⟨rfl, hr, g⟩
  have hR := HR.out.read hBl g hr
  have hc : w7.cell? ⟨B, 6, none⟩ = some (.int .i32 0) := hR.cell 6
  have hf : w7.frozen? ⟨B, 6, none⟩ = false := hR.frozen 6
  have hR2 : Rs w (w7.setCell ⟨B, 6, none⟩ (.int .i32 (0))) S B 112 #[.int .i64 (0), .int .i32 (49), .int .i32 (0), .int .i8 (0), .int .i32 (0), .int .i16 (0), .int .i32 (0), .int .i64 0, .int .i64 0, .int .i64 0, .int .i16 0, .int .i32 0, .int .i32 0, .slice none 0 0] (some (zz 34)) := hR.store hSB hBl 6 (.int .i32 (0))
  have HR := Lib.hid hR2
  clear hR hR2 g hr
  go_wp2_with fail
  refine (rI64 (st := some (zz 34)) (x := 0) (st' := some (zz 26)) HR.out.rd (by kernel_rfl)).mono ?_
  rintro e w8 ⟨rfl, hr, g⟩
  have hR := HR.out.read hBl g hr
  have hc : w8.cell? ⟨B, 7, none⟩ = some (.int .i64 0) := hR.cell 7
  have hf : w8.frozen? ⟨B, 7, none⟩ = false := hR.frozen 7
  have hR2 : Rs w (w8.setCell ⟨B, 7, none⟩ (.int .i64 (0))) S B 112 #[.int .i64 (0), .int .i32 (49), .int .i32 (0), .int .i8 (0), .int .i32 (0), .int .i16 (0), .int .i32 (0), .int .i64 (0), .int .i64 0, .int .i64 0, .int .i16 0, .int .i32 0, .int .i32 0, .slice none 0 0] (some (zz 26)) := hR.store hSB hBl 7 (.int .i64 (0))
  have HR := Lib.hid hR2
  clear hR hR2 g hr
  go_wp2_with fail
  refine (rI64 (st := some (zz 26)) (x := 0) (st' := some (zz 18)) HR.out.rd (by kernel_rfl)).mono ?_
  rintro e w9 ⟨rfl, hr, g⟩
  have hR := HR.out.read hBl g hr
  have hc : w9.cell? ⟨B, 8, none⟩ = some (.int .i64 0) := hR.cell 8
  have hf : w9.frozen? ⟨B, 8, none⟩ = false := hR.frozen 8
  have hR2 : Rs w (w9.setCell ⟨B, 8, none⟩ (.int .i64 (0))) S B 112 #[.int .i64 (0), .int .i32 (49), .int .i32 (0), .int .i8 (0), .int .i32 (0), .int .i16 (0), .int .i32 (0), .int .i64 (0), .int .i64 (0), .int .i64 0, .int .i16 0, .int .i32 0, .int .i32 0, .slice none 0 0] (some (zz 18)) := hR.store hSB hBl 8 (.int .i64 (0))
  have HR := Lib.hid hR2
  clear hR hR2 g hr
  go_wp2_with fail
  refine (rI64 (st := some (zz 18)) (x := 0) (st' := some (zz 10)) HR.out.rd (by kernel_rfl)).mono ?_
  rintro e w10 ⟨rfl, hr, g⟩
  have hR := HR.out.read hBl g hr
  have hc : w10.cell? ⟨B, 9, none⟩ = some (.int .i64 0) := hR.cell 9
  have hf : w10.frozen? ⟨B, 9, none⟩ = false := hR.frozen 9
  have hR2 : Rs w (w10.setCell ⟨B, 9, none⟩ (.int .i64 (0))) S B 112 #[.int .i64 (0), .int .i32 (49), .int .i32 (0), .int .i8 (0), .int .i32 (0), .int .i16 (0), .int .i32 (0), .int .i64 (0), .int .i64 (0), .int .i64 (0), .int .i16 0, .int .i32 0, .int .i32 0, .slice none 0 0] (some (zz 10)) := hR.store hSB hBl 9 (.int .i64 (0))
  have HR := Lib.hid hR2
  clear hR hR2 g hr
  go_wp2_with fail
  refine (rI16 (st := some (zz 10)) (x := 0) (st' := some (zz 8)) HR.out.rd (by kernel_rfl)).mono ?_
  rintro e w11 ⟨rfl, hr, g⟩
  have hR := HR.out.read hBl g hr
  have hc : w11.cell? ⟨B, 10, none⟩ = some (.int .i16 0) := hR.cell 10
  have hf : w11.frozen? ⟨B, 10, none⟩ = false := hR.frozen 10
  have hR2 : Rs w (w11.setCell ⟨B, 10, none⟩ (.int .i16 (0))) S B 112 #[.int .i64 (0), .int .i32 (49), .int .i32 (0), .int .i8 (0), .int .i32 (0), .int .i16 (0), .int .i32 (0), .int .i64 (0), .int .i64 (0), .int .i64 (0), .int .i16 (0), .int .i32 0, .int .i32 0, .slice none 0 0] (some (zz 8)) := hR.store hSB hBl 10 (.int .i16 (0))
  have HR := Lib.hid hR2
  clear hR hR2 g hr
  go_wp2_with fail
  refine (rI32 (st := some (zz 8)) (x := 0) (st' := some (zz 4)) HR.out.rd (by kernel_rfl)).mono ?_
  rintro e w12 ⟨rfl, hr, g⟩
  have hR := HR.out.read hBl g hr
  have hc : w12.cell? ⟨B, 11, none⟩ = some (.int .i32 0) := hR.cell 11
  have hf : w12.frozen? ⟨B, 11, none⟩ = false := hR.frozen 11
  have hR2 : Rs w (w12.setCell ⟨B, 11, none⟩ (.int .i32 (0))) S B 112 #[.int .i64 (0), .int .i32 (49), .int .i32 (0), .int .i8 (0), .int .i32 (0), .int .i16 (0), .int .i32 (0), .int .i64 (0), .int .i64 (0), .int .i64 (0), .int .i16 (0), .int .i32 (0), .int .i32 0, .slice none 0 0] (some (zz 4)) := hR.store hSB hBl 11 (.int .i32 (0))
  have HR := Lib.hid hR2
  clear hR hR2 g hr
  go_wp2_with fail
  refine (rI32 (st := some (zz 4)) (x := 0) (st' := some (zz 0)) HR.out.rd (by kernel_rfl)).mono ?_
  rintro e w13 ⟨rfl, hr, g⟩
  have hR := HR.out.read hBl g hr
  have hc : w13.cell? ⟨B, 12, none⟩ = some (.int .i32 0) := hR.cell 12
  have hf : w13.frozen? ⟨B, 12, none⟩ = false := hR.frozen 12
  have hR2 : Rs w (w13.setCell ⟨B, 12, none⟩ (.int .i32 (0))) S B 112 #[.int .i64 (0), .int .i32 (49), .int .i32 (0), .int .i8 (0), .int .i32 (0), .int .i16 (0), .int .i32 (0), .int .i64 (0), .int .i64 (0), .int .i64 (0), .int .i16 (0), .int .i32 (0), .int .i32 (0), .slice none 0 0] (some (zz 0)) := hR.store hSB hBl 12 (.int .i32 (0))
  have HR := Lib.hid hR2
  have hlen : (w13.setCell ⟨B, 12, none⟩ (.int .i32 (0))).cell? ⟨B, 1, none⟩ = some (.int .i32 49) := hR2.cell 1
  clear hR hR2 g hr
  go_wp2_with fail
  refine (rSpan (st := some (zz 0)) (n := 0) (l := []) (st' := some (zz 0)) HR.out.rd rfl (by decide) (by decide)).mono ?_
  rintro e w14 ⟨v13, rfl, hv, hr, g⟩
  obtain ⟨a13, c13, rfl⟩ := bytes_len hv
  have HV13 := Lib.hid hv
  have hR := HR.out.read hBl g hr
  have hc : w14.cell? ⟨B, 13, none⟩ = some (.slice none 0 0) := hR.cell 13
  have hf : w14.frozen? ⟨B, 13, none⟩ = false := hR.frozen 13
  have hR2 : Rs w (w14.setCell ⟨B, 13, none⟩ (.slice a13 0 c13)) S B 112 #[.int .i64 (0), .int .i32 (49), .int .i32 (0), .int .i8 (0), .int .i32 (0), .int .i16 (0), .int .i32 (0), .int .i64 (0), .int .i64 (0), .int .i64 (0), .int .i16 (0), .int .i32 (0), .int .i32 (0), .slice a13 0 c13] (some (zz 0)) := hR.store hSB hBl 13 (.slice a13 0 c13)
  have HR := Lib.hid hR2
  clear hR hR2 g hr hv
  have hE := HE.out.kept HR.out.grown (fun e => hBe (Option.some.inj e))
  go_wp2_with fail
  refine (Complete_any _ S w.heap.size _ HR.out.rd hE).mono ?_
  rintro e w99 ⟨u, rfl, hu, hw99⟩
  subst hw99
  have hu : u = .nilIface := hu
  subst hu
  clear hE
  go_wp2
  go_ret
  exact ⟨_, rfl, HR.out.grown, HR.out.row, nil_s HV13.out HSS.out HR.out.grown⟩
theorem batchReadFrom (w : World) (S : Nat → Prop) (B : Nat) (p : Option Addr) (c : Nat) (hB : w.heap[B]? = some (.cells #[.int .i64 0, .int .i32 0, .int .i32 0, .int .i8 0, .int .i32 0, .int .i16 0, .int .i32 0, .int .i64 0, .int .i64 0, .int .i64 0, .int .i16 0, .int .i32 0, .int .i32 0, .slice none 0 0] 112 (0, 0))) (h : BytesAt w S (.slice p 61 c) ([0, 0, 0, 0, 0, 0, 0, 0, 0, 0, 0, 49, 0, 0, 0, 0, 0, 0, 0, 0, 0, 0, 0, 0, 0, 0, 0, 0, 0, 0, 0, 0, 0, 0, 0, 0, 0, 0, 0, 0, 0, 0, 0, 0, 0, 0, 0, 0, 0, 0, 0, 0, 0, 0, 0, 0, 0, 0, 0, 0, 0])) (hSB : ¬ S B) (hS : ∀ g, S g → g < w.heap.size) (he : ErrOk w) (hBe : B ≠ 0) :
    Calls Tryd.prog 53 #[.pointer (some ⟨B, 0, none⟩), .slice p 61 c] w fun e w' => ∃ v13 : Value, e = .returned .nilIface ∧ w.grownBy w' (some B) ∧ w'.heap[B]? = some (.cells #[.int .i64 (0), .int .i32 (49), .int .i32 (0), .int .i8 (0), .int .i32 (0), .int .i16 (0), .int .i32 (0), .int .i64 (0), .int .i64 (0), .int .i64 (0), .int .i16 (0), .int .i32 (0), .int .i32 (0), v13] 112 (0, 0)) ∧ BytesAt w' S v13 [] := by
  have HH := Lib.hid (batchreadFrom w S B p c hB h hSB hS he hBe)
  clear hB h he
  go_enter Tryd.func53, Tryd.ntmps53
  go_wp2_with fail
  refine HH.out.mono ?_
  rintro e w1 ⟨v13, rfl, hr⟩
  have HR := Lib.hid hr
  clear hr
  go_wp2
  go_ret
  exact ⟨_, rfl, HR.out⟩
end Go.Proofs.YthdfhnnoamlacaaDoor.Rec
