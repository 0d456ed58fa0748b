/-
  Records: a record of nothing is read. Conditions: none.
-/
import Derived.Test.YthdfhnnoamlacaaDoorQm
namespace Go.Proofs.YthdfhnnoamlacaaDoor.Rec
open Go.Proofs.YthdfhnnoamlacaaDoor
open Go.RowKit (Below wrap64 wrap32)
open Kz

set_option maxRecDepth 8000 in
set_option maxHeartbeats 800000 in
theorem uvarlong0 (w : World) (g o n c : Nat) (hn : 1 ≤ n) (d0 : w.cell? ⟨g, o, none⟩ = some (.int .u8 0)) :
    Calls Tryd.prog 85 #[.slice (some ⟨g, o, none⟩) n c] w fun e w' => e = .returned (.tuple #[.int .u64 0, .int .i64 1]) ∧ w = w' := by
  have t0 : (bits BinOp.and IntKind.u8 0 128 == 0) = true := by kernel_rfl
  have t1 : bits BinOp.and IntKind.u8 0 127 = 0 := by kernel_rfl
  have t2 : IntKind.u64.wrap 0 = 0 := by kernel_rfl
  go_enter Tryd.func85, Tryd.ntmps85
  go_wp2
  go_step3
  go_wp2
  rw [Exit.noGoto_ret]
  go_ret2
  exact ⟨rfl, rfl⟩
theorem Varlong0 (w : World) (g o n c : Nat) (hn : 1 ≤ n) (d0 : w.cell? ⟨g, o, none⟩ = some (.int .u8 0)) :
    Calls Tryd.prog 83 #[.slice (some ⟨g, o, none⟩) n c] w fun e w' => e = .returned (.tuple #[.int .i64 0, .int .i64 1]) ∧ w = w' := by
  have t1 : bits BinOp.and IntKind.u64 0 1 = 0 := by kernel_rfl
  have t2 : IntKind.u64.wrap 0 = 0 := by kernel_rfl
  have t3 : bits BinOp.xor IntKind.u64 0 0 = 0 := by kernel_rfl
  have t4 : RowKit.wrap64 0 = 0 := by kernel_rfl
  go_enter Tryd.func83, Tryd.ntmps83
  go_wp2_with fail
  refine (uvarlong0 w g o n c hn d0).mono ?_
  rintro e w' ⟨rfl, rfl⟩
  go_wp2
  go_ret2
  exact ⟨rfl, rfl⟩
theorem RVarlong0 (w : World) (S : Nat → Prop) (rb : Nat) (r : List UInt8) (h : RdIs w S rb (some (0 :: r))) : Calls Tryd.prog 76 #[.pointer (some ⟨rb, 0, none⟩)] w fun e w' =>
    e = .returned (.int .i64 0) ∧ RdIs w' S rb (some r) ∧ w.grownBy w' (some rb) := by
  obtain ⟨v, hv, hb, h0, c0, c1, f0, f1⟩ := rd_parts h
  rcases hb with ⟨-, h⟩ | ⟨g, o, c, rfl, h2, h3, h4, h5, h6⟩
  · cases h
  have H := Lib.hid (Varlong0 w g o (0 :: r : List UInt8).length c (by simp) (h6 0 0 rfl))
  have hd := BytesAt.drop (S := S) 1 (by simp) rfl h2 h3 h4 h5 h6
  have HD := Lib.hid hd
  have HV := Lib.hid hv
  rw [List.length_cons] at c0 H h2 HD HV
  have t0 : decide ((1 : Int) ≤ 0) = false := by decide
  clear hd h6 hv h
  by_cases hne : c = 1
  · subst hne
    obtain rfl : r = [] := by simpa using h2
    go_enter Tryd.func76, Tryd.ntmps76
    go_wp2_with fail
    refine H.out.mono ?_
    rintro e w' ⟨rfl, rfl⟩
    go_wp2
    go_ret
    have ho := rd_on h0 (grownBy_refl _ _) HV.out (HD.out _ (.inr ⟨by trivial, rfl⟩))
    exact ⟨rfl, ho⟩
  · go_enter Tryd.func76, Tryd.ntmps76
    go_wp2_with fail
    refine H.out.mono ?_
    rintro e w' ⟨rfl, rfl⟩
    go_wp2
    go_ret
    have ho := rd_on h0 (grownBy_refl _ _) HV.out (HD.out _ (.inl rfl))
    exact ⟨rfl, ho⟩
theorem rVar {w : World} {S : Nat → Prop} {rb : Nat} {st st' : St} {n : Nat} (h : RdIs w S rb st) (e : rdV st = (n, st')) : Calls Tryd.prog 59 #[.pointer (some ⟨rb, 0, none⟩)] w fun e w' => e = .returned (.int .i32 (zig n)) ∧ RdIs w' S rb st' ∧ w.grownBy w' (some rb) := by
  have := RVarint_any w S rb st h
  rw [e] at this
  exact this.mono fun _ _ ⟨a, b, c, _⟩ => ⟨a, b, c⟩
theorem rVB0 {w : World} {S : Nat → Prop} {rb : Nat} {r : List UInt8} (h : RdIs w S rb (some (0 :: r))) : Calls Tryd.prog 44 #[.pointer (some ⟨rb, 0, none⟩)] w fun e w' => ∃ v, e = .returned v ∧ BytesAt w' S v [] ∧ RdIs w' S rb (some r) ∧ w.grownBy w' (some rb) := by
  have := VarintBytes_any w S rb (some (0 :: r)) h
  have e : rdVB (some (0 :: r)) = (some [], some r) := by
    have e1 : rdV (some (0 :: r)) = (0, some r) := rfl
    have e2 : zig 0 = 0 := rfl
    unfold rdVB
    rw [e1, e2, if_neg (by decide)]
    simp [rdSpan]
  rw [e] at this
  exact this.mono fun _ _ ⟨v, a, b, c, d⟩ => ⟨v, a, b.1, c, d⟩
theorem rVAL0 {w : World} {S : Nat → Prop} {rb : Nat} {r : List UInt8} (h : RdIs w S rb (some (0 :: r))) : Calls Tryd.prog 77 #[.pointer (some ⟨rb, 0, none⟩)] w fun e w' => e = .returned (.int .i32 0) ∧ RdIs w' S rb (some r) ∧ w.grownBy w' (some rb) := by
  have HV := Lib.hid (rVar h (n := 0) (st' := some r) rfl)
  have z0 : zig 0 = 0 := rfl
  rw [z0] at HV
  have t0 : decide ((r.length : Int) < 0) = false := by simp
  clear h z0
  go_enter Tryd.func77, Tryd.ntmps77
  go_wp2_with fail
  refine HV.out.mono ?_
  rintro e w1 ⟨rfl, h1, g1⟩
  obtain ⟨v, hv, hb, h0, c0, c1, f0, f1⟩ := rd_parts h1
  obtain ⟨ad, c, rfl⟩ := bytes_len hb
  have H1 := Lib.hid h1
  clear h1 hv hb
  go_wp2
  go_ret
  exact ⟨rfl, H1.out, g1⟩
set_option maxRecDepth 8000 in
set_option maxHeartbeats 4000000 in
theorem recreadFrom (w : World) (S : Nat → Prop) (B : Nat) (p : Option Addr) (c : Nat) (hB : w.heap[B]? = some (.cells #[.int .i32 0, .int .i8 0, .int .i32 0, .int .i64 0, .int .i32 0, .slice none 0 0, .slice none 0 0, .slice none 0 0] 110 (0, 0))) (h : BytesAt w S (.slice p 7 c) ([12, 0, 0, 0, 0, 0, 0])) (hSB : ¬ S B) (hS : ∀ g, S g → g < w.heap.size) (he : ErrOk w) (hBe : B ≠ 0) :
    Calls Tryd.prog 65 #[.pointer (some ⟨B, 0, none⟩), .slice p 7 c, .bool false] w fun e w' => ∃ v5 v6 : Value, e = .returned .nilIface ∧ w.grownBy w' (some B) ∧ w'.heap[B]? = some (.cells #[.int .i32 6, .int .i8 0, .int .i32 0, .int .i64 0, .int .i32 0, v5, v6, .slice none 0 0] 110 (0, 0)) ∧ BytesAt w' S v5 [] ∧ BytesAt w' S v6 [] := by
  have hBl : B < w.heap.size := (Array.getElem?_eq_some_iff.1 hB).1
  have HE := Lib.hid he
  have HR := Lib.hid (Rs.start hB h hS)
  have HSS := Lib.hid hS
  have z12 : zig 12 = 6 := rfl
  have z0 : zig 0 = 0 := rfl
  clear h hB he hS
  go_enter Tryd.func65, Tryd.ntmps65
  go_wp2_with fail
  refine (default_is Tryd.func75 rfl rfl _ _).mono ?_
  rintro e w' ⟨rfl, hw⟩
  have hw := hw.symm
  subst hw
  go_wp2_with fail
  refine (rVar (st := some ([12, 0, 0, 0, 0, 0, 0])) (n := 12) (st' := some ([0, 0, 0, 0, 0, 0])) HR.out.rd rfl).mono ?_
  rintro e w1 ⟨rfl, hr, g⟩
  have hR := HR.out.read hBl g hr
  have hc : w1.cell? ⟨B, 0, none⟩ = some (.int .i32 0) := hR.cell 0
  have hf : w1.frozen? ⟨B, 0, none⟩ = false := hR.frozen 0
  have hR2 : Rs w (w1.setCell ⟨B, 0, none⟩ (.int .i32 6)) S B 110 #[.int .i32 6, .int .i8 0, .int .i32 0, .int .i64 0, .int .i32 0, .slice none 0 0, .slice none 0 0, .slice none 0 0] (some ([0, 0, 0, 0, 0, 0])) := hR.store hSB hBl 0 (.int .i32 6)
  have HR := Lib.hid hR2
  clear hR hR2 g hr
  go_wp2_with fail
  refine (rI8 (st := some ([0, 0, 0, 0, 0, 0])) (x := 0) (st' := some ([0, 0, 0, 0, 0])) HR.out.rd (by kernel_rfl)).mono ?_
  rintro e w2 ⟨rfl, hr, g⟩
  have hR := HR.out.read hBl g hr
  have hc : w2.cell? ⟨B, 1, none⟩ = some (.int .i8 0) := hR.cell 1
  have hf : w2.frozen? ⟨B, 1, none⟩ = false := hR.frozen 1
  have hR2 : Rs w (w2.setCell ⟨B, 1, none⟩ (.int .i8 0)) S B 110 #[.int .i32 6, .int .i8 0, .int .i32 0, .int .i64 0, .int .i32 0, .slice none 0 0, .slice none 0 0, .slice none 0 0] (some ([0, 0, 0, 0, 0])) := hR.store hSB hBl 1 (.int .i8 0)
  have HR := Lib.hid hR2
  clear hR hR2 g hr
  go_wp2_with fail
  refine (RVarlong0 _ S _ ([0, 0, 0, 0]) HR.out.rd).mono ?_
  rintro e w3 ⟨rfl, hr, g⟩
  have hR := HR.out.read hBl g hr
  have hc : w3.cell? ⟨B, 3, none⟩ = some (.int .i64 0) := hR.cell 3
  have hf : w3.frozen? ⟨B, 3, none⟩ = false := hR.frozen 3
  have hc2 : w3.cell? ⟨B, 2, none⟩ = some (.int .i32 0) := hR.cell 2
  have hf2 : w3.frozen? ⟨B, 2, none⟩ = false := hR.frozen 2
  have e0 : RowKit.wrap32 0 = 0 := by kernel_rfl
  have hR2 : Rs w ((w3.setCell ⟨B, 3, none⟩ (.int .i64 0)).setCell ⟨B, 2, none⟩ (.int .i32 0)) S B 110 #[.int .i32 6, .int .i8 0, .int .i32 0, .int .i64 0, .int .i32 0, .slice none 0 0, .slice none 0 0, .slice none 0 0] (some ([0, 0, 0, 0])) := (hR.store hSB hBl 3 (.int .i64 0)).store hSB hBl 2 (.int .i32 0)
  have HR := Lib.hid hR2
  clear hR hR2 g hr
  go_wp2_with fail
  refine (rVar (st := some ([0, 0, 0, 0])) (n := 0) (st' := some ([0, 0, 0])) HR.out.rd rfl).mono ?_
  rintro e w4 ⟨rfl, hr, g⟩
  have hR := HR.out.read hBl g hr
  have hc : w4.cell? ⟨B, 4, none⟩ = some (.int .i32 0) := hR.cell 4
  have hf : w4.frozen? ⟨B, 4, none⟩ = false := hR.frozen 4
  have hR2 : Rs w (w4.setCell ⟨B, 4, none⟩ (.int .i32 0)) S B 110 #[.int .i32 6, .int .i8 0, .int .i32 0, .int .i64 0, .int .i32 0, .slice none 0 0, .slice none 0 0, .slice none 0 0] (some ([0, 0, 0])) := hR.store hSB hBl 4 (.int .i32 0)
  have HR := Lib.hid hR2
  clear hR hR2 g hr
  go_wp2_with fail
  refine (rVB0 (r := [0, 0]) HR.out.rd).mono ?_
  rintro e w5 ⟨v5, rfl, hv, hr, g⟩
  obtain ⟨a5, c5, rfl⟩ := bytes_len hv
  have HV5 := Lib.hid hv
  clear hv
  have hR := HR.out.read hBl g hr
  have hc : w5.cell? ⟨B, 5, none⟩ = some (.slice none 0 0) := hR.cell 5
  have hf : w5.frozen? ⟨B, 5, none⟩ = false := hR.frozen 5
  have hR2 : Rs w (w5.setCell ⟨B, 5, none⟩ (.slice a5 0 c5)) S B 110 #[.int .i32 6, .int .i8 0, .int .i32 0, .int .i64 0, .int .i32 0, .slice a5 0 c5, .slice none 0 0, .slice none 0 0] (some ([0, 0])) := hR.store hSB hBl 5 (.slice a5 0 c5)
  have HR := Lib.hid hR2
  clear hR hR2 g hr
  go_wp2_with fail
  refine (rVB0 (r := [0]) HR.out.rd).mono ?_
  rintro e w6 ⟨v6, rfl, hv, hr, g⟩
  obtain ⟨a6, c6, rfl⟩ := bytes_len hv
  have HV6 := Lib.hid hv
  clear hv
  have hR := HR.out.read hBl g hr
  have hc : w6.cell? ⟨B, 6, none⟩ = some (.slice none 0 0) := hR.cell 6
  have hf : w6.frozen? ⟨B, 6, none⟩ = false := hR.frozen 6
  have hR2 : Rs w (w6.setCell ⟨B, 6, none⟩ (.slice a6 0 c6)) S B 110 #[.int .i32 6, .int .i8 0, .int .i32 0, .int .i64 0, .int .i32 0, .slice a5 0 c5, .slice a6 0 c6, .slice none 0 0] (some ([0])) := hR.store hSB hBl 6 (.slice a6 0 c6)
  have HR := Lib.hid hR2
  have hl7 : (w6.setCell ⟨B, 6, none⟩ (.slice a6 0 c6)).cell? ⟨B, 7, none⟩ = some (.slice none 0 0) := hR2.cell 7
  clear hR hR2 g hr
  go_wp2_with fail
  refine (rVAL0 (r := []) HR.out.rd).mono ?_
  rintro e w7 ⟨rfl, hr, g⟩
  have hR := HR.out.read hBl g hr
  have HR := Lib.hid hR
  clear hR g hr
  go_wp2_with fail
  refine (Ok_any _ S w.heap.size _ HR.out.rd).mono ?_
  rintro e w9 ⟨rfl, hw9⟩
  subst hw9
  have hc7 : w7.cell? ⟨B, 7, none⟩ = some (.slice none 0 0) := HR.out.cell 7
  have hf7 : w7.frozen? ⟨B, 7, none⟩ = false := HR.out.frozen 7
  have HR2 := Lib.hid (HR.out.store hSB hBl 7 (.slice none 0 0))
  go_wp2_with fail
  refine wp_loop_rounds 1 ?_
  rw [rounds_succ]
  have hE := HE.out.kept HR2.out.grown (fun e => hBe (Option.some.inj e))
  go_wp2_with fail
  refine (Complete_any _ S w.heap.size _ HR2.out.rd hE).mono ?_
  rintro e w99 ⟨u, rfl, hu, hw99⟩
  subst hw99
  have hu : u = .nilIface := hu
  subst hu
  clear hE
  go_wp2
  go_ret
  exact ⟨_, _, rfl, HR2.out.grown, HR2.out.row, nil_s HV5.out HSS.out HR2.out.grown, nil_s HV6.out HSS.out HR2.out.grown⟩
theorem recReadFrom (w : World) (S : Nat → Prop) (B : Nat) (p : Option Addr) (c : Nat) (hB : w.heap[B]? = some (.cells #[.int .i32 0, .int .i8 0, .int .i32 0, .int .i64 0, .int .i32 0, .slice none 0 0, .slice none 0 0, .slice none 0 0] 110 (0, 0))) (h : BytesAt w S (.slice p 7 c) ([12, 0, 0, 0, 0, 0, 0])) (hSB : ¬ S B) (hS : ∀ g, S g → g < w.heap.size) (he : ErrOk w) (hBe : B ≠ 0) :
    Calls Tryd.prog 51 #[.pointer (some ⟨B, 0, none⟩), .slice p 7 c] w fun e w' => ∃ v5 v6 : Value, e = .returned .nilIface ∧ w.grownBy w' (some B) ∧ w'.heap[B]? = some (.cells #[.int .i32 6, .int .i8 0, .int .i32 0, .int .i64 0, .int .i32 0, v5, v6, .slice none 0 0] 110 (0, 0)) ∧ BytesAt w' S v5 [] ∧ BytesAt w' S v6 [] := by
  have HH := Lib.hid (recreadFrom w S B p c hB h hSB hS he hBe)
  clear hB h he
  go_enter Tryd.func51, Tryd.ntmps51
  go_wp2_with fail
  refine HH.out.mono ?_
  rintro e w1 ⟨v5, v6, rfl, hr⟩
  have HR := Lib.hid hr
  clear hr
  go_wp2
  go_ret
  exact ⟨_, _, rfl, HR.out⟩
end Go.Proofs.YthdfhnnoamlacaaDoor.Rec
