/-
  Records: what a member says, of nothing: written, read, told; a thing of nothing is read. Conditions: none.
-/
import Derived.Test.YthdfhnnoamlacaaDoorQo
namespace Go.Proofs.YthdfhnnoamlacaaDoor.Rec
open Go.Proofs.YthdfhnnoamlacaaDoor
open Go.RowKit (Below wrap64 wrap32)
open Go.Proofs.YthdfhnnoamlacaaDoorW Go.Proofs.YthdfhnnoamlacaaDoorW.PrintWords Go.Proofs.YthdfhnnoamlacaaDoorW.PrintMore Go.Proofs.YthdfhnnoamlacaaDoor.PFnAnyHeader
open Kz

theorem fixed04 (w : World) : Calls Tryd.prog 39 #[.int .i64 0, .int .i64 4] w fun e w' => ∃ v, e = .returned v ∧ OwnB w' w.heap.size v [0, 0, 0, 0] ∧ Below w.heap.size w w' := specFixed_any w 0 4 (by decide)
set_option maxRecDepth 8000 in
set_option maxHeartbeats 1000000 in
theorem StickyBytes0 (w : World) : Calls Tryd.prog 23 #[.agg #[.slice none 0 0, .int .i32 0]] w fun e w' => ∃ v, e = .returned v ∧ OwnB w' w.heap.size v (zz 8) ∧ Below w.heap.size w w' := by
  have e0 : IntKind.i64.wrap 0 = 0 := by kernel_rfl
  go_enter Tryd.func23, Tryd.ntmps23
  go_wp2_with fail
  refine (fixed04 _).mono ?_
  rintro e w1 ⟨v1, rfl, o1, b1⟩
  rw [size_alloc] at o1
  have hz : w1.heap[w.heap.size]? = some (.cells #[.slice none 0 0, .int .i32 0] 37 (0, 0)) := by
    rw [b1.block w.heap.size (by rw [size_alloc]; omega)]
    exact Array.getElem?_push_size
  have hb1 : Below w.heap.size w w1 := grown_below (grownBy_trans (grown_alloc _ _ none) (below_grown b1 none))
  have c0 : w1.cell? ⟨w.heap.size, 0, none⟩ = some (.slice none 0 0) := by rw [cell_of_row w1 _ _ _ _ _ hz]; rfl
  have c1 : w1.cell? ⟨w.heap.size, 1, none⟩ = some (.int .i32 0) := by rw [cell_of_row w1 _ _ _ _ _ hz]; rfl
  have hlt : w.heap.size < w1.heap.size := (Array.getElem?_eq_some_iff.1 hz).1
  have O1 := Lib.hid o1
  have B1 := Lib.hid hb1
  clear hz o1 b1 hb1
  go_wp2_with fail
  refine wp_loop_rounds 1 ?_
  rw [rounds_succ]
  go_wp2_with fail
  refine (fixed04 w1).mono ?_
  rintro e w2 ⟨v2, rfl, o2, b2⟩
  have O2 := Lib.hid (own_at_bytes o2)
  have O1b := Lib.hid (O1.out.stay b2)
  have B2 := Lib.hid (B1.out.trans (b2.lower (m := w.heap.size) B1.out.size))
  have t2 : w.heap.size + 1 ≤ w2.heap.size := by have := b2.size; omega
  clear o2 b2
  go_wp2_with (at_builtin; refine wpList_append_octets rfl _ _ rfl (w.heap.size + 1) _ _ [0, 0, 0, 0] [0, 0, 0, 0] Tr rfl rfl O1b.out O2.out (by decide) t2 ?_)
  intro v3 w3 o3 g3
  have O3 := Lib.hid (show OwnB w3 w.heap.size v3 (zz 8) from o3.low (base' := w.heap.size) (by omega))
  have B3 := Lib.hid (B2.out.trans ((below_growB O1b.out t2 g3).lower (m := w.heap.size) (by omega)))
  clear o3 g3
  go_wp2
  go_ret
  exact ⟨_, rfl, O3.out, B3.out⟩
theorem rAL {w : World} {S : Nat → Prop} {rb : Nat} {st st' : St} {n : Int} (h : RdIs w S rb st) (e : rdLen false st = (n, st')) : Calls Tryd.prog 54 #[.pointer (some ⟨rb, 0, none⟩)] w fun e w' => e = .returned (.int .i32 n) ∧ RdIs w' S rb st' ∧ w.grownBy w' (some rb) := by have := ArrayLen_any w S rb st h; rw [e] at this; exact this
set_option maxRecDepth 8000 in
set_option maxHeartbeats 1000000 in
theorem sreadFrom0 (w : World) (S : Nat → Prop) (B : Nat) (p : Option Addr) (c : Nat) (hB : w.heap[B]? = some (.cells #[.slice none 0 0, .int .i32 0] 64 (0, 0))) (h : BytesAt w S (.slice p 8 c) (zz 8)) (hSB : ¬ S B) (hS : ∀ g, S g → g < w.heap.size) (he : ErrOk w) (hBe : B ≠ 0) :
    Calls Tryd.prog 38 #[.pointer (some ⟨B, 0, none⟩), .slice p 8 c, .bool false] w fun e w' => e = .returned .nilIface ∧ w.grownBy w' (some B) ∧ w'.heap[B]? = some (.cells #[.slice none 0 0, .int .i32 0] 64 (0, 0)) := by
  have hBl : B < w.heap.size := (Array.getElem?_eq_some_iff.1 hB).1
  have HE := Lib.hid he
  have HR := Lib.hid (Rs.start hB h hS)
  clear h hB he hS
  go_enter Tryd.func38, Tryd.ntmps38
  go_wp2_with fail
  refine (rAL (st := some (zz 8)) (n := 0) (st' := some (zz 4)) HR.out.rd (by kernel_rfl)).mono ?_
  rintro e w1 ⟨rfl, hr, g⟩
  have hR := HR.out.read hBl g hr
  have hc0 : w1.cell? ⟨B, 0, none⟩ = some (.slice none 0 0) := hR.cell 0
  have hf0 : w1.frozen? ⟨B, 0, none⟩ = false := hR.frozen 0
  have hR2 : Rs w (w1.setCell ⟨B, 0, none⟩ (.slice none 0 0)) S B 64 #[.slice none 0 0, .int .i32 0] (some (zz 4)) := hR.store hSB hBl 0 (.slice none 0 0)
  obtain ⟨v, -, hb, -, d0, -, -, -⟩ := rd_parts hR2.rd
  obtain ⟨ad, k, rfl⟩ := bytes_len hb
  have d0 : (w1.setCell ⟨B, 0, none⟩ (.slice none 0 0)).cell? ⟨w.heap.size, 0, none⟩ = some (.slice ad 4 k) := d0
  have HR := Lib.hid hR2
  clear hR hR2 g hr hb
  have e0 : RowKit.wrap32 0 = 0 := by kernel_rfl
  go_wp2_with fail
  refine wp_loop_rounds 1 ?_
  rw [rounds_succ]
  go_wp2_with fail
  refine (rI32 (st := some (zz 4)) (x := 0) (st' := some (zz 0)) HR.out.rd (by kernel_rfl)).mono ?_
  rintro e w2 ⟨rfl, hr, g⟩
  have hR := HR.out.read hBl g hr
  have hc1 : w2.cell? ⟨B, 1, none⟩ = some (.int .i32 0) := hR.cell 1
  have hf1 : w2.frozen? ⟨B, 1, none⟩ = false := hR.frozen 1
  have hR2 : Rs w (w2.setCell ⟨B, 1, none⟩ (.int .i32 0)) S B 64 #[.slice none 0 0, .int .i32 0] (some (zz 0)) := hR.store hSB hBl 1 (.int .i32 0)
  have HR := Lib.hid hR2
  have hE := HE.out.kept HR.out.grown (fun e => hBe (Option.some.inj e))
  clear hR hR2 g hr
  go_wp2_with fail
  refine (Complete_any _ S w.heap.size _ HR.out.rd hE).mono ?_
  rintro e w99 ⟨u, rfl, hu, hw99⟩
  subst hw99
  have hu : u = .nilIface := hu
  subst hu
  clear hE
  go_wp2
  go_ret
  exact ⟨rfl, HR.out.grown, HR.out.row⟩
theorem sReadFrom0 (w : World) (S : Nat → Prop) (B : Nat) (p : Option Addr) (c : Nat) (hB : w.heap[B]? = some (.cells #[.slice none 0 0, .int .i32 0] 64 (0, 0))) (h : BytesAt w S (.slice p 8 c) (zz 8)) (hSB : ¬ S B) (hS : ∀ g, S g → g < w.heap.size) (he : ErrOk w) (hBe : B ≠ 0) :
    Calls Tryd.prog 21 #[.pointer (some ⟨B, 0, none⟩), .slice p 8 c] w fun e w' => e = .returned .nilIface ∧ w.grownBy w' (some B) ∧ w'.heap[B]? = some (.cells #[.slice none 0 0, .int .i32 0] 64 (0, 0)) := by
  have HH := Lib.hid (sreadFrom0 w S B p c hB h hSB hS he hBe)
  clear hB h he
  go_enter Tryd.func21, Tryd.ntmps21
  go_wp2_with fail
  refine HH.out.mono ?_
  rintro e w1 ⟨rfl, hr⟩
  have HR := Lib.hid hr
  clear hr
  go_wp2
  go_ret
  exact ⟨rfl, HR.out⟩
set_option maxRecDepth 8000 in
set_option maxHeartbeats 1000000 in
theorem tellsticky0 (w : World) (S : Nat → Prop) (p : Option Addr) (c : Nat) (h : BytesAt w S (.slice p 8 c) (zz 8)) (he : ErrOk w) :
    Calls Tryd.prog 10 #[.slice p 8 c] w fun e w' => e = .returned (.tuple #[.agg #[.slice none 0 0, .int .i32 0], .bool true]) ∧ Below w.heap.size w w' := by
  have HB := Lib.hid h
  have HE := Lib.hid he
  clear h he
  go_enter Tryd.func10, Tryd.ntmps10
  go_wp2_with fail
  refine (own_any _ S _ (zz 8) (HB.out.kept (grownBy_trans (grown_alloc _ _ none) (grown_alloc _ _ none)) (by simp)) (by decide)).mono ?_
  rintro e w1 ⟨v1, rfl, ho, hb1⟩
  rw [size_alloc, size_alloc] at ho
  obtain ⟨g1, r0, r1⟩ : w.grownBy w1 none ∧ w1.heap[w.heap.size]? = some (.cells #[.slice none 0 0, .int .i32 0] 37 (0, 0)) ∧ w1.heap[w.heap.size + 1]? = some (.cells #[.slice none 0 0, .int .i32 0] 64 (0, 0)) := by
    refine ⟨grownBy_trans (grownBy_trans (grown_alloc _ _ none) (grown_alloc _ _ none)) (below_grown hb1 none), ?_, ?_⟩
    · rw [hb1.block w.heap.size (by rw [size_alloc, size_alloc]; omega), (grown_alloc _ _ none).block w.heap.size (by rw [size_alloc]; omega) (by simp)]
      exact Array.getElem?_push_size
    · rw [hb1.block (w.heap.size + 1) (by rw [size_alloc, size_alloc]; omega)]
      have := Array.getElem?_push_size (xs := (w.alloc (.cells #[.slice none 0 0, .int .i32 0] 37)).heap) (x := Obj.cells #[.slice none 0 0, .int .i32 0] 64 (0, 0))
      rw [size_alloc] at this
      exact this
  obtain ⟨ad1, c1, rfl⟩ := bytes_len (own_bytes ho)
  have hS2 : ∀ g, (Value.slice ad1 (zz 8).length c1).ownBlock = some g → w.heap.size + 2 ≤ g ∧ g < w1.heap.size := fun g hg => World.ownsRow.lt ho g hg
  have HR := Lib.hid (sReadFrom0 w1 _ (w.heap.size + 1) ad1 c1 r1 (own_bytes ho) (fun h => by have := hS2 _ h; omega) (fun g hg => (hS2 g hg).2) (HE.out.kept g1 (by simp)) (by omega))
  have HG1 := Lib.hid g1
  have HR0 := Lib.hid r0
  clear ho hb1 g1 r0 r1 HB hS2
  go_wp2_with fail
  refine HR.out.mono ?_
  rintro e w2 ⟨rfl, g2, hB2⟩
  have s1 : w.heap.size ≤ w1.heap.size := HG1.out.size
  have r0 : w2.heap[w.heap.size]? = some (.cells #[.slice none 0 0, .int .i32 0] 37 (0, 0)) := by
    rw [g2.block w.heap.size ((Array.getElem?_eq_some_iff.1 HR0.out).1) (by simp)]
    exact HR0.out
  have HG2 := Lib.hid (grown_sub HG1.out g2 (by omega))
  have n0 : w2.cell? ⟨w.heap.size, 0, none⟩ = some (.slice none 0 0) := by rw [cell_of_row w2 _ _ _ _ _ r0]; rfl
  have n1 : w2.cell? ⟨w.heap.size, 1, none⟩ = some (.int .i32 0) := by rw [cell_of_row w2 _ _ _ _ _ r0]; rfl
  have f0 : w2.frozen? ⟨w.heap.size, 0, none⟩ = false := by simp [World.frozen?, r0]
  have f1 : w2.frozen? ⟨w.heap.size, 1, none⟩ = false := by simp [World.frozen?, r0]
  have m0 : w2.cell? ⟨w.heap.size + 1, 0, none⟩ = some (.slice none 0 0) := by rw [cell_of_row w2 _ _ _ _ _ hB2]; rfl
  have m1 : w2.cell? ⟨w.heap.size + 1, 1, none⟩ = some (.int .i32 0) := by rw [cell_of_row w2 _ _ _ _ _ hB2]; rfl
  have h12 : w.heap.size + 1 < w2.heap.size := (Array.getElem?_eq_some_iff.1 hB2).1
  have h10 : w.heap.size < w2.heap.size := by omega
  have RR0 := Lib.hid r0
  clear r0 g2 hB2 HR HR0
  go_wp2_with fail
  refine wp_loop_rounds 1 ?_
  rw [rounds_succ]
  go_wp2
  have hx := (grown_alloc ((w2.setCell ⟨w.heap.size, 0, none⟩ (.slice none 0 0)).setCell ⟨w.heap.size, 1, none⟩ (.int .i32 0)) (.cells #[.slice none 0 0, .int .i32 0] 37) none).block w.heap.size (Nat.lt_of_lt_of_le h10 (grown_setCell (grown_setCell (grownBy_refl w2 (some w.heap.size)) 0 _) 1 _).size) (by simp)
  rw [heap_setCell_row (heap_setCell_row RR0.out)] at hx
  have x0 := cell_of_row _ w.heap.size 0 _ _ _ hx
  have x1 := cell_of_row _ w.heap.size 1 _ _ _ hx
  simp at x0 x1
  refine bodyPost_ret (v := .tuple #[.agg #[.slice none 0 0, .int .i32 0], .bool true]) (by simp [results, Tryd.results10, go_sem, x0, x1]) rfl ?_
  refine ⟨rfl, grown_below ?_⟩
  exact grownBy_trans (grown_new (grown_new HG2.out _ _ _ (Nat.le_refl _)) _ _ _ (Nat.le_refl _)) (grown_alloc _ _ none)
end Go.Proofs.YthdfhnnoamlacaaDoor.Rec
