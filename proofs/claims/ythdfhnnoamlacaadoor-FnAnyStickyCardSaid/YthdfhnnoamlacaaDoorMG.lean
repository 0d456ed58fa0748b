/-
  Records: what members say is compared. Conditions: none.
  Records: the thin package tells what a member says. Conditions: none.
  Records: any octets as what a member says, the law's walk, where a thing of nothing is read. Conditions: a thing of nothing is read (Awake).
-/
import Derived.Test.YthdfhnnoamlacaaDoorMF
import Derived.Test.YthdfhnnoamlacaaDoorMB
import Derived.Deep.RegionHeld3
namespace Go.Proofs.YthdfhnnoamlacaaDoor.Rec
open Go.Proofs.YthdfhnnoamlacaaDoor
open Go.RowKit (Below wrap64 wrap32)
open Go.Proofs.YthdfhnnoamlacaaDoorW Go.Proofs.YthdfhnnoamlacaaDoorW.PrintWords Go.Proofs.YthdfhnnoamlacaaDoorW.PrintMore Go.Proofs.YthdfhnnoamlacaaDoor.PFnAnyHeader
open Kz

theorem sb_len (D : List Ow) (gen : Int) (hD : D.length ≤ 4096) (hx : ∀ x ∈ D, OwOk x) : (sb D gen).length ≤ 83910664 := by
  have h := obs_len D (fun x h => ⟨(hx x h).1, (hx x h).2.1⟩)
  have h2 : D.length * 20486 ≤ 4096 * 20486 := Nat.mul_le_mul_right _ hD
  unfold sb
  rw [List.length_append, List.length_append, fixed_len]
  split
  · simp only [List.length_nil]; omega
  · rw [fixed_len]; omega
theorem Same_any (w : World) (S S' : Nat → Prop) (v v' : Value) (a b : List UInt8) (ha : BytesAt w S v a) (hb : BytesAt w S' v' b) (hl : a.length < 4294967296) : Calls Tryd.prog 22 #[v, v'] w fun e w' => ∃ r, e = .returned (.bool r) ∧ (a = b → r = true) ∧ Below w.heap.size w w' := by
  obtain ⟨r, hr, ht⟩ := same_f (ns a) (ns b) (by rw [ns_len]; exact hl)
  obtain ⟨p, c, rfl⟩ := bytes_len ha
  obtain ⟨p', c', rfl⟩ := bytes_len hb
  obtain ⟨a1, a2, a3⟩ := c_bytes ha
  obtain ⟨b1, b2, b3⟩ := c_bytes hb
  rw [a1] at a2 a3 ⊢
  rw [b1] at b2 b3 ⊢
  refine (spec_Same.calls _ p c (ns a) p' c' (ns b) r w a3 a2 b3 b2 hr).mono ?_
  rintro e w' ⟨rfl, h⟩
  exact ⟨r, rfl, fun e => ht (by rw [e]), h.below⟩
theorem StickyB (w : World) (v : Value) (D : List Ow) (gen : Int) (h : OwAt w v D) (hg0 : -2147483648 ≤ gen) (hg1 : gen ≤ 2147483647) (hD : D.length ≤ 4096) (hx : ∀ x ∈ D, OwOk x) :
    Calls Tryd.prog 23 #[.agg #[v, .int .i32 gen]] w fun e w' => ∃ u, e = .returned u ∧ OwnB w' w.heap.size u (sb D gen) ∧ Below w.heap.size w w' := StickyBytes_any w v D gen h hg0 hg1 hD hx
/-- Members say the same, or not. -/
def SameIs (w : World) (Da Db : List Ow) (ga gb : Int) (e : Ending) (w' : World) : Prop := ∃ r, e = .returned (.bool r) ∧ (Da = Db ∧ ga = gb → r = true) ∧ Below w.heap.size w w'
set_option maxRecDepth 8000 in
set_option maxHeartbeats 1000000 in
theorem SameSticky_any (w : World) (va vb : Value) (Da Db : List Ow) (ga gb : Int) (ha : OwAt w va Da) (hb : OwAt w vb Db) (ha0 : -2147483648 ≤ ga) (ha1 : ga ≤ 2147483647) (hb0 : -2147483648 ≤ gb) (hb1 : gb ≤ 2147483647)
    (la : Da.length ≤ 4096) (lb : Db.length ≤ 4096) (xa : ∀ x ∈ Da, OwOk x) (xb : ∀ x ∈ Db, OwOk x) :
    Calls Tryd.prog 11 #[.agg #[va, .int .i32 ga], .agg #[vb, .int .i32 gb]] w (SameIs w Da Db ga gb) := by
  obtain ⟨p, c, rfl⟩ := ha.form
  obtain ⟨p', c', rfl⟩ := hb.form
  have HA := Lib.hid ha
  have HB := Lib.hid hb
  have XA := Lib.hid xa
  have XB := Lib.hid xb
  clear ha hb xa xb
  go_enter Tryd.func11, Tryd.ntmps11
  go_wp2_with fail
  generalize hW : (w.alloc (.cells #[.slice p Da.length c, .int .i32 ga] 37)).alloc (.cells #[.slice p' Db.length c', .int .i32 gb] 37) = W
  have hB : Below w.heap.size w W := by rw [← hW]; exact grown_below (grownBy_trans (grown_alloc _ _ none) (grown_alloc _ _ none))
  have hz0 : W.heap[w.heap.size]? = some (.cells #[.slice p Da.length c, .int .i32 ga] 37 (0, 0)) := by
    rw [← hW, (grown_alloc _ _ none).block w.heap.size (by rw [size_alloc]; omega) (by simp)]
    exact Array.getElem?_push_size
  have hz1 : W.heap[w.heap.size + 1]? = some (.cells #[.slice p' Db.length c', .int .i32 gb] 37 (0, 0)) := by
    rw [← hW]
    have := Array.getElem?_push_size (xs := (w.alloc (.cells #[.slice p Da.length c, .int .i32 ga] 37)).heap) (x := Obj.cells #[.slice p' Db.length c', .int .i32 gb] 37 (0, 0))
    rw [size_alloc] at this
    exact this
  have l1 : w.heap.size + 1 < W.heap.size := (Array.getElem?_eq_some_iff.1 hz1).1
  have l0 : w.heap.size < W.heap.size := by omega
  have y0 : ∀ j, W.cell? ⟨w.heap.size, j, none⟩ = (#[.slice p Da.length c, .int .i32 ga] : Array Value)[j]? := fun j => by rw [cell_of_row W _ _ _ _ _ hz0]
  have z0 : ∀ j, W.cell? ⟨w.heap.size + 1, j, none⟩ = (#[.slice p' Db.length c', .int .i32 gb] : Array Value)[j]? := fun j => by rw [cell_of_row W _ _ _ _ _ hz1]
  have y1 : ∀ j, W.drew.cell? ⟨w.heap.size, j, none⟩ = (#[.slice p Da.length c, .int .i32 ga] : Array Value)[j]? := y0
  have z1 : ∀ j, W.drew.cell? ⟨w.heap.size + 1, j, none⟩ = (#[.slice p' Db.length c', .int .i32 gb] : Array Value)[j]? := z0
  have HAW := Lib.hid (show OwAt W.drew (.slice p Da.length c) Da from HA.out.below (below_todrew hB))
  have HBW := Lib.hid (HB.out.below hB)
  have HW := Lib.hid hB
  have hsa := sb_len Da ga la XA.out
  clear hW hB hz0 hz1 HA HB
  by_cases hg : ga = gb
  · subst hg
    go_region_held3 (fun w' => (∀ j, w'.cell? ⟨w.heap.size, j, none⟩ = (#[.slice p Da.length c, .int .i32 ga] : Array Value)[j]?) ∧ (∀ j, w'.cell? ⟨w.heap.size + 1, j, none⟩ = (#[.slice p' Db.length c', .int .i32 ga] : Array Value)[j]?)) (first | exact ⟨y0, z0⟩ | exact ⟨y1, z1⟩ | exact ⟨y2, z2⟩ | exact ⟨y3, z3⟩ | exact ⟨y4, z4⟩) (first
      | (go_at_call 23; (with_reducible refine (StickyB W.drew (.slice p Da.length c) Da ga HAW.out ha0 ha1 la XA.out).mono ?_); rintro e w2 ⟨v2, rfl, o2, b2'⟩; have b2 : Below W.heap.size W w2 := below_undrew b2';
         have y2 := fun j => ((bcell b2).1 w.heap.size j l0).trans (y0 j); have z2 := fun j => ((bcell b2).1 (w.heap.size + 1) j l1).trans (z0 j); have s2 := b2.size; have l2 : w.heap.size < w2.heap.size := (by omega); have l3 : w.heap.size + 1 < w2.heap.size := (by omega);
         have H2 := Lib.hid o2; have B2 := Lib.hid b2; clear b2' b2 o2)
      | (go_at_call 23; (with_reducible refine (StickyB w2 (.slice p' Db.length c') Db ga (HBW.out.below B2.out) ha0 ha1 lb XB.out).mono ?_); rintro e w3 ⟨v3, rfl, o3, b3⟩;
         have y3 := fun j => ((bcell b3).1 w.heap.size j l2).trans (y2 j); have z3 := fun j => ((bcell b3).1 (w.heap.size + 1) j l3).trans (z2 j); have s3 := b3.size; have l4 : w.heap.size < w3.heap.size := (by omega); have l5 : w.heap.size + 1 < w3.heap.size := (by omega);
         have H3 := Lib.hid o3; have H4 := Lib.hid (H2.out.stay b3); have B3 := Lib.hid (B2.out.trans (b3.lower (m := W.heap.size) s2)); clear b3 o3)
      | (go_at_call 22; (with_reducible refine (Same_any w3 _ _ v2 v3 _ _ (own_at_bytes H4.out) (own_at_bytes H3.out) (by omega)).mono ?_); rintro e w4 ⟨r, rfl, hr, b4⟩;
         have y4 := fun j => ((bcell b4).1 w.heap.size j l4).trans (y3 j); have z4 := fun j => ((bcell b4).1 (w.heap.size + 1) j l5).trans (z3 j);
         have HR := Lib.hid hr; have B4 := Lib.hid (B3.out.trans (b4.lower (m := W.heap.size) (by omega))); clear hr b4))
    go_wp2
    go_ret
    unfold SameIs
    exact ⟨r, rfl, fun h => HR.out (by rw [h.1]), HW.out.trans (B4.out.lower (m := w.heap.size) (by omega))⟩
  · have hg' : ((ga == gb) = false) := by simpa using hg
    go_region
    go_wp2
    go_ret
    unfold SameIs
    exact ⟨false, rfl, fun h => absurd h.2 hg, below_todrew HW.out⟩
end Go.Proofs.YthdfhnnoamlacaaDoor.Rec

namespace Go.Proofs.YthdfhnnoamlacaaDoor.Rec
open Go.Proofs.YthdfhnnoamlacaaDoor
open Go.RowKit
open Kz

theorem sReadFrom_any (w : World) (S : Nat → Prop) (B : Nat) (p : Option Addr) (c : Nat) (bs : List UInt8) (hB : w.heap[B]? = some (.cells #[.slice none 0 0, .int .i32 0] 64 (0, 0))) (h : BytesAt w S (.slice p bs.length c) bs) (hSB : ¬ S B) (hS : ∀ g, S g → g < w.heap.size) (he : ErrOk w) (hBe : B ≠ 0) (hl : bs.length ≤ 4096) :
    Calls Tryd.prog 21 #[.pointer (some ⟨B, 0, none⟩), .slice p bs.length c] w fun e w' => ∃ u v, e = .returned u ∧ ErrV (pSticky bs).2 u ∧ w.grownBy w' (some B) ∧ w'.heap[B]? = some (.cells #[v, .int .i32 (pSticky bs).1.2] 64 (0, 0)) ∧ OwAt w' v (pSticky bs).1.1 := by
  have HH := Lib.hid (sreadFrom_any w S B p c bs hB h hSB hS he hBe hl)
  clear hB h he
  go_enter Tryd.func21, Tryd.ntmps21
  go_wp2_with fail
  refine HH.out.mono ?_
  rintro e w1 ⟨u, v, rfl, hr⟩
  have HR := Lib.hid hr
  clear hr
  go_wp2
  go_ret
  exact ⟨_, _, rfl, HR.out⟩
/-- A topic is put behind one's own row of topics. -/
theorem append_ow {w : World} {base : Nat} {v : Value} {D : List Ow} {t : List UInt8} {au : Option Addr} {cu : Nat} {l : List Int} {g c : Nat} {ty : TypeId} (hown : OwD w base v D) (h0 : w.cell? ⟨g, 0, none⟩ = some (strV t)) (h1 : w.cell? ⟨g, 1, none⟩ = some (.slice au l.length cu))
    (hu : PaO w base (.slice au l.length cu) l) (hD : D.length ≤ 2147483647) (hbase : base ≤ w.heap.size) :
    ∃ v' w', (Builtin.append_ #[35, 35] ty #[v, .slice (some ⟨g, 0, none⟩) 1 c]).run Tryd.prog w = .ok v' w' ∧ OwD w' base v' (D ++ [(t, l)]) ∧ w.grownBy w' v.ownBlock := by
  obtain ⟨us, e1, e2, e3⟩ := hown
  obtain ⟨i, hi, hz, hsz, hby⟩ := info_parts i61
  obtain ⟨v', w', h, g1, g2, -⟩ := run_append_own (P := Tryd.prog) w base 35 ty 61 i _ 2 40 Tryd.underlying35 hi hz hsz hby rfl (by decide) v D.length _ e2 ⟨g, 0, none⟩ 1 c [strV t, .slice au l.length cu] rfl (by
    intro j u hj
    match j, hj with
    | 0, hj => simp only [List.getElem?_cons_zero, Option.some.injEq] at hj; subst hj; exact h0
    | 1, hj => simp only [List.getElem?_cons_succ, List.getElem?_cons_zero, Option.some.injEq] at hj; subst hj; exact h1
    | j + 2, hj => simp at hj) (by
    intro u hu
    simp only [List.mem_cons, List.not_mem_nil, or_false] at hu
    rcases hu with rfl | rfl <;> rfl) (by simp only [maxLen]; omega) (by omega) hbase
  refine ⟨v', w', h, ⟨us ++ [.slice au l.length cu], by simp [e1], ?_, ?_⟩, g2⟩
  · rw [List.zip_append e1.symm, List.flatMap_append, List.length_append]
    exact g1
  · intro i y u hy hu'
    have kp : ∀ {z : Value} {ps : List Int}, PaO w base z ps → PaO w' base z ps := fun hz => World.ownsRow.kept hz g2 (rows_ne hz e2 (by decide))
    by_cases hi' : i < D.length
    · rw [List.getElem?_append_left hi'] at hy
      rw [List.getElem?_append_left (by omega)] at hu'
      exact kp (e3 i y u hy hu')
    · rw [List.getElem?_append_right (by omega)] at hy
      rw [List.getElem?_append_right (by omega)] at hu'
      rw [e1] at hu'
      generalize i - D.length = k at *
      match k, hy, hu' with
      | 0, hy, hu' => simp only [List.getElem?_cons_zero, Option.some.injEq] at hy hu'; subst hy; subst hu'; exact kp hu
      | k + 1, hy, hu' => simp at hy
theorem step_append_ow {ops : Array Oper} {o : Oper} {a : Act} {w : World} {K : Act → World → Prop} {Q : Exit → Act → World → Prop} {E : Prop} (hgd : o.guard = none) (s x : Operand)
    (ho : o.op = .call { callee := .builtin .append, args := #[s, x], argTypes := #[35, 35] }) (base : Nat) (v : Value) (D : List Ow) (t : List UInt8) (au : Option Addr) (cu : Nat) (l : List Int) (hs : a.eval s = v) (g c : Nat) (hx : a.eval x = .slice (some ⟨g, 0, none⟩) 1 c)
    (hown : OwD w base v D) (h0 : w.cell? ⟨g, 0, none⟩ = some (strV t)) (h1 : w.cell? ⟨g, 1, none⟩ = some (.slice au l.length cu)) (hu : PaO w base (.slice au l.length cu) l) (hD : D.length ≤ 2147483647) (hbase : base ≤ w.heap.size)
    (hk : ∀ v' w', OwD w' base v' (D ++ [(t, l)]) → w.grownBy w' v.ownBlock → K (a.put o.dst v') w') :
    if Region.wanted o (yielded ops a.tmps) = true then Oper.wp Tryd.prog o a w K Q else E := by
  have hw : Region.wanted o (yielded ops a.tmps) = true := by simp [Region.wanted, hgd]
  rw [if_pos hw]
  obtain ⟨v', w', h1, h2, h3⟩ := append_ow (ty := o.type) (c := c) hown h0 h1 hu hD hbase
  exact Lib.wp_append_run w s x _ _ ho _ _ hs hx v' w' h1 (hk v' w' h2 h3)
/-- The world while the topics are told: the list's variable is the first block behind w2. -/
structure TS (w2 wx : World) (gen : Int) (x : Value) (D : List Ow) : Prop where
  row : wx.heap[w2.heap.size]? = some (.cells #[x, .int .i32 gen] 37 (0, 0))
  own : OwD wx (w2.heap.size + 1) x D
  bel : Below w2.heap.size w2 wx
theorem OwD.ge {w : World} {base : Nat} {v : Value} {D : List Ow} (h : OwD w base v D) : ∀ k, v.ownBlock = some k → base ≤ k := fun k hk => by
  obtain ⟨us, -, h, -⟩ := h
  exact (World.ownsRow.lt h k hk).1
theorem TS.row4 {w2 wx w3 w4 : World} {gen : Int} {x : Value} {D : List Ow} (h : TS w2 wx gen x D) (h3 : wx.grownBy w3 none) (hg : w3.grownBy w4 x.ownBlock) : w4.heap[w2.heap.size]? = some (.cells #[x, .int .i32 gen] 37 (0, 0)) := by
  have hl := (Array.getElem?_eq_some_iff.1 h.row).1
  rw [hg.block _ (Nat.lt_of_lt_of_le hl h3.size) (fun e => by have := h.own.ge _ e.symm; omega), h3.block _ hl (by simp)]
  exact h.row
theorem TS.put {w2 wx w3 w4 : World} {gen : Int} {x v : Value} {D D' : List Ow} (h : TS w2 wx gen x D) (h3 : wx.grownBy w3 none) (hg : w3.grownBy w4 x.ownBlock) (ho : OwD w4 (w2.heap.size + 1) v D') : TS w2 (w4.setCell ⟨w2.heap.size, 0, none⟩ v) gen v D' := by
  have hr := h.row4 h3 hg
  have hl := (Array.getElem?_eq_some_iff.1 h.row).1
  have hs : w4.grownBy (w4.setCell ⟨w2.heap.size, 0, none⟩ v) (some w2.heap.size) := grown_setCell (grownBy_refl _ _) _ _
  refine ⟨?_, ho.kept hs (fun k e => by have := Option.some.inj e; omega), ?_⟩
  · have := heap_setCell_row (o := 0) (u := v) hr
    exact this
  · exact ⟨hs.os.trans (hg.os.trans (h3.os.trans h.bel.os)), hs.tape.trans (hg.tape.trans (h3.tape.trans h.bel.tape)), hs.output.trans (hg.output.trans (h3.output.trans h.bel.output)), Nat.le_trans h.bel.size (Nat.le_trans h3.size (Nat.le_trans hg.size hs.size)), fun k hk => by
      have e1 := h.bel.size
      have e2 := h3.size
      have e3 := hg.size
      rw [hs.block k (by omega) (by simp; omega), hg.block k (by omega) (fun e => by have := h.own.ge _ e.symm; omega), h3.block k (by omega) (by simp)]
      exact h.bel.block k hk⟩
/-- What the thin package tells. -/
def TellsSticky (w : World) (bs : List UInt8) (e : Ending) (w' : World) : Prop :=
  ∃ u, (match (pSticky bs).2 with
    | some _ => e = .returned (.tuple #[.agg #[u, .int .i32 (pSticky bs).1.2], .bool true]) ∧ OwAt w' u (pSticky bs).1.1
    | none => e = .returned (.tuple #[.agg #[u, .int .i32 0], .bool false]) ∧ u = .slice none 0 0) ∧ Below w.heap.size w w'
set_option maxRecDepth 8000 in
set_option maxHeartbeats 4000000 in
theorem TellSticky_any (w : World) (S : Nat → Prop) (v : Value) (bs : List UInt8) (h : BytesAt w S v bs) (hl : bs.length ≤ 4096) (he : ErrOk w) : Calls Tryd.prog 10 #[v] w (TellsSticky w bs) := by
  obtain ⟨p, c, rfl⟩ := bytes_len h
  have HB := Lib.hid h
  have HE := Lib.hid he
  clear h he
  go_enter Tryd.func10, Tryd.ntmps10
  go_wp2_with fail
  refine (own_any _ S _ bs (HB.out.kept (grownBy_trans (grown_alloc _ _ none) (grown_alloc _ _ none)) (by simp)) (by omega)).mono ?_
  rintro e w1 ⟨v1, rfl, ho, hb1⟩
  rw [size_alloc, size_alloc] at ho
  obtain ⟨g1, r0, r1⟩ : w.grownBy w1 none ∧ w1.heap[w.heap.size]? = some (.cells #[.slice none 0 0, .int .i32 0] 37 (0, 0)) ∧ w1.heap[w.heap.size + 1]? = some (.cells #[.slice none 0 0, .int .i32 0] 64 (0, 0)) := by
    refine ⟨grownBy_trans (grownBy_trans (grown_alloc _ _ none) (grown_alloc _ _ none)) (below_grown hb1 none), ?_, ?_⟩
    · rw [hb1.block w.heap.size (by rw [size_alloc, size_alloc]; omega), (grown_alloc _ _ none).block w.heap.size (by rw [size_alloc]; omega) (by simp)]
      exact Array.getElem?_push_size
    · rw [hb1.block (w.heap.size + 1) (by rw [size_alloc, size_alloc]; omega)]
      have := Array.getElem?_push_size (xs := (w.alloc (.cells #[.slice none 0 0, .int .i32 0] 37)).heap) (x := Obj.cells #[.slice none 0 0, .int .i32 0] 64 (0, 0))
      rw [size_alloc] at this
      exact this
  obtain ⟨ad1, c1, rfl⟩ := bytes_len (own_bytes ho)
  have hS2 : ∀ g, (Value.slice ad1 bs.length c1).ownBlock = some g → w.heap.size + 2 ≤ g ∧ g < w1.heap.size := fun g hg => World.ownsRow.lt ho g hg
  have HR := Lib.hid (sReadFrom_any w1 _ (w.heap.size + 1) ad1 c1 bs r1 (own_bytes ho) (fun h => by have := hS2 _ h; omega) (fun g hg => (hS2 g hg).2) (HE.out.kept g1 (by simp)) (by omega) hl)
  have HG1 := Lib.hid g1
  have HR0 := Lib.hid r0
  clear ho hb1 g1 r0 r1 HB hS2
  go_wp2_with fail
  refine HR.out.mono ?_
  rintro e w2 ⟨u, v, rfl, hu, g2, hB2, hO2⟩
  have s1 : w.heap.size ≤ w1.heap.size := HG1.out.size
  have r0 : w2.heap[w.heap.size]? = some (.cells #[.slice none 0 0, .int .i32 0] 37 (0, 0)) := by
    rw [g2.block w.heap.size ((Array.getElem?_eq_some_iff.1 HR0.out).1) (by simp)]
    exact HR0.out
  have HG2 := Lib.hid (grown_sub HG1.out g2 (by omega))
  have n0 : w2.cell? ⟨w.heap.size, 0, none⟩ = some (.slice none 0 0) := by rw [cell_of_row w2 _ _ _ _ _ r0]; rfl
  have n1 : w2.cell? ⟨w.heap.size, 1, none⟩ = some (.int .i32 0) := by rw [cell_of_row w2 _ _ _ _ _ r0]; rfl
  have f0 : w2.frozen? ⟨w.heap.size, 0, none⟩ = false := by simp [World.frozen?, r0]
  have f1 : w2.frozen? ⟨w.heap.size, 1, none⟩ = false := by simp [World.frozen?, r0]
  have HB2 := Lib.hid hB2
  have HR2 := Lib.hid r0
  have hDl : (pSticky bs).1.1.length ≤ 4096 := (pSticky_ok bs hl).1
  obtain ⟨⟨⟨D, gen⟩, s⟩, hr⟩ : ∃ r, pSticky bs = r := ⟨_, rfl⟩
  have HRR := Lib.hid hr
  rw [hr] at hu hO2 HB2 hDl
  simp only at hu hO2 hDl
  have HO2 := Lib.hid hO2
  obtain ⟨av, cv, rfl⟩ := hO2.form
  clear hr r0 g2 hB2 HR HR0 hO2
  cases s with
  | none =>
    obtain ⟨t, y, rfl⟩ := hu
    go_wp2
    refine bodyPost_ret (v := .tuple #[.agg #[.slice none 0 0, .int .i32 0], .bool false]) (by simp [results, Tryd.results10, go_sem, n0, n1]) rfl ?_
    unfold TellsSticky
    rw [HRR.out]
    exact ⟨_, ⟨rfl, rfl⟩, grown_below (grown_new (grown_new HG2.out _ _ _ (Nat.le_refl _)) _ _ _ (Nat.le_refl _))⟩
  | some rest =>
    have hu : u = .nilIface := hu
    subst hu
    have y0 : w2.cell? ⟨w.heap.size + 1, 0, none⟩ = some (.slice av D.length cv) := by rw [cell_of_row w2 _ _ _ _ _ HB2.out]; rfl
    have y1 : w2.cell? ⟨w.heap.size + 1, 1, none⟩ = some (.int .i32 gen) := by rw [cell_of_row w2 _ _ _ _ _ HB2.out]; rfl
    have s2 := HG2.out.size
    have h12 : w.heap.size + 1 < w2.heap.size := (Array.getElem?_eq_some_iff.1 HB2.out).1
    go_wp2_with fail
    generalize hW : w2.alloc (.cells #[.slice none 0 0, .int .i32 gen] 37) = W
    have hT0 : TS w2 W gen (.slice none 0 0) [] := by
      rw [← hW]
      exact ⟨Array.getElem?_push_size, ⟨[], rfl, World.ownsRow_nil _ _ _ _, fun i x u h => by simp at h⟩, (Below.refl _ _).alloc (Nat.le_refl _) _⟩
    have HT0 := Lib.hid hT0
    clear hW hT0
    go_loopw [19] (fun i wx => ∃ (j : Nat) (x : Value), i = .int .i64 (j : Int) ∧ j ≤ D.length ∧ TS w2 wx gen x (D.take j)) (fun i _ => D.length - (intOf i).toNat)
    case atStart => exact ⟨0, _, rfl, Nat.zero_le _, by simpa using HT0.out⟩
    case round =>
      obtain ⟨j, x, rfl, hj, hts⟩ := hrel
      obtain ⟨ax, cx, rfl⟩ : ∃ a c, x = .slice a j c := by
        obtain ⟨a, c, e⟩ := hts.own.form
        exact ⟨a, c, by rw [e, List.length_take, Nat.min_eq_left hj]⟩
      have hbl := hts.bel
      have hO := hts.row
      have lO := (Array.getElem?_eq_some_iff.1 hO).1
      by_cases hjl : j < D.length
      · have hji : (j : Int) < (D.length : Int) := by omega
        obtain ⟨⟨t, ps⟩, hx⟩ : ∃ x, D[j]? = some x := ⟨D[j], List.getElem?_eq_getElem hjl⟩
        obtain ⟨g, c5, ea, hg, hcell⟩ : ∃ g c, av = some ⟨g, 0, none⟩ ∧ g < w2.heap.size ∧ _ := by
          rcases HO2.out with ⟨-, h⟩ | ⟨g, c, h1, h2, h3⟩
          · rw [h] at hjl; simp at hjl
          · simp only [Value.slice.injEq] at h1
            exact ⟨g, c, h1.1, h2, h3⟩
        subst ea
        obtain ⟨e0, u5, e1, hpa⟩ := hcell j _ hx
        rw [← (bcell hbl).1 _ _ hg] at e0 e1
        obtain ⟨ap, cp, rfl⟩ := hpa.form
        have hstep : D.take (j + 1) = D.take j ++ [(t, ps)] := by rw [List.take_add_one, hx]; rfl
        have hpl : ps.length ≤ 4096 := by
          have := (pSticky_ok bs hl).2.1
          rw [HRR.out] at this
          exact (this _ (List.mem_of_getElem? hx)).2.1
        have q0 : wr.cell? ⟨w2.heap.size, 0, none⟩ = some (.slice ax j cx) := by rw [cell_of_row wr _ _ _ _ _ hO]; rfl
        have K1 := Lib.hid hts
        have K4 := Lib.hid hstep
        have K5 := Lib.hid (hpa.below (hbl))
        simp only at e0
        clear hcell hpa hts hstep hx hO hbl
        go_wp2_with fail
        generalize hV : wr.alloc (.cells #[.string ⟨t.toArray⟩, .slice ap ps.length cp] 66) = V
        have hVB : Below wr.heap.size wr V := by rw [← hV]; exact (Below.refl _ _).alloc (Nat.le_refl _) _
        have hVz : V.heap[wr.heap.size]? = some (.cells #[.string ⟨t.toArray⟩, .slice ap ps.length cp] 66 (0, 0)) := by rw [← hV]; exact Array.getElem?_push_size
        have lV := (Array.getElem?_eq_some_iff.1 hVz).1
        have t0 : V.cell? ⟨wr.heap.size, 0, none⟩ = some (.string ⟨t.toArray⟩) := by rw [cell_of_row V _ _ _ _ _ hVz]; rfl
        have t1 : V.cell? ⟨wr.heap.size, 1, none⟩ = some (.slice ap ps.length cp) := by rw [cell_of_row V _ _ _ _ _ hVz]; rfl
        have v0 : V.cell? ⟨w2.heap.size, 0, none⟩ = some (.slice ax j cx) := ((bcell hVB).1 w2.heap.size 0 lO).trans q0
        have t0' : V.drew.cell? ⟨wr.heap.size, 0, none⟩ = some (.string ⟨t.toArray⟩) := t0
        have t1' : V.drew.cell? ⟨wr.heap.size, 1, none⟩ = some (.slice ap ps.length cp) := t1
        have v0' : V.drew.cell? ⟨w2.heap.size, 0, none⟩ = some (.slice ax j cx) := v0
        have KP := Lib.hid (show PaAt V.drew (.slice ap ps.length cp) ps from (K5.out.below (below_todrew hVB)))
        have KV := Lib.hid (below_grown hVB none)
        have lD : (D.take j).length ≤ 4096 := by rw [List.length_take]; omega
        clear hV hVB hVz
        go_region_law (first
          | (refine step_append_ints rfl (.const (.slice none 0 0)) (.tmp 28) rfl (w2.heap.size + 1) (.slice none 0 0) (.slice ap ps.length cp) [] ps rfl rfl (World.ownsRow_nil _ _ _ _) KP.out (by simp only [List.length_nil]; omega) (show w2.heap.size + 1 ≤ V.heap.size by omega) (fun u3 w3 ho3 hg3 => ?_);
             obtain ⟨a3, c3, rfl⟩ : ∃ a c, u3 = .slice a ps.length c := ho3.form;
             have hg : V.grownBy w3 none := (show V.grownBy w3 none from ⟨hg3.os, hg3.tape, hg3.output, hg3.size, hg3.block⟩);
             have v1 := (cell_grown (k := 0) hg (by simp) (show w2.heap.size < V.heap.size by omega)).trans v0;
             have t2 := (cell_grown (k := 0) hg (by simp) lV).trans t0; have t3 := (cell_grown (k := 1) hg (by simp) lV).trans t1;
             have l3 := hg.size;
             have v2 := (cell_grown (k := 0) (grown_alloc w3 (.cells #[.string ⟨t.toArray⟩, .slice a3 ps.length c3] 61) none) (by simp) (show w2.heap.size < w3.heap.size by omega)).trans v1;
             have hz : (w3.alloc (.cells #[.string ⟨t.toArray⟩, .slice a3 ps.length c3] 61)).heap[w3.heap.size]? = some (.cells #[.string ⟨t.toArray⟩, .slice a3 ps.length c3] 61 (0, 0)) := Array.getElem?_push_size;
             have z0 : (w3.alloc (.cells #[.string ⟨t.toArray⟩, .slice a3 ps.length c3] 61)).cell? ⟨w3.heap.size, 0, none⟩ = some (strV t) := (by rw [cell_of_row _ _ _ _ _ _ hz]; rfl);
             have z1 : (w3.alloc (.cells #[.string ⟨t.toArray⟩, .slice a3 ps.length c3] 61)).cell? ⟨w3.heap.size, 1, none⟩ = some (.slice a3 ps.length c3) := (by rw [cell_of_row _ _ _ _ _ _ hz]; rfl);
             have Z0 := Lib.hid z0; have Z1 := Lib.hid z1;
             have KZ := Lib.hid (grownBy_trans (grownBy_trans KV.out hg) (grown_alloc w3 (.cells #[.string ⟨t.toArray⟩, .slice a3 ps.length c3] 61) none));
             have H3 := Lib.hid (World.ownsRow.alloc ho3 (.cells #[.string ⟨t.toArray⟩, .slice a3 ps.length c3] 61)); clear hg3 ho3 hg hz z0 z1)
          | (refine step_append_ow rfl (.tmp 24) (.tmp 31) rfl (w2.heap.size + 1) (.slice ax j cx) (D.take j) t a3 c3 ps rfl w3.heap.size 1 rfl (K1.out.own.kept KZ.out (by simp)) Z0.out Z1.out H3.out (by omega) (by rw [size_alloc]; omega) (fun v4 w4 ho4 hg4 => ?_);
             obtain ⟨a4, c4, rfl⟩ : ∃ a c, v4 = .slice a (j + 1) c := (by obtain ⟨a, c, e⟩ := ho4.form; exact ⟨a, c, by rw [e, List.length_append, List.length_take, Nat.min_eq_left hj]; rfl⟩);
             have hr := K1.out.row4 KZ.out hg4; have M1 := Lib.hid (K1.out.put KZ.out hg4 ho4);
             have k4 : w4.cell? ⟨w2.heap.size, 0, none⟩ = some (.slice ax j cx) := (by rw [cell_of_row w4 _ _ _ _ _ hr]; rfl); have f4 : w4.frozen? ⟨w2.heap.size, 0, none⟩ = false := (by simp [World.frozen?, hr]); clear hr ho4 hg4))
        all_goals
          (go_wp2
           go_roundw
           case rel => exact ⟨j + 1, _, by first | rfl | (congr 1; omega), by omega, by rw [K4.out]; exact M1.out⟩
           case measure => simp only [intOf]; omega)
      · have hji : ¬ ((j : Int) < (D.length : Int)) := by omega
        obtain rfl : j = D.length := by omega
        rw [List.take_length] at hts
        have K1 := Lib.hid hts
        have q0 : wr.cell? ⟨w2.heap.size, 0, none⟩ = some (.slice ax D.length cx) := by rw [cell_of_row wr _ _ _ _ _ hO]; rfl
        have q1 : wr.cell? ⟨w2.heap.size, 1, none⟩ = some (.int .i32 gen) := by rw [cell_of_row wr _ _ _ _ _ hO]; rfl
        have m0 := ((bcell hbl).1 w.heap.size 0 (by omega)).trans n0
        have m1 := ((bcell hbl).1 w.heap.size 1 (by omega)).trans n1
        have g0 := ((bcell hbl).2 w.heap.size 0 (by omega)).trans f0
        have g1 := ((bcell hbl).2 w.heap.size 1 (by omega)).trans f1
        have hrw := (hbl.block w.heap.size (by omega)).trans HR2.out
        have HRW := Lib.hid hrw
        clear hts hO hbl n0 n1 f0 f1 y0 y1 hrw
        go_wp2_with fail
        have hx := heap_setCell_row (o := 1) (u := .int .i32 gen) (heap_setCell_row (o := 0) (u := .slice ax D.length cx) HRW.out)
        have x0 := cell_of_row _ w.heap.size 0 _ _ _ hx
        have x1 := cell_of_row _ w.heap.size 1 _ _ _ hx
        simp at x0 x1
        refine bodyPost_ret (v := .tuple #[.agg #[.slice ax D.length cx, .int .i32 gen], .bool true]) (by simp [results, Tryd.results10, go_sem, x0, x1]) rfl ?_
        have gn : wr.grownBy ((wr.setCell ⟨w.heap.size, 0, none⟩ (.slice ax D.length cx)).setCell ⟨w.heap.size, 1, none⟩ (.int .i32 gen)) (some w.heap.size) := grown_setCell (grown_setCell (grownBy_refl _ _) 0 _) 1 _
        unfold TellsSticky
        rw [HRR.out]
        exact ⟨_, ⟨rfl, (K1.out.own.kept gn (fun k e => by have := Option.some.inj e; omega)).at⟩, grown_below (grown_sub (grownBy_trans HG2.out (below_grown K1.out.bel none)) gn (Nat.le_refl _))⟩
end Go.Proofs.YthdfhnnoamlacaaDoor.Rec

namespace Go.Proofs.YthdfhnnoamlacaaDoor.Rec
open Go.Proofs.YthdfhnnoamlacaaDoor
open Go.RowKit (Below wrap64 wrap32)
open Kz

theorem TellSticky_form (w : World) (S : Nat → Prop) (v : Value) (bs : List UInt8) (h : BytesAt w S v bs) (hl : bs.length ≤ 4096) (he : ErrOk w) : Calls Tryd.prog 10 #[v] w fun e w' =>
    ∃ (D : List Ow) (gen : Int) (u : Value), e = .returned (.tuple #[.agg #[u, .int .i32 gen], .bool (pSticky bs).2.isSome]) ∧ OwAt w' u D ∧ ((pSticky bs).2.isSome = true → D = (pSticky bs).1.1 ∧ gen = (pSticky bs).1.2) ∧ (D.length ≤ 4096 ∧ (∀ x ∈ D, OwOk x) ∧ -2147483648 ≤ gen ∧ gen ≤ 2147483647) ∧ Below w.heap.size w w' := by
  refine (TellSticky_any w S v bs h hl he).mono ?_
  rintro e w' ⟨u, h1, h2⟩
  cases hp : (pSticky bs).2 with
  | none =>
    rw [hp] at h1
    exact ⟨[], 0, u, h1.1, .inl ⟨h1.2, rfl⟩, fun h => (by cases h), ⟨by simp, fun x hx => (by simp at hx), by decide, by decide⟩, h2⟩
  | some r =>
    rw [hp] at h1
    exact ⟨_, _, u, h1.1, h1.2, fun _ => ⟨rfl, rfl⟩, pSticky_ok bs hl, h2⟩
set_option maxRecDepth 8000 in
set_option maxHeartbeats 1000000 in
theorem walkSticky (aw : Awake) (w : World) (S : Nat → Prop) (q : Option Addr) (c : Nat) (bs : List UInt8) (hd : BytesAt w S (.slice q bs.length c) bs) (her : ErrOk w) :
    Calls Tryd.prog 4 #[.slice q bs.length c] w fun e w' => e = .returned (.bool true) ∧ Below w.heap.size w w' := by
  have HD := Lib.hid hd
  have HE := Lib.hid her
  clear hd her
  by_cases hl : (bs.length : Int) > 2147483647
  · go_enter Tryd.func4, Tryd.ntmps4
    go_wp2
    go_ret
    exact ⟨rfl, Below.refl _ _⟩
  by_cases hk : (bs.length : Int) > 4096
  · go_enter Tryd.func4, Tryd.ntmps4
    go_wp2
    go_ret
    exact ⟨rfl, Below.refl _ _⟩
  have hl32 : bs.length < 4294967296 := by omega
  have hl12 : bs.length ≤ 4096 := by omega
  have HS := Lib.hid (sticky_sim bs)
  have HOK := Lib.hid (sSticky_ok bs hl12)
  have HR := Lib.hid (ReadSticky_any w S _ bs HD.out hl32)
  obtain ⟨⟨⟨D, gen⟩, p, h⟩, hr⟩ : ∃ r, sSticky bs = r := ⟨_, rfl⟩
  rw [hr] at HS HR HOK
  clear hr
  go_enter Tryd.func4, Tryd.ntmps4
  go_wp2_with fail
  refine HR.out.mono ?_
  rintro e w1 ⟨u1, rfl, hu1, hb1⟩
  obtain ⟨ad1, c1, rfl⟩ := hu1.form
  have s1 := hb1.size
  have HU1 := Lib.hid hu1
  have HB1 := Lib.hid hb1
  clear hu1 hb1 HR
  go_wp2_with fail
  generalize hW1 : w1.alloc (.cells #[.slice ad1 D.length c1, .int .i32 gen] 37) = W1
  have hb0 : Below w1.heap.size w1 W1 := by rw [← hW1]; exact (Below.refl _ _).alloc (Nat.le_refl _) _
  have hb1 : Below w.heap.size w W1 := HB1.out.trans (hb0.lower (m := w.heap.size) s1)
  have hz1 : W1.heap[w1.heap.size]? = some (.cells #[.slice ad1 D.length c1, .int .i32 gen] 37 (0, 0)) := by rw [← hW1]; exact Array.getElem?_push_size
  have HT := Lib.hid (TellSticky_form W1 S _ bs (HD.out.kept (below_grown hb1 none) (by simp)) hl12 (HE.out.kept (below_grown hb1 none) (by simp)))
  have HU2 := Lib.hid (HU1.out.below hb0)
  have HB2 := Lib.hid hb1
  have HZ1 := Lib.hid hz1
  have hl1 : w1.heap.size < W1.heap.size := (Array.getElem?_eq_some_iff.1 hz1).1
  clear hb0 hb1 hz1 hW1 HU1 HB1
  refine HT.out.mono ?_
  rintro e w2 ⟨D2, gen2, u2, rfl, hO2, hk2, hok2, hb2⟩
  obtain ⟨ad2, c2, rfl⟩ := hO2.form
  have hz2 := (hb2.block _ hl1).trans HZ1.out
  have m0 : w2.cell? ⟨w1.heap.size, 0, none⟩ = some (.slice ad1 D.length c1) := by rw [cell_of_row w2 _ _ _ _ _ hz2]; rfl
  have m1 : w2.cell? ⟨w1.heap.size, 1, none⟩ = some (.int .i32 gen) := by rw [cell_of_row w2 _ _ _ _ _ hz2]; rfl
  have s2 := hb2.size
  have hlt : w1.heap.size < w2.heap.size := by omega
  have HO2 := Lib.hid hO2
  have HK2 := Lib.hid hk2
  have HOK2 := Lib.hid hok2
  have HU3 := Lib.hid (HU2.out.below hb2)
  have HB3 := Lib.hid (HB2.out.trans (hb2.lower (m := w.heap.size) HB2.out.size))
  clear hO2 hk2 hok2 hb2 hz2 HT HU2 HB2 HZ1
  go_wp2_with fail
  generalize hW3 : w2.alloc (.cells #[.slice ad2 D2.length c2, .int .i32 gen2] 37) = W3
  have hb0 : Below w2.heap.size w2 W3 := by rw [← hW3]; exact (Below.refl _ _).alloc (Nat.le_refl _) _
  have HB4 := Lib.hid (HB3.out.trans (hb0.lower (m := w.heap.size) HB3.out.size))
  have HSM := Lib.hid (SameSticky_any W3 _ _ D2 D gen2 gen (HO2.out.below hb0) (HU3.out.below hb0) HOK2.out.2.2.1 HOK2.out.2.2.2 HOK.out.2.2.1 HOK.out.2.2.2 HOK2.out.1 HOK.out.1 HOK2.out.2.1 HOK.out.2.1)
  clear hb0 hW3 HO2 HU3
  refine HSM.out.mono ?_
  rintro e w4 ⟨r, rfl, hr, hb4⟩
  have hj := judged_any aw w4 (HE.out.kept (below_grown (HB4.out.trans (hb4.lower (m := w.heap.size) HB4.out.size)) none) (by simp)) p h bs.length c q (pSticky bs).2.isSome r
    (fun hh => by
      rcases hh with hh | hh
      · rw [HS.out.2.1 hh]; rfl
      · exact absurd hh HS.out.1.two)
    (fun hh => by
      obtain ⟨f1, f2⟩ := HS.out.2.2 hh
      obtain ⟨g1, g2⟩ := HK2.out f1
      rw [f2] at g1 g2
      exact ⟨f1, hr ⟨g1, g2⟩⟩)
    (by have := HS.out.1.le; simp only at this; omega) HS.out.1.four hl32
  have HJ := Lib.hid hj
  have HB5 := Lib.hid (HB4.out.trans (hb4.lower (m := w.heap.size) HB4.out.size))
  clear hr hb4 hj HSM
  go_wp2_with fail
  refine HJ.out.mono ?_
  rintro e w5 ⟨rfl, hb5⟩
  have HB6 := Lib.hid (HB5.out.trans (hb5.lower (m := w.heap.size) HB5.out.size))
  clear hb5 HJ
  go_wp2
  go_ret
  exact ⟨rfl, HB6.out⟩
end Go.Proofs.YthdfhnnoamlacaaDoor.Rec
