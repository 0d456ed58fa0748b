/-
  Tags, written: the closures. Conditions: none.
-/
import Derived.Test.YtpknjenihcfhlaaDoorTag2
import Derived.Test.YtpknjenihcfhlaaDoorKa5
import Derived.Maps.Range
import Derived.Maps.RangeWalk
import Derived.Shelf.GgSortFunc.Whole
import Derived.Shelf.Lay
import Derived.Deep.QuietTactic
namespace Go.Proofs
open Go.Shelf
shelf_lay LaysGg.n6 Ggs 6 at Tryd as Tryd.sl6
end Go.Proofs
namespace Go.Proofs.YtpknjenihcfhlaaDoor
open Go.RowKit Go.Lib Go.Sort
open Kz

noncomputable def siT : TypeInfo := (Tryd.prog.info? 107).get (by kernel_rfl)
noncomputable def siE : TypeInfo := (Tryd.prog.info? 56).get (by kernel_rfl)
theorem siK (n : Nat) (h2 : 2 ≤ n) : Lib.swapperK n siE 10 = 6 := by
  have a : siE.hasPointers = false := by kernel_rfl
  have b : siE.bytes = 4 := by kernel_rfl
  have c : (n == 0) = false := by simp; omega
  have d : (n == 1) = false := by simp; omega
  simp [Lib.swapperK, a, b, c, d]

set_option maxHeartbeats 2000000 in
/-- The comparison: it reads the variable of the slice, and two of its cells. -/
theorem less_u32 (blk off c Bs size : Nat) (W : World) (G : Nat → Int) (hs : W.cell? ⟨Bs, 0, none⟩ = some (.slice (some ⟨blk, off, none⟩) size c))
    (hc : ∀ t, t < size → W.cell? ⟨blk, off + t, none⟩ = some (.int .u32 (G t))) (i j : Nat) (hi : i < size) (hj : j < size) (_hsz : size < 4611686018427387904) :
    Calls Tryd.prog 100 #[.int .i64 i, .int .i64 j, .pointer (some ⟨Bs, 0, none⟩)] W fun e w' => e = .returned (.bool (decide (G i < G j))) ∧ ∃ q, w' = W.drewN q := by
  have ci := hc i hi
  have cj := hc j hj
  go_enter Tryd.func100, Tryd.ntmps100
  go_wp2
  go_quiet (fail)
  go_wp2
  go_ret
  exact ⟨rfl, nq, rfl⟩

/-- A variable that holds octets of one's own. -/
def DstAt (w : World) (base db : Nat) (bs : List UInt8) : Prop :=
  base ≤ db ∧ ∃ v, w.heap[db]? = some (.cells #[v] 22 (0, 0)) ∧ OwnB w base v bs
theorem own_ne {w : World} {base db : Nat} {v x : Value} {bs : List UInt8} (h : w.heap[db]? = some (.cells #[x] 22 (0, 0))) (ho : OwnB w base v bs) : v.ownBlock ≠ some db := by
  obtain ⟨-, h1⟩ := ho
  rcases h1 with ⟨rfl, -⟩ | ⟨g, cap, cur, rfl, h2, h3, -⟩
  · simp [Value.ownBlock]
  · simp only [Value.ownBlock, ne_eq, Option.some.injEq]
    rintro rfl
    rw [h] at h3
    simp only [Option.some.injEq, Obj.cells.injEq] at h3
    exact absurd h3.2.1 (by decide)
theorem DstAt.lt {w : World} {base db : Nat} {bs : List UInt8} (h : DstAt w base db bs) : db < w.heap.size := by
  obtain ⟨-, v, hv, -⟩ := h
  exact (Array.getElem?_eq_some_iff.1 hv).1
theorem below_below {B B' : Nat} {w w' : World} (h : Below B w w') (hB : B' ≤ B) : Below B' w w' := ⟨h.os, h.tape, h.output, h.size, fun k hk => h.block k (by omega)⟩

theorem own_slice {w : World} {base : Nat} {v : Value} {bs : List UInt8} (ho : OwnB w base v bs) : ∃ p n m, v = .slice p n m := by
  rcases ho.2 with ⟨rfl, -⟩ | ⟨g, cap, cur, rfl, -⟩
  · exact ⟨_, _, _, rfl⟩
  · exact ⟨_, _, _, rfl⟩
theorem dst_store {w : World} {base db : Nat} {v v1 : Value} {bs : List UInt8} (hv : w.heap[db]? = some (.cells #[v] 22 (0, 0))) (ho : OwnB w base v1 bs) :
    (w.setCell ⟨db, 0, none⟩ v1).heap[db]? = some (.cells #[v1] 22 (0, 0)) ∧ OwnB (w.setCell ⟨db, 0, none⟩ v1) base v1 bs ∧ w.grownBy (w.setCell ⟨db, 0, none⟩ v1) (some db) :=
  ⟨heap_setCell_row hv, ho.kept (row := some db) (grown_setCell (grownBy_refl _ _) 0 _) (.inr (own_ne hv ho)), grown_setCell (grownBy_refl _ _) 0 _⟩
/-- The rows of keys are as they were. -/
def Keep32 (w w' : World) : Prop := ∀ (k : Nat) (cs : Array Value) (fr : Nat × Nat), w.heap[k]? = some (Obj.cells cs 56 fr) → w'.heap[k]? = some (Obj.cells cs 56 fr)
theorem Keep32.trans {a b c : World} (h : Keep32 a b) (k : Keep32 b c) : Keep32 a c := fun i cs fr hi => k i cs fr (h i cs fr hi)
theorem keep_grown {w w' : World} {base : Nat} {v : Value} {bs : List UInt8} (ho : OwnB w base v bs) (hg : w.grownBy w' v.ownBlock) : Keep32 w w' := by
  intro k cs fr hk
  rw [hg.block k (Array.getElem?_eq_some_iff.1 hk).1 ?_]
  · exact hk
  · intro e
    obtain ⟨-, h1⟩ := ho
    rcases h1 with ⟨rfl, -⟩ | ⟨g, cap, cur, rfl, h2, h3, -⟩
    · simp [Value.ownBlock] at e
    · simp only [Value.ownBlock, Option.some.injEq] at e
      subst e
      rw [hk] at h3
      simp only [Option.some.injEq, Obj.cells.injEq] at h3
      exact absurd h3.2.1 (by decide)
theorem keep_set {w : World} {db o : Nat} {v u : Value} (hv : w.heap[db]? = some (.cells #[v] 22 (0, 0))) : Keep32 w (w.setCell ⟨db, o, none⟩ u) := by
  intro k cs fr hk
  rw [Below.heap_setCell _ _ _ _ ?_]
  · exact hk
  · rintro rfl
    rw [hk] at hv
    simp only [Option.some.injEq, Obj.cells.injEq] at hv
    exact absurd hv.2.1 (by decide)
theorem DstAt.cells {w : World} {base db : Nat} {bs : List UInt8} (h : DstAt w base db bs) : ∃ v, w.cell? ⟨db, 0, none⟩ = some v ∧ w.frozen? ⟨db, 0, none⟩ = false ∧ w.heap[db]? = some (.cells #[v] 22 (0, 0)) ∧ OwnB w base v bs ∧ v.ownBlock ≠ some db := by
  obtain ⟨-, v, hv, ho⟩ := h
  exact ⟨v, by rw [cell_of_row w db 0 _ _ _ hv]; rfl, by simp [World.frozen?, hv], hv, ho, own_ne hv ho⟩

set_option maxRecDepth 8000 in
set_option maxHeartbeats 1000000 in
/-- The closure of AppendEach: a tag goes to the end. -/
theorem app_tag (w : World) (base db k : Nat) (bs s : List UInt8) (x : Value) (K : Nat → Prop) (h : DstAt w base db bs) (hb : base ≤ w.heap.size) (hk : k < 4294967296) (hx : BytesAt w K x s) (hK : ∀ g, K g → g < base) (hs : s.length < 4294967296) (hl : bs.length + (tagB (k, s)).length ≤ lim2) :
    Calls Tryd.prog 79 #[.int .u32 (k : Int), x, .pointer (some ⟨db, 0, none⟩)] w fun e w' => e = .returned (.tuple #[]) ∧ DstAt w' base db (bs ++ tagB (k, s)) ∧ Below base w w' ∧ Keep32 w w' := by
  have h0 := h.1
  have hlt := h.lt
  obtain ⟨v, c0, f0, hv, ho, hne⟩ := h.cells
  have hlen : bs.length + ((uv k).length + ((uv s.length).length + s.length)) ≤ lim2 := by
    simp only [tagB, List.length_append] at hl; omega
  have hl1 : bs.length + 5 ≤ lim := by simp only [lim, lim2] at hlen ⊢; omega
  have hl2 : (bs ++ uv k).length + 5 ≤ lim := by rw [List.length_append]; simp only [lim, lim2] at hlen ⊢; omega
  have hl3 : ((bs ++ uv k) ++ uv s.length).length + s.length ≤ lim := by simp only [List.length_append]; simp only [lim, lim2] at hlen ⊢; omega
  obtain ⟨ad, c, ex⟩ := bytes_len hx
  have bx : Box (BytesAt w K x s) := ⟨hx⟩
  have bo : Box (OwnB w base v bs) := ⟨ho⟩
  have bv' : Box (w.heap[db]? = some (.cells #[v] 22 (0, 0))) := ⟨hv⟩
  have bne : Box (v.ownBlock ≠ some db) := ⟨hne⟩
  have bl1 : Box _ := ⟨hl1⟩
  have bl2 : Box _ := ⟨hl2⟩
  have bl3 : Box _ := ⟨hl3⟩
  have bhs : Box _ := ⟨hs⟩
  have hw : IntKind.wrap .u32 (s.length : Int) = (s.length : Int) := by rw [IntKind.wrap_u32]; omega
  clear hx ho hv hl hlen h hne hl1 hl2 hl3 hs
  subst ex
  go_enter Tryd.func79, Tryd.ntmps79
  go_wp2_with fail
  refine (AppendUvarint_own w base v bs k bo.get hb hk bl1.get).mono ?_
  rintro e w1 ⟨v1, rfl, ho1, hg1⟩
  obtain ⟨p1, n1, m1, rfl⟩ := own_slice ho1
  have hlt1 : db < w1.heap.size := Nat.lt_of_lt_of_le hlt hg1.size
  have hb1 : base ≤ w1.heap.size := Nat.le_trans hb hg1.size
  have hv1 : w1.heap[db]? = some (.cells #[v] 22 (0, 0)) := (hg1.block db hlt (fun e => bne.get e.symm)).trans bv'.get
  have c1 : w1.cell? ⟨db, 0, none⟩ = some v := by rw [cell_of_row w1 db 0 _ _ _ hv1]; rfl
  have f1 : w1.frozen? ⟨db, 0, none⟩ = false := by simp [World.frozen?, hv1]
  obtain ⟨e1, d1, g1⟩ := dst_store hv1 ho1
  have kp1 : Box (Keep32 w (w1.setCell ⟨db, 0, none⟩ (.slice p1 n1 m1))) := ⟨(keep_grown bo.get hg1).trans (keep_set hv1)⟩
  have bel1 : Box (Below base w (w1.setCell ⟨db, 0, none⟩ (.slice p1 n1 m1))) := ⟨⟨g1.os.trans hg1.os, g1.tape.trans hg1.tape, g1.output.trans hg1.output, Nat.le_trans hg1.size g1.size, fun q hq => (g1.block q (by omega) (fun e => by have := Option.some.inj e; omega)).trans (hg1.block q (by omega) (fun e => by have := bo.get.base q e.symm; omega))⟩⟩
  have c1' : (w1.setCell ⟨db, 0, none⟩ (.slice p1 n1 m1)).cell? ⟨db, 0, none⟩ = some (.slice p1 n1 m1) := by rw [cell_of_row _ db 0 _ _ _ e1]; rfl
  have f1' : (w1.setCell ⟨db, 0, none⟩ (.slice p1 n1 m1)).frozen? ⟨db, 0, none⟩ = false := by simp [World.frozen?, e1]
  have bo1 : Box _ := ⟨d1⟩
  have bne1 : Box _ := ⟨own_ne e1 d1⟩
  have bv1 : Box _ := ⟨e1⟩
  clear hg1 ho1 g1 hv1 d1 e1
  go_wp2_with fail
  refine (AppendUvarint_own _ base (.slice p1 n1 m1) (bs ++ uv k) s.length bo1.get (by simpa using hb1) bhs.get bl2.get).mono ?_
  rintro e w2 ⟨v2, rfl, ho2, hg2⟩
  obtain ⟨p2, n2, m2, rfl⟩ := own_slice ho2
  have hlt2 : db < w2.heap.size := by have := hg2.size; simp at this; omega
  have hb2 : base ≤ w2.heap.size := by have := hg2.size; simp at this; omega
  have hv2 : w2.heap[db]? = some (.cells #[(.slice p1 n1 m1)] 22 (0, 0)) := (hg2.block db (by simpa using hlt1) (fun e => bne1.get e.symm)).trans bv1.get
  have c2 : w2.cell? ⟨db, 0, none⟩ = some (.slice p1 n1 m1) := by rw [cell_of_row w2 db 0 _ _ _ hv2]; rfl
  have f2 : w2.frozen? ⟨db, 0, none⟩ = false := by simp [World.frozen?, hv2]
  obtain ⟨e2, d2, g2⟩ := dst_store hv2 ho2
  have kp2 : Box (Keep32 w (w2.setCell ⟨db, 0, none⟩ (.slice p2 n2 m2))) := ⟨kp1.get.trans ((keep_grown bo1.get hg2).trans (keep_set hv2))⟩
  have bel2 : Box (Below base w (w2.setCell ⟨db, 0, none⟩ (.slice p2 n2 m2))) := ⟨bel1.get.trans ⟨g2.os.trans hg2.os, g2.tape.trans hg2.tape, g2.output.trans hg2.output, Nat.le_trans hg2.size g2.size, fun q hq => (g2.block q (by omega) (fun e => by have := Option.some.inj e; omega)).trans (hg2.block q (by simp; omega) (fun e => by have := bo1.get.base q e.symm; omega))⟩⟩
  have c2' : (w2.setCell ⟨db, 0, none⟩ (.slice p2 n2 m2)).cell? ⟨db, 0, none⟩ = some (.slice p2 n2 m2) := by rw [cell_of_row _ db 0 _ _ _ e2]; rfl
  have f2' : (w2.setCell ⟨db, 0, none⟩ (.slice p2 n2 m2)).frozen? ⟨db, 0, none⟩ = false := by simp [World.frozen?, e2]
  have bo2 : Box _ := ⟨d2⟩
  have bne2 : Box _ := ⟨own_ne e2 d2⟩
  have bv2 : Box _ := ⟨e2⟩
  clear hg2 ho2 g2 hv2 d2 e2
  go_wp2_with (at_builtin; refine wpList_append_octets rfl _ _ rfl base (.slice p2 n2 m2) _ _ s K rfl rfl bo2.get (bx.get.below bel2.get hK) bl3.get (by simpa using hb2) ?_)
  intro v3 w3 ho3 hg3
  obtain ⟨p3, n3, m3, rfl⟩ := own_slice ho3
  have hv3 : w3.heap[db]? = some (.cells #[(.slice p2 n2 m2)] 22 (0, 0)) := (hg3.block db (by simpa using hlt2) (fun e => bne2.get e.symm)).trans bv2.get
  have c3 : w3.cell? ⟨db, 0, none⟩ = some (.slice p2 n2 m2) := by rw [cell_of_row w3 db 0 _ _ _ hv3]; rfl
  have f3 : w3.frozen? ⟨db, 0, none⟩ = false := by simp [World.frozen?, hv3]
  obtain ⟨e3, d3, g3⟩ := dst_store hv3 ho3
  have hlt3 : db < w3.heap.size := by have := hg3.size; simp at this; omega
  have kp3 : Box (Keep32 w (w3.setCell ⟨db, 0, none⟩ (.slice p3 n3 m3))) := ⟨kp2.get.trans ((keep_grown bo2.get hg3).trans (keep_set hv3))⟩
  have bel3 : Box (Below base w (w3.setCell ⟨db, 0, none⟩ (.slice p3 n3 m3))) := ⟨bel2.get.trans ⟨g3.os.trans hg3.os, g3.tape.trans hg3.tape, g3.output.trans hg3.output, Nat.le_trans hg3.size g3.size, fun q hq => (g3.block q (by omega) (fun e => by have := Option.some.inj e; omega)).trans (hg3.block q (by simp; omega) (fun e => by have := bo2.get.base q e.symm; omega))⟩⟩
  have bd3 : Box (DstAt _ base db _) := ⟨h0, _, e3, d3⟩
  clear hg3 ho3 g3 hv3 d3 e3
  go_wp2
  refine ⟨rfl, .tuple #[], results_none (by kernel_rfl) _ _ _, rfl, ?_, bel3.get, kp3.get⟩
  have := bd3.get
  simp only [tagB, ← List.append_assoc] at this ⊢
  exact this
end Go.Proofs.YtpknjenihcfhlaaDoor
