/-
  Tags that are written; messages that are written; the thin package; rows. Conditions: none.
-/
import Derived.Test.YtmkkpeolldpcfaaY3
import Derived.Test.YtmkkpeolldpcfaaY4
import Derived.Maps.Range
import Derived.Maps.RangeWalk
import Derived.Shelf.GgSortFunc.Whole
import Derived.Deep.QuietTactic
import Derived.Sort.OwnSorted
import Derived.OwnWalk
import Derived.Shelf.GgSortFunc.Tiny
import Derived.Maps.AppendAt
import Derived.WideLaws
import Derived.Test.YtmkkpeolldpcfaaRows
import Derived.WalkKit
import Derived.ProofKit
import Derived.OpenShut
import Derived.ChangeStays
import Derived.ChangeBook
import Derived.SizedLaws
import Derived.SliceStrings
import Derived.Deep.DeepHandedRow
import Derived.Deep.DeepWitnessRowRef
import Derived.Lib.LaidIn
import Derived.Stop.LaidErr
/-
  Tags, written: the closures. Conditions: none.
-/
namespace Go.Proofs
open Go.Shelf
def Try.sl6_ren : Go.Shelf.Ren := ⟨fun | 6 => 81 | 10 => 83 | 11 => 84 | 12 => 85 | 13 => 86 | 14 => 87 | 24 => 80 | 25 => 97 | 26 => 98 | 27 => 99 | 28 => 100 | 29 => 101 | 30 => 102 | 31 => 103 | 32 => 104 | 33 => 105 | 34 => 106 | 35 => 107 | 36 => 108 | 37 => 109 | 38 => 110 | 39 => 111 | n => n, fun | 20 => 20 | 26 => 131 | 35 => 135 | 0 => 0 | 37 => 137 | 3 => 3 | 41 => 119 | 44 => 142 | 49 => 71 | 51 => 79 | 4 => 4 | 54 => 149 | 53 => 148 | 58 => 153 | 5 => 5 | 9 => 9 | 60 => 155 | 64 => 159 | 66 => 161 | 67 => 162 | 17 => 17 | 32 => 132 | 33 => 133 | 82 => 177 | 12 => 12 | 75 => 170 | 76 => 171 | 77 => 172 | 78 => 173 | 79 => 174 | 80 => 175 | n => n, fun | n => n⟩
theorem Try.sl6 : Go.Proofs.LaysGg.n6 Try.prog Try.sl6_ren := {
  mixed := by kernel_rfl
  f6 := Try.func81.trans (congrArg some (by kernel_rfl))
  f10 := Try.func83.trans (congrArg some (by kernel_rfl))
  f11 := Try.func84.trans (congrArg some (by kernel_rfl))
  f12 := Try.func85.trans (congrArg some (by kernel_rfl))
  f13 := Try.func86.trans (congrArg some (by kernel_rfl))
  f14 := Try.func87.trans (congrArg some (by kernel_rfl))
  f24 := Try.func80.trans (congrArg some (by kernel_rfl))
  f25 := Try.func97.trans (congrArg some (by kernel_rfl))
  f26 := Try.func98.trans (congrArg some (by kernel_rfl))
  f27 := Try.func99.trans (congrArg some (by kernel_rfl))
  f28 := Try.func100.trans (congrArg some (by kernel_rfl))
  f29 := Try.func101.trans (congrArg some (by kernel_rfl))
  f30 := Try.func102.trans (congrArg some (by kernel_rfl))
  f31 := Try.func103.trans (congrArg some (by kernel_rfl))
  f32 := Try.func104.trans (congrArg some (by kernel_rfl))
  f33 := Try.func105.trans (congrArg some (by kernel_rfl))
  f34 := Try.func106.trans (congrArg some (by kernel_rfl))
  f35 := Try.func107.trans (congrArg some (by kernel_rfl))
  f36 := Try.func108.trans (congrArg some (by kernel_rfl))
  f37 := Try.func109.trans (congrArg some (by kernel_rfl))
  f38 := Try.func110.trans (congrArg some (by kernel_rfl))
  f39 := Try.func111.trans (congrArg some (by kernel_rfl))
  t0 := Try.underlying0
  a0 := Try.isAgg0
  z0 := Try.sizeOf0
  v0 := Try.zeroValue0
  i0 := by kernel_rfl
  t3 := Try.underlying3
  a3 := Try.isAgg3
  z3 := Try.sizeOf3
  v3 := Try.zeroValue3
  i3 := by kernel_rfl
  t4 := Try.underlying4
  a4 := Try.isAgg4
  z4 := Try.sizeOf4
  v4 := Try.zeroValue4
  i4 := by kernel_rfl
  t5 := Try.underlying5
  a5 := Try.isAgg5
  z5 := Try.sizeOf5
  v5 := Try.zeroValue5
  i5 := by kernel_rfl
  t9 := Try.underlying9
  a9 := Try.isAgg9
  z9 := Try.sizeOf9
  v9 := Try.zeroValue9
  i9 := by kernel_rfl
  t12 := Try.underlying12
  a12 := Try.isAgg12
  z12 := Try.sizeOf12
  v12 := Try.zeroValue12
  i12 := by kernel_rfl
  t17 := Try.underlying17
  a17 := Try.isAgg17
  z17 := Try.sizeOf17
  v17 := Try.zeroValue17
  i17 := by kernel_rfl
  t20 := Try.underlying20
  a20 := Try.isAgg20
  z20 := Try.sizeOf20
  v20 := Try.zeroValue20
  i20 := by kernel_rfl
  t26 := Try.underlying131
  a26 := Try.isAgg131
  z26 := Try.sizeOf131
  v26 := Try.zeroValue131
  i26 := by kernel_rfl
  t32 := Try.underlying132
  a32 := Try.isAgg132
  z32 := Try.sizeOf132
  v32 := Try.zeroValue132
  i32 := by kernel_rfl
  t33 := Try.underlying133
  a33 := Try.isAgg133
  z33 := Try.sizeOf133
  v33 := Try.zeroValue133
  i33 := by kernel_rfl
  t35 := Try.underlying135
  a35 := Try.isAgg135
  z35 := Try.sizeOf135
  v35 := Try.zeroValue135
  i35 := by kernel_rfl
  t37 := Try.underlying137
  a37 := Try.isAgg137
  z37 := Try.sizeOf137
  v37 := Try.zeroValue137
  i37 := by kernel_rfl
  t41 := Try.underlying119
  a41 := Try.isAgg119
  z41 := Try.sizeOf119
  v41 := Try.zeroValue119
  i41 := by kernel_rfl
  t44 := Try.underlying142
  a44 := Try.isAgg142
  z44 := Try.sizeOf142
  v44 := Try.zeroValue142
  i44 := by kernel_rfl
  t49 := Try.underlying71
  a49 := Try.isAgg71
  z49 := Try.sizeOf71
  v49 := Try.zeroValue71
  i49 := by kernel_rfl
  t51 := Try.underlying79
  a51 := Try.isAgg79
  z51 := Try.sizeOf79
  v51 := Try.zeroValue79
  i51 := by kernel_rfl
  t53 := Try.underlying148
  a53 := Try.isAgg148
  z53 := Try.sizeOf148
  v53 := Try.zeroValue148
  i53 := by kernel_rfl
  t54 := Try.underlying149
  a54 := Try.isAgg149
  z54 := Try.sizeOf149
  v54 := Try.zeroValue149
  i54 := by kernel_rfl
  t58 := Try.underlying153
  a58 := Try.isAgg153
  z58 := Try.sizeOf153
  v58 := Try.zeroValue153
  i58 := by kernel_rfl
  t60 := Try.underlying155
  a60 := Try.isAgg155
  z60 := Try.sizeOf155
  v60 := Try.zeroValue155
  i60 := by kernel_rfl
  t64 := Try.underlying159
  a64 := Try.isAgg159
  z64 := Try.sizeOf159
  v64 := Try.zeroValue159
  i64 := by kernel_rfl
  t66 := Try.underlying161
  a66 := Try.isAgg161
  z66 := Try.sizeOf161
  v66 := Try.zeroValue161
  i66 := by kernel_rfl
  t67 := Try.underlying162
  a67 := Try.isAgg162
  z67 := Try.sizeOf162
  v67 := Try.zeroValue162
  i67 := by kernel_rfl
  t75 := Try.underlying170
  a75 := Try.isAgg170
  z75 := Try.sizeOf170
  v75 := Try.zeroValue170
  i75 := by kernel_rfl
  t76 := Try.underlying171
  a76 := Try.isAgg171
  z76 := Try.sizeOf171
  v76 := Try.zeroValue171
  i76 := by kernel_rfl
  t77 := Try.underlying172
  a77 := Try.isAgg172
  z77 := Try.sizeOf172
  v77 := Try.zeroValue172
  i77 := by kernel_rfl
  t78 := Try.underlying173
  a78 := Try.isAgg173
  z78 := Try.sizeOf173
  v78 := Try.zeroValue173
  i78 := by kernel_rfl
  t79 := Try.underlying174
  a79 := Try.isAgg174
  z79 := Try.sizeOf174
  v79 := Try.zeroValue174
  i79 := by kernel_rfl
  t80 := Try.underlying175
  a80 := Try.isAgg175
  z80 := Try.sizeOf175
  v80 := Try.zeroValue175
  i80 := by kernel_rfl
  t82 := Try.underlying177
  a82 := Try.isAgg177
  z82 := Try.sizeOf177
  v82 := Try.zeroValue177
  i82 := by kernel_rfl }
end Go.Proofs
namespace Go.Proofs.Ytmkkpeolldpcfaa
open Go.RowKit Go.Lib Go.Sort
open Kz

noncomputable def siT : TypeInfo := (Try.prog.info? 129).get (by kernel_rfl)
noncomputable def siE : TypeInfo := (Try.prog.info? 71).get (by kernel_rfl)
theorem siK (n : Nat) (h2 : 2 ≤ n) : Lib.swapperK n siE 10 = 6 := by
  have a : siE.hasPointers = false := by kernel_rfl
  have b : siE.bytes = 4 := by kernel_rfl
  have c : (n == 0) = false := by simp; omega
  have d : (n == 1) = false := by simp; omega
  simp [Lib.swapperK, a, b, c, d]

set_option maxHeartbeats 2000000 in
/-- The comparison: it reads the variable of the slice, and two of its cells. -/
theorem less_u32 (blk off c Bs size : Nat) (W : World) (G : Nat → Int) (hs : W.cell? ⟨Bs, 0, none⟩ = some (.slice (some ⟨blk, off, none⟩) size c))
    (hc : ∀ t, t < size → W.cell? ⟨blk, off + t, none⟩ = some (.int .u32 (G t))) (i j : Nat) (hi : i < size) (hj : j < size) (_hsz : size < 4611686018427387904) :
    Calls Try.prog 82 #[.int .i64 i, .int .i64 j, .pointer (some ⟨Bs, 0, none⟩)] W fun e w' => e = .returned (.bool (decide (G i < G j))) ∧ ∃ q, w' = W.drewN q := by
  have ci := hc i hi
  have cj := hc j hj
  go_enter Try.func82, Try.ntmps82
  go_wp2
  go_quiet (fail)
  go_wp2
  go_ret
  exact ⟨rfl, nq, rfl⟩

/-- A variable that holds octets of one's own. -/
def DstAt (w : World) (base db : Nat) (bs : List UInt8) : Prop :=
  base ≤ db ∧ ∃ v, w.heap[db]? = some (.cells #[v] 28 (0, 0)) ∧ OwnB w base v bs
theorem own_ne {w : World} {base db : Nat} {v x : Value} {bs : List UInt8} (h : w.heap[db]? = some (.cells #[x] 28 (0, 0))) (ho : OwnB w base v bs) : v.ownBlock ≠ some db := by
  obtain ⟨-, h1⟩ := ho
  rcases h1 with ⟨rfl, -⟩ | ⟨g, cap, cur, rfl, h2, h3, -⟩
  · simp [Value.ownBlock]
  · simp only [Value.ownBlock, ne_eq, Option.some.injEq]
    rintro rfl
    rw [h] at h3
    simp only [Option.some.injEq, Obj.cells.injEq] at h3
    exact absurd h3.2.1 (by decide)
theorem DstAt.lt {w : World} {base db : Nat} {bs : List UInt8} (h : DstAt w base db bs) : db < w.heap.size := by
  obtain ⟨-, v, hv, -⟩ := h
  exact (Array.getElem?_eq_some_iff.1 hv).1
theorem below_below {B B' : Nat} {w w' : World} (h : Below B w w') (hB : B' ≤ B) : Below B' w w' := ⟨h.os, h.tape, h.output, h.size, fun k hk => h.block k (by omega)⟩

theorem own_slice {w : World} {base : Nat} {v : Value} {bs : List UInt8} (ho : OwnB w base v bs) : ∃ p n m, v = .slice p n m := by
  rcases ho.2 with ⟨rfl, -⟩ | ⟨g, cap, cur, rfl, -⟩
  · exact ⟨_, _, _, rfl⟩
  · exact ⟨_, _, _, rfl⟩
theorem dst_store {w : World} {base db : Nat} {v v1 : Value} {bs : List UInt8} (hv : w.heap[db]? = some (.cells #[v] 28 (0, 0))) (ho : OwnB w base v1 bs) :
    (w.setCell ⟨db, 0, none⟩ v1).heap[db]? = some (.cells #[v1] 28 (0, 0)) ∧ OwnB (w.setCell ⟨db, 0, none⟩ v1) base v1 bs ∧ w.grownBy (w.setCell ⟨db, 0, none⟩ v1) (some db) :=
  ⟨heap_setCell_row hv, ho.kept (row := some db) (grown_setCell (grownBy_refl _ _) 0 _) (.inr (own_ne hv ho)), grown_setCell (grownBy_refl _ _) 0 _⟩
/-- The rows of keys are as they were. -/
def Keep32 (w w' : World) : Prop := ∀ (k : Nat) (cs : Array Value) (fr : Nat × Nat), w.heap[k]? = some (Obj.cells cs 71 fr) → w'.heap[k]? = some (Obj.cells cs 71 fr)
theorem Keep32.trans {a b c : World} (h : Keep32 a b) (k : Keep32 b c) : Keep32 a c := fun i cs fr hi => k i cs fr (h i cs fr hi)
theorem keep_grown {w w' : World} {base : Nat} {v : Value} {bs : List UInt8} (ho : OwnB w base v bs) (hg : w.grownBy w' v.ownBlock) : Keep32 w w' := by
  intro k cs fr hk
  rw [hg.block k (Array.getElem?_eq_some_iff.1 hk).1 ?_]
  · exact hk
  · intro e
    obtain ⟨-, h1⟩ := ho
    rcases h1 with ⟨rfl, -⟩ | ⟨g, cap, cur, rfl, h2, h3, -⟩
    · simp [Value.ownBlock] at e
    · simp only [Value.ownBlock, Option.some.injEq] at e
      subst e
      rw [hk] at h3
      simp only [Option.some.injEq, Obj.cells.injEq] at h3
      exact absurd h3.2.1 (by decide)
theorem keep_set {w : World} {db o : Nat} {v u : Value} (hv : w.heap[db]? = some (.cells #[v] 28 (0, 0))) : Keep32 w (w.setCell ⟨db, o, none⟩ u) := by
  intro k cs fr hk
  rw [Below.heap_setCell _ _ _ _ ?_]
  · exact hk
  · rintro rfl
    rw [hk] at hv
    simp only [Option.some.injEq, Obj.cells.injEq] at hv
    exact absurd hv.2.1 (by decide)
theorem DstAt.cells {w : World} {base db : Nat} {bs : List UInt8} (h : DstAt w base db bs) : ∃ v, w.cell? ⟨db, 0, none⟩ = some v ∧ w.frozen? ⟨db, 0, none⟩ = false ∧ w.heap[db]? = some (.cells #[v] 28 (0, 0)) ∧ OwnB w base v bs ∧ v.ownBlock ≠ some db := by
  obtain ⟨-, v, hv, ho⟩ := h
  exact ⟨v, by rw [cell_of_row w db 0 _ _ _ hv]; rfl, by simp [World.frozen?, hv], hv, ho, own_ne hv ho⟩

set_option maxRecDepth 8000 in
set_option maxHeartbeats 1000000 in
/-- The closure of AppendEach: a tag goes to the end. -/
theorem app_tag (w : World) (base db k : Nat) (bs s : List UInt8) (x : Value) (K : Nat → Prop) (h : DstAt w base db bs) (hb : base ≤ w.heap.size) (hk : k < 4294967296) (hx : BytesAt w K x s) (hK : ∀ g, K g → g < base) (hs : s.length < 4294967296) (hl : bs.length + (tagB (k, s)).length ≤ lim2) :
    Calls Try.prog 72 #[.int .u32 (k : Int), x, .pointer (some ⟨db, 0, none⟩)] w fun e w' => e = .returned (.tuple #[]) ∧ DstAt w' base db (bs ++ tagB (k, s)) ∧ Below base w w' ∧ Keep32 w w' := by
  have h0 := h.1
  have hlt := h.lt
  obtain ⟨v, c0, f0, hv, ho, hne⟩ := h.cells
  have hlen : bs.length + ((uv k).length + ((uv s.length).length + s.length)) ≤ lim2 := by
    simp only [tagB, List.length_append] at hl; omega
  have hl1 : bs.length + 5 ≤ lim := by simp only [lim, lim2] at hlen ⊢; omega
  have hl2 : (bs ++ uv k).length + 5 ≤ lim := by rw [List.length_append]; simp only [lim, lim2] at hlen ⊢; omega
  have hl3 : ((bs ++ uv k) ++ uv s.length).length + s.length ≤ lim := by simp only [List.length_append]; simp only [lim, lim2] at hlen ⊢; omega
  obtain ⟨ad, c, ex⟩ := bytes_len hx
  have bx : Box (BytesAt w K x s) := ⟨hx⟩
  have bo : Box (OwnB w base v bs) := ⟨ho⟩
  have bv' : Box (w.heap[db]? = some (.cells #[v] 28 (0, 0))) := ⟨hv⟩
  have bne : Box (v.ownBlock ≠ some db) := ⟨hne⟩
  have bl1 : Box _ := ⟨hl1⟩
  have bl2 : Box _ := ⟨hl2⟩
  have bl3 : Box _ := ⟨hl3⟩
  have bhs : Box _ := ⟨hs⟩
  have hw : IntKind.wrap .u32 (s.length : Int) = (s.length : Int) := by rw [IntKind.wrap_u32]; omega
  clear hx ho hv hl hlen h hne hl1 hl2 hl3 hs
  subst ex
  go_enter Try.func72, Try.ntmps72
  go_wp2_with fail
  refine (AppendUvarint_own w base v bs k bo.get hb hk bl1.get).mono ?_
  rintro e w1 ⟨v1, rfl, ho1, hg1⟩
  obtain ⟨p1, n1, m1, rfl⟩ := own_slice ho1
  have hlt1 : db < w1.heap.size := Nat.lt_of_lt_of_le hlt hg1.size
  have hb1 : base ≤ w1.heap.size := Nat.le_trans hb hg1.size
  have hv1 : w1.heap[db]? = some (.cells #[v] 28 (0, 0)) := (hg1.block db hlt (fun e => bne.get e.symm)).trans bv'.get
  have c1 : w1.cell? ⟨db, 0, none⟩ = some v := by rw [cell_of_row w1 db 0 _ _ _ hv1]; rfl
  have f1 : w1.frozen? ⟨db, 0, none⟩ = false := by simp [World.frozen?, hv1]
  obtain ⟨e1, d1, g1⟩ := dst_store hv1 ho1
  have kp1 : Box (Keep32 w (w1.setCell ⟨db, 0, none⟩ (.slice p1 n1 m1))) := ⟨(keep_grown bo.get hg1).trans (keep_set hv1)⟩
  have bel1 : Box (Below base w (w1.setCell ⟨db, 0, none⟩ (.slice p1 n1 m1))) := ⟨⟨g1.os.trans hg1.os, g1.tape.trans hg1.tape, g1.output.trans hg1.output, Nat.le_trans hg1.size g1.size, fun q hq => (g1.block q (by omega) (fun e => by have := Option.some.inj e; omega)).trans (hg1.block q (by omega) (fun e => by have := bo.get.base q e.symm; omega))⟩⟩
  have c1' : (w1.setCell ⟨db, 0, none⟩ (.slice p1 n1 m1)).cell? ⟨db, 0, none⟩ = some (.slice p1 n1 m1) := by rw [cell_of_row _ db 0 _ _ _ e1]; rfl
  have f1' : (w1.setCell ⟨db, 0, none⟩ (.slice p1 n1 m1)).frozen? ⟨db, 0, none⟩ = false := by simp [World.frozen?, e1]
  have bo1 : Box _ := ⟨d1⟩
  have bne1 : Box _ := ⟨own_ne e1 d1⟩
  have bv1 : Box _ := ⟨e1⟩
  clear hg1 ho1 g1 hv1 d1 e1
  go_wp2_with fail
  refine (AppendUvarint_own _ base (.slice p1 n1 m1) (bs ++ uv k) s.length bo1.get (by simpa using hb1) bhs.get bl2.get).mono ?_
  rintro e w2 ⟨v2, rfl, ho2, hg2⟩
  obtain ⟨p2, n2, m2, rfl⟩ := own_slice ho2
  have hlt2 : db < w2.heap.size := by have := hg2.size; simp at this; omega
  have hb2 : base ≤ w2.heap.size := by have := hg2.size; simp at this; omega
  have hv2 : w2.heap[db]? = some (.cells #[(.slice p1 n1 m1)] 28 (0, 0)) := (hg2.block db (by simpa using hlt1) (fun e => bne1.get e.symm)).trans bv1.get
  have c2 : w2.cell? ⟨db, 0, none⟩ = some (.slice p1 n1 m1) := by rw [cell_of_row w2 db 0 _ _ _ hv2]; rfl
  have f2 : w2.frozen? ⟨db, 0, none⟩ = false := by simp [World.frozen?, hv2]
  obtain ⟨e2, d2, g2⟩ := dst_store hv2 ho2
  have kp2 : Box (Keep32 w (w2.setCell ⟨db, 0, none⟩ (.slice p2 n2 m2))) := ⟨kp1.get.trans ((keep_grown bo1.get hg2).trans (keep_set hv2))⟩
  have bel2 : Box (Below base w (w2.setCell ⟨db, 0, none⟩ (.slice p2 n2 m2))) := ⟨bel1.get.trans ⟨g2.os.trans hg2.os, g2.tape.trans hg2.tape, g2.output.trans hg2.output, Nat.le_trans hg2.size g2.size, fun q hq => (g2.block q (by omega) (fun e => by have := Option.some.inj e; omega)).trans (hg2.block q (by simp; omega) (fun e => by have := bo1.get.base q e.symm; omega))⟩⟩
  have c2' : (w2.setCell ⟨db, 0, none⟩ (.slice p2 n2 m2)).cell? ⟨db, 0, none⟩ = some (.slice p2 n2 m2) := by rw [cell_of_row _ db 0 _ _ _ e2]; rfl
  have f2' : (w2.setCell ⟨db, 0, none⟩ (.slice p2 n2 m2)).frozen? ⟨db, 0, none⟩ = false := by simp [World.frozen?, e2]
  have bo2 : Box _ := ⟨d2⟩
  have bne2 : Box _ := ⟨own_ne e2 d2⟩
  have bv2 : Box _ := ⟨e2⟩
  clear hg2 ho2 g2 hv2 d2 e2
  go_wp2_with (at_builtin; refine wpList_append_octets rfl _ _ rfl base (.slice p2 n2 m2) _ _ s K rfl rfl bo2.get (bx.get.below bel2.get hK) bl3.get (by simpa using hb2) ?_)
  intro v3 w3 ho3 hg3
  obtain ⟨p3, n3, m3, rfl⟩ := own_slice ho3
  have hv3 : w3.heap[db]? = some (.cells #[(.slice p2 n2 m2)] 28 (0, 0)) := (hg3.block db (by simpa using hlt2) (fun e => bne2.get e.symm)).trans bv2.get
  have c3 : w3.cell? ⟨db, 0, none⟩ = some (.slice p2 n2 m2) := by rw [cell_of_row w3 db 0 _ _ _ hv3]; rfl
  have f3 : w3.frozen? ⟨db, 0, none⟩ = false := by simp [World.frozen?, hv3]
  obtain ⟨e3, d3, g3⟩ := dst_store hv3 ho3
  have hlt3 : db < w3.heap.size := by have := hg3.size; simp at this; omega
  have kp3 : Box (Keep32 w (w3.setCell ⟨db, 0, none⟩ (.slice p3 n3 m3))) := ⟨kp2.get.trans ((keep_grown bo2.get hg3).trans (keep_set hv3))⟩
  have bel3 : Box (Below base w (w3.setCell ⟨db, 0, none⟩ (.slice p3 n3 m3))) := ⟨bel2.get.trans ⟨g3.os.trans hg3.os, g3.tape.trans hg3.tape, g3.output.trans hg3.output, Nat.le_trans hg3.size g3.size, fun q hq => (g3.block q (by omega) (fun e => by have := Option.some.inj e; omega)).trans (hg3.block q (by simp; omega) (fun e => by have := bo2.get.base q e.symm; omega))⟩⟩
  have bd3 : Box (DstAt _ base db _) := ⟨h0, _, e3, d3⟩
  clear hg3 ho3 g3 hv3 d3 e3
  go_wp2
  refine ⟨rfl, .tuple #[], results_none (by kernel_rfl) _ _ _, rfl, ?_, bel3.get, kp3.get⟩
  have := bd3.get
  simp only [tagB, ← List.append_assoc] at this ⊢
  exact this
end Go.Proofs.Ytmkkpeolldpcfaa
/-
  Tags, written: keys sorted. Conditions: none.
-/
namespace Go.Proofs.Ytmkkpeolldpcfaa
open Go.RowKit Go.Lib Go.Sort
open Kz

abbrev uvl (x : Int) : Value := .int .u32 x
theorem holds_u32 {w : World} {g : Nat} {cur : Array Value} {e : TypeId} {ss : List Int} (hb : w.heap[g]? = some (.cells cur e (0, 0))) (ht : cur.toList.take ss.length = ss.map uvl) : Holds uvl w g 0 ss.toArray := by
  intro j hj
  have hj' : j < ss.length := by simpa using hj
  refine ⟨?_, by simp [World.frozen?, hb]⟩
  have h1 : (cur.toList.take ss.length)[j]? = (ss.map uvl)[j]? := by rw [ht]
  rw [List.getElem?_take_of_lt hj'] at h1
  simp only [World.cell?, hb, Nat.zero_add]
  simp only [Option.isSome_none, Bool.false_eq_true, if_false]
  rw [← Array.getElem?_toList, h1]
  simp [hj']
theorem heap_u32 {w : World} {g n : Nat} {os : Array Obj} {cur : Array Value} {e : TypeId} {fr : Nat × Nat} (d : Array Int) (hb : w.heap[g]? = some (.cells cur e fr)) :
    (grow (putRow uvl (Sort.ahead w n) g 0 d) os).heap[g]? = some (.cells (putCells uvl 0 d cur) e fr) := by
  have hg : g < w.heap.size := (Array.getElem?_eq_some_iff.1 hb).1
  rw [heap_grow_old _ _ (by simpa using hg)]
  simp [putRow, mapBlock, Sort.ahead, Array.getElem?_modify, hb, onCells]
theorem grownBy_u32 {w : World} {g n : Nat} {os : Array Obj} (d : Array Int) : w.grownBy (grow (putRow uvl (Sort.ahead w n) g 0 d) os) (some g) := by
  refine ⟨rfl, rfl, rfl, by simp, fun k hk hne => ?_⟩
  rw [heap_grow_old _ _ (by simpa using hk)]
  have : g ≠ k := fun e => hne (by rw [e])
  simp [putRow, mapBlock, Sort.ahead, Array.getElem?_modify, this]
theorem take_u32 (cur : Array Value) (ts : List Int) (h : ts.length ≤ cur.size) : (putCells uvl 0 ts.toArray cur).toList.take ts.length = ts.map uvl := by
  apply List.ext_getElem?
  intro j
  by_cases hj : j < ts.length
  · rw [List.getElem?_take_of_lt hj, Array.getElem?_toList]
    simp [putCells, hj, show j < cur.size by omega]
  · rw [List.getElem?_take_eq_none (by omega), List.getElem?_eq_none (by simp; omega)]
theorem own_u32 {w : World} {base g cap n : Nat} {e : TypeId} {os : Array Obj} {cur : Array Value} {ss ts : List Int} (hl : ts.length = ss.length) (hbase : base ≤ g) (hb : w.heap[g]? = some (.cells cur e (0, 0)))
    (h1 : ss.length ≤ cap) (h2 : cap ≤ maxLen) (h3 : cur.size = cap * 1) :
    (grow (putRow uvl (Sort.ahead w n) g 0 ts.toArray) os).ownsRow base e 1 (.slice (some ⟨g, 0, none⟩) ss.length cap) ss.length (ts.map uvl) :=
  ⟨by simp [hl], .inr ⟨g, cap, _, rfl, hbase, heap_u32 _ hb, h1, h2, by simp [putCells, h3], by rw [Nat.mul_one, ← hl]; exact take_u32 cur ts (by omega)⟩⟩

theorem pairwise_tiny : ∀ l : List Int, ¬ 2 ≤ l.length → l.Pairwise (fun x y => x ≤ y)
  | [], _ => List.Pairwise.nil
  | [x], _ => List.pairwise_singleton _ _
  | x :: y :: r, h => by simp at h
theorem swapTiny (n : Nat) (h : n ≤ 1) : Lib.swapperK n siE 10 = n + 1 := by
  rcases Nat.eq_zero_or_pos n with h0 | h0
  · subst h0; simp [Lib.swapperK]
  · obtain rfl : n = 1 := by omega
    simp [Lib.swapperK]

set_option maxHeartbeats 2000000 in
/-- The keys are sorted: a permutation, none above a later one. -/
theorem sort_keys (w : World) (base ob g cap : Nat) (ss : List Int) (hob : w.cell? ⟨ob, 0, none⟩ = some (.slice (some ⟨g, 0, none⟩) ss.length cap)) (hne : ob ≠ g)
    (hrow : w.ownsRow base 71 1 (.slice (some ⟨g, 0, none⟩) ss.length cap) ss.length (ss.map uvl)) (hsz : ss.length < 4611686018427387904) :
    Calls Try.prog 81 #[.iface 129 (.slice (some ⟨g, 0, none⟩) ss.length cap), .func (.func 82) #[] #[.pointer (some ⟨ob, 0, none⟩)]] w fun e w' =>
      e = .returned (.tuple #[]) ∧ ∃ ts : List Int, ts.Perm ss ∧ ts.Pairwise (fun x y => x ≤ y) ∧ w'.ownsRow base 71 1 (.slice (some ⟨g, 0, none⟩) ss.length cap) ss.length (ts.map uvl) ∧ w.grownBy w' (some g) := by
  have hrow0 := hrow
  rcases hrow.2 with ⟨hnil, _⟩ | ⟨g', cap', cur, hv, hbase, hb, h1, h2, h3, h4⟩
  · cases hnil
  simp only [Value.slice.injEq, Option.some.injEq, Addr.mk.injEq, true_and, and_true] at hv
  obtain ⟨rfl, rfl⟩ := hv
  have hob' : ob < w.heap.size := World.block_lt_of_cell? w _ hob
  have hH : Holds uvl w g 0 ss.toArray := holds_u32 hb (by simpa using h4)
  have hblk : g < w.heap.size := (Array.getElem?_eq_some_iff.1 hb).1
  by_cases hs2 : 2 ≤ ss.length
  · have hless : LessReads Try.prog 82 #[.pointer (some ⟨ob, 0, none⟩)] uvl ltInt g 0 ss.toArray.size w := by
      intro m os dk hs i j hi hj
      have e : sortWorld uvl w g 0 m dk os = putRow uvl (grow (Sort.ahead w m) os) g 0 dk := by
        unfold sortWorld; rw [putRow_grow _ (Sort.ahead w m) _ g 0 _ hblk]
      have hHg : Holds uvl (grow (Sort.ahead w m) os) g 0 ss.toArray := holds_grow _ _ _ g 0 ss.toArray hblk (holds_ahead _ _ _ _ _ _ hH)
      refine less_u32 g 0 cap ob ss.toArray.size _ (fun t => dk[t]!) ?_ (fun t ht => ?_) i j hi hj (by simpa using hsz)
      · rw [e, cell?_putRow_other _ _ g 0 dk _ (Or.inl (by show ob ≠ g; exact hne)), cell?_grow _ _ _ (by show ob < w.heap.size; exact hob')]
        show w.cell? _ = _
        simpa using hob
      · rw [e]; exact cell?_putRow _ _ g 0 ss.toArray dk hHg hs t (by have h5 := hs; simp only [List.size_toArray] at h5 ht ⊢; omega)
    have hS := Any.sort_Slice_sorted Try.sl6 129 71 siT siE (by kernel_rfl) (by kernel_rfl) (by kernel_rfl) (by kernel_rfl) 10 (fun _ => by kernel_rfl) (by kernel_rfl) (fun _ => by kernel_rfl) uvl (fun _ => rfl) ltInt swo_ltInt 82 _
      (enters_of Try.func82 (by kernel_rfl) rfl) g 0 cap ss.toArray (by simpa using hs2) (by simpa using hsz) 93 (by rw [siK _ (by simpa using hs2)]; kernel_rfl) true
      (fun args W => run_callFunc_extern Try.func93 (by kernel_rfl) (by kernel_rfl) (by kernel_rfl) (e := Extern.ReflectliteSwapper.swap true) (by kernel_rfl) args W) _ hless hH hblk
    change Calls Try.prog 81 _ _ _ at hS
    simp only [List.size_toArray] at hS
    refine hS.mono ?_
    rintro e w' ⟨rfl, d', n, os, hp, hso, rfl⟩
    obtain ⟨hp1, -, hp3⟩ := hp
    have hlen : d'.toList.length = ss.length := by simpa using hp1
    have hperm : d'.toList.Perm ss := by
      have e1 : d'.extract 0 ss.length = d' := by rw [← hlen, Array.length_toList]; simp
      have e2 : ss.toArray.extract 0 ss.length = ss.toArray := by rw [show ss.length = ss.toArray.size by simp]; exact Array.extract_size
      rw [e1, e2] at hp3
      simpa using hp3
    refine ⟨rfl, d'.toList, hperm, ?_, ?_, grownBy_u32 _⟩
    · rw [List.pairwise_iff_getElem]
      intro i j hi hj hij
      have := hso i j (Nat.zero_le _) hij (by omega)
      simp only [ltInt, decide_eq_false_iff_not] at this
      rw [getElem!_pos d' i (by simpa using hi), getElem!_pos d' j (by simpa using hj)] at this
      simp only [Array.getElem_toList]
      omega
    · have := own_u32 (w := w) (n := n) (os := os) (ss := ss) (ts := d'.toList) hlen hbase hb h1 h2 h3
      simpa using this
  · have hS := Any.sort_Slice_tiny Try.sl6 129 71 siT siE (by kernel_rfl) (by kernel_rfl) (by kernel_rfl) (by kernel_rfl) 10 (fun _ => by kernel_rfl) (some ⟨g, 0, none⟩) ss.length cap (by omega) (if ss.length = 0 then 88 else 89) (by
      rw [swapTiny _ (by omega)]
      rcases Nat.eq_zero_or_pos ss.length with h | h
      · rw [h]; kernel_rfl
      · rw [show ss.length = 1 by omega]; kernel_rfl) (.func 82) #[] #[.pointer (some ⟨ob, 0, none⟩)] w
    change Calls Try.prog 81 _ _ _ at hS
    refine hS.mono ?_
    rintro e w' ⟨rfl, os, rfl⟩
    have hg : w.grownBy (grow w os) (some g) := ⟨rfl, rfl, rfl, by simp, fun k hk _ => heap_grow_old _ _ hk⟩
    have hg' : w.grownBy (grow w os) none := ⟨rfl, rfl, rfl, by simp, fun k hk _ => heap_grow_old _ _ hk⟩
    refine ⟨rfl, ss, List.Perm.refl _, ?_, hrow0.kept hg' (.inr (by simp [Value.ownBlock])), hg⟩
    exact pairwise_tiny ss hs2
end Go.Proofs.Ytmkkpeolldpcfaa
/-
  Tags, written: each of them, by rising numbers. Conditions: none.
-/
namespace Go.Proofs.Ytmkkpeolldpcfaa
open Go.RowKit Go.Lib Go.Sort
open Kz

theorem strict_unique : ∀ a b : List Int, a.Pairwise (· < ·) → b.Pairwise (· < ·) → (∀ z, z ∈ a ↔ z ∈ b) → a = b
  | [], [], _, _, _ => rfl
  | [], y :: b, _, _, h => absurd ((h y).2 (by simp)) (by simp)
  | x :: a, [], _, _, h => absurd ((h x).1 (by simp)) (by simp)
  | x :: a, y :: b, ha, hb, h => by
    obtain ⟨ha1, ha2⟩ := List.pairwise_cons.1 ha
    obtain ⟨hb1, hb2⟩ := List.pairwise_cons.1 hb
    have hxy : x = y := by
      have h1 := (h x).1 (by simp)
      have h2 := (h y).2 (by simp)
      simp only [List.mem_cons] at h1 h2
      rcases h1 with h1 | h1
      · exact h1
      · rcases h2 with h2 | h2
        · exact h2.symm
        · have := hb1 x h1; have := ha1 y h2; omega
    subst hxy
    rw [strict_unique a b ha2 hb2 fun z => ?_]
    have hz := h z
    simp only [List.mem_cons] at hz
    constructor
    · intro hm
      have := ha1 z hm
      exact (hz.1 (.inr hm)).resolve_left (by omega)
    · intro hm
      have := hb1 z hm
      exact (hz.2 (.inr hm)).resolve_left (by omega)

theorem has_tags (l : List (Nat × Value)) (z : Int) : Maps.has (DataW.map (tagDs l)) (Lit.int .u32 z) = (l.map fun x => (x.1 : Int)).contains z := by
  rw [Maps.has_eq]
  induction l with
  | nil => rfl
  | cons x r ih =>
    simp only [tagDs, List.map_cons, List.any_cons, List.contains_cons] at ih ⊢
    rw [ih]
    congr 1
    simp [Lit.sameKey]
    by_cases h : (x.1 : Int) = z
    · simp [h]
    · simp [h]; exact fun e => h e.symm
theorem size_tags (l : List (Nat × Value)) : Maps.size (DataW.map (tagDs l)) = l.length := by simp [Maps.size_eq, tagDs]
theorem same_u32 (a b : Int) : (Lit.int .u32 a).sameKey (Lit.int .u32 b) = decide (a = b) := by
  simp [Lit.sameKey]
theorem tags_len {w : World} {K : Nat → Prop} : ∀ (l : List (Nat × Value)) (u : List (Nat × List UInt8)), TagsAt w K l u → u.length = l.length ∧ (u.map fun x => (x.1 : Int)) = l.map fun x => (x.1 : Int)
  | [], [], _ => ⟨rfl, rfl⟩
  | [], _ :: _, h => h.elim
  | _ :: _, [], h => h.elim
  | (k, v) :: l, (j, b) :: u, h => by
    obtain ⟨rfl, -, h3⟩ := h
    obtain ⟨e1, e2⟩ := tags_len l u h3
    exact ⟨by simp [e1], by simp [e2]⟩
theorem tags_at {w : World} {K : Nat → Prop} : ∀ (l : List (Nat × Value)) (u : List (Nat × List UInt8)), TagsAt w K l u → ∀ (i : Nat) (k : Nat) (b : List UInt8), u[i]? = some (k, b) → ∃ v, l[i]? = some (k, v) ∧ BytesAt w K v b
  | [], [], _, _, _, _, h => by cases h
  | [], _ :: _, h, _, _, _, _ => h.elim
  | _ :: _, [], h, _, _, _, _ => h.elim
  | (k, v) :: l, (j, b) :: u, h, 0, k', b', hi => by
    simp only [List.getElem?_cons_zero, Option.some.injEq, Prod.mk.injEq] at hi
    obtain ⟨rfl, rfl⟩ := hi
    exact ⟨v, by simp [h.1], h.2.1⟩
  | (k, v) :: l, (j, b) :: u, h, i + 1, k', b', hi => by
    simpa using tags_at l u h.2.2 i k' b' (by simpa using hi)
theorem atKey_tags (z0 : DataW Value) : ∀ (l : List (Nat × Value)), Rising l → ∀ (i k : Nat) (v : Value), l[i]? = some (k, v) → (DataW.map (tagDs l)).atKey (Lit.int .u32 (k : Int)) z0 = DataW.held v := by
  intro l
  induction l with
  | nil => intro _ i k v h; cases h
  | cons x r ih =>
    intro hr i k v h
    obtain ⟨h1, h2⟩ := List.pairwise_cons.1 hr
    cases i with
    | zero =>
      simp only [List.getElem?_cons_zero, Option.some.injEq] at h
      subst h
      simp [DataW.atKey, tagDs, Lit.sameKey]
    | succ i =>
      simp only [List.getElem?_cons_succ] at h
      have hlt := h1 _ (List.mem_of_getElem? h)
      have := ih h2 i k v h
      have hne : ¬ ((x.1 : Int) = (k : Int)) := by have : x.1 < k := hlt; omega
      simp only [DataW.atKey, tagDs, List.map_cons, List.find?_cons, same_u32, hne, decide_false] at this ⊢
      exact this

theorem info32 : (Try.prog.info? 71).map (fun i => (i.zero, i.size, i.bytes)) = some (some (.int .u32 0), 1, 4) := by kernel_rfl
/-- What has been collected. -/
structure Coll (l : List (Nat × Value)) (left : Lit → Bool) (ks : List Int) : Prop where
  nodup : ks.Nodup
  mem : ∀ z ∈ ks, z ∈ l.map fun x => (x.1 : Int)
  left : ∀ z : Int, left (Lit.int .u32 z) = ((l.map fun x => (x.1 : Int)).contains z && !ks.contains z)
theorem Coll.start (l : List (Nat × Value)) : Coll l (Maps.has (DataW.map (tagDs l))) [] := ⟨List.nodup_nil, fun z h => absurd h (by simp), fun z => by rw [has_tags]; simp⟩
theorem Coll.step {l : List (Nat × Value)} {left : Lit → Bool} {ks : List Int} (h : Coll l left ks) {x : Int} (hx : left (Lit.int .u32 x) = true) : Coll l (fun z => left z && !z.sameKey (Lit.int .u32 x)) (ks ++ [x]) := by
  have hl := h.left x
  rw [hx] at hl
  have hl' := hl.symm
  simp only [Bool.and_eq_true, Bool.not_eq_true', List.contains_eq_mem, decide_eq_true_eq, decide_eq_false_iff_not] at hl'
  refine ⟨?_, ?_, fun z => ?_⟩
  · rw [List.nodup_append]
    exact ⟨h.nodup, by simp, fun a ha b hb => by simp only [List.mem_singleton] at hb; subst hb; rintro rfl; exact hl'.2 ha⟩
  · intro z hz
    simp only [List.mem_append, List.mem_singleton] at hz
    rcases hz with hz | rfl
    · exact h.mem z hz
    · exact hl'.1
  · rw [h.left z, same_u32]
    by_cases e : z = x
    · subst e; simp
    · simp [e, List.contains_eq_mem]
theorem Coll.done {l : List (Nat × Value)} {left : Lit → Bool} {ks ts : List Int} (h : Coll l left ks) (hl : Rising l) (h0 : ∀ kl, left kl = false) (hp : ts.Perm ks) (hs : ts.Pairwise (fun x y => x ≤ y)) : ts = l.map fun x => (x.1 : Int) := by
  refine strict_unique _ _ ?_ ?_ fun z => ?_
  · have hn : ts.Nodup := hp.nodup_iff.2 h.nodup
    rw [List.Nodup] at hn
    exact (hs.and hn).imp fun ⟨a, b⟩ => by omega
  · rw [List.pairwise_map]
    exact hl.imp fun h => by omega
  · rw [hp.mem_iff]
    constructor
    · exact h.mem z
    · intro hz
      have := h.left z
      rw [h0] at this
      have hz' : (l.map fun x => (x.1 : Int)).contains z = true := by simpa [List.contains_eq_mem] using hz
      rw [hz'] at this
      simpa [List.contains_eq_mem] using this.symm

set_option maxRecDepth 100000 in
set_option maxHeartbeats 2000000 in
theorem each_some (w : World) (base tb to db b n : Nat) (bs : List UInt8) (l : List (Nat × Value)) (u : List (Nat × List UInt8)) (K : Nat → Prop) (hr : w.cell? ⟨tb, to, none⟩ = some (.map (some b))) (htb : tb < base) (hKb : K b) (hne : l ≠ [])
    (hl : Rising l) (hown : w.ownsMap Try.prog 71 heldR b n (.map (tagDs l))) (hta : TagsAt w K l u) (hd : DstAt w base db bs) (hb : base ≤ w.heap.size) (hK : ∀ g, K g → g < base) (hu : u.length ≤ most) (hf : ∀ x ∈ u, x.1 < 4294967296 ∧ x.2.length ≤ most)
    (hlen : bs.length + (u.flatMap tagB).length ≤ lim2) :
    Calls Try.prog 71 #[.pointer (some ⟨tb, to, none⟩), .func (.func 72) #[] #[.pointer (some ⟨db, 0, none⟩)]] w fun e w' =>
      e = .returned (.tuple #[]) ∧ DstAt w' base db (bs ++ u.flatMap tagB) ∧ Below base w w' := by
  obtain ⟨i0, hi, hz0, hz1, hz2⟩ := info_parts info32
  obtain ⟨ul, ukeys⟩ := tags_len l u hta
  have hsz : Maps.size (DataW.map (tagDs l)) = l.length := size_tags l
  have hl0 : ¬ ((l.length : Int) = 0) := by
    intro e
    have : l.length = 0 := by omega
    exact hne (List.length_eq_zero_iff.1 this)
  have hlm : l.length ≤ 32767 := by rw [← ul]; exact hu
  have blm : Box _ := ⟨hlm⟩
  have bown : Box _ := ⟨hown⟩
  have bta : Box _ := ⟨hta⟩
  have bd : Box _ := ⟨hd⟩
  have bnd : Box _ := ⟨hlen⟩
  clear hown hta hd hlen hlm hu
  go_enter Try.func71, Try.ntmps71
  go_wp2_with (first
    | (at_len; refine wpList_len_own _ rfl _ 53 rfl 71 28 Try.underlying53 _ b n _ rfl bown.get ?_; rw [hsz])
    | (at_make; refine wpList_make_own _ rfl _ _ 129 rfl w.heap.size 71 i0 (.int .u32 0) 1 Try.underlying129 hi hz0 hz1 _ _ _ l.length rfl rfl rfl ?_ ?_ (Nat.le_refl _) ?_))
  · have := blm.get; rw [hz2]; omega
  · have := blm.get; simp only [maxLen]; omega
  intro w1 hrow1 hg1
  have hs1 : w.heap.size ≤ w1.heap.size := hg1.size
  have old1 : ∀ k, k < w.heap.size → w1.heap[k]? = w.heap[k]? := fun k hk => hg1.block k hk (by simp)
  have c1 : w1.cell? ⟨tb, to, none⟩ = some (.map (some b)) := by rw [cell_kept (old1 tb (by omega))]; exact hr
  have hbl : b < w.heap.size := bown.get.lt
  have brow1 : Box _ := ⟨hrow1⟩
  have bold1 : Box _ := ⟨old1⟩
  have bg1 : Box _ := ⟨hg1⟩
  have htb1 : tb < w1.heap.size := by omega
  have hsl : l.length < 4611686018427387904 := by have := blm.get; omega
  clear hrow1 hg1 old1
  go_wp2_with (first
    | (at_range; refine wpList_range_own _ rfl _ 53 rfl 71 28 keyed32 Try.underlying53 heldR b n (.map (tagDs l)) rfl ?_ ?_))
  · refine ownsMap_block bown.get ?_
    rw [alloc_old _ _ _ (by omega)]
    exact bold1.get b hbl
  intro w2 hrg2 hg2 hs2
  have hob2 : w2.heap[w1.heap.size]? = some (.cells #[.slice (some ⟨w.heap.size, 0, none⟩) 0 l.length] 129 (0, 0)) := (hg2.block _ (by simp) (by simp)).trans (alloc_new _ _)
  have hrow2 : w2.ownsRow w.heap.size 71 1 (.slice (some ⟨w.heap.size, 0, none⟩) 0 l.length) 0 [] := (brow1.get.kept (World.grownBy_alloc w1 _ none) (.inr (by simp [Value.ownBlock]))).kept hg2 (.inr (by simp [Value.ownBlock]))
  have hbel2 : Below w.heap.size w w2 := ⟨hg2.os.trans bg1.get.os, hg2.tape.trans bg1.get.tape, hg2.output.trans bg1.get.output, by have := hg2.size; simp at this; omega, fun k hk => by
    rw [hg2.block k (by simp; omega) (by simp), alloc_old _ _ _ (by omega)]; exact bold1.get k hk⟩
  have bob2 : Box _ := ⟨hob2⟩
  have brow2 : Box _ := ⟨hrow2⟩
  have bbel2 : Box _ := ⟨hbel2⟩
  have brg2 : Box (w2.ranges Try.prog 71 heldR b (w1.heap.size + 1) n (.map (tagDs l)) (Maps.has (.map (tagDs l))) l.length) := ⟨by simpa [hsz] using hrg2⟩
  clear hob2 hrow2 hbel2 hg2 hs2 hrg2
  go_wp2
  go_loopw [5] (fun _ wr => ∃ (left : Lit → Bool) (cnt : Nat) (ks : List Int) (p m : Nat), wr.ranges Try.prog 71 heldR b (w1.heap.size + 1) n (.map (tagDs l)) left cnt ∧ ks.length + cnt ≤ l.length ∧
      wr.heap[w1.heap.size]? = some (.cells #[.slice (some ⟨p, 0, none⟩) ks.length m] 129 (0, 0)) ∧ wr.ownsRow w.heap.size 71 1 (.slice (some ⟨p, 0, none⟩) ks.length m) ks.length (ks.map uvl) ∧ Coll l left ks ∧ Below w.heap.size w wr)
    (fun _ wr => wr.rangeLeft b (w1.heap.size + 1))
  case atStart => exact ⟨_, _, [], _, _, brg2.get, by simp, bob2.get, brow2.get, Coll.start l, bbel2.get⟩
  case round =>
    obtain ⟨left, cnt, ks, p, m, hrg, hcs, hob, hrow, hC, hbel⟩ := hrel
    have hs := hbel.size
    have cob : wr.cell? ⟨w1.heap.size, 0, none⟩ = some (.slice (some ⟨p, 0, none⟩) ks.length m) := by rw [cell_of_row wr _ 0 _ _ _ hob]; rfl
    have fob : wr.frozen? ⟨w1.heap.size, 0, none⟩ = false := by simp [World.frozen?, hob]
    have bobr : Box _ := ⟨hob⟩
    have browr : Box _ := ⟨hrow⟩
    have bC : Box _ := ⟨hC⟩
    have bbel : Box _ := ⟨hbel⟩
    have brg : Box _ := ⟨hrg⟩
    have bcs : Box _ := ⟨hcs⟩
    clear hob hrow hC hbel hrg hcs
    go_wp2_with (first
      | (at_next; refine wpList_next_ranges _ rfl _ rfl 71 keyed32 heldR (Value.int .u32) id (fun key kl hk => by obtain ⟨x, hx, _⟩ := Maps.keyOf_int_inv Try.underlying71 hk; exact ⟨x, hx⟩) (fun v y _ => ⟨v, rfl⟩) b (w1.heap.size + 1) n _ _ _ rfl brg.get ?_ ?_))
    · intro hc0 hl0
      have hnep : w1.heap.size ≠ p := by
        rintro rfl
        rcases browr.get.2 with ⟨hx, _⟩ | ⟨g', cap', cur', hv', _, hh', _⟩
        · cases hx
        · simp only [Value.slice.injEq, Option.some.injEq, Addr.mk.injEq] at hv'
          obtain ⟨⟨rfl, -⟩, -⟩ := hv'
          have := bobr.get
          rw [hh'] at this
          simp only [Option.some.injEq, Obj.cells.injEq] at this
          exact absurd this.2.1 (by decide)
      have hkl : ks.length ≤ l.length := by have := bcs.get; omega
      have hlr : p < wr.heap.size := (browr.get.lt p rfl).2
      have hlrb : w.heap.size ≤ p := (browr.get.lt p rfl).1
      have hsort := sort_keys wr w.heap.size w1.heap.size p m ks cob hnep browr.get (by omega)
      have bsort : Box _ := ⟨hsort⟩
      clear hsort
      go_wp2_with fail
      refine bsort.get.mono ?_
      rintro e w5 ⟨rfl, ts, hperm, hsorted, hrow5, hg5⟩
      have hts := bC.get.done hl hl0 hperm hsorted
      have hob5 : w5.heap[w1.heap.size]? = some (.cells #[.slice (some ⟨p, 0, none⟩) ks.length m] 129 (0, 0)) := (hg5.block _ (Array.getElem?_eq_some_iff.1 bobr.get).1 (fun e => hnep (Option.some.inj e))).trans bobr.get
      have cob5 : w5.cell? ⟨w1.heap.size, 0, none⟩ = some (.slice (some ⟨p, 0, none⟩) ks.length m) := by rw [cell_of_row w5 _ 0 _ _ _ hob5]; rfl
      have hkn : ks.length = l.length := by rw [← hperm.length_eq, hts]; simp
      have bel5 : Box (Below w.heap.size w w5) := ⟨hg5.os.trans bbel.get.os, hg5.tape.trans bbel.get.tape, hg5.output.trans bbel.get.output, Nat.le_trans bbel.get.size hg5.size, fun k hk => (hg5.block k (by omega) (fun e => by have := Option.some.inj e; omega)).trans (bbel.get.block k hk)⟩
      subst hts
      rw [hkn] at hrow5 cob5
      rcases hrow5.2 with ⟨hx, _⟩ | ⟨g', cap', cur, hv', _, hcur, h1', h2', h3', h4'⟩
      · cases hx
      simp only [Value.slice.injEq, Option.some.injEq, Addr.mk.injEq, true_and, and_true] at hv'
      obtain ⟨rfl, rfl⟩ := hv'
      have bcur : Box _ := ⟨hcur⟩
      have bkey : Box (∀ (j k : Nat) v, l[j]? = some (k, v) → cur[j]? = some (uvl (k : Int))) := ⟨fun j k v hj => by
        have hlt : j < l.length := (List.getElem?_eq_some_iff.1 hj).1
        have e1 : (cur.toList.take (l.length * 1))[j]? = (List.map uvl (l.map fun x => (x.1 : Int)))[j]? := by rw [h4']
        rw [List.getElem?_take_of_lt (by omega)] at e1
        rw [← Array.getElem?_toList, e1]
        simp [hj]⟩
      have bd5 : Box (DstAt w5 base db bs) := ⟨⟨bd.get.1, bd.get.2.elim fun v hv => ⟨v, (bel5.get.block db bd.get.lt).trans hv.1, hv.2.grown bel5.get.block⟩⟩⟩
      clear hob5 hg5 hrow5 hperm hsorted hcur h1' h2' h3' h4' bsort
      have hl63 : l.length < 9223372036854775807 := by have := blm.get; omega
      go_wp2
      go_loopw [39] (fun i wr' => ∃ j : Nat, i = .int .i64 (j : Int) ∧ j ≤ l.length ∧ wr'.heap[p]? = some (.cells cur 71 (0, 0)) ∧ Below base w wr' ∧ DstAt wr' base db (bs ++ (u.take j).flatMap tagB)) (fun i _ => l.length - (intOf i).toNat)
      case atStart => exact ⟨0, rfl, Nat.zero_le _, bcur.get, below_below bel5.get hb, by simpa using bd5.get⟩
      case round =>
        obtain ⟨j, rfl, hj, hcur', hbel', hd'⟩ := hrel
        have ct : wr.cell? ⟨tb, to, none⟩ = some (.map (some b)) := by rw [cell_kept (hbel'.block tb htb)]; exact hr
        have bcur' : Box _ := ⟨hcur'⟩
        have bbel' : Box _ := ⟨hbel'⟩
        have bd' : Box _ := ⟨hd'⟩
        by_cases hjl : j < l.length
        · obtain ⟨k, s, huj⟩ : ∃ k s, u[j]? = some (k, s) := ⟨(u[j]'(by omega)).1, (u[j]'(by omega)).2, by rw [List.getElem?_eq_getElem (by omega)]⟩
          obtain ⟨vv, hlj, hbv⟩ := tags_at l u bta.get j k s huj
          have hfk := hf _ (List.mem_of_getElem? huj)
          have cj : wr.cell? ⟨p, j, none⟩ = some (.int .u32 (k : Int)) := by rw [cell_of_row wr p j _ _ _ hcur']; exact bkey.get j k vv hlj
          obtain ⟨v0, ps, hrun, hv0⟩ := (ownsMap_block bown.get (hbel'.block b (hK b hKb))).lookup keyed32 Try.underlying53 (z := .slice none 0 0) (zd := .held (.slice none 0 0)) (zp := []) (by kernel_rfl) rfl (key_ok hfk.1)
          rw [atKey_tags _ l hl j k vv hlj] at hv0
          obtain rfl : v0 = vv := by
            simp only [heldR, Option.some.injEq, Prod.mk.injEq, DataW.held.injEq] at hv0
            exact hv0.1
          have hji : (j : Int) < (l.length : Int) := by omega
          have hsplit : (u.take (j + 1)).flatMap tagB = (u.take j).flatMap tagB ++ tagB (k, s) := by rw [List.take_add_one, huj]; simp
          have bsplit : Box _ := ⟨hsplit⟩
          have hroom : (bs ++ (u.take j).flatMap tagB).length + (tagB (k, s)).length ≤ lim2 := by
            have e : u = u.take (j + 1) ++ u.drop (j + 1) := (List.take_append_drop _ _).symm
            have h0 := bnd.get
            rw [e] at h0
            rw [List.flatMap_append, hsplit] at h0
            simp only [List.length_append] at h0 ⊢
            omega
          have broom : Box _ := ⟨hroom⟩
          have bbv : Box _ := ⟨hbv.below hbel' hK⟩
          have bfk : Box _ := ⟨hfk⟩
          have hbw : base ≤ wr.heap.size := Nat.le_trans hb (Nat.le_trans (Nat.le_refl _) hbel'.size)
          clear hcur' hbel' hd' hlj hbv hfk hv0 huj hsplit hroom
          go_wp2_with fail
          refine (app_tag wr base db k _ s v0 K bd'.get hbw bfk.get.1 bbv.get hK (by have := bfk.get.2; simp only [most] at this; omega) broom.get).mono ?_
          rintro e w6 ⟨rfl, hd6, hb6, hk6⟩
          have bd6 : Box _ := ⟨hd6⟩
          have bb6 : Box _ := ⟨hb6⟩
          have bk6 : Box _ := ⟨hk6⟩
          have hwj : IntKind.wrap .i64 ((j : Int) + 1) = ((j + 1 : Nat) : Int) := by rw [IntKind.wrap_i64]; omega
          clear hd6 hb6 hk6
          go_wp2
          go_roundw
          case rel => exact ⟨j + 1, rfl, by omega, bk6.get p cur _ bcur'.get, bbel'.get.trans bb6.get, by rw [bsplit.get, ← List.append_assoc]; exact bd6.get⟩
          case measure => simp only [intOf]; omega
        · have hji : ¬ ((j : Int) < (l.length : Int)) := by omega
          obtain rfl : j = l.length := by omega
          clear hcur' hbel' hd'
          go_wp2
          have hd := bd'.get
          rw [show l.length = u.length from ul.symm, List.take_length] at hd
          exact ⟨rfl, .tuple #[], results_none (by kernel_rfl) _ _ _, rfl, hd, bbel'.get⟩
    · intro x c kl yd yp w3 cnt3 hkey hlk hv hat hrg3 hlt hg3 hs3 hen
      obtain ⟨x', ex, rfl, hwx⟩ := Maps.keyOf_int_inv Try.underlying71 hkey
      obtain rfl : x = x' := by injection ex
      have hs3' : wr.heap.size ≤ w3.heap.size := hg3.size
      have hob3 : w3.heap[w1.heap.size]? = some (.cells #[.slice (some ⟨p, 0, none⟩) ks.length m] 129 (0, 0)) := (hg3.block _ (Array.getElem?_eq_some_iff.1 bobr.get).1 (by simp)).trans bobr.get
      have cob3 : w3.cell? ⟨w1.heap.size, 0, none⟩ = some (.slice (some ⟨p, 0, none⟩) ks.length m) := by rw [cell_of_row w3 _ 0 _ _ _ hob3]; rfl
      have fob3 : w3.frozen? ⟨w1.heap.size, 0, none⟩ = false := by simp [World.frozen?, hob3]
      have hlob : w1.heap.size < w3.heap.size := (Array.getElem?_eq_some_iff.1 hob3).1
      have hrow3 := browr.get.kept hg3 (.inr (row_ne_iter browr.get brg.get).symm)
      have bob3 : Box _ := ⟨hob3⟩
      have brow3 : Box _ := ⟨hrow3⟩
      have brg3 : Box _ := ⟨hrg3⟩
      have bg3 : Box _ := ⟨hg3⟩
      have blt3 : Box _ := ⟨hlt⟩
      have blk : Box _ := ⟨hlk⟩
      have bws : Box (w.heap.size ≤ w3.heap.size) := ⟨by omega⟩
      clear hs3 hob3 hrow3 hrg3 hg3 hlt hkey hv hat ex hlk
      go_wp2_with (first
        | (at_builtin; refine wpList_append_own _ rfl _ _ 129 rfl w.heap.size 71 i0 (.int .u32 0) 1 4 Try.underlying129 hi hz0 hz1 hz2 rfl (by decide) _ _ _ rfl (brow3.get.alloc _) ⟨w3.heap.size, 0, none⟩ 1 1 [uvl x] rfl rfl (cell_one_new _ _ _) (by simp [Value.oneCell']) ?_ ?_ ?_ ?_))
      · have := blm.get; have := bcs.get; simp only [maxLen]; omega
      · have := blm.get; have := bcs.get; omega
      · simp; have := bws.get; omega
      intro v4 w4 hown4 hg4 hnil4
      have hob4 : w4.heap[w1.heap.size]? = some (.cells #[.slice (some ⟨p, 0, none⟩) ks.length m] 129 (0, 0)) := by
        rw [hg4.block _ (by simp; omega) ?_, alloc_old _ _ _ hlob]
        · exact bob3.get
        · intro e
          rcases brow3.get.2 with ⟨hx, _⟩ | ⟨g', cap', cur', hv', _, hh', _⟩
          · cases hx
          · rw [hv'] at e
            simp only [Value.ownBlock, Option.some.injEq] at e
            subst e
            have := bob3.get
            rw [hh'] at this
            simp only [Option.some.injEq, Obj.cells.injEq] at this
            exact absurd this.2.1 (by decide)
      obtain ⟨p4, m4, rfl⟩ : ∃ p4 m4, v4 = .slice (some ⟨p4, 0, none⟩) (ks.length + 1) m4 := by
        rcases hown4.2 with ⟨hx, hy⟩ | ⟨g', cap', cur', hv', _⟩
        · exact absurd hy (by simp)
        · exact ⟨_, _, hv'⟩
      have cob4 : w4.cell? ⟨w1.heap.size, 0, none⟩ = some (.slice (some ⟨p, 0, none⟩) ks.length m) := by rw [cell_of_row w4 _ 0 _ _ _ hob4]; rfl
      have fob4 : w4.frozen? ⟨w1.heap.size, 0, none⟩ = false := by simp [World.frozen?, hob4]
      have bob4 : Box _ := ⟨hob4⟩
      have bown4 : Box _ := ⟨hown4⟩
      have bg4 : Box _ := ⟨hg4⟩
      clear hob4 hown4 hg4 hnil4
      have hnep : p4 ≠ w1.heap.size := by
        rintro rfl
        rcases bown4.get.2 with ⟨hx, _⟩ | ⟨g', cap', cur', hv', _, hh', _⟩
        · cases hx
        · simp only [Value.slice.injEq, Option.some.injEq, Addr.mk.injEq] at hv'
          obtain ⟨⟨rfl, -⟩, -⟩ := hv'
          have := bob4.get
          rw [hh'] at this
          simp only [Option.some.injEq, Obj.cells.injEq] at this
          exact absurd this.2.1 (by decide)
      have hset : w4.grownBy (w4.setCell ⟨w1.heap.size, 0, none⟩ (.slice (some ⟨p4, 0, none⟩) (ks.length + 1) m4)) (some w1.heap.size) := grown_setCell (grownBy_refl _ _) 0 _
      have hrg4 := ((brg3.get.alloc (.cells #[uvl x] 71)).kept bg4.get (row_ne_low brow3.get hbl) (row_ne_iter brow3.get brg3.get)).kept hset (by simp; omega) (by simp)
      have brg4 : Box _ := ⟨hrg4⟩
      have bbel4 : Box (Below w.heap.size w (w4.setCell ⟨w1.heap.size, 0, none⟩ (.slice (some ⟨p4, 0, none⟩) (ks.length + 1) m4))) := ⟨by
        refine ⟨hset.os.trans (bg4.get.os.trans (bg3.get.os.trans bbel.get.os)), hset.tape.trans (bg4.get.tape.trans (bg3.get.tape.trans bbel.get.tape)), hset.output.trans (bg4.get.output.trans (bg3.get.output.trans bbel.get.output)), ?_, fun k hk => ?_⟩
        · have h1 := hset.size; have h2 := bg4.get.size; have h3 := bws.get; simp at h2; omega
        · rw [hset.block k (by have h2 := bg4.get.size; have h3 := bws.get; simp at h2; omega) (by simp; omega), bg4.get.block k (by have h3 := bws.get; simp; omega) (fun e => by have := (brow3.get.lt k e.symm).1; omega), alloc_old _ _ _ (by have h3 := bws.get; omega),
            bg3.get.block k (by omega) (by simp; omega)]
          exact bbel.get.block k hk⟩
      have bownS : Box _ := ⟨bown4.get.kept hset (.inr (by simp only [Value.ownBlock, ne_eq, Option.some.injEq]; exact hnep))⟩
      clear hset hrg4
      go_wp2
      go_roundw
      case rel =>
        exact ⟨_, cnt3, ks ++ [x], p4, m4, brg4.get, by have := blt3.get; have := bcs.get; simp; omega, by rw [heap_setCell_row bob4.get]; simp only [List.length_append, List.length_singleton]; rfl, by simpa using bownS.get, bC.get.step blk.get, bbel4.get⟩
      case measure => rw [brg4.get.left_eq, brg.get.left_eq]; exact blt3.get
end Go.Proofs.Ytmkkpeolldpcfaa
/-
  Tags, written: AppendEach, Len. Conditions: none.
-/
namespace Go.Proofs.Ytmkkpeolldpcfaa
open Go.RowKit Go.Lib Go.Sort
open Kz

/-- What a part's tags hold, and how great they are. -/
def UOk (u : List (Nat × List UInt8)) : Prop := u.length ≤ most ∧ ∀ x ∈ u, x.1 < 4294967296 ∧ x.2.length ≤ most

theorem each_none (w : World) (tb to : Nat) (hr : w.cell? ⟨tb, to, none⟩ = some (.map none)) (fv : Value) :
    Calls Try.prog 71 #[.pointer (some ⟨tb, to, none⟩), fv] w fun e w' => e = .returned (.tuple #[]) ∧ w' = w := by
  go_enter Try.func71, Try.ntmps71
  go_wp2
  exact ⟨rfl, .tuple #[], results_none (by kernel_rfl) _ _ _, rfl, rfl⟩
theorem each_empty (w : World) (tb to b n : Nat) (hr : w.cell? ⟨tb, to, none⟩ = some (.map (some b))) (hown : w.ownsMap Try.prog 71 heldR b n (.map (tagDs []))) (fv : Value) :
    Calls Try.prog 71 #[.pointer (some ⟨tb, to, none⟩), fv] w fun e w' => e = .returned (.tuple #[]) ∧ w' = w := by
  have bown : Box _ := ⟨hown⟩
  have hsz : Maps.size (DataW.map (tagDs [])) = 0 := rfl
  clear hown
  go_enter Try.func71, Try.ntmps71
  go_wp2_with (first
    | (at_len; refine wpList_len_own _ rfl _ 53 rfl 71 28 Try.underlying53 _ b n _ rfl bown.get ?_; rw [hsz]))
  exact ⟨rfl, .tuple #[], results_none (by kernel_rfl) _ _ _, rfl, rfl⟩

theorem each_any (w : World) (base tb to db : Nat) (bs : List UInt8) (u : List (Nat × List UInt8)) (K : Nat → Prop) (hT : TagRep w K (fun j => w.cell? ⟨tb, to + j, none⟩) u) (htb : tb < base) (hd : DstAt w base db bs) (hb : base ≤ w.heap.size) (hK : ∀ g, K g → g < base) (hu : UOk u)
    (hlen : bs.length + (u.flatMap tagB).length ≤ lim2) :
    Calls Try.prog 71 #[.pointer (some ⟨tb, to, none⟩), .func (.func 72) #[] #[.pointer (some ⟨db, 0, none⟩)]] w fun e w' =>
      e = .returned (.tuple #[]) ∧ DstAt w' base db (bs ++ u.flatMap tagB) ∧ Below base w w' := by
  obtain ⟨r, hr, hT⟩ := hT
  have hr' : w.cell? ⟨tb, to, none⟩ = some (.map r) := hr
  cases r with
  | none =>
    have : u = [] := hT
    subst this
    refine Calls.mono (each_none w tb to hr' _) ?_
    rintro e w' ⟨rfl, rfl⟩
    exact ⟨rfl, by simpa using hd, Below.refl _ _⟩
  | some b =>
    obtain ⟨hKb, l, n, hl, hown, -, hta⟩ := hT
    by_cases hne : l = []
    · subst hne
      have : u = [] := by
        cases u with
        | nil => rfl
        | cons x r => exact hta.elim
      subst this
      refine Calls.mono (each_empty w tb to b n hr' hown _) ?_
      rintro e w' ⟨rfl, rfl⟩
      exact ⟨rfl, by simpa using hd, Below.refl _ _⟩
    · exact each_some w base tb to db b n bs l u K hr' htb hKb hne hl hown hta hd hb hK hu.1 hu.2 hlen

set_option maxHeartbeats 1000000 in
theorem AppendEach_any (w : World) (base tb to : Nat) (v : Value) (bs : List UInt8) (u : List (Nat × List UInt8)) (K : Nat → Prop) (hT : TagRep w K (fun j => w.cell? ⟨tb, to + j, none⟩) u) (htb : tb < base) (ho : OwnB w base v bs) (hb : base ≤ w.heap.size) (hK : ∀ g, K g → g < base) (hu : UOk u)
    (hlen : bs.length + (u.flatMap tagB).length ≤ lim2) :
    Calls Try.prog 49 #[.pointer (some ⟨tb, to, none⟩), v] w fun e w' => ∃ v', e = .returned v' ∧ OwnB w' base v' (bs ++ u.flatMap tagB) ∧ Below base w w' := by
  obtain ⟨p, n, m, rfl⟩ := own_slice ho
  let W := w.alloc (.cells #[.slice p n m] 28)
  have hW : Below base w W := ⟨rfl, rfl, rfl, by simp [W], fun k hk => alloc_old w _ k (by omega)⟩
  have hT' : TagRep W K (fun j => W.cell? ⟨tb, to + j, none⟩) u := stable_tagRep w W K K _ _ u (fun g hg _ => hW.block g (hK g hg)) hW.size (fun _ h => h) (fun j _ => cell_kept (hW.block tb htb)) hT
  have hd : DstAt W base w.heap.size bs := ⟨hb, _, alloc_new w _, ho.grown fun k hk => alloc_old w _ k hk⟩
  have hc := each_any W base tb to w.heap.size bs u K hT' htb hd (by simp [W]; omega) hK hu hlen
  have bc : Box _ := ⟨hc⟩
  have bW : Box _ := ⟨hW⟩
  clear hc hT hT' ho hd hW
  go_enter Try.func49, Try.ntmps49
  go_wp2_with fail
  refine bc.get.mono ?_
  rintro e w1 ⟨rfl, ⟨h0, v', hv', ho'⟩, hb1⟩
  have c1 : w1.cell? ⟨w.heap.size, 0, none⟩ = some v' := by rw [cell_of_row w1 _ 0 _ _ _ hv']; rfl
  have bo' : Box _ := ⟨ho'⟩
  have bb1 : Box _ := ⟨hb1⟩
  clear hv' ho' hb1
  go_wp2
  go_ret
  exact ⟨v', rfl, bo'.get, bW.get.trans bb1.get⟩

theorem Len_any (w : World) (tb to : Nat) (u : List (Nat × List UInt8)) (K : Nat → Prop) (hT : TagRep w K (fun j => w.cell? ⟨tb, to + j, none⟩) u) :
    Calls Try.prog 48 #[.pointer (some ⟨tb, to, none⟩)] w fun e w' => e = .returned (.int .i64 (u.length : Int)) ∧ w' = w := by
  obtain ⟨r, hr, hT⟩ := hT
  have hr' : w.cell? ⟨tb, to, none⟩ = some (.map r) := hr
  cases r with
  | none =>
    have : u = [] := hT
    subst this
    go_enter Try.func48, Try.ntmps48
    go_wp2
    go_ret
    exact ⟨rfl, rfl⟩
  | some b =>
    obtain ⟨hKb, l, n, hl, hown, -, hta⟩ := hT
    have hsz : Maps.size (DataW.map (tagDs l)) = u.length := by rw [size_tags, (tags_len l u hta).1]
    have bown : Box _ := ⟨hown⟩
    clear hown hta
    go_enter Try.func48, Try.ntmps48
    go_wp2_with (first
      | (at_len; refine wpList_len_own _ rfl _ 53 rfl 71 28 Try.underlying53 _ b n _ rfl bown.get ?_; rw [hsz]))
    go_ret
    exact ⟨rfl, rfl⟩
end Go.Proofs.Ytmkkpeolldpcfaa
/-
  Code that writes: lists, tags, the ends of parts. Conditions: none.
-/
namespace Go.Proofs.Ytmkkpeolldpcfaa
open Go.RowKit (Below)
open Kz

section
variable {tags : Rel (List (Nat × List UInt8))} {E : WE} {v : Int} {flex ht : Bool}

/-- A list's length, as it is handed on. -/
def ListA (ptr : Bool) (_ : World) (_ : Nat → Prop) (u : Value) (t : T) : Prop := ∃ p m, u = .slice p t.l.length m ∧ t.l.length ≤ most ∧ (ptr = true → (p = none ↔ t.null = true))
def WritesLen (f : Nat) (wrt : Nat → List UInt8) : Prop :=
  hasBody Try.prog f = true ∧ ∀ (base : Nat) (bs : List UInt8) (w : World) (v : Value) (n : Nat), OwnB w base v bs → base ≤ w.heap.size → n ≤ most → bs.length + (wrt n).length ≤ lim2 →
    Calls Try.prog f #[v, .int .i64 (n : Int)] w fun e w' => ∃ v', e = .returned v' ∧ OwnB w' base v' (bs ++ wrt n) ∧ Below base w w'
theorem wl_ArrayLen : WritesLen 41 (fun n => counted false false n 4) := ⟨by kernel_rfl, fun base bs w v n ho hb hn hl => AppendArrayLen_any w base v bs n ho hb (by simp only [most] at hn; omega) (lim_of hl (by decide))⟩
theorem wl_CompactArrayLen : WritesLen 40 (fun n => counted true false n 4) := ⟨by kernel_rfl, fun base bs w v n ho hb hn hl => AppendCompactArrayLen_any w base v bs n ho hb (by simp only [most] at hn; omega) (lim_of hl (by decide))⟩

/-- 'dst = f(dst, len(x))'. -/
theorem Av.len {ptr : Bool} {id f d t1 t2 t3 t4 TT e : Nat} {tys : Array TypeId} {ty1 ty2 ty3 ty4 ty5 : TypeId} {p1 p2 p3 p4 p5 : String} {e1 e2 e3 e4 e5 : Array Edge} {wrt : Nat → List UInt8} (hf : WritesLen f wrt) (hT : sliceOf Try.prog TT = some e) (hn : [t1, t2, t3, t4, E.ds].all (· < E.N) = true)
    (hd : decide (t1 ≠ t2 ∧ t1 ≠ d ∧ t1 ≠ t3) = true) :
    Av E v flex d (fun t : T => wrt t.l.length) (ListA ptr) (Code.region id #[⟨some t1, .move (.tmp E.ds), ty1, p1, e1, none⟩, ⟨some t2, .move (.tmp d), ty2, p2, e2, none⟩, ⟨some t3, .call { callee := .builtin .len, args := #[.tmp t2], argTypes := #[TT] }, ty3, p3, e3, none⟩,
      ⟨some t4, .call { callee := .value (.func f), args := #[.tmp t1, .tmp t3], argTypes := tys }, ty4, p4, e4, none⟩, ⟨some E.ds, .assign (.tmp t4), ty5, p5, e5, none⟩] false) := by
  intro base K bs a w x hp hr hl
  have hsz := hp.fr.size
  obtain ⟨p, m, hu, hm, -⟩ := hr
  simp only [List.all_cons, List.all_nil, Bool.and_true, Bool.and_eq_true, decide_eq_true_eq] at hn hd
  obtain ⟨n1, n2, n3, n4, n5⟩ := hn
  obtain ⟨d12, d1d, d13⟩ := hd
  obtain ⟨fn, hfn, hb, hnn⟩ := hasBody_ok hf.1
  refine wp_region_lit (st_move (st_move (st_val (v := .int .i64 (x.l.length : Int)) (w' := w) (exec_len_slice (p := p) (c := m) (sliceOf_ok hT) ?_) (st_call2 hfn hb hnn ?_))))
  · rw [eval_tmp, sl_put_self _ _ _ (by rw [put_size]; omega), eval_tmp, sl_put_other _ _ _ _ d1d, hu]
  · rw [eval_tmp, sl_put_other _ _ _ _ (fun e => d13 e.symm), sl_put_other _ _ _ _ (fun e => d12 e.symm), sl_put_self _ _ _ (by omega), eval_tmp, eval_tmp, sl_put_self _ _ _ (by simp only [put_size]; omega)]
    refine Calls.mono (hf.2 base bs w _ x.l.length hp.own hp.le hm hl) ?_
    rintro e w' ⟨v', rfl, ho, hbel⟩
    refine ⟨v', rfl, st_assign (wpList_nil ⟨(((((Upd.refl a _).put t1 _ (by simp [writes])).put t2 _ (by simp [writes])).put t3 _ (by simp [writes])).put t4 _ (by simp [writes])).put E.ds _ (by simp [writes]), hbel, ?_⟩)⟩
    rw [sl_put_self _ _ _ (by simp only [put_size]; omega), eval_tmp, sl_put_self _ _ _ (by simp only [put_size]; omega)]
    exact ho

/-- An element's octets, and how it lies. -/
abbrev elW (v : Int) (flex : Bool) (of : Nat) (sub : List F) : T → List UInt8 := valW of (Kz.part v flex sub) false flex
abbrev elA (tags : Rel (List (Nat × List UInt8))) (v : Int) (flex ht : Bool) (of : Nat) (sub : List F) : Rel T := fun w K c x => elR tags v flex ht of sub w K c x ∧ Fit x
theorem elA_stable (htg : flex = true → ht = true) (hT : Stable 1 tags) (of : Nat) (sub : List F) : Stable (valCells of (cellsP ht sub)) (elA tags v flex ht of sub) := by
  intro w w' K K' c c' x hk hs hK hc h
  exact ⟨elR_stable htg hT of sub w w' K K' c c' x hk hs hK hc h.1, h.2⟩

/-- An element that is a part. -/
theorem ElA.struct {id da di s t1 t2 t3 TT e sz : Nat} {ty1 ty2 ty3 ty4 : TypeId} {p1 p2 p3 p4 : String} {e1 e2 e3 e4 : Array Edge} {sub : List F} {c : Code} (hT : sliceOf Try.prog TT = some e) (hs : sizeIs Try.prog e sz = true) (hn : [t1, t2, t3, s].all (· < E.N) = true) (hd : decide (t1 ≠ t2 ∧ t1 ≠ di) = true)
    (hcl : [t1, t2, t3, s].all (fun t => !(E.ds :: E.slots).contains t) = true) (h : ApP tags E v flex ht s 0 sub c) :
    ElA E v flex da di sz (elW v flex 10 sub) (elA tags v flex ht 10 sub) ((Code.region id #[⟨some t1, .move (.tmp da), ty1, p1, e1, none⟩, ⟨some t2, .move (.tmp di), ty2, p2, e2, none⟩, ⟨some t3, .indexAddr TT (.tmp t1) (.tmp t2), ty3, p3, e3, none⟩, ⟨some s, .assign (.tmp t3), ty4, p4, e4, none⟩] false).seq c) := by
  intro base K bs a w g o n m j x hp hda hdi hj hg hr hl
  obtain ⟨i', hi', hs'⟩ := sizeIs_ok hs
  have hsz := hp.fr.size
  simp only [List.all_cons, List.all_nil, Bool.and_true, Bool.and_eq_true, decide_eq_true_eq] at hn hd
  have hc : ∀ t ∈ E.ds :: E.slots, t ∉ [t1, t2, t3, s] := by
    intro t ht hx
    have := List.all_eq_true.1 hcl t hx
    simp only [Bool.not_eq_true', List.contains_eq_mem, decide_eq_false_iff_not] at this
    exact this ht
  refine wp_seq (reg_indexK (indexOffK_of .i64 (sliceOf_ok hT) hi' hs') (by omega) (by omega) (by omega) (by omega) hd.1 hd.2 hda hdi hj fun a1 hu hs1 => ?_)
  have hp1 : PreA E v flex base K bs a1 w := hp.next hu (fun t ht => hc t (List.mem_cons_of_mem _ ht)) (Below.refl _ _) (by rw [hu.same _ (hc _ (by simp))]; exact hp.own)
  refine wp_mono (h base K bs a1 w g (o + j * sz) x hp1 hs1 hg ⟨by simpa [valRep] using hr.1, hr.2⟩ hl) ?_
  intro e a2 w2 hq
  exact PostA.after hu (Below.refl _ _) (fun t ht => by simp only [writes, List.mem_append]; left; simpa [writes] using ht) (fun t ht => by simp only [writes, List.mem_append]; exact .inr ht) e a2 w2 hq
/-- An element of one cell. -/
theorem ElA.prim {id da di d t1 t2 t3 t4 TT e ty of : Nat} {ty1 ty2 ty3 ty4 ty5 : TypeId} {p1 p2 p3 p4 p5 : String} {e1 e2 e3 e4 e5 : Array Edge} {sub : List F} {c : Code} (hT : sliceOf Try.prog TT = some e) (hs : sizeIs Try.prog e 1 = true) (hl' : plainTy Try.prog ty = true) (hn : [t1, t2, t3, t4, d].all (· < E.N) = true)
    (hd : decide (t1 ≠ t2 ∧ t1 ≠ di) = true) (hcl : [t1, t2, t3, t4, d].all (fun t => !(E.ds :: E.slots).contains t) = true) (hof : decide (of ≠ 7 ∧ of ≠ 10 ∧ of ≠ 11) = true) (h : FA tags E v flex ht (.mk of 0 0 (-1) 0 0 0 sub) d c) :
    ElA E v flex da di 1 (elW v flex of sub) (elA tags v flex ht of sub) ((Code.region id #[⟨some t1, .move (.tmp da), ty1, p1, e1, none⟩, ⟨some t2, .move (.tmp di), ty2, p2, e2, none⟩, ⟨some t3, .indexAddr TT (.tmp t1) (.tmp t2), ty3, p3, e3, none⟩, ⟨some t4, .load ty (.tmp t3), ty4, p4, e4, none⟩,
      ⟨some d, .assign (.tmp t4), ty5, p5, e5, none⟩] false).seq c) := by
  intro base K bs a w g o n m j x hp hda hdi hj hg hr hl
  obtain ⟨i', hi', hs'⟩ := sizeIs_ok hs
  have hsz := hp.fr.size
  have hof' := of_decide_eq_true hof
  simp only [List.all_cons, List.all_nil, Bool.and_true, Bool.and_eq_true, decide_eq_true_eq] at hn hd
  have hc : ∀ t ∈ E.ds :: E.slots, t ∉ [t1, t2, t3, t4, d] := by
    intro t ht hx
    have := List.all_eq_true.1 hcl t hx
    simp only [Bool.not_eq_true', List.contains_eq_mem, decide_eq_false_iff_not] at this
    exact this ht
  have hrf : repF tags v flex ht (.mk of 0 0 (-1) 0 0 0 sub) w K (fun i => w.cell? ⟨g, o + j * 1 + i, none⟩) x := by
    have : valRep false of (repP tags v flex ht sub) w K (fun i => w.cell? ⟨g, o + j * 1 + i, none⟩) x := hr.1
    simp only [repF, fieldRep, if_neg hof'.2.2]
    exact this
  obtain ⟨u, hu0, hru⟩ := rep_one (by simp [oneF, hof'.1, hof'.2.1]) hrf
  refine wp_seq (reg_elemK (indexOffK_of .i64 (sliceOf_ok hT) hi' hs') (load1_ok hl') (by omega) (by omega) (by omega) (by omega) (by omega) hd.1 hd.2 hda hdi hj hu0 fun a1 hu hs1 => ?_)
  have hp1 : PreA E v flex base K bs a1 w := hp.next hu (fun t ht => hc t (List.mem_cons_of_mem _ ht)) (Below.refl _ _) (by rw [hu.same _ (hc _ (by simp))]; exact hp.own)
  have ew : wr v flex (.mk of 0 0 (-1) 0 0 0 sub) x = elW v flex of sub x := by
    have e10 : ¬ (of = 10 ∧ (0 : Int) ≤ -1) := by omega
    simp only [wr, fieldW, if_neg hof'.2.2, if_neg e10]
    have : F.nul ⟨of, 0, 0, -1, 0, 0, 0, sub⟩ v x = false := by simp [F.nul]
    rw [this]; rfl
  have hh := h base K bs a1 w x hp1 (by rw [hs1]; exact ⟨hru, hr.2⟩) (by rw [ew]; exact hl)
  rw [ew] at hh
  refine wp_mono hh ?_
  intro e a2 w2 hq
  exact PostA.after hu (Below.refl _ _) (fun t ht => by simp only [writes, List.mem_append]; left; simpa [writes] using ht) (fun t ht => by simp only [writes, List.mem_append]; exact .inr ht) e a2 w2 hq

/-- A list's field: its length, its elements. -/
theorem FA.listG (htg : flex = true → ht = true) (hT : Stable 1 tags) {ptr : Bool} {id ib i1 i2 i3 i4 da di tM0 tI tL tC tM tN sz of : Nat} {frm to null tag dflt : Int} {sub : List F} {TA TT T' T2 T2' ty1 ty2 ty3 ty4 ty5 ty6 ty7 ty8 : TypeId} {p1 p2 p3 p4 p5 p6 p7 p8 : String} {e1 e2 e3 e4 e5 e6 e7 e8 : Array Edge} {body cL : Code} {lw : T → List UInt8} {e : Nat}
    (hptr : decide (0 ≤ null) = ptr) (hsz : sz = valCells of (cellsP ht sub)) (hlen : Av E v flex da lw (ListA ptr) cL) (hE : ElA E v flex da di sz (elW v flex of sub) (elA tags v flex ht of sub) body) (hTA : sliceOf Try.prog TA = some e)
    (hlw : ∀ t : T, t.l.length ≤ most → (t.null = true → ptr = true ∧ t.l = []) → wr v flex (.mk 11 frm to null tag dflt of sub) t = lw t ++ t.l.flatMap (elW v flex of sub))
    (hb : clear (da :: tI :: tL :: E.slots) body = true) (hn : [tC, tM, tN, di, tI, tM0, tL].all (· < E.N) = true) (hcl : [tC, tM, tN, di].all (fun t => !(da :: E.ds :: tI :: tL :: E.slots).contains t) = true) (htI : (da :: E.ds :: tL :: E.slots).contains tI = false)
    (hcl2 : [tM0, tL].all (fun t => !(da :: E.ds :: E.slots).contains t) = true) (hclL : clear (da :: E.slots) cL = true) :
    FA tags E v flex ht (.mk 11 frm to null tag dflt of sub) da (cL.seq ((Code.region i4 #[⟨some tM0, .move (.tmp da), ty6, p6, e6, none⟩, ⟨some tL, .call { callee := .builtin .len, args := #[.tmp tM0], argTypes := #[TA] }, ty7, p7, e7, none⟩, ⟨some tI, .move (.const (.int .i64 0)), ty8, p8, e8, none⟩] false).seq
      (loopW id ib i1 i2 i3 di tI tL tC tM tN TT T' T2 T2' ty1 ty2 ty3 ty4 ty5 p1 p2 p3 p4 p5 e1 e2 e3 e4 e5 body))) := by
  subst hptr hsz
  intro base K bs a w x hp hr hl
  obtain ⟨hr, hfit⟩ := hr
  have hx : ∃ p m, sl a da = .slice p x.l.length m ∧ (x.null = true → decide (0 ≤ null) = true ∧ x.l = []) ∧ (decide (0 ≤ null) = true → (p = none ↔ x.null = true)) ∧
      (x.l = [] ∨ ∃ g o, p = some ⟨g, o, none⟩ ∧ K g ∧ ∀ i y, x.l[i]? = some y → elA tags v flex ht of sub w K (fun j => w.cell? ⟨g, o + i * valCells of (cellsP ht sub) + j, none⟩) y) := by
    simp only [repF, fieldRep, if_true, listRep] at hr
    split at hr
    · rename_i hq
      simp only [Option.some.injEq] at hr
      refine ⟨none, 0, by rw [hr.1, hr.2]; rfl, fun _ => ⟨hq.1, hr.2⟩, fun _ => ⟨fun _ => hq.2, fun _ => rfl⟩, .inl hr.2⟩
    · rename_i hq
      simp only [Option.some.injEq] at hr
      obtain ⟨h1, h2⟩ := hr
      have hnn : x.null = false := by
        by_cases h0 : x.null = true
        · by_cases hz : decide (0 ≤ null) = true
          · exact absurd ⟨hz, h0⟩ hq
          · exact h1 (by simpa using hz)
        · simpa using h0
      rcases h2 with ⟨a1, a2, a3⟩ | ⟨g, o, m, a1, a2, a3, a4⟩
      · exact ⟨none, 0, by rw [a2, a3]; rfl, fun h => absurd (hnn.symm.trans h) (by simp), fun h => absurd (a1.symm.trans h) (by simp), .inl a3⟩
      · exact ⟨_, m, a1, fun h => absurd (hnn.symm.trans h) (by simp), fun _ => ⟨fun h => absurd h (by simp), fun h => absurd (hnn.symm.trans h) (by simp)⟩, .inr ⟨g, o, rfl, a2, fun i y hy => ⟨a4 i y hy, hfit.fa y (List.mem_of_getElem? hy)⟩⟩⟩
  obtain ⟨p, m, hda, hnul, hpn, hel⟩ := hx
  have ew := hlw x hfit.fl hnul
  rw [ew, List.length_append] at hl
  simp only [List.all_cons, List.all_nil, Bool.and_true, Bool.and_eq_true, decide_eq_true_eq] at hn
  obtain ⟨n1, n2, n3, n4, n5, n6, n7⟩ := hn
  have hclL' := clear_iff hclL
  have hc2 : ∀ t ∈ da :: E.ds :: E.slots, t ∉ [tM0, tL] := by
    intro t ht hx
    have := List.all_eq_true.1 hcl2 t hx
    simp only [Bool.not_eq_true', List.contains_eq_mem, decide_eq_false_iff_not] at this
    exact this ht
  have htI' : tI ∉ da :: E.ds :: tL :: E.slots := by simpa [List.contains_eq_mem] using htI
  refine wp_seq (wp_mono (hlen base K bs a w x hp ⟨p, m, hda, hfit.fl, hpn⟩ (by omega)) ?_)
  intro e1' a1 w1 hq
  cases e1' with
  | normal =>
    obtain ⟨hu1, hb1, ho1⟩ := hq
    have hp1 : PreA E v flex base K (bs ++ lw x) a1 w1 := hp.next hu1 (fun t ht => hclL' t (List.mem_cons_of_mem _ ht)) hb1 ho1
    have hda1 : sl a1 da = .slice p x.l.length m := (hu1.same _ (hclL' _ (by simp))).trans hda
    have hN1 := hp1.fr.size
    have hM0 : tM0 ≠ da := fun e => hc2 da (by simp) (by simp [e])
    refine wp_seq (wp_region_lit (st_move (st_val (v := .int .i64 (x.l.length : Int)) (w' := w1) (exec_len_slice (p := p) (c := m) (sliceOf_ok hTA) ?_) (st_move (wpList_nil ?_)))))
    · rw [eval_tmp, sl_put_self _ _ _ (by omega), eval_tmp, hda1]
    generalize hA : (((a1.put (some tM0) (a1.eval (.tmp da))).put (some tL) (.int .i64 (x.l.length : Int))).put (some tI) (((a1.put (some tM0) (a1.eval (.tmp da))).put (some tL) (.int .i64 (x.l.length : Int))).eval (.const (.int .i64 0)))) = a2
    have hu2 : Upd a1 a2 [tM0, tL, tI] := by subst hA; exact ((((Upd.refl a1 _).put tM0 _ (by simp)).put tL _ (by simp)).put tI _ (by simp))
    have hI2 : sl a2 tI = .int .i64 0 := by subst hA; rw [sl_put_self _ _ _ (by simp only [put_size]; omega), eval_const]
    have hL2 : sl a2 tL = .int .i64 (x.l.length : Int) := by subst hA; rw [sl_put_other _ _ _ _ (fun e => htI' (by rw [e]; simp)), sl_put_self _ _ _ (by simp only [put_size]; omega)]
    have hk2 : ∀ t ∈ da :: E.ds :: E.slots, t ∉ [tM0, tL, tI] := by
      intro t ht hx
      simp only [List.mem_cons, List.not_mem_nil, or_false] at hx
      rcases hx with rfl | rfl | rfl
      · exact hc2 _ ht (by simp)
      · exact hc2 _ ht (by simp)
      · exact htI' (by simp only [List.mem_cons] at ht ⊢; rcases ht with h | h | h <;> simp [h])
    have hp2 : PreA E v flex base K (bs ++ lw x) a2 w1 := hp1.next hu2 (fun t ht => hk2 t (by simp [ht])) (Below.refl _ _) (by rw [hu2.same _ (hk2 _ (by simp))]; exact ho1)
    have hl2 : (bs ++ lw x).length + (x.l.flatMap (elW v flex of sub)).length ≤ lim2 := by rw [List.length_append]; omega
    refine wp_mono (loop_writes hE (elA_stable htg hT of sub) hb (by simp [n1, n2, n3, n4, n5]) hcl htI hp2 ((hu2.same _ (hk2 _ (by simp))).trans hda1) hI2 hL2 rfl (by have := hfit.fl; simp only [most] at this; omega) ?_ hl2) ?_
    · rcases hel with h | ⟨g, o, h1, h2, h3⟩
      · exact .inl h
      · exact .inr ⟨g, o, h1, hp.kb g h2, fun i y hy => elA_stable htg hT of sub w w1 K K _ _ y (fun b hb' _ => hb1.block b (hp.kb b hb')) hb1.size (fun b hb' => hb') (fun j _ => below_cell hb1 (hp.kb g h2)) (h3 i y hy)⟩
    · intro e2' a3 w3 hq3
      rw [ew, ← List.append_assoc]
      refine PostA.after (W1 := writes cL ++ [tM0, tL, tI]) ((hu1.mono fun t ht => List.mem_append_left _ ht).trans (hu2.mono fun t ht => List.mem_append_right _ ht)) hb1 (fun t ht => ?_) (fun t ht => ?_) e2' a3 w3 hq3
      · simp only [writes, List.mem_append] at ht ⊢
        rcases ht with ht | ht
        · exact .inl ht
        · right; left; simpa using ht
      · rw [mem_writes_seq, mem_writes_seq]; exact .inr (.inr ht)
  | _ => exact hq.elim
end
end Go.Proofs.Ytmkkpeolldpcfaa
/-
  Code that writes: the tags behind the fields, parts, whole functions. Conditions: none.
-/
namespace Go.Proofs.Ytmkkpeolldpcfaa
open Go.RowKit (Below)
open Kz

section
variable {tags : Rel (List (Nat × List UInt8))} {E : WE} {v : Int} {flex ht : Bool}

/-- A list's length. -/
def lenB (flex : Bool) (t : T) : List UInt8 := counted flex false t.l.length 4
theorem Av.lenC {b ptr : Bool} {d : Nat} {c : Code} (h : Av E v flex d (fun t : T => (fun n => counted b false n 4) t.l.length) (ListA ptr) c) : Av E v flex d (lenB b) (ListA ptr) c := h
theorem Av.lenF {id t fs d : Nat} {ty : TypeId} {p : String} {eg : Array Edge} {A B : Code} (hfs : E.fs = some fs) (ht : decide (t < E.N) = true) (hnt : (d :: E.ds :: E.slots).contains t = false)
    (hA : Av E v flex d (lenB true) (ListA false) A) (hB : Av E v flex d (lenB false) (ListA false) B) :
    Av E v flex d (lenB flex) (ListA false) ((Code.region id #[⟨some t, .move (.tmp fs), ty, p, eg, none⟩] false).seq (Code.cond (.tmp t) A B)) := Av.flexG lenB hfs ht hnt hA hB
theorem Av.lenN {d : Nat} {c : Code} (hfl : flex = false) (h : Av E v flex d (lenB false) (ListA false) c) : Av E v flex d (lenB flex) (ListA false) c := by
  subst hfl; exact h

theorem FA.list_w {frm to null tag dflt : Int} {of : Nat} {sub : List F} (hn : null < 0) (t : T) (hl : t.l.length ≤ most) : wr v flex (.mk 11 frm to null tag dflt of sub) t = lenB flex t ++ t.l.flatMap (elW v flex of sub) := by
  have : F.nul ⟨11, frm, to, null, tag, dflt, of, sub⟩ v t = false := by
    have : ¬ (0 ≤ null) := by omega
    simp [F.nul, this]
  simp only [wr, fieldW, if_true, this, Bool.false_eq_true, if_false, List.take_of_length_le hl]
  rfl
/-- 'if isFlexible { dst = AppendUvarint(dst, 0+uint32(v.UnknownTags.Len())); dst = v.UnknownTags.AppendEach(dst) }'. -/
theorem ApTl.tagsE {i0 i1 i2 sp off tf fs f1 f2 f3 t1 t2 t3 t4 t5 t6 t7 t8 u1 u2 u3 u4 u5 TT k c1 c2 A A' : Nat} {y0 y1 y2 y3 y4 y5 y6 y7 y8 y9 z1 z2 z3 z4 z5 z6 : TypeId} {tys1 tys2 tys3 : Array TypeId} {p0 p1 p2 p3 p4 p5 p6 p7 p8 p9 q1 q2 q3 q4 q5 q6 : String} {e0 e1 e2 e3 e4 e5 e6 e7 e8 e9 g1 g2 g3 g4 g5 g6 : Array Edge}
    (hfs : E.fs = some fs) (hf1 : f1 = 48) (hf2 : f2 = 47) (hf3 : f3 = 49) (hc1 : c1 = 3) (hc2 : c2 = 71) (hoff : offOf Try.prog TT k = some off)
    (hn : [tf, t1, t2, t3, t4, t5, t6, t7, t8, u1, u2, u3, u4, u5, E.ds].all (· < E.N) = true) (hd : decide ([E.ds, sp, t1, t2, t3, t4, t5, t6, t7, t8].Nodup) = true) (hd2 : decide ([E.ds, sp, u1, u2, u3, u4, u5].Nodup) = true) (hcl : [tf, t1, t2, t3, t4, t5, t6, t7, t8].all (fun t => !(sp :: E.slots).contains t) = true) (htf : (E.ds :: E.slots).contains tf = false)
    (hds : (sp :: E.slots).contains E.ds = false) :
    ApTl TagRep E v flex ht sp off [] ((Code.region i0 #[⟨some tf, .move (.tmp fs), y0, p0, e0, none⟩] false).seq (Code.cond (.tmp tf)
      ((Code.region i1 #[⟨some t1, .move (.tmp E.ds), y1, p1, e1, none⟩, ⟨some t2, .move (.tmp sp), y2, p2, e2, none⟩, ⟨some t3, .nilCheck (.tmp t2), y3, p3, e3, none⟩, ⟨some t4, .fieldAddr TT (.tmp t3) k, y4, p4, e4, none⟩, ⟨some t5, .call { callee := .value (.func f1), args := #[.tmp t4], argTypes := tys1 }, y5, p5, e5, none⟩,
        ⟨some t6, .convert c1 c2 (.tmp t5), y6, p6, e6, none⟩, ⟨some t7, .binOp .add A (.const (.int .u32 0)) (.tmp t6) A', y7, p7, e7, none⟩, ⟨some t8, .call { callee := .value (.func f2), args := #[.tmp t1, .tmp t7], argTypes := tys2 }, y8, p8, e8, none⟩, ⟨some E.ds, .assign (.tmp t8), y9, p9, e9, none⟩] false).seq
       (Code.region i2 #[⟨some u1, .move (.tmp sp), z1, q1, g1, none⟩, ⟨some u2, .nilCheck (.tmp u1), z2, q2, g2, none⟩, ⟨some u3, .fieldAddr TT (.tmp u2) k, z3, q3, g3, none⟩, ⟨some u4, .move (.tmp E.ds), z4, q4, g4, none⟩, ⟨some u5, .call { callee := .value (.func f3), args := #[.tmp u3, .tmp u4], argTypes := tys3 }, z5, q5, g5, none⟩,
        ⟨some E.ds, .assign (.tmp u5), z6, q6, g6, none⟩] false)) Code.skip)) := by
  subst hf1 hf2 hf3 hc1 hc2
  intro base K bs a w cb co x hp hsp hcb hr hl
  simp only [List.all_cons, List.all_nil, Bool.and_true, Bool.and_eq_true, decide_eq_true_eq] at hn
  obtain ⟨n0, n1, n2, n3, n4, n5, n6, n7, n8, m1, m2, m3, m4, m5, nd⟩ := hn
  have hsz := hp.fr.size
  have hclx : ∀ t ∈ sp :: E.slots, t ∉ [tf, t1, t2, t3, t4, t5, t6, t7, t8] := by
    intro t ht hx
    have := List.all_eq_true.1 hcl t hx
    simp only [Bool.not_eq_true', List.contains_eq_mem, decide_eq_false_iff_not] at this
    exact this ht
  have htf' : tf ∉ E.ds :: E.slots := by simpa [List.contains_eq_mem] using htf
  have hds' : E.ds ∉ sp :: E.slots := by simpa [List.contains_eq_mem] using hds
  have hd' := of_decide_eq_true hd
  have hd2' := of_decide_eq_true hd2
  simp only [List.nodup_cons, List.mem_cons, List.not_mem_nil, or_false, not_or, List.nodup_nil, and_true, not_false_eq_true] at hd' hd2'
  obtain ⟨⟨ds_sp, ds1, ds2, ds3, ds4, ds5, ds6, ds7, ds8⟩, ⟨sp1, sp2, sp3, sp4, sp5, sp6, sp7, sp8⟩, ⟨a12, a13, a14, a15, a16, a17, a18⟩, -⟩ := hd'
  obtain ⟨⟨-, du1, du2, du3, du4, du5⟩, ⟨su1, su2, su3, su4, su5⟩, ⟨b12, b13, b14, b15⟩, ⟨b23, b24, b25⟩, ⟨b34, b35⟩, b45⟩ := hd2'
  obtain ⟨-, htl, hu⟩ := hr
  refine wp_seq (reg_move (by omega) fun a1 v1 hs1 => ?_)
  have htest : a1.eval (.tmp tf) = .bool flex := by rw [eval_tmp, hs1, hp.fr.fs _ hfs]
  have hsp1 : sl a1 sp = .pointer (some ⟨cb, co, none⟩) := (v1.same _ (fun h => hclx sp (by simp) (by simp only [List.mem_singleton] at h; simp [h]))).trans hsp
  have hds1 : sl a1 E.ds = sl a E.ds := v1.same _ (fun h => htf' (by simp only [List.mem_singleton] at h; simp [h]))
  have hz1 := v1.size.trans hsz
  cases flex with
  | false =>
    refine wp_cond_false htest (wp_skip ⟨v1.mono (fun t ht => by simp only [writes, List.mem_append]; exact .inl ht), Below.refl _ _, ?_⟩)
    rw [hds1]
    simpa [wrs, plainW] using hp.own
  | true =>
    have hT := htl rfl
    simp only [cellsFs, Nat.zero_add] at hT
    simp only [plainW, if_true, List.nil_append] at hl ⊢
    have hlen : bs.length + (uv x.2.length).length + (x.2.flatMap tagB).length ≤ lim2 := by simp only [tagsB, List.length_append] at hl; omega
    refine wp_cond_true htest (wp_seq ?_)
    obtain ⟨fn1, hfn1, hb1, hnn1⟩ := hasBody_ok (P := Try.prog) (f := 48) (by kernel_rfl)
    obtain ⟨fn2, hfn2, hb2, hnn2⟩ := hasBody_ok (P := Try.prog) (f := 47) (by kernel_rfl)
    obtain ⟨fn3, hfn3, hb3, hnn3⟩ := hasBody_ok (P := Try.prog) (f := 49) (by kernel_rfl)
    have hum : x.2.length ≤ 32767 := hu.1
    refine wp_region_lit (st_move (st_move (st_nil (p := ⟨cb, co, none⟩) ?_ (st_field (b := cb) (o := co) (fieldOff_ok hoff) ?_ (st_call1 hfn1 hb1 hnn1 ?_)))))
    · rw [eval_tmp, sl_put_self _ _ _ (by rw [put_size]; omega), eval_tmp, sl_put_other _ _ _ _ (fun e => sp1 e.symm), hsp1]
    · rw [eval_tmp, sl_put_self _ _ _ (by simp only [put_size]; omega)]
    rw [eval_tmp, sl_put_self _ _ _ (by simp only [put_size]; omega)]
    refine Calls.mono (Len_any w cb (co + off) x.2 K hT) ?_
    rintro e w' ⟨rfl, rfl⟩
    refine ⟨_, rfl, ?_⟩
    generalize hA : ((((a1.put (some t1) (a1.eval (.tmp E.ds))).put (some t2) ((a1.put (some t1) (a1.eval (.tmp E.ds))).eval (.tmp sp))).put (some t3) (.pointer (some ⟨cb, co, none⟩))).put (some t4) (.pointer (some ⟨cb, co + off, none⟩))).put (some t5) (.int .i64 (x.2.length : Int)) = a2
    have v2 : Upd a1 a2 [t1, t2, t3, t4, t5] := by subst hA; exact (((((Upd.refl a1 _).put t1 _ (by simp)).put t2 _ (by simp)).put t3 _ (by simp)).put t4 _ (by simp)).put t5 _ (by simp)
    have k1 : sl a2 t1 = sl a E.ds := by
      subst hA
      rw [sl_put_other _ _ _ _ (fun e => a15 e.symm), sl_put_other _ _ _ _ (fun e => a14 e.symm), sl_put_other _ _ _ _ (fun e => a13 e.symm), sl_put_other _ _ _ _ (fun e => a12 e.symm), sl_put_self _ _ _ (by omega), eval_tmp, hds1]
    have k5 : sl a2 t5 = .int .i64 (x.2.length : Int) := by subst hA; rw [sl_put_self _ _ _ (by simp only [put_size]; omega)]
    have hz2 := v2.size.trans hz1
    refine st_val (v := .int .u32 (x.2.length : Int)) (w' := w') (exec_conv (k := .i64) Try.underlying3 Try.underlying71 (by rw [eval_tmp, k5]) (by rw [IntKind.wrap_u32]; omega)) ?_
    refine st_val (v := .int .u32 (x.2.length : Int)) (w' := w') (exec_add (k := .u32) (eval_const _ _) (by rw [eval_tmp, sl_put_self _ _ _ (by omega)]) (by rw [IntKind.wrap_u32]; omega)) ?_
    refine st_call2 hfn2 hb2 hnn2 ?_
    rw [eval_tmp, sl_put_other _ _ _ _ (fun e => a17 e.symm), sl_put_other _ _ _ _ (fun e => a16 e.symm), k1, eval_tmp, sl_put_self _ _ _ (by simp only [put_size]; omega)]
    refine Calls.mono (AppendUvarint_any w' base _ bs x.2.length hp.own hp.le (by omega) (by simp only [lim, lim2] at hlen ⊢; omega)) ?_
    rintro e w1 ⟨d1, rfl, ho1, hbel1⟩
    refine ⟨d1, rfl, st_assign (wpList_nil ?_)⟩
    generalize hA3 : ((((a2.put (some t6) (.int .u32 (x.2.length : Int))).put (some t7) (.int .u32 (x.2.length : Int))).put (some t8) d1).put (some E.ds) ((((a2.put (some t6) (.int .u32 (x.2.length : Int))).put (some t7) (.int .u32 (x.2.length : Int))).put (some t8) d1).eval (.tmp t8))) = a3
    have v3 : Upd a2 a3 [t6, t7, t8, E.ds] := by subst hA3; exact ((((Upd.refl a2 _).put t6 _ (by simp)).put t7 _ (by simp)).put t8 _ (by simp)).put E.ds _ (by simp)
    have k3 : sl a3 E.ds = d1 := by subst hA3; rw [sl_put_self _ _ _ (by simp only [put_size]; omega), eval_tmp, sl_put_self _ _ _ (by simp only [put_size]; omega)]
    have hz3 := v3.size.trans hz2
    have hsp3 : sl a3 sp = .pointer (some ⟨cb, co, none⟩) := by
      rw [v3.same sp (by simp only [List.mem_cons, List.not_mem_nil, or_false, not_or]; exact ⟨sp6, sp7, sp8, fun e => hds' (by simp [e])⟩), v2.same sp (by simp only [List.mem_cons, List.not_mem_nil, or_false, not_or]; exact ⟨sp1, sp2, sp3, sp4, sp5⟩)]
      exact hsp1
    -- the second region
    have hT1 : TagRep w1 K (fun j => w1.cell? ⟨cb, co + off + j, none⟩) x.2 := stable_tagRep w' w1 K K _ _ x.2 (fun g hg _ => hbel1.block g (hp.kb g hg)) hbel1.size (fun _ h => h) (fun j _ => below_cell hbel1 hcb) hT
    refine wp_region_lit (st_move (st_nil (p := ⟨cb, co, none⟩) ?_ (st_field (b := cb) (o := co) (fieldOff_ok hoff) ?_ (st_move (st_call2 hfn3 hb3 hnn3 ?_)))))
    · rw [eval_tmp, sl_put_self _ _ _ (by omega), eval_tmp, hsp3]
    · rw [eval_tmp, sl_put_self _ _ _ (by simp only [put_size]; omega)]
    rw [eval_tmp, sl_put_other _ _ _ _ (fun e => b34 e.symm), sl_put_self _ _ _ (by simp only [put_size]; omega), eval_tmp, sl_put_self _ _ _ (by simp only [put_size]; omega), eval_tmp, sl_put_other _ _ _ _ (fun e => du3 e.symm), sl_put_other _ _ _ _ (fun e => du2 e.symm), sl_put_other _ _ _ _ (fun e => du1 e.symm), k3]
    refine Calls.mono (AppendEach_any w1 base cb (co + off) d1 (bs ++ uv x.2.length) x.2 K hT1 hcb ho1 (below_size hbel1 hp.le) hp.kb hu (by simp only [List.length_append]; exact hlen)) ?_
    rintro e w2 ⟨d2, rfl, ho2, hbel2⟩
    refine ⟨d2, rfl, st_assign (wpList_nil ⟨?_, hbel1.trans hbel2, ?_⟩)⟩
    · refine ((v1.mono ?_).trans (v2.mono ?_)).trans ((v3.mono ?_).trans (((((((Upd.refl a3 _).put u1 _ ?_).put u2 _ ?_).put u3 _ ?_).put u4 _ ?_).put u5 _ ?_).put E.ds _ ?_))
      · intro t ht; simp only [List.mem_cons, List.not_mem_nil, or_false] at ht; subst ht; simp [writes]
      · intro t ht; simp only [List.mem_cons, List.not_mem_nil, or_false] at ht; rcases ht with rfl | rfl | rfl | rfl | rfl <;> simp [writes]
      · intro t ht; simp only [List.mem_cons, List.not_mem_nil, or_false] at ht; rcases ht with rfl | rfl | rfl | rfl <;> simp [writes]
      all_goals simp [writes]
    · rw [sl_put_self _ _ _ (by simp only [put_size]; omega), eval_tmp, sl_put_self _ _ _ (by simp only [put_size]; omega)]
      simpa only [tagsB, List.append_assoc] using ho2
end
end Go.Proofs.Ytmkkpeolldpcfaa
/-
  Code that writes: parts, whole functions. Conditions: none.
-/
namespace Go.Proofs.Ytmkkpeolldpcfaa
open Go.RowKit (Below)
open Kz

section
variable {E : WE} {v : Int} {flex ht : Bool}

theorem tags_keys {w : World} {K : Nat → Prop} : ∀ (l : List (Nat × Value)) (u : List (Nat × List UInt8)), TagsAt w K l u → Rising l → Sorted u
  | [], [], _, _ => trivial
  | [], _ :: _, h, _ => h.elim
  | _ :: _, [], h, _ => h.elim
  | (k, v) :: l, (j, b) :: u, h, hr => by
    obtain ⟨rfl, -, h3⟩ := h
    obtain ⟨h1, h2⟩ := List.pairwise_cons.1 hr
    refine ⟨fun y hy => ?_, tags_keys l u h3 h2⟩
    have e := (tags_len l u h3).2
    have : (y.1 : Int) ∈ u.map fun x => (x.1 : Int) := List.mem_map.2 ⟨y, hy, rfl⟩
    rw [e] at this
    obtain ⟨z, hz, hzy⟩ := List.mem_map.1 this
    have := h1 z hz
    have e2 : z.1 = y.1 := by omega
    show k < y.1
    rw [← e2]; exact this
theorem tagRep_sorted {w : World} {K : Nat → Prop} {c : Cells} {u : List (Nat × List UInt8)} (h : TagRep w K c u) : Sorted u := by
  obtain ⟨r, -, h⟩ := h
  cases r with
  | none => have : u = [] := h; subst this; exact trivial
  | some b => obtain ⟨-, l, n, h1, -, -, h2⟩ := h; exact tags_keys l u h2 h1
theorem noTag_known : ∀ (fs : List F), noTag fs = true → known fs = 0
  | [], _ => rfl
  | f :: fs, h => by
    simp only [noTag, List.all_cons, Bool.and_eq_true, decide_eq_true_eq] at h
    have : ¬ (0 ≤ f.tag) := by omega
    simp only [known, if_neg this, noTag_known fs h.2, Nat.max_self]
theorem unknown_whole {u : List (Nat × List UInt8)} (hs : Sorted u) (hl : u.length ≤ most) (hx : ∀ x ∈ u, x.2.length ≤ most) : (unknown 0 u).map whole2 = u := by
  rw [unknown_sorted 0 u hs hl (fun _ _ => Nat.zero_le _)]
  have : ∀ x ∈ u, whole2 x = x := fun x h => by simp only [whole2, take_fit (hx x h)]
  rw [List.map_congr_left this]; simp
/-- A part without known tags. -/
theorem ApTl.part {sp off : Nat} {fs : List F} {c : Code} (hno : noTag fs = true) (h : ApTl TagRep E v flex ht sp off fs c) : ApP TagRep E v flex ht sp off fs c := by
  refine Ap.conv h (fun t => (t.l, t.u)) (fun w K cc t hx => ?_) (fun w K cc t hx => ?_)
  · obtain ⟨hr, hf⟩ := hx
    exact ⟨⟨hr.1, hf.fa⟩, hr.2, hf.fu, hf.fx⟩
  · obtain ⟨hr, hf⟩ := hx
    have hk := noTag_known fs hno
    have e : Kz.part v flex fs t = asmW v flex fs (wrs v flex fs) (usuals fs) t := rfl
    rw [e]
    unfold asmW
    cases flex with
    | false => simp
    | true =>
      rw [knownW_none _ _ _ _ hk, hk, unknown_whole (tagRep_sorted (hr.2 rfl)) hf.fu (fun x hx => (hf.fx x hx).2)]
      simp

/-- Behind the whole of a function that writes. -/
def PostW (res : Nat) (base : Nat) (bs : List UInt8) (w : World) : Exit → Act → World → Prop
  | .ret, a', w' => a'.defers = [] ∧ Below base w w' ∧ OwnB w' base (sl a' res) bs
  | _, _, _ => False
/-- Code that writes and returns. -/
def ApE {α : Type} (E : WE) (v : Int) (flex : Bool) (res sp off : Nat) (wrt : α → List UInt8) (R : Rel α) (c : Code) : Prop :=
  ∀ (base : Nat) (K : Nat → Prop) (bs : List UInt8) (a : Act) (w : World) (cb co : Nat) (x : α), PreA E v flex base K bs a w → sl a sp = .pointer (some ⟨cb, co, none⟩) → cb < base → R w K (fun j => w.cell? ⟨cb, co + off + j, none⟩) x →
    bs.length + (wrt x).length ≤ lim2 → c.wp Try.prog (PostW res base (bs ++ wrt x) w) a w

theorem ApE.conv {α β : Type} {res sp off : Nat} {wrt : α → List UInt8} {wrt' : β → List UInt8} {R : Rel α} {R' : Rel β} {c : Code} (h : ApE E v flex res sp off wrt R c) (k : β → α) (hR : ∀ w K cc x, R' w K cc x → R w K cc (k x)) (hw : ∀ w K cc x, R' w K cc x → wrt' x = wrt (k x)) : ApE E v flex res sp off wrt' R' c := by
  intro base K bs a w cb co x hp hsp hcb hr hl
  rw [hw _ _ _ _ hr] at hl ⊢
  exact h base K bs a w cb co (k x) hp hsp hcb (hR _ _ _ _ hr) hl
theorem ApE.last {α : Type} {res sp off : Nat} {wrt : α → List UInt8} {R : Rel α} {c r : Code} (h : Ap E v flex sp off wrt R c) (hr : SCopy E.N E.ds res r) : ApE E v flex res sp off wrt R (c.seq (r.seq Code.ret)) := by
  intro base K bs a w cb co x hp hsp hcb hR hl
  refine wp_seq (wp_mono (h base K bs a w cb co x hp hsp hcb hR hl) ?_)
  intro e a1 w1 hq
  cases e with
  | normal =>
    obtain ⟨hu, hb, ho⟩ := hq
    refine wp_seq (hr a1 w1 _ (hu.size.trans hp.fr.size) fun a2 hu2 hs2 => wp_ret ⟨hu2.defers.trans (hu.defers.trans hp.fr.defers), hb, by rw [hs2]; exact ho⟩)
  | _ => exact hq.elim
theorem ApE.seq {α β : Type} {res sp off n1 n2 : Nat} {w1 : α → List UInt8} {w2 : β → List UInt8} {R1 : Rel α} {R2 : Rel β} {c1 c2 : Code} (h1 : Ap E v flex sp off w1 R1 c1) (h2 : ApE E v flex res sp (off + n1) w2 R2 c2) (hcl : clear (sp :: E.slots) c1 = true) (hst : Stable n2 R2) :
    ApE E v flex res sp off (fun x : α × β => w1 x.1 ++ w2 x.2) (fun w K c x => R1 w K c x.1 ∧ R2 w K (fun j => c (n1 + j)) x.2) (c1.seq c2) := by
  intro base K bs a w cb co x hp hsp hcb hr hl
  have hcl' := clear_iff hcl
  rw [List.length_append] at hl
  refine wp_seq (wp_mono (h1 base K bs a w cb co x.1 hp hsp hcb hr.1 (by omega)) ?_)
  intro e a1 w1' hq
  cases e with
  | normal =>
    obtain ⟨hu, hb, ho⟩ := hq
    have hsp1 : sl a1 sp = .pointer (some ⟨cb, co, none⟩) := (hu.same _ (hcl' _ (by simp))).trans hsp
    have hr2 : R2 w1' K (fun j => w1'.cell? ⟨cb, co + (off + n1) + j, none⟩) x.2 := by
      refine hst w w1' K K _ _ _ (fun g hg _ => hb.block g (hp.kb g hg)) hb.size (fun g hg => hg) (fun j _ => ?_) hr.2
      rw [below_cell hb hcb, show co + (off + n1) + j = co + off + (n1 + j) by omega]
    refine wp_mono (h2 base K _ a1 w1' cb co x.2 (hp.next hu (fun t ht => hcl' t (List.mem_cons_of_mem _ ht)) hb ho) hsp1 hcb hr2 (by rw [List.length_append]; omega)) ?_
    intro e a2 w2' hq2
    cases e with
    | ret =>
      obtain ⟨q1, q2, q3⟩ := hq2
      exact ⟨q1, hb.trans q2, by rw [← List.append_assoc]; exact q3⟩
    | _ => exact hq2.elim
  | _ => exact hq.elim

def ApTE (tags : Rel (List (Nat × List UInt8))) (E : WE) (v : Int) (flex ht : Bool) (res sp off : Nat) (fs : List F) (c : Code) : Prop := ApE E v flex res sp off (fun x : List T × List (Nat × List UInt8) => plainW v fs (wrs v flex fs) x.1 ++ if flex then tagsB x.2 else [])
    (fun w K cc x => (plainRep v flex ht fs (repFs tags v flex ht fs) w K cc x.1 ∧ ∀ t ∈ x.1, Fit t) ∧ (flex = true → tags w K (fun j => cc (cellsFs ht fs + j)) x.2) ∧ x.2.length ≤ most ∧ ∀ y ∈ x.2, y.1 < 4294967296 ∧ y.2.length ≤ most) c
def ApPE (tags : Rel (List (Nat × List UInt8))) (E : WE) (v : Int) (flex ht : Bool) (res sp off : Nat) (fs : List F) (c : Code) : Prop := ApE E v flex res sp off (Kz.part v flex fs) (fun w K cc t => repP tags v flex ht fs w K cc t ∧ Fit t) c
theorem ApTE.last {tags : Rel (List (Nat × List UInt8))} {res sp off : Nat} {fs : List F} {c r : Code} (h : ApTl tags E v flex ht sp off fs c) (hr : SCopy E.N E.ds res r) : ApTE tags E v flex ht res sp off fs (c.seq (r.seq Code.ret)) := ApE.last h hr
theorem ApTE.nil {tags : Rel (List (Nat × List UInt8))} {res sp off : Nat} {r : Code} (hfl : flex = false) (hr : SCopy E.N E.ds res r) : ApTE tags E v flex ht res sp off [] (r.seq Code.ret) := by
  subst hfl
  intro base K bs a w cb co x hp hsp hcb hR hl
  refine wp_seq (hr a w _ hp.fr.size fun a2 hu2 hs2 => wp_ret ⟨hu2.defers.trans hp.fr.defers, Below.refl _ _, ?_⟩)
  rw [hs2]
  simpa [wrs, plainW] using hp.own
theorem ApTE.cons {tags : Rel (List (Nat × List UInt8))} (htg : flex = true → ht = true) (hT : Stable 1 tags) {res sp off : Nat} {f : F} {fs : List F} {c1 c2 : Code} (h1 : ApF tags E v flex ht sp off f c1) (hcl : clear (sp :: E.slots) c1 = true) (h2 : ApTE tags E v flex ht res sp (off + cellsF ht f) fs c2) : ApTE tags E v flex ht res sp off (f :: fs) (c1.seq c2) := by
  have hst : Stable (cellsP ht fs) (fun w K cc (x : List T × List (Nat × List UInt8)) => (plainRep v flex ht fs (repFs tags v flex ht fs) w K cc x.1 ∧ ∀ t ∈ x.1, Fit t) ∧ (flex = true → tags w K (fun j => cc (cellsFs ht fs + j)) x.2) ∧ x.2.length ≤ most ∧ ∀ y ∈ x.2, y.1 < 4294967296 ∧ y.2.length ≤ most) := by
    intro w w' K K' c c' x hk hs hK hc hx
    refine ⟨⟨stable_plainF htg hT fs w w' K K' c c' x.1 hk hs hK (fun j hj => hc j (by simp only [cellsP]; omega)) hx.1.1, hx.1.2⟩, fun hf => hT w w' K K' _ _ _ hk hs hK (fun j hj => hc _ ?_) (hx.2.1 hf), hx.2.2⟩
    simp only [cellsP, htg hf, Bool.toNat_true]; omega
  refine ApE.conv (ApE.seq h1 h2 hcl hst) (fun x => (x.1.headD T.zero, (x.1.tail, x.2))) (fun w K cc x hx => ?_) (fun w K cc x hx => ?_)
  · obtain ⟨⟨⟨y, ys, he, hy, hys⟩, hfit⟩, htl, hu⟩ := hx
    rw [he] at hfit ⊢
    refine ⟨⟨hy, hfit y (by simp)⟩, ⟨hys, fun t ht => hfit t (List.mem_cons_of_mem _ ht)⟩, fun hf => ?_, hu⟩
    have := htl hf
    simp only [cellsFs, Nat.add_assoc] at this
    exact this
  · simp only [wrs, plainW, List.append_assoc]
theorem ApTE.part {res sp off : Nat} {fs : List F} {c : Code} (hno : noTag fs = true) (h : ApTE TagRep E v flex ht res sp off fs c) : ApPE TagRep E v flex ht res sp off fs c := by
  refine ApE.conv h (fun t => (t.l, t.u)) (fun w K cc t hx => ?_) (fun w K cc t hx => ?_)
  · obtain ⟨hr, hf⟩ := hx
    exact ⟨⟨hr.1, hf.fa⟩, hr.2, hf.fu, hf.fx⟩
  · obtain ⟨hr, hf⟩ := hx
    have hk := noTag_known fs hno
    have e : Kz.part v flex fs t = asmW v flex fs (wrs v flex fs) (usuals fs) t := rfl
    rw [e]
    unfold asmW
    cases flex with
    | false => simp
    | true =>
      rw [knownW_none _ _ _ _ hk, hk, unknown_whole (tagRep_sorted (hr.2 rfl)) hf.fu (fun x hx => (hf.fx x hx).2)]
      simp
end

/-- A function that writes a message. -/
def WritesMsg (tags : Rel (List (Nat × List UInt8))) (f : Nat) (m : M) (ht : Bool) : Prop :=
  hasBody Try.prog f = true ∧ ∀ (base : Nat) (K : Nat → Prop) (w : World) (v : Int) (cb : Nat) (bs : List UInt8) (u : Value) (t : T), 0 ≤ v → OwnB w base u bs → base ≤ w.heap.size → (∀ g, K g → g < base) → cb < base → w.cell? ⟨cb, 0, none⟩ = some (.int .i16 v) →
    repP tags v (m.isFlex v) ht m.fields w K (fun j => w.cell? ⟨cb, 1 + j, none⟩) t → Fit t → bs.length + (write m v t).length ≤ lim2 → Calls Try.prog f #[.pointer (some ⟨cb, 0, none⟩), u] w fun e w' => ∃ u', e = .returned u' ∧ OwnB w' base u' (bs ++ write m v t) ∧ Below base w w'

section
variable {tags : Rel (List (Nat × List UInt8))} {m : M} {ht : Bool}
theorem writes_start {E : WE} {res : Nat} {p0 p1 p2 rest : Code} {f : Nat} {fn : Func} {cb : Nat} {v : Int} {flex : Bool} {u : Value} {w : World} {t : T} {base : Nat} {bs : List UInt8} (hf : Try.prog.funcs[f]? = some fn) (hb : fn.body = some (p0.seq (p1.seq (p2.seq rest)))) (hnt : fn.ntmps = E.N) (hres : fn.results = #[.tmp res]) (hN : 2 ≤ E.N)
    (h0 : SConst E.N res (.slice none 0 0) p0) (h1 : SLoad E.N 0 0 E.vs p1) (h2 : SMove E.N p2) (hcl : clear [0, 1] (p0.seq (p1.seq p2)) = true) (hcv : clear [E.vs] p2 = true) (hc0 : w.cell? ⟨cb, 0, none⟩ = some (.int .i16 v))
    (hq : ∀ a : Act, a.tmps.size = E.N → a.defers = [] → sl a E.vs = .int .i16 v → sl a 0 = .pointer (some ⟨cb, 0, none⟩) → sl a 1 = u → rest.wp Try.prog (PostW res base (bs ++ Kz.part v flex m.fields t) w) a w) :
    Calls Try.prog f #[.pointer (some ⟨cb, 0, none⟩), u] w fun e w' => ∃ u', e = .returned u' ∧ OwnB w' base u' (bs ++ Kz.part v flex m.fields t) ∧ Below base w w' := by
  simp only [clear_seq] at hcl
  obtain ⟨k0, k1, k2⟩ := hcl
  refine enter2 (res := res) hf hb (by omega) hres fun a hsz hd s0 s1 => ?_
  have hsz' := hsz.trans hnt
  refine wp_seq (h0 a w _ hsz' fun a1 u1 _ => wp_seq (h1 a1 w _ cb 0 (.int .i16 v) (u1.size.trans hsz') (by rw [upd_of u1 k0 0 (by simp)]; exact s0) hc0 fun a2 u2 s2 => wp_seq (h2 a2 w _ (u2.size.trans (u1.size.trans hsz')) fun a3 u3 => ?_)))
  have keep : ∀ t ∈ [0, 1], sl a3 t = sl a t := fun t ht => by rw [upd_of u3 k2 t ht, upd_of u2 k1 t ht, upd_of u1 k0 t ht]
  refine wp_mono (hq a3 (u3.size.trans (u2.size.trans (u1.size.trans hsz'))) (u3.defers.trans (u2.defers.trans (u1.defers.trans hd))) (by rw [upd_of u3 hcv E.vs (by simp)]; exact s2) (by rw [keep 0 (by simp)]; exact s0) (by rw [keep 1 (by simp)]; exact s1)) ?_
  intro e a' w' hq
  cases e with
  | ret => exact ⟨rfl, hq.1, _, rfl, hq.2.2, hq.2.1⟩
  | _ => exact hq.elim
/-- A message whose versions may be flexible. -/
theorem writesMsg_flex {E : WE} {res : Nat} {p0 p1 p2 p3 p4 body : Code} {f : Nat} {fn : Func} {fs : Nat} (hfs : E.fs = some fs) (hfe : 0 ≤ m.flex) (hds : E.ds = 1)
    (hf : Try.prog.funcs[f]? = some fn) (hb : fn.body = some (p0.seq (p1.seq (p2.seq (p3.seq (p4.seq body)))))) (hnt : fn.ntmps = E.N) (hres : fn.results = #[.tmp res]) (hg : hasBody Try.prog f = true) (hN : 2 ≤ E.N)
    (h0 : SConst E.N res (.slice none 0 0) p0) (h1 : SLoad E.N 0 0 E.vs p1) (h2 : SMove E.N p2) (h3 : SCmpV E.N E.vs fs m.flex p3) (h4 : SMove E.N p4) (hcl : clear [0, 1] (p0.seq (p1.seq p2)) = true) (hcv : clear [E.vs] p2 = true)
    (hc2 : clear [0, 1, E.vs] (p3.seq p4) = true) (hc3 : clear [fs] p4 = true) (hbody : ∀ v : Int, 0 ≤ v → ApPE tags E v (m.isFlex v) ht res 0 1 m.fields body) : WritesMsg tags f m ht := by
  refine ⟨hg, fun base K w v cb bs u t hv ho hbase hK hcb hc0 hr hfit hl => ?_⟩
  simp only [clear_seq] at hc2
  refine writes_start hf hb hnt hres hN h0 h1 h2 hcl hcv hc0 fun a hsz hd hvs s0 s1 => ?_
  refine wp_seq (h3 a w _ v hsz hvs fun a1 u1 q1 => wp_seq (h4 a1 w _ (u1.size.trans hsz) fun a2 u2 => ?_))
  have keep : ∀ t ∈ [0, 1, E.vs], sl a2 t = sl a t := fun t ht => by rw [upd_of u2 hc2.2 t ht, upd_of u1 hc2.1 t ht]
  refine hbody v hv base K bs a2 w cb 0 t ⟨⟨u2.size.trans (u1.size.trans hsz), u2.defers.trans (u1.defers.trans hd), by rw [keep E.vs (by simp)]; exact hvs, fun s hs => ?_⟩, hbase, hK, by rw [hds, keep 1 (by simp), s1]; exact ho⟩ (by rw [keep 0 (by simp)]; exact s0) hcb ⟨by simpa using hr, hfit⟩ hl
  rw [hfs] at hs; cases hs
  rw [upd_of u2 hc3 fs (by simp), q1]
  simp [M.isFlex, hfe]
/-- A message that is never flexible. -/
theorem writesMsg_plain {E : WE} {res : Nat} {p0 p1 p2 body : Code} {f : Nat} {fn : Func} (hfs : E.fs = none) (hds : E.ds = 1)
    (hf : Try.prog.funcs[f]? = some fn) (hb : fn.body = some (p0.seq (p1.seq (p2.seq body)))) (hnt : fn.ntmps = E.N) (hres : fn.results = #[.tmp res]) (hg : hasBody Try.prog f = true) (hN : 2 ≤ E.N)
    (h0 : SConst E.N res (.slice none 0 0) p0) (h1 : SLoad E.N 0 0 E.vs p1) (h2 : SMove E.N p2) (hcl : clear [0, 1] (p0.seq (p1.seq p2)) = true) (hcv : clear [E.vs] p2 = true)
    (hbody : ∀ v : Int, 0 ≤ v → ApPE tags E v (m.isFlex v) ht res 0 1 m.fields body) : WritesMsg tags f m ht := by
  refine ⟨hg, fun base K w v cb bs u t hv ho hbase hK hcb hc0 hr hfit hl => ?_⟩
  refine writes_start hf hb hnt hres hN h0 h1 h2 hcl hcv hc0 fun a hsz hd hvs s0 s1 => ?_
  exact hbody v hv base K bs a w cb 0 t ⟨⟨hsz, hd, hvs, fun s hs => by rw [hfs] at hs; cases hs⟩, hbase, hK, by rw [hds, s1]; exact ho⟩ s0 hcb ⟨by simpa using hr, hfit⟩ hl
end
end Go.Proofs.Ytmkkpeolldpcfaa
/-
  What a struct holds lies in blocks that are there. Conditions: none.
-/
namespace Go.Proofs.Ytmkkpeolldpcfaa
open Go.RowKit (Below)
open Kz

/-- The blocks that are there. -/
abbrev inW (w : World) (K : Nat → Prop) : Nat → Prop := fun g => K g ∧ g < w.heap.size
def Bnd {α : Type} (R : Rel α) : Prop := ∀ w K c x, R w K c x → R w (inW w K) c x
theorem bnd_bytes {w : World} {K : Nat → Prop} {v : Value} {bs : List UInt8} (h : BytesAt w K v bs) : BytesAt w (inW w K) v bs := by
  rcases h with h | ⟨g, o, c, h1, h2, h2', h3, h4, h5⟩
  · exact .inl h
  · exact .inr ⟨g, o, c, h1, h2, h2', ⟨h3, h4⟩, h4, h5⟩
theorem bnd_val {ptr : Bool} {kind : Nat} {part : Rel T} (hp : Bnd part) : Bnd (valRep ptr kind part) := by
  intro w K c x h
  unfold valRep at h ⊢
  split
  · rename_i hq; rw [if_pos hq] at h; exact h
  rename_i hq0; rw [if_neg hq0] at h
  split
  · rename_i hq; rw [if_pos hq] at h; exact h
  rename_i hq1; rw [if_neg hq1] at h
  split
  · rename_i hq; rw [if_pos hq] at h
    split
    · rename_i hp; rw [if_pos hp] at h
      split
      · rename_i hn; rw [if_pos hn] at h; exact h
      · rename_i hn; rw [if_neg hn] at h
        obtain ⟨g, o, h1, h2, h3, h4⟩ := h
        exact ⟨g, o, h1, ⟨h2, h3⟩, h3, h4⟩
    · rename_i hp; rw [if_neg hp] at h; exact h
  rename_i hq2; rw [if_neg hq2] at h
  split
  · rename_i hq; rw [if_pos hq] at h
    obtain ⟨v, h1, h2, h3⟩ := h
    exact ⟨v, h1, bnd_bytes h2, h3⟩
  rename_i hq3; rw [if_neg hq3] at h
  split
  · rename_i hq; rw [if_pos hq] at h
    split
    · rename_i hp'; rw [if_pos hp'] at h
      split
      · rename_i hn; rw [if_pos hn] at h; exact h
      · rename_i hn; rw [if_neg hn] at h
        obtain ⟨g, o, h1, h2, h3, h4⟩ := h
        exact ⟨g, o, h1, ⟨h2, h3⟩, h3, hp w K _ x h4⟩
    · rename_i hp'; rw [if_neg hp'] at h; exact hp w K _ x h
  · rename_i hq; rw [if_neg hq] at h; exact h
theorem bnd_list {ptr : Bool} {sz : Nat} {el : Rel T} (hp : Bnd el) : Bnd (listRep ptr sz el) := by
  intro w K c x h
  unfold listRep at h ⊢
  split
  · rename_i hq; rw [if_pos hq] at h; exact h
  · rename_i hq; rw [if_neg hq] at h
    refine ⟨h.1, h.2.imp id ?_⟩
    rintro ⟨g, o, m, h1, h2, h3, h4⟩
    exact ⟨g, o, m, h1, ⟨h2, h3⟩, h3, fun i y hi => hp w K _ y (h4 i y hi)⟩
theorem bnd_field {kind of : Nat} {null : Int} {psz : Nat} {part : Rel T} (hp : Bnd part) : Bnd (fieldRep kind of null psz part) := by
  unfold fieldRep
  split
  · exact bnd_list (bnd_val hp)
  · exact bnd_val hp
theorem bnd_plain {v : Int} {flex ht : Bool} : ∀ (fs : List F) (rs : List (Rel T)), (∀ (i : Nat) (f : F) (r : Rel T), fs[i]? = some f → rs[i]? = some r → Bnd r) → Bnd (plainRep v flex ht fs rs)
  | [], [], _ => fun w K c x h => h
  | [], _ :: _, _ => fun w K c x h => h
  | _ :: _, [], _ => fun w K c x h => h
  | f :: fs, r :: rs, hst => fun w K c x h => by
    obtain ⟨y, ys, h0, h1, h2⟩ := h
    exact ⟨y, ys, h0, fun ho => hst 0 f r rfl rfl w K c y (h1 ho), bnd_plain fs rs (fun i f r hf hr => hst (i + 1) f r hf hr) w K _ ys h2⟩
theorem bnd_asm {tags : Rel (List (Nat × List UInt8))} {v : Int} {flex ht : Bool} (hT : Bnd tags) {fs : List F} {rs : List (Rel T)} (h : ∀ (i : Nat) (f : F) (r : Rel T), fs[i]? = some f → rs[i]? = some r → Bnd r) : Bnd (asmRep tags v flex ht fs rs) :=
  fun w K _ _ h' => ⟨bnd_plain fs rs h w K _ _ h'.1, fun hf => hT w K _ _ (h'.2 hf)⟩
section
variable {tags : Rel (List (Nat × List UInt8))} {v : Int} {flex ht : Bool}
mutual
theorem bnd_repF (hT : Bnd tags) : ∀ f : F, Bnd (repF tags v flex ht f)
  | .mk kind _ _ null _ _ of sub => by
    simp only [repF]
    exact bnd_field (bnd_asm hT (bnd_repFs hT sub))
theorem bnd_repFs (hT : Bnd tags) : ∀ (fs : List F) (i : Nat) (f : F) (r : Rel T), fs[i]? = some f → (repFs tags v flex ht fs)[i]? = some r → Bnd r
  | [], _, _, _, h, _ => by cases h
  | f :: fs, 0, g, r, h, h' => by
    cases h; cases h'
    exact bnd_repF hT f
  | f :: fs, i + 1, g, r, h, h' => bnd_repFs hT fs i g r h h'
end
theorem bnd_repP (hT : Bnd tags) (fs : List F) : Bnd (repP tags v flex ht fs) := bnd_asm hT (bnd_repFs hT fs)
end
theorem bnd_tags {w : World} {K : Nat → Prop} : ∀ (l : List (Nat × Value)) (u : List (Nat × List UInt8)), TagsAt w K l u → TagsAt w (inW w K) l u
  | [], [], _ => trivial
  | [], _ :: _, h => h.elim
  | _ :: _, [], h => h.elim
  | (_, _) :: l, (_, _) :: u, h => ⟨h.1, bnd_bytes h.2.1, bnd_tags l u h.2.2⟩
theorem bnd_tagRep : Bnd TagRep := by
  intro w K c u h
  obtain ⟨r, h1, h2⟩ := h
  refine ⟨r, h1, ?_⟩
  cases r with
  | none => exact h2
  | some b =>
    obtain ⟨hb, l, n, h3, h4, h5, h6⟩ := h2
    exact ⟨⟨hb, h4.lt⟩, l, n, h3, h4, h5, bnd_tags l u h6⟩

/-- Octets of one's own, as octets. -/
theorem own_bytes {w : World} {base : Nat} {v : Value} {bs : List UInt8} (h : OwnB w base v bs) : BytesAt w (fun g => v.ownBlock = some g) v bs := by
  obtain ⟨-, h⟩ := h
  rcases h with ⟨rfl, h0⟩ | ⟨g, cap, cur, rfl, h1, h2, h3, h4, h5, h6⟩
  · exact .inl ⟨rfl, List.length_eq_zero_iff.1 h0⟩
  · refine .inr ⟨g, 0, cap, rfl, h3, by simp only [maxLen] at h4; omega, rfl, (Array.getElem?_eq_some_iff.1 h2).1, fun i b hi => ?_⟩
    have hlt : i < bs.length := (List.getElem?_eq_some_iff.1 hi).1
    rw [cell_of_row w g (0 + i) _ _ _ h2, Nat.zero_add]
    have e : (cur.toList.take (bs.length * 1))[i]? = (bs.map bv)[i]? := by rw [h6]
    rw [List.getElem?_take_of_lt (by omega)] at e
    rw [← Array.getElem?_toList, e]
    simp [hi]
theorem OwnB.lower {w : World} {b b' : Nat} {v : Value} {bs : List UInt8} (h : OwnB w b v bs) (hb : b' ≤ b) : OwnB w b' v bs := by
  obtain ⟨h1, h⟩ := h
  refine ⟨h1, h.imp id ?_⟩
  rintro ⟨g, cap, cur, e1, e2, e3⟩
  exact ⟨g, cap, cur, e1, by omega, e3⟩
end Go.Proofs.Ytmkkpeolldpcfaa
/-
  A message: new, at a version, read, written: the thin package's function. Conditions: none.
-/
namespace Go.Proofs.Ytmkkpeolldpcfaa
open Go.RowKit (Below)
open Kz

/-- A function that lays a new message. -/
def NewsMsg (f T : Nat) (init : Array Value) : Prop := hasBody Try.prog f = true ∧ ∀ w : World, Calls Try.prog f #[] w fun e w' => e = .returned (.pointer (some ⟨w.heap.size, 0, none⟩)) ∧ w' = w.alloc (.cells init T)
theorem setMany_alloc (w : World) (z : Array Value) (T : TypeId) : ∀ sets : List (Nat × Value), setMany (w.alloc (.cells z T)) w.heap.size 0 sets = w.alloc (.cells (setArr z 0 sets) T) := by
  intro sets
  induction sets generalizing z with
  | nil => rfl
  | cons x r ih =>
    obtain ⟨i, u⟩ := x
    have e : (w.alloc (.cells z T)).setCell ⟨w.heap.size, 0 + i, none⟩ u = w.alloc (.cells (z.setIfInBounds (0 + i) u) T) := by
      simp only [World.setCell, World.alloc]
      congr 1
      apply Array.ext
      · simp
      · intro j h1 h2
        simp only [Array.getElem_modify, Array.getElem_push]
        simp at h2
        by_cases hj : j < w.heap.size
        · simp [hj, show w.heap.size ≠ j by omega]
        · obtain rfl : j = w.heap.size := by omega
          simp
    simp only [setMany, setArr, e]
    exact ih _
/-- 'var v T; v.Default(); return &v'. -/
theorem newsMsg {f fd T N : Nat} {z : Array Value} {sets : List (Nat × Value)} {fn : Func} {i0 i1 i2 i3 t r p : Nat} {y0 y1 y2 y3 : TypeId} {tys : Array TypeId} {q0 q1 q2 q3 : String} {e0 e1 e2 e3 : Array Edge} {p0 : Value} (hf : Try.prog.funcs[f]? = some fn) (hb : fn.body = some
    ((Code.region i0 #[⟨some r, .assign (.const p0), y0, q0, e0, none⟩] false).seq ((Code.region i1 #[⟨some p, .alloc T, y1, q1, e1, none⟩] false).seq ((Code.region i2 #[⟨some t, .call { callee := .value (.func fd), args := #[.tmp p], argTypes := tys }, y2, q2, e2, none⟩] false).seq
      ((Code.region i3 #[⟨some r, .assign (.tmp p), y3, q3, e3, none⟩] false).seq Code.ret))))) (hnt : fn.ntmps = N) (hres : fn.results = #[.tmp r]) (hn : [r, p, t].all (· < N) = true) (hd : decide (t ≠ p) = true) (hg : hasBody Try.prog f = true)
    (ha : ∀ w : World, (Instr.alloc T true (.tuple #[])).run Try.prog w = .ok (.pointer (some ⟨w.heap.size, 0, none⟩)) (w.alloc (.cells z T))) (hs : DefSets fd z.size sets) : NewsMsg f T (setArr z 0 sets) := by
  refine ⟨hg, fun w => calls_of_wp hf hb ?_⟩
  simp only [List.all_cons, List.all_nil, Bool.and_true, Bool.and_eq_true, decide_eq_true_eq] at hn
  have hd' := of_decide_eq_true hd
  generalize hA : (⟨(#[] : Array Value) ++ Array.replicate (fn.ntmps - (#[] : Array Value).size) undef, []⟩ : Act) = a
  have hsz : a.tmps.size = N := by subst hA; simp [hnt]
  have hdf : a.defers = [] := by subst hA; rfl
  obtain ⟨fd', hfd, hbd, hnd⟩ := hasBody_ok hs.1
  refine wp_seq (reg_const (by omega) fun a1 u1 _ => ?_)
  have hs1 := u1.size.trans hsz
  refine wp_seq (wp_region_lit (st_val (v := .pointer (some ⟨w.heap.size, 0, none⟩)) (w' := w.alloc (.cells z T)) (by simp only [execOp, Sem.run_bind, ha, Result.andThen_ok, Sem.run_pure]) (wpList_nil ?_)))
  generalize hA2 : a1.put (some p) (.pointer (some ⟨w.heap.size, 0, none⟩)) = a2
  have k2 : sl a2 p = .pointer (some ⟨w.heap.size, 0, none⟩) := by subst hA2; exact sl_put_self _ _ _ (by omega)
  have s2 : a2.tmps.size = N := by subst hA2; rw [put_size]; exact hs1
  have d2 : a2.defers = [] := by subst hA2; rw [put_defers]; exact u1.defers.trans hdf
  refine wp_seq (wp_region_lit (st_call1 hfd hbd hnd ?_))
  rw [eval_tmp, k2]
  refine Calls.mono (hs.2 _ w.heap.size 0 z T (alloc_new w _) (by omega)) ?_
  rintro e w' ⟨⟨u, rfl⟩, rfl⟩
  refine ⟨u, rfl, wpList_nil ?_⟩
  refine wp_seq (wp_region_lit (st_assign (wpList_nil ?_)))
  refine wp_ret ⟨?_, _, results_tmp hres _ _ _, ?_, setMany_alloc w z T sets⟩
  · rw [put_defers, put_defers]; exact d2
  · show Ending.returned (sl _ r) = _
    rw [sl_put_self _ _ _ (by simp only [put_size]; omega), eval_tmp, sl_put_other _ _ _ _ hd', k2]

/-- 'v.Version = version'. -/
def SetsVersion (f : Nat) : Prop := hasBody Try.prog f = true ∧ ∀ (w : World) (G : Nat) (v : Int) (cells : Array Value) (Ty : TypeId), w.heap[G]? = some (.cells cells Ty (0, 0)) → 0 < cells.size → Calls Try.prog f #[.pointer (some ⟨G, 0, none⟩), .int .i16 v] w fun e w' => (∃ u, e = .returned u) ∧ w' = w.setCell ⟨G, 0, none⟩ (.int .i16 v)
theorem setsVersion {f : Nat} {fn : Func} {id t1 t2 t3 t4 T k ty : Nat} {ty1 ty2 ty3 ty4 ty5 : TypeId} {p1 p2 p3 p4 p5 : String} {e1 e2 e3 e4 e5 : Array Edge} (hf : Try.prog.funcs[f]? = some fn)
    (hb : fn.body = some (Code.region id #[⟨some t1, .move (.tmp 0), ty1, p1, e1, none⟩, ⟨some t2, .move (.tmp 1), ty2, p2, e2, none⟩, ⟨some t3, .nilCheck (.tmp t1), ty3, p3, e3, none⟩, ⟨some t4, .fieldAddr T (.tmp t3) k, ty4, p4, e4, none⟩, ⟨none, .store ty (.tmp t4) (.tmp t2), ty5, p5, e5, none⟩] false))
    (hr : fn.results = #[]) (hg : hasBody Try.prog f = true) (hoff : offOf Try.prog T k = some 0) (hty : sizeIs Try.prog ty 1 = true) (hn : decide (2 ≤ fn.ntmps) && [t1, t2, t3, t4].all (· < fn.ntmps) = true) (hd : decide (t1 ≠ t2 ∧ t1 ≠ 1 ∧ t2 ≠ t3 ∧ t2 ≠ t4) = true) : SetsVersion f := by
  refine ⟨hg, fun w G v cells Ty hrow hsz => calls_of_wp hf hb ?_⟩
  simp only [List.all_cons, List.all_nil, Bool.and_true, Bool.and_eq_true, decide_eq_true_eq] at hn hd
  obtain ⟨h2, n1, n2, n3, n4⟩ := hn
  obtain ⟨d1, d2, d3, d4⟩ := hd
  generalize hA : (⟨(#[.pointer (some ⟨G, 0, none⟩), .int .i16 v] : Array Value) ++ Array.replicate (fn.ntmps - (#[.pointer (some ⟨G, 0, none⟩), .int .i16 v] : Array Value).size) undef, []⟩ : Act) = a
  have hN : a.tmps.size = fn.ntmps := by subst hA; simp; omega
  have hdf : a.defers = [] := by subst hA; rfl
  have s0 : sl a 0 = .pointer (some ⟨G, 0, none⟩) := by subst hA; simp [sl, Array.getD_eq_getD_getElem?, Array.getElem?_append]
  have s1 : sl a 1 = .int .i16 v := by subst hA; simp [sl, Array.getD_eq_getD_getElem?, Array.getElem?_append]
  refine reg_storeField (b := G) (o := 0) (u := cells[0]) (v := .int .i16 v) (fieldOff_ok hoff) (store1_ok hty rfl) (by omega) (by omega) (by omega) (by omega) d1 d2 d3 d4 s0 s1 (by rw [cell_of_row w G _ _ _ _ hrow]; simp [hsz]) (by simp [World.frozen?, hrow]) fun a' hu => ?_
  exact ⟨hu.defers.trans hdf, .tuple #[], results_none hr _ _ _, ⟨_, rfl⟩, rfl⟩

/-- 'return v.readFrom(src, false)'. -/
def ReadsFrom (f fr : Nat) : Prop := hasBody Try.prog f = true ∧ ∀ (w : World) (x y : Value) (R : Ending → World → Prop), (Calls Try.prog fr #[x, y, .bool false] w fun e w' => ∃ u, e = .returned u ∧ R (.returned u) w') → Calls Try.prog f #[x, y] w R
theorem readsFrom {f fr : Nat} {fn : Func} {i0 i1 r t1 t2 t3 : Nat} {v0 : Value} {y0 y1 y2 y3 y4 : TypeId} {tys : Array TypeId} {q0 q1 q2 q3 q4 : String} {e0 e1 e2 e3 e4 : Array Edge} (hf : Try.prog.funcs[f]? = some fn)
    (hb : fn.body = some ((Code.region i0 #[⟨some r, .assign (.const v0), y0, q0, e0, none⟩] false).seq ((Code.region i1 #[⟨some t1, .move (.tmp 0), y1, q1, e1, none⟩, ⟨some t2, .move (.tmp 1), y2, q2, e2, none⟩, ⟨some t3, .call { callee := .value (.func fr), args := #[.tmp t1, .tmp t2, .const (.bool false)], argTypes := tys }, y3, q3, e3, none⟩,
      ⟨some r, .assign (.tmp t3), y4, q4, e4, none⟩] false).seq Code.ret))) (hr : fn.results = #[.tmp r]) (hg : hasBody Try.prog f = true) (hgr : hasBody Try.prog fr = true) (hn : decide (2 ≤ fn.ntmps) && [r, t1, t2, t3].all (· < fn.ntmps) = true) (hd : decide ([0, 1, r, t1, t2, t3].Nodup) = true) : ReadsFrom f fr := by
  refine ⟨hg, fun w x y R hc => ?_⟩
  simp only [List.all_cons, List.all_nil, Bool.and_true, Bool.and_eq_true, decide_eq_true_eq] at hn
  obtain ⟨h2, n0, n1, n2, n3⟩ := hn
  have hd' := of_decide_eq_true hd
  simp only [List.nodup_cons, List.mem_cons, List.not_mem_nil, or_false, not_or, List.nodup_nil, and_true, not_false_eq_true] at hd'
  obtain ⟨⟨-, a0, a1, a2, a3⟩, ⟨b0, b1, b2, b3⟩, ⟨c1, c2, c3⟩, ⟨f2, f3⟩, -⟩ := hd'
  obtain ⟨fd', hfd, hbd, hnd⟩ := hasBody_ok hgr
  refine enter2 hf hb h2 hr fun a hN hdf s0 s1 => ?_
  refine wp_seq (reg_const (by omega) fun a1 u1 _ => ?_)
  have hN1 := u1.size.trans hN
  have k0 : sl a1 0 = x := (u1.same 0 (by simp; exact a0)).trans s0
  have k1 : sl a1 1 = y := (u1.same 1 (by simp; exact b0)).trans s1
  refine wp_seq (wp_region_lit (st_move (st_move (st_call hfd hbd hnd ?_))))
  have e : (#[Operand.tmp t1, Operand.tmp t2, Operand.const (.bool false)] : Array Operand).map ((a1.put (some t1) (a1.eval (.tmp 0))).put (some t2) ((a1.put (some t1) (a1.eval (.tmp 0))).eval (.tmp 1))).eval = #[x, y, .bool false] := by
    simp only [List.map_toArray, List.map_cons, List.map_nil, eval_const, eval_tmp]
    rw [sl_put_other _ _ _ _ (fun e => f2 e.symm), sl_put_self _ _ _ (by omega), sl_put_self _ _ _ (by rw [put_size]; omega), sl_put_other _ _ _ _ (fun e => b1 e.symm), k0, k1]
  rw [e]
  refine Calls.mono hc ?_
  rintro e' w' ⟨u, rfl, hR⟩
  refine ⟨u, rfl, st_assign (wpList_nil ?_)⟩
  refine wp_ret ⟨rfl, ?_, ?_⟩
  · simp only [put_defers]; exact u1.defers.trans hdf
  · rw [sl_put_self _ _ _ (by simp only [put_size]; omega), eval_tmp, sl_put_self _ _ _ (by simp only [put_size]; omega)]
    exact hR
end Go.Proofs.Ytmkkpeolldpcfaa
/-
  The thin package's function: octets read as a message, written again. Conditions: none.
-/
namespace Go.Proofs.Ytmkkpeolldpcfaa
open Go.RowKit (Below)
open Kz

/-- The frame at a call of two values, two results. -/
theorem enter22 {P : Program} {f : Nat} {fn : Func} {c : Code} {x y : Value} {w : World} {R : Ending → World → Prop} {r1 r2 : Nat} (hf : P.funcs[f]? = some fn) (hb : fn.body = some c) (hn : 2 ≤ fn.ntmps) (hr : fn.results = #[.tmp r1, .tmp r2])
    (h : ∀ (a : Act), a.tmps.size = fn.ntmps → a.defers = [] → sl a 0 = x → sl a 1 = y → c.wp P (fun e a' w' => e = .ret ∧ a'.defers = [] ∧ R (.returned (.tuple #[sl a' r1, sl a' r2])) w') a w) : Calls P f #[x, y] w R := by
  refine calls_of_wp hf hb ?_
  refine wp_mono (h _ (by simp; omega) rfl (by simp [sl, Array.getD_eq_getD_getElem?, Array.getElem?_append]) (by simp [sl, Array.getD_eq_getD_getElem?, Array.getElem?_append])) ?_
  rintro e a' w' ⟨rfl, hd, hq⟩
  exact ⟨hd, _, results_tmp2 hr _ _ _, hq⟩
theorem exec_binR {P : Program} {ρ : Operand → Value} {d : Option Nat} {op : BinOp} {T T' ty : TypeId} {x y : Operand} {u z r : Value} {pos : String} {aft : Array Edge} {g : Option (Nat × Bool)} {w : World} (hx : ρ x = u) (hy : ρ y = z)
    (hg : eqGuard op T x y u z = pure ()) (hb : (binOp op T u z).run P w = .ok r w) : (execOp ρ ⟨d, .binOp op T x y T', ty, pos, aft, g⟩).run P w = .ok (.value r) w := by
  simp [execOp, hx, hy, hg, hb, Result.andThen]
theorem size_newSet (w : World) (o : Obj) (ad : Addr) (v : Value) : ((w.alloc o).setCell ad v).heap.size = w.heap.size + 1 := by
  unfold World.setCell World.alloc
  simp only [Array.size_modify, Array.size_push]
end Go.Proofs.Ytmkkpeolldpcfaa
/-
  What the laws lean on: the version, octets compared. Conditions: none.
-/
namespace Go.Proofs.Ytmkkpeolldpcfaa
open Go.RowKit
open Kz

/-- Nil slices, by a closed question. -/
def isNil : Option Value → Bool
  | some (.slice none 0 0) => true
  | _ => false
theorem isNil_ok {o : Option Value} (h : isNil o = true) : o = some (.slice none 0 0) := by
  unfold isNil at h
  split at h
  · rfl
  · cases h
theorem nil_all {ht : Bool} {fs : List F} {z : Array Value} {b : Nat} (h : (inisFs ht fs b).all (fun k => isNil z[k]?) = true) : ∀ k ∈ inisFs ht fs b, z[k]? = some (.slice none 0 0) :=
  fun k hk => isNil_ok (List.all_eq_true.1 h k hk)
theorem ini_all {ht : Bool} {fs : List F} {z : Array Value} (h : (inisFs ht fs 0).all (fun k => isNil z[k]?) = true) : iniFs ht fs (fun j => z[j]?) := by
  have := iniFs_cells ht fs 0 (fun j => z[j]?)
  simp only [Nat.zero_add] at this
  exact this.2 (nil_all h)
theorem version_any (w : World) (n most : Int) (h0 : 0 ≤ n) (h1 : n < 256) (hm : 0 ≤ most) (hm2 : most < 32768) :
    Calls Try.prog 10 #[.int .u8 n, .int .i64 most] w fun e w' => e = .returned (.int .i64 (n % (most + 1))) ∧ w' = w := by
  have e1 : IntKind.wrap .i64 n = n := by rw [IntKind.wrap_i64]; omega
  have e2 : IntKind.wrap .i64 (most + 1) = most + 1 := by rw [IntKind.wrap_i64]; omega
  have e3 : Int.tmod n (most + 1) = n % (most + 1) := Int.tmod_eq_emod_of_nonneg h0
  have e4 : 0 ≤ n % (most + 1) := Int.emod_nonneg _ (by omega)
  have e5 : n % (most + 1) < most + 1 := Int.emod_lt_of_pos _ (by omega)
  have e6 : IntKind.wrap .i64 (n % (most + 1)) = n % (most + 1) := by rw [IntKind.wrap_i64]; omega
  have hne : ¬ (most + 1 = 0) := by omega
  go_enter Try.func10, Try.ntmps10
  go_wp2
  go_ret
  exact ⟨rfl, rfl⟩

/-- Octets by their places. -/
theorem bytes_cell {w : World} {S : Nat → Prop} {v : Value} {bs : List UInt8} (h : BytesAt w S v bs) : ∃ p c, v = .slice p bs.length c ∧ (bs ≠ [] → ∃ g o, p = some ⟨g, o, none⟩ ∧ ∀ (i : Nat) (b : UInt8), bs[i]? = some b → w.cell? ⟨g, o + i, none⟩ = some (bv b)) := by
  rcases h with ⟨rfl, rfl⟩ | ⟨g, o, c, rfl, h2, h2', h3, h4, h5⟩
  · exact ⟨_, _, rfl, fun h => absurd rfl h⟩
  · exact ⟨_, _, rfl, fun _ => ⟨g, o, rfl, h5⟩⟩
theorem bv_ne (a b : UInt8) : (a.toNat : Int) = (b.toNat : Int) ↔ a = b := by
  constructor
  · intro h
    exact UInt8.toNat_inj.1 (by omega)
  · rintro rfl; rfl

set_option maxRecDepth 8000 in
set_option maxHeartbeats 1000000 in
theorem Same_any (w : World) (S S' : Nat → Prop) (x y : Value) (a b : List UInt8) (hx : BytesAt w S x a) (hy : BytesAt w S' y b) (ha : a.length < 4611686018427387904) :
    Calls Try.prog 8 #[x, y] w fun e w' => e = .returned (.bool (decide (a = b))) ∧ w.grownBy w' none := by
  obtain ⟨p, c, rfl, hp⟩ := bytes_cell hx
  obtain ⟨q, d, rfl, hq⟩ := bytes_cell hy
  clear hx hy
  by_cases hl : a.length = b.length
  · have hli : (a.length : Int) = (b.length : Int) := by omega
    go_enter Try.func8, Try.ntmps8
    go_wp2
    go_loopw [13] (fun i wr => ∃ j : Nat, i = .int .i64 (j : Int) ∧ j ≤ a.length ∧ a.take j = b.take j ∧ w.grownBy wr none) (fun i _ => a.length - (intOf i).toNat)
    case atStart => exact ⟨0, rfl, Nat.zero_le _, by simp, grownBy_refl _ _⟩
    case round =>
      obtain ⟨j, rfl, hj, htk, hg⟩ := hrel
      by_cases hjl : j < a.length
      · have hji : (j : Int) < (a.length : Int) := by omega
        obtain ⟨g, o, rfl, hpc⟩ := hp (by intro e; rw [e] at hjl; simp at hjl)
        obtain ⟨g', o', rfl, hqc⟩ := hq (by intro e; rw [e] at hl; simp only [List.length_nil] at hl; omega)
        have ea : a[j]? = some (a[j]'hjl) := List.getElem?_eq_getElem hjl
        have eb : b[j]? = some (b[j]'(by omega)) := List.getElem?_eq_getElem (by omega)
        have ca : wr.cell? ⟨g, o + j, none⟩ = some (bv (a[j]'hjl)) := hg.cell (hpc j _ ea) (by simp)
        have cb : wr.cell? ⟨g', o' + j, none⟩ = some (bv (b[j]'(by omega))) := hg.cell (hqc j _ eb) (by simp)
        have hw1 : IntKind.wrap .i64 ((j : Int) + 1) = ((j + 1 : Nat) : Int) := by rw [IntKind.wrap_i64]; omega
        simp only [bv] at ca cb
        generalize hA : a[j]'hjl = xa at ea ca
        generalize hB : b[j]'(by omega) = xb at eb cb
        by_cases hab : xa = xb
        · subst hab
          have hstep : a.take (j + 1) = b.take (j + 1) := by rw [List.take_add_one, List.take_add_one, htk, ea, eb]
          have bg : Box _ := ⟨hg⟩
          have bst : Box _ := ⟨hstep⟩
          clear hp hq hpc hqc ea eb htk hg hstep hA hB
          go_wp2
          go_quiet (fail)
          go_wp2
          go_roundw
          case rel => exact ⟨j + 1, rfl, by omega, bst.get, bg.get.os, bg.get.tape, bg.get.output, bg.get.size, bg.get.block⟩
          case measure => simp only [intOf]; omega
        · have hne : ¬ ((xa.toNat : Int) = (xb.toNat : Int)) := fun e => hab ((bv_ne xa xb).1 e)
          have hab' : a ≠ b := by
            rintro rfl
            rw [ea] at eb
            exact hab (Option.some.inj eb)
          have bg : Box _ := ⟨hg⟩
          clear hp hq hpc hqc ea eb htk hg hA hB
          go_wp2
          go_quiet (fail)
          go_wp2
          go_ret
          exact ⟨by rw [decide_eq_false hab']; rfl, bg.get.os, bg.get.tape, bg.get.output, bg.get.size, bg.get.block⟩
      · have hji : ¬ ((j : Int) < (a.length : Int)) := by omega
        obtain rfl : j = a.length := by omega
        have hab : a = b := by
          rw [List.take_length, hl, List.take_length] at htk
          exact htk
        subst hab
        clear hp hq
        go_wp2
        go_ret
        exact ⟨by simp, hg⟩
  · have hli : ¬ ((a.length : Int) = (b.length : Int)) := by omega
    go_enter Try.func8, Try.ntmps8
    clear hp hq
    go_wp2
    · go_ret
      exact ⟨by rw [decide_eq_false (fun e => hl (by rw [e]))]; rfl, grownBy_refl _ _⟩
theorem ApV.guardV {tags : Rel (List (Nat × List UInt8))} {E : WE} {v : Int} {flex ht : Bool} {sp off t : Nat} {q : Bool} {f : F} {r c : Code} (hT : TestW E v flex t q r) (hq : f.has v = q) (ht0 : f.tag < 0) (hsp : clear [sp] r = true) (h : f.has v = true → ApV tags E v flex ht sp off f c) :
    ApF tags E v flex ht sp off f (r.seq (Code.cond (.tmp t) c Code.skip)) := by
  subst hq
  refine Ap.conv (Ap.guard hT hsp h) id (fun w K cc x hx hh => ⟨hx.1 (by simpa [F.on, ht0] using hh), hx.2⟩) (fun w K cc x _ => ?_)
  simp only [ht0, true_and, id]
end Go.Proofs.Ytmkkpeolldpcfaa
/-
  What every row leans on: the listed variable, a world for the witness, arguments that stay. Conditions: none.
-/
namespace Go.Proofs.Ytmkkpeolldpcfaa
open Go.ChangeShapes Go.WideShapes Go.ChangeAt Go.RowKit
open Kz

theorem own : ownKnob Try.prog.godebug = none := by kernel_rfl
theorem laidOut' : laidOutB Try.prog = true := by kernel_rfl
theorem star : "*" ++ "errors.errorString" = "*errors.errorString" := by decide
section
variable {H : Type} {enc : TypeId × Value → H}
/-- Arguments stay as they were, where what lay is as it was. -/
theorem args_stay {W W' : World} (hb : Below W.heap.size W W') : ∀ (ts : List TypeId), (∀ t ∈ ts, Try.prog.readableRec t = true ∧ t < Try.prog.types.size) → ∀ (vs : List Value) (ds : List (DataW H)) (p : List MemPlace), DataW.TrodAll enc Try.prog W 0 (fun _ => true) true ts vs ds p →
    (∀ x ∈ p, x.block < W.heap.size) → ∀ sp : Nat → Bool, (∀ x ∈ p, sp x.block = true) → DataW.TrodAll enc Try.prog W' 0 sp true ts vs ds p
  | [], _, [], [], p, h, _, sp, _ => h
  | [], _, [], _ :: _, p, h, _, sp, _ => h.elim
  | [], _, _ :: _, _, p, h, _, sp, _ => h.elim
  | _ :: _, _, [], _, p, h, _, sp, _ => h.elim
  | _ :: _, _, _ :: _, [], p, h, _, sp, _ => h.elim
  | t :: ts, ht, v :: vs, d :: ds, p, h, hlt, sp, hsp => by
    obtain ⟨p1, p2, ⟨n, h1⟩, h2, rfl⟩ := h
    obtain ⟨hr, hrow⟩ := ht t (by simp)
    refine ⟨p1, p2, ⟨n, ?_⟩, args_stay hb ts (fun t h => ht t (by simp [h])) vs ds p2 h2 (fun x hx => hlt x (List.mem_append_right _ hx)) sp (fun x hx => hsp x (List.mem_append_right _ hx)), rfl⟩
    refine DataW.trod_stays (kids_book laidOut' hr) (book_sized hr) (fun h => by cases h) ⟨hrow, book_self t⟩ h1 (fun x hx => ?_) (fun x hx => hsp x (List.mem_append_left _ hx))
    have hbl := hb.block x.block (hlt x (List.mem_append_left _ hx))
    cases x with
    | cell b off => exact cell_kept hbl
    | map b => exact hbl

theorem u8_range {n : Int} (h : (Lit.int .u8 n).wf = true) : 0 ≤ n ∧ n < 256 := by
  simp [Lit.wf, IntKind.min, IntKind.max, IntKind.bits, IntKind.signed] at h
  omega
theorem cellsU8 : Try.prog.cellsOf 5 = 1 := by kernel_rfl
theorem byte_back {n : Int} (h : (Lit.int .u8 n).wf = true) : Value.int .u8 n = bv (UInt8.ofNat n.toNat) := by
  obtain ⟨h0, h1⟩ := u8_range h
  unfold bv
  rw [UInt8.toNat_ofNat']
  congr 1
  omega
set_option maxRecDepth 100000 in
/-- Octets that came in. -/
theorem open_octets {W : World} {base : Nat} {v : Value} {d : DataW H} {ps : List MemPlace} (hval : Value.okWide Try.prog W .any base 28 v) (h : DataW.Trod enc Try.prog W 0 (fun _ => true) true 28 v d ps) :
    ∃ q c bs, v = .slice q bs.length c ∧ BytesAt W (fun g => g < W.heap.size) (.slice q bs.length c) bs := by
  obtain ⟨a1, len, cap, rfl⟩ := okWide_slice Try.underlying28 hval
  obtain ⟨fuel, hf⟩ := h
  rcases open_ints Try.underlying28 Try.underlying5 cellsU8 hf with ⟨hcs, hx⟩ | ⟨a, len', cap', zs, hcs, _, hl, hm, hz, hx, hcell, hwz⟩
  · simp [Value.cells] at hcs
    obtain ⟨rfl, rfl, rfl⟩ := hcs
    exact ⟨none, 0, [], rfl, .inl ⟨rfl, rfl⟩⟩
  · simp [Value.cells] at hcs
    obtain ⟨rfl, rfl, rfl⟩ := hcs
    simp only [if_true] at hz
    have hlen : ((zs.take len).map fun n => UInt8.ofNat n.toNat).length = len := by simp; omega
    have hsp : a.spot = none ∧ a.block < W.heap.size := by
      unfold Value.okWide at hval
      rw [Try.underlying28] at hval
      simp only [Cell.okWide, Cell.ok, Try.underlying28] at hval
      obtain ⟨-, -, -, h2, row, cells, h3, -⟩ := hval
      refine ⟨h2, ?_⟩
      unfold World.shape? at h3
      split at h3
      · rename_i c e f hx; exact (Array.getElem?_eq_some_iff.1 hx).1
      · cases h3
    obtain ⟨ab, ao, spot⟩ := a
    obtain ⟨rfl, hlt⟩ := hsp
    refine ⟨some ⟨ab, ao, none⟩, cap, (zs.take len).map fun n => UInt8.ofNat n.toNat, by rw [hlen], .inr ⟨ab, ao, cap, rfl, by rw [hlen]; exact hl, by simp only [maxLen] at hm; omega, hlt, hlt, fun i b hi => ?_⟩⟩
    have hil : i < len := by rw [← hlen]; exact (List.getElem?_eq_some_iff.1 hi).1
    have hc := hcell i (by omega)
    rw [Addr.add_lit] at hc
    rw [hc]
    have e : zs.getD i 0 = zs[i]'(by omega) := by simp [List.getD, List.getElem?_eq_getElem (show i < zs.length by omega)]
    rw [e, byte_back (hwz _ (List.getElem_mem _))]
    congr 2
    simp only [List.getElem?_map, List.getElem?_take, hil, if_true, List.getElem?_eq_getElem (show i < zs.length by omega), Option.map_some, Option.some.injEq] at hi
    exact hi
/-- A law's row: what its walk gives. -/
theorem law_post {fn : Func} {s : ChangeSpec} {W W' : World} {args : Array Value} {ds gs : List (DataW H)} {before : List MemPlace} (hvars : s.vars = []) (hres : fn.resultTypes = #[4]) (hW : DataW.Whole enc Try.prog fn.params.toList s.vars false W args.toList ds gs before)
    (hfn : s.fn H (ds ++ gs) = { results := [.lit (.bool true)], args := ds }) (hts : ∀ t ∈ fn.params.toList, Try.prog.readableRec t = true ∧ t < Try.prog.types.size) (hb : Below W.heap.size W W') : s.post enc Try.prog fn false true false false W args (.bool true) W' := by
  have hW' := hW
  have hlt := hW.lt
  obtain ⟨p, q, hA, hV, rfl, -, -⟩ := hW
  have hV' : DataW.TrodVars enc Try.prog W (fun _ => true) [] gs q := by rw [← hvars]; exact hV
  obtain ⟨rfl, rfl⟩ := trodVars_none hV'
  refine ⟨_, _, _, [], p, [], hW', ?_, ?_, ?_, hb.frame _, fun h => by cases h⟩
  · rw [hfn, hres]
    exact trodAll_mk1 (shut_bool Try.underlying4 _)
  · rw [hfn]
    exact args_stay hb _ hts _ _ _ hA (fun x hx => hlt x (List.mem_append_left _ hx)) _ (fun x hx => by simpa using hlt x (List.mem_append_left _ hx))
  · rw [hfn, hvars]; rfl
end
end Go.Proofs.Ytmkkpeolldpcfaa

