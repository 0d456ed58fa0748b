/-
  Tags that are written; messages that are written; the thin package; rows. Conditions: none.
-/
import Derived.Test.YthdfhnnoamlacaaDoorY3
import Derived.Test.YthdfhnnoamlacaaDoorY4
import Derived.Maps.Range
import Derived.Maps.RangeWalk
import Derived.Shelf.GgSortFunc.Whole
import Derived.Shelf.Lay
import Derived.Deep.QuietTactic
import Derived.Sort.OwnSorted
import Derived.OwnWalk
import Derived.Shelf.GgSortFunc.Tiny
import Derived.Maps.AppendAt
import Derived.WideLaws
import Derived.Test.YthdfhnnoamlacaaDoorCards
import Derived.Test.YthdfhnnoamlacaaDoorTie
import Derived.WalkKit
import Derived.ProofKit
import Derived.OpenShut
import Derived.ChangeStays
import Derived.ChangeBook
import Derived.SizedLaws
import Derived.SliceStrings
import Derived.Deep.DeepHandedRow
import Derived.Deep.DeepWitnessRowRef
import Derived.Lib.LaidIn
import Derived.Stop.LaidErr
/-
  Tags, written: the closures. Conditions: none.
-/
namespace Go.Proofs
open Go.Shelf
end Go.Proofs
namespace Go.Proofs.YthdfhnnoamlacaaDoor
open Go.RowKit Go.Lib Go.Sort
open Kz

theorem own_ne {w : World} {base db : Nat} {v x : Value} {bs : List UInt8} (h : w.heap[db]? = some (.cells #[x] 22 (0, 0))) (ho : OwnB w base v bs) : v.ownBlock ≠ some db := by
  obtain ⟨-, h1⟩ := ho
  rcases h1 with ⟨rfl, -⟩ | ⟨g, cap, cur, rfl, h2, h3, -⟩
  · simp [Value.ownBlock]
  · simp only [Value.ownBlock, ne_eq, Option.some.injEq]
    rintro rfl
    rw [h] at h3
    simp only [Option.some.injEq, Obj.cells.injEq] at h3
    exact absurd h3.2.1 (by decide)
theorem own_slice {w : World} {base : Nat} {v : Value} {bs : List UInt8} (ho : OwnB w base v bs) : ∃ p n m, v = .slice p n m := by
  rcases ho.2 with ⟨rfl, -⟩ | ⟨g, cap, cur, rfl, -⟩
  · exact ⟨_, _, _, rfl⟩
  · exact ⟨_, _, _, rfl⟩
end Go.Proofs.YthdfhnnoamlacaaDoor
/-
  Tags, written: keys sorted. Conditions: none.
-/
namespace Go.Proofs.YthdfhnnoamlacaaDoor
open Go.RowKit Go.Lib Go.Sort
open Kz

end Go.Proofs.YthdfhnnoamlacaaDoor
/-
  Tags, written: each of them, by rising numbers. Conditions: none.
-/
namespace Go.Proofs.YthdfhnnoamlacaaDoor
open Go.RowKit Go.Lib Go.Sort
open Kz

/-- What has been collected. -/
structure Coll (l : List (Nat × Value)) (left : Lit → Bool) (ks : List Int) : Prop where
  nodup : ks.Nodup
  mem : ∀ z ∈ ks, z ∈ l.map fun x => (x.1 : Int)
  left : ∀ z : Int, left (Lit.int .u32 z) = ((l.map fun x => (x.1 : Int)).contains z && !ks.contains z)
end Go.Proofs.YthdfhnnoamlacaaDoor
/-
  Tags, written: AppendEach, Len. Conditions: none.
-/
namespace Go.Proofs.YthdfhnnoamlacaaDoor
open Go.RowKit Go.Lib Go.Sort
open Kz

end Go.Proofs.YthdfhnnoamlacaaDoor
/-
  Code that writes: lists, tags, the ends of parts. Conditions: none.
-/
namespace Go.Proofs.YthdfhnnoamlacaaDoor
open Go.RowKit (Below)
open Kz

section
variable {tags : Rel (List (Nat × List UInt8))} {E : WE} {v : Int} {flex ht : Bool}

end
end Go.Proofs.YthdfhnnoamlacaaDoor
/-
  Code that writes: the tags behind the fields, parts, whole functions. Conditions: none.
-/
namespace Go.Proofs.YthdfhnnoamlacaaDoor
open Go.RowKit (Below)
open Kz

section
variable {tags : Rel (List (Nat × List UInt8))} {E : WE} {v : Int} {flex ht : Bool}

end
end Go.Proofs.YthdfhnnoamlacaaDoor
/-
  Code that writes: parts, whole functions. Conditions: none.
-/
namespace Go.Proofs.YthdfhnnoamlacaaDoor
open Go.RowKit (Below)
open Kz

section
variable {E : WE} {v : Int} {flex ht : Bool}

end

section
variable {tags : Rel (List (Nat × List UInt8))} {m : M} {ht : Bool}
end
end Go.Proofs.YthdfhnnoamlacaaDoor
/-
  What a struct holds lies in blocks that are there. Conditions: none.
-/
namespace Go.Proofs.YthdfhnnoamlacaaDoor
open Go.RowKit (Below)
open Kz

/-- The blocks that are there. -/
abbrev inW (w : World) (K : Nat → Prop) : Nat → Prop := fun g => K g ∧ g < w.heap.size
theorem bnd_bytes {w : World} {K : Nat → Prop} {v : Value} {bs : List UInt8} (h : BytesAt w K v bs) : BytesAt w (inW w K) v bs := by
  rcases h with h | ⟨g, o, c, h1, h2, h2', h3, h4, h5⟩
  · exact .inl h
  · exact .inr ⟨g, o, c, h1, h2, h2', ⟨h3, h4⟩, h4, h5⟩
section
variable {tags : Rel (List (Nat × List UInt8))} {v : Int} {flex ht : Bool}
end
/-- Octets of one's own, as octets. -/
theorem own_bytes {w : World} {base : Nat} {v : Value} {bs : List UInt8} (h : OwnB w base v bs) : BytesAt w (fun g => v.ownBlock = some g) v bs := by
  obtain ⟨-, h⟩ := h
  rcases h with ⟨rfl, h0⟩ | ⟨g, cap, cur, rfl, h1, h2, h3, h4, h5, h6⟩
  · exact .inl ⟨rfl, List.length_eq_zero_iff.1 h0⟩
  · refine .inr ⟨g, 0, cap, rfl, h3, by simp only [maxLen] at h4; omega, rfl, (Array.getElem?_eq_some_iff.1 h2).1, fun i b hi => ?_⟩
    have hlt : i < bs.length := (List.getElem?_eq_some_iff.1 hi).1
    rw [cell_of_row w g (0 + i) _ _ _ h2, Nat.zero_add]
    have e : (cur.toList.take (bs.length * 1))[i]? = (bs.map bv)[i]? := by rw [h6]
    rw [List.getElem?_take_of_lt (by omega)] at e
    rw [← Array.getElem?_toList, e]
    simp [hi]
end Go.Proofs.YthdfhnnoamlacaaDoor
/-
  A message: new, at a version, read, written: the thin package's function. Conditions: none.
-/
namespace Go.Proofs.YthdfhnnoamlacaaDoor
open Go.RowKit (Below)
open Kz

end Go.Proofs.YthdfhnnoamlacaaDoor
/-
  The thin package's function: octets read as a message, written again. Conditions: none.
-/
namespace Go.Proofs.YthdfhnnoamlacaaDoor
open Go.RowKit (Below)
open Kz

end Go.Proofs.YthdfhnnoamlacaaDoor
/-
  What the laws lean on: the version, octets compared. Conditions: none.
-/
namespace Go.Proofs.YthdfhnnoamlacaaDoor
open Go.RowKit
open Kz

/-- Octets by their places. -/
theorem bytes_cell {w : World} {S : Nat → Prop} {v : Value} {bs : List UInt8} (h : BytesAt w S v bs) : ∃ p c, v = .slice p bs.length c ∧ (bs ≠ [] → ∃ g o, p = some ⟨g, o, none⟩ ∧ ∀ (i : Nat) (b : UInt8), bs[i]? = some b → w.cell? ⟨g, o + i, none⟩ = some (bv b)) := by
  rcases h with ⟨rfl, rfl⟩ | ⟨g, o, c, rfl, h2, h2', h3, h4, h5⟩
  · exact ⟨_, _, rfl, fun h => absurd rfl h⟩
  · exact ⟨_, _, rfl, fun _ => ⟨g, o, rfl, h5⟩⟩
theorem bv_ne (a b : UInt8) : (a.toNat : Int) = (b.toNat : Int) ↔ a = b := by
  constructor
  · intro h
    exact UInt8.toNat_inj.1 (by omega)
  · rintro rfl; rfl

set_option maxRecDepth 8000 in
set_option maxHeartbeats 1000000 in
theorem Same_any (w : World) (S S' : Nat → Prop) (x y : Value) (a b : List UInt8) (hx : BytesAt w S x a) (hy : BytesAt w S' y b) (ha : a.length < 4611686018427387904) :
    Calls Tryd.prog 22 #[x, y] w fun e w' => e = .returned (.bool (decide (a = b))) ∧ w.grownBy w' none := by
  obtain ⟨p, c, rfl, hp⟩ := bytes_cell hx
  obtain ⟨q, d, rfl, hq⟩ := bytes_cell hy
  clear hx hy
  by_cases hl : a.length = b.length
  · have hli : (a.length : Int) = (b.length : Int) := by omega
    go_enter Tryd.func22, Tryd.ntmps22
    go_wp2
    go_loopw [13] (fun i wr => ∃ j : Nat, i = .int .i64 (j : Int) ∧ j ≤ a.length ∧ a.take j = b.take j ∧ w.grownBy wr none) (fun i _ => a.length - (intOf i).toNat)
    case atStart => exact ⟨0, rfl, Nat.zero_le _, by simp, grownBy_refl _ _⟩
    case round =>
      obtain ⟨j, rfl, hj, htk, hg⟩ := hrel
      by_cases hjl : j < a.length
      · have hji : (j : Int) < (a.length : Int) := by omega
        obtain ⟨g, o, rfl, hpc⟩ := hp (by intro e; rw [e] at hjl; simp at hjl)
        obtain ⟨g', o', rfl, hqc⟩ := hq (by intro e; rw [e] at hl; simp only [List.length_nil] at hl; omega)
        have ea : a[j]? = some (a[j]'hjl) := List.getElem?_eq_getElem hjl
        have eb : b[j]? = some (b[j]'(by omega)) := List.getElem?_eq_getElem (by omega)
        have ca : wr.cell? ⟨g, o + j, none⟩ = some (bv (a[j]'hjl)) := hg.cell (hpc j _ ea) (by simp)
        have cb : wr.cell? ⟨g', o' + j, none⟩ = some (bv (b[j]'(by omega))) := hg.cell (hqc j _ eb) (by simp)
        have hw1 : IntKind.wrap .i64 ((j : Int) + 1) = ((j + 1 : Nat) : Int) := by rw [IntKind.wrap_i64]; omega
        simp only [bv] at ca cb
        generalize hA : a[j]'hjl = xa at ea ca
        generalize hB : b[j]'(by omega) = xb at eb cb
        by_cases hab : xa = xb
        · subst hab
          have hstep : a.take (j + 1) = b.take (j + 1) := by rw [List.take_add_one, List.take_add_one, htk, ea, eb]
          have bg : Box _ := ⟨hg⟩
          have bst : Box _ := ⟨hstep⟩
          clear hp hq hpc hqc ea eb htk hg hstep hA hB
          go_wp2
          go_quiet (fail)
          go_wp2
          go_roundw
          case rel => exact ⟨j + 1, rfl, by omega, bst.get, bg.get.os, bg.get.tape, bg.get.output, bg.get.size, bg.get.block⟩
          case measure => simp only [intOf]; omega
        · have hne : ¬ ((xa.toNat : Int) = (xb.toNat : Int)) := fun e => hab ((bv_ne xa xb).1 e)
          have hab' : a ≠ b := by
            rintro rfl
            rw [ea] at eb
            exact hab (Option.some.inj eb)
          have bg : Box _ := ⟨hg⟩
          clear hp hq hpc hqc ea eb htk hg hA hB
          go_wp2
          go_quiet (fail)
          go_wp2
          go_ret
          exact ⟨by rw [decide_eq_false hab']; rfl, bg.get.os, bg.get.tape, bg.get.output, bg.get.size, bg.get.block⟩
      · have hji : ¬ ((j : Int) < (a.length : Int)) := by omega
        obtain rfl : j = a.length := by omega
        have hab : a = b := by
          rw [List.take_length, hl, List.take_length] at htk
          exact htk
        subst hab
        clear hp hq
        go_wp2
        go_ret
        exact ⟨by simp, hg⟩
  · have hli : ¬ ((a.length : Int) = (b.length : Int)) := by omega
    go_enter Tryd.func22, Tryd.ntmps22
    clear hp hq
    go_wp2
    · go_ret
      exact ⟨by rw [decide_eq_false (fun e => hl (by rw [e]))]; rfl, grownBy_refl _ _⟩
end Go.Proofs.YthdfhnnoamlacaaDoor
/-
  What every row leans on: the listed variable, a world for the witness, arguments that stay. Conditions: none.
-/
namespace Go.Proofs.YthdfhnnoamlacaaDoor
open Go.ChangeShapes Go.WideShapes Go.ChangeAt Go.RowKit
open Kz

theorem own : ownKnob Tryd.prog.godebug = none := by kernel_rfl
theorem laidOut' : laidOutB Tryd.prog = true := by kernel_rfl
theorem star : "*" ++ "errors.errorString" = "*errors.errorString" := by decide
theorem rowErr (u : TypeId) (h : Tryd.prog.typeName? 3 u = some "*errors.errorString") : u = 143 :=
  typeName_ptr_named (nm := "errors.errorString") (by rw [star]; kernel_rfl) (by kernel_rfl) (by decide) u (by rw [star]; exact h)

/-- What the rows' lists give: the package's error. -/
abbrev errLaid : List (String × DataW Unit) := [("pub-kmsg/pub/kmsg/inner/kbin.ErrNotEnoughData", Rows.laid_pub_kmsg_pub_kmsg_inner_kbin_ErrNotEnoughData)]
theorem err_of_laid {W : World} (h : laidMet Tryd.prog errLaid W) : ErrOk W := by
  obtain ⟨a, s, hv, -⟩ := laid_sentinel (g := 0) h (by kernel_rfl) (by kernel_rfl) Tryd.underlying50 rowErr Tryd.underlying143 Tryd.underlying159 rfl rfl Tryd.underlying9 (by kernel_rfl) (by kernel_rfl)
  exact ⟨_, _, by simpa using World.var?_cell (g := 0) (by kernel_rfl) hv 0⟩

/-- A world for the witness: the settled one, the error's struct laid behind it. -/
noncomputable def laidWorld (os : Os) : World :=
  let w0 := World.holding Tryd.prog os ⟨#[.cells #[.string ⟨#[114, 101, 115, 112, 111, 110, 115, 101, 32, 100, 105, 100, 32, 110, 111, 116, 32, 99, 111, 110, 116, 97, 105, 110, 32, 101, 110, 111, 117, 103, 104, 32, 100, 97, 116, 97, 32, 116, 111, 32, 98, 101, 32, 118, 97, 108, 105, 100]⟩] 159], #[], []⟩
  { w0 with heap := w0.heap.modify 0 fun
    | .cells _ t frozen => .cells #[.iface 143 (.pointer (some ⟨(World.settled Tryd.prog os).heap.size, 0, none⟩))] t frozen
    | o => o }

section
variable {H : Type} {enc : TypeId × Value → H}
/-- Arguments stay as they were, where what lay is as it was. -/
theorem args_stay {W W' : World} (hb : Below W.heap.size W W') : ∀ (ts : List TypeId), (∀ t ∈ ts, Tryd.prog.readableRec t = true ∧ t < Tryd.prog.types.size) → ∀ (vs : List Value) (ds : List (DataW H)) (p : List MemPlace), DataW.TrodAll enc Tryd.prog W 0 (fun _ => true) true ts vs ds p →
    (∀ x ∈ p, x.block < W.heap.size) → ∀ sp : Nat → Bool, (∀ x ∈ p, sp x.block = true) → DataW.TrodAll enc Tryd.prog W' 0 sp true ts vs ds p
  | [], _, [], [], p, h, _, sp, _ => h
  | [], _, [], _ :: _, p, h, _, sp, _ => h.elim
  | [], _, _ :: _, _, p, h, _, sp, _ => h.elim
  | _ :: _, _, [], _, p, h, _, sp, _ => h.elim
  | _ :: _, _, _ :: _, [], p, h, _, sp, _ => h.elim
  | t :: ts, ht, v :: vs, d :: ds, p, h, hlt, sp, hsp => by
    obtain ⟨p1, p2, ⟨n, h1⟩, h2, rfl⟩ := h
    obtain ⟨hr, hrow⟩ := ht t (by simp)
    refine ⟨p1, p2, ⟨n, ?_⟩, args_stay hb ts (fun t h => ht t (by simp [h])) vs ds p2 h2 (fun x hx => hlt x (List.mem_append_right _ hx)) sp (fun x hx => hsp x (List.mem_append_right _ hx)), rfl⟩
    refine DataW.trod_stays (kids_book laidOut' hr) (book_sized hr) (fun h => by cases h) ⟨hrow, book_self t⟩ h1 (fun x hx => ?_) (fun x hx => hsp x (List.mem_append_left _ hx))
    have hbl := hb.block x.block (hlt x (List.mem_append_left _ hx))
    cases x with
    | cell b off => exact cell_kept hbl
    | map b => exact hbl

theorem u8_range {n : Int} (h : (Lit.int .u8 n).wf = true) : 0 ≤ n ∧ n < 256 := by
  simp [Lit.wf, IntKind.min, IntKind.max, IntKind.bits, IntKind.signed] at h
  omega
theorem cellsU8 : Tryd.prog.cellsOf 5 = 1 := by kernel_rfl
theorem byte_back {n : Int} (h : (Lit.int .u8 n).wf = true) : Value.int .u8 n = bv (UInt8.ofNat n.toNat) := by
  obtain ⟨h0, h1⟩ := u8_range h
  unfold bv
  rw [UInt8.toNat_ofNat']
  congr 1
  omega
set_option maxRecDepth 100000 in
/-- Octets that came in. -/
theorem open_octets {W : World} {base : Nat} {v : Value} {d : DataW H} {ps : List MemPlace} (hval : Value.okWide Tryd.prog W .any base 22 v) (h : DataW.Trod enc Tryd.prog W 0 (fun _ => true) true 22 v d ps) :
    ∃ q c bs, v = .slice q bs.length c ∧ BytesAt W (fun g => g < W.heap.size) (.slice q bs.length c) bs := by
  obtain ⟨a1, len, cap, rfl⟩ := okWide_slice Tryd.underlying22 hval
  obtain ⟨fuel, hf⟩ := h
  rcases open_ints Tryd.underlying22 Tryd.underlying5 cellsU8 hf with ⟨hcs, hx⟩ | ⟨a, len', cap', zs, hcs, _, hl, hm, hz, hx, hcell, hwz⟩
  · simp [Value.cells] at hcs
    obtain ⟨rfl, rfl, rfl⟩ := hcs
    exact ⟨none, 0, [], rfl, .inl ⟨rfl, rfl⟩⟩
  · simp [Value.cells] at hcs
    obtain ⟨rfl, rfl, rfl⟩ := hcs
    simp only [if_true] at hz
    have hlen : ((zs.take len).map fun n => UInt8.ofNat n.toNat).length = len := by simp; omega
    have hsp : a.spot = none ∧ a.block < W.heap.size := by
      unfold Value.okWide at hval
      rw [Tryd.underlying22] at hval
      simp only [Cell.okWide, Cell.ok, Tryd.underlying22] at hval
      obtain ⟨-, -, -, h2, row, cells, h3, -⟩ := hval
      refine ⟨h2, ?_⟩
      unfold World.shape? at h3
      split at h3
      · rename_i c e f hx; exact (Array.getElem?_eq_some_iff.1 hx).1
      · cases h3
    obtain ⟨ab, ao, spot⟩ := a
    obtain ⟨rfl, hlt⟩ := hsp
    refine ⟨some ⟨ab, ao, none⟩, cap, (zs.take len).map fun n => UInt8.ofNat n.toNat, by rw [hlen], .inr ⟨ab, ao, cap, rfl, by rw [hlen]; exact hl, by simp only [maxLen] at hm; omega, hlt, hlt, fun i b hi => ?_⟩⟩
    have hil : i < len := by rw [← hlen]; exact (List.getElem?_eq_some_iff.1 hi).1
    have hc := hcell i (by omega)
    rw [Addr.add_lit] at hc
    rw [hc]
    have e : zs.getD i 0 = zs[i]'(by omega) := by simp [List.getD, List.getElem?_eq_getElem (show i < zs.length by omega)]
    rw [e, byte_back (hwz _ (List.getElem_mem _))]
    congr 2
    simp only [List.getElem?_map, List.getElem?_take, hil, if_true, List.getElem?_eq_getElem (show i < zs.length by omega), Option.map_some, Option.some.injEq] at hi
    exact hi
/-- A law's row: what its walk gives. -/
theorem law_post {fn : Func} {s : ChangeSpec} {W W' : World} {args : Array Value} {ds gs : List (DataW H)} {before : List MemPlace} (hvars : s.vars = []) (hres : fn.resultTypes = #[4]) (hW : DataW.Whole enc Tryd.prog fn.params.toList s.vars false W args.toList ds gs before)
    (hfn : s.fn H (ds ++ gs) = { results := [.lit (.bool true)], args := ds }) (hts : ∀ t ∈ fn.params.toList, Tryd.prog.readableRec t = true ∧ t < Tryd.prog.types.size) (hb : Below W.heap.size W W') : s.post enc Tryd.prog fn false true false false W args (.bool true) W' := by
  have hW' := hW
  have hlt := hW.lt
  obtain ⟨p, q, hA, hV, rfl, -, -⟩ := hW
  have hV' : DataW.TrodVars enc Tryd.prog W (fun _ => true) [] gs q := by rw [← hvars]; exact hV
  obtain ⟨rfl, rfl⟩ := trodVars_none hV'
  refine ⟨_, _, _, [], p, [], hW', ?_, ?_, ?_, hb.frame _, fun h => by cases h⟩
  · rw [hfn, hres]
    exact trodAll_mk1 (shut_bool Tryd.underlying4 _)
  · rw [hfn]
    exact args_stay hb _ hts _ _ _ hA (fun x hx => hlt x (List.mem_append_left _ hx)) _ (fun x hx => by simpa using hlt x (List.mem_append_left _ hx))
  · rw [hfn, hvars]; rfl
end
end Go.Proofs.YthdfhnnoamlacaaDoor
