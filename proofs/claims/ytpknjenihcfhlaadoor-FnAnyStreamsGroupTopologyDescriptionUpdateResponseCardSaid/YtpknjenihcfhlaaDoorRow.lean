/-
  What every row leans on: the listed variable, a world for the witness, arguments that stay. Conditions: none.
-/
import Derived.Test.YtpknjenihcfhlaaDoorCards
import Derived.Test.YtpknjenihcfhlaaDoorTie
import Derived.Test.YtpknjenihcfhlaaDoorLaw1
import Derived.WalkKit
import Derived.ProofKit
import Derived.OpenShut
import Derived.ChangeStays
import Derived.ChangeBook
import Derived.SizedLaws
import Derived.SliceStrings
import Derived.Deep.DeepHandedRow
import Derived.Deep.DeepWitnessRowRef
import Derived.Lib.LaidIn
import Derived.Stop.LaidErr
namespace Go.Proofs.YtpknjenihcfhlaaDoor
open Go.ChangeShapes Go.WideShapes Go.ChangeAt Go.RowKit
open Kz

theorem own : ownKnob Tryd.prog.godebug = none := by kernel_rfl
theorem laidOut' : laidOutB Tryd.prog = true := by kernel_rfl
theorem star : "*" ++ "errors.errorString" = "*errors.errorString" := by decide
theorem rowErr (u : TypeId) (h : Tryd.prog.typeName? 3 u = some "*errors.errorString") : u = 145 :=
  typeName_ptr_named (nm := "errors.errorString") (by rw [star]; kernel_rfl) (by kernel_rfl) (by decide) u (by rw [star]; exact h)

/-- What the rows' lists give: the package's error. -/
abbrev errLaid : List (String × DataW Unit) := [("pub-kmsg/pub/kmsg/inner/kbin.ErrNotEnoughData", Rows.laid_pub_kmsg_pub_kmsg_inner_kbin_ErrNotEnoughData)]
theorem err_of_laid {W : World} (h : laidMet Tryd.prog errLaid W) : ErrOk W := by
  obtain ⟨a, s, hv, -⟩ := laid_sentinel (g := 1) h (by kernel_rfl) (by kernel_rfl) Tryd.underlying35 rowErr Tryd.underlying145 Tryd.underlying163 rfl rfl Tryd.underlying9 (by kernel_rfl) (by kernel_rfl)
  exact ⟨_, _, by simpa using World.var?_cell (g := 1) (by kernel_rfl) hv 0⟩

/-- A world for the witness: the settled one, the error's struct laid behind it. -/
noncomputable def laidWorld (os : Os) : World :=
  let w0 := World.holding Tryd.prog os ⟨#[.cells #[.string ⟨#[114, 101, 115, 112, 111, 110, 115, 101, 32, 100, 105, 100, 32, 110, 111, 116, 32, 99, 111, 110, 116, 97, 105, 110, 32, 101, 110, 111, 117, 103, 104, 32, 100, 97, 116, 97, 32, 116, 111, 32, 98, 101, 32, 118, 97, 108, 105, 100]⟩] 163], #[], []⟩
  { w0 with heap := w0.heap.modify 1 fun
    | .cells _ t frozen => .cells #[.iface 145 (.pointer (some ⟨(World.settled Tryd.prog os).heap.size, 0, none⟩))] t frozen
    | o => o }

section
variable {H : Type} {enc : TypeId × Value → H}
/-- Arguments stay as they were, where what lay is as it was. -/
theorem args_stay {W W' : World} (hb : Below W.heap.size W W') : ∀ (ts : List TypeId), (∀ t ∈ ts, Tryd.prog.readableRec t = true ∧ t < Tryd.prog.types.size) → ∀ (vs : List Value) (ds : List (DataW H)) (p : List MemPlace), DataW.TrodAll enc Tryd.prog W 0 (fun _ => true) true ts vs ds p →
    (∀ x ∈ p, x.block < W.heap.size) → ∀ sp : Nat → Bool, (∀ x ∈ p, sp x.block = true) → DataW.TrodAll enc Tryd.prog W' 0 sp true ts vs ds p
  | [], _, [], [], p, h, _, sp, _ => h
  | [], _, [], _ :: _, p, h, _, sp, _ => h.elim
  | [], _, _ :: _, _, p, h, _, sp, _ => h.elim
  | _ :: _, _, [], _, p, h, _, sp, _ => h.elim
  | _ :: _, _, _ :: _, [], p, h, _, sp, _ => h.elim
  | t :: ts, ht, v :: vs, d :: ds, p, h, hlt, sp, hsp => by
    obtain ⟨p1, p2, ⟨n, h1⟩, h2, rfl⟩ := h
    obtain ⟨hr, hrow⟩ := ht t (by simp)
    refine ⟨p1, p2, ⟨n, ?_⟩, args_stay hb ts (fun t h => ht t (by simp [h])) vs ds p2 h2 (fun x hx => hlt x (List.mem_append_right _ hx)) sp (fun x hx => hsp x (List.mem_append_right _ hx)), rfl⟩
    refine DataW.trod_stays (kids_book laidOut' hr) (book_sized hr) (fun h => by cases h) ⟨hrow, book_self t⟩ h1 (fun x hx => ?_) (fun x hx => hsp x (List.mem_append_left _ hx))
    have hbl := hb.block x.block (hlt x (List.mem_append_left _ hx))
    cases x with
    | cell b off => exact cell_kept hbl
    | map b => exact hbl

theorem u8_range {n : Int} (h : (Lit.int .u8 n).wf = true) : 0 ≤ n ∧ n < 256 := by
  simp [Lit.wf, IntKind.min, IntKind.max, IntKind.bits, IntKind.signed] at h
  omega
theorem cellsU8 : Tryd.prog.cellsOf 5 = 1 := by kernel_rfl
theorem byte_back {n : Int} (h : (Lit.int .u8 n).wf = true) : Value.int .u8 n = bv (UInt8.ofNat n.toNat) := by
  obtain ⟨h0, h1⟩ := u8_range h
  unfold bv
  rw [UInt8.toNat_ofNat']
  congr 1
  omega
set_option maxRecDepth 100000 in
/-- Octets that came in. -/
theorem open_octets {W : World} {base : Nat} {v : Value} {d : DataW H} {ps : List MemPlace} (hval : Value.okWide Tryd.prog W .any base 22 v) (h : DataW.Trod enc Tryd.prog W 0 (fun _ => true) true 22 v d ps) :
    ∃ q c bs, v = .slice q bs.length c ∧ BytesAt W (fun g => g < W.heap.size) (.slice q bs.length c) bs := by
  obtain ⟨a1, len, cap, rfl⟩ := okWide_slice Tryd.underlying22 hval
  obtain ⟨fuel, hf⟩ := h
  rcases open_ints Tryd.underlying22 Tryd.underlying5 cellsU8 hf with ⟨hcs, hx⟩ | ⟨a, len', cap', zs, hcs, _, hl, hm, hz, hx, hcell, hwz⟩
  · simp [Value.cells] at hcs
    obtain ⟨rfl, rfl, rfl⟩ := hcs
    exact ⟨none, 0, [], rfl, .inl ⟨rfl, rfl⟩⟩
  · simp [Value.cells] at hcs
    obtain ⟨rfl, rfl, rfl⟩ := hcs
    simp only [if_true] at hz
    have hlen : ((zs.take len).map fun n => UInt8.ofNat n.toNat).length = len := by simp; omega
    have hsp : a.spot = none ∧ a.block < W.heap.size := by
      unfold Value.okWide at hval
      rw [Tryd.underlying22] at hval
      simp only [Cell.okWide, Cell.ok, Tryd.underlying22] at hval
      obtain ⟨-, -, -, h2, row, cells, h3, -⟩ := hval
      refine ⟨h2, ?_⟩
      unfold World.shape? at h3
      split at h3
      · rename_i c e f hx; exact (Array.getElem?_eq_some_iff.1 hx).1
      · cases h3
    obtain ⟨ab, ao, spot⟩ := a
    obtain ⟨rfl, hlt⟩ := hsp
    refine ⟨some ⟨ab, ao, none⟩, cap, (zs.take len).map fun n => UInt8.ofNat n.toNat, by rw [hlen], .inr ⟨ab, ao, cap, rfl, by rw [hlen]; exact hl, by simp only [maxLen] at hm; omega, hlt, hlt, fun i b hi => ?_⟩⟩
    have hil : i < len := by rw [← hlen]; exact (List.getElem?_eq_some_iff.1 hi).1
    have hc := hcell i (by omega)
    rw [Addr.add_lit] at hc
    rw [hc]
    have e : zs.getD i 0 = zs[i]'(by omega) := by simp [List.getD, List.getElem?_eq_getElem (show i < zs.length by omega)]
    rw [e, byte_back (hwz _ (List.getElem_mem _))]
    congr 2
    simp only [List.getElem?_map, List.getElem?_take, hil, if_true, List.getElem?_eq_getElem (show i < zs.length by omega), Option.map_some, Option.some.injEq] at hi
    exact hi
/-- A law's row: what its walk gives. -/
theorem law_post {fn : Func} {s : ChangeSpec} {W W' : World} {args : Array Value} {ds gs : List (DataW H)} {before : List MemPlace} (hvars : s.vars = []) (hres : fn.resultTypes = #[4]) (hW : DataW.Whole enc Tryd.prog fn.params.toList s.vars false W args.toList ds gs before)
    (hfn : s.fn H (ds ++ gs) = { results := [.lit (.bool true)], args := ds }) (hts : ∀ t ∈ fn.params.toList, Tryd.prog.readableRec t = true ∧ t < Tryd.prog.types.size) (hb : Below W.heap.size W W') : s.post enc Tryd.prog fn false true false false W args (.bool true) W' := by
  have hW' := hW
  have hlt := hW.lt
  obtain ⟨p, q, hA, hV, rfl, -, -⟩ := hW
  have hV' : DataW.TrodVars enc Tryd.prog W (fun _ => true) [] gs q := by rw [← hvars]; exact hV
  obtain ⟨rfl, rfl⟩ := trodVars_none hV'
  refine ⟨_, _, _, [], p, [], hW', ?_, ?_, ?_, hb.frame _, fun h => by cases h⟩
  · rw [hfn, hres]
    exact trodAll_mk1 (shut_bool Tryd.underlying4 _)
  · rw [hfn]
    exact args_stay hb _ hts _ _ _ hA (fun x hx => hlt x (List.mem_append_left _ hx)) _ (fun x hx => by simpa using hlt x (List.mem_append_left _ hx))
  · rw [hfn, hvars]; rfl
end
end Go.Proofs.YtpknjenihcfhlaaDoor
