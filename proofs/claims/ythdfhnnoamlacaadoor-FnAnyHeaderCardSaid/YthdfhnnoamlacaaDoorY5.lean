/-
  Tags that are written; messages that are written; the thin package; rows. Conditions: none.
-/
import Derived.Test.YthdfhnnoamlacaaDoorY3
import Derived.Test.YthdfhnnoamlacaaDoorY4
import Derived.Maps.Range
import Derived.Maps.RangeWalk
import Derived.Shelf.GgSortFunc.Whole
import Derived.Shelf.Lay
import Derived.Deep.QuietTactic
import Derived.Sort.OwnSorted
import Derived.OwnWalk
import Derived.Shelf.GgSortFunc.Tiny
import Derived.Maps.AppendAt
import Derived.WideLaws
import Derived.Test.YthdfhnnoamlacaaDoorCards
import Derived.Test.YthdfhnnoamlacaaDoorTie
import Derived.WalkKit
import Derived.ProofKit
import Derived.OpenShut
import Derived.ChangeStays
import Derived.ChangeBook
import Derived.SizedLaws
import Derived.SliceStrings
import Derived.Deep.DeepHandedRow
import Derived.Deep.DeepWitnessRowRef
import Derived.Lib.LaidIn
import Derived.Stop.LaidErr
/-
  Tags, written: the closures. Conditions: none.
-/
namespace Go.Proofs
open Go.Shelf
end Go.Proofs
namespace Go.Proofs.YthdfhnnoamlacaaDoor
open Go.RowKit Go.Lib Go.Sort
open Kz

/-- A variable that holds octets of one's own. -/
def DstAt (w : World) (base db : Nat) (bs : List UInt8) : Prop :=
  base ≤ db ∧ ∃ v, w.heap[db]? = some (.cells #[v] 22 (0, 0)) ∧ OwnB w base v bs
theorem own_ne {w : World} {base db : Nat} {v x : Value} {bs : List UInt8} (h : w.heap[db]? = some (.cells #[x] 22 (0, 0))) (ho : OwnB w base v bs) : v.ownBlock ≠ some db := by
  obtain ⟨-, h1⟩ := ho
  rcases h1 with ⟨rfl, -⟩ | ⟨g, cap, cur, rfl, h2, h3, -⟩
  · simp [Value.ownBlock]
  · simp only [Value.ownBlock, ne_eq, Option.some.injEq]
    rintro rfl
    rw [h] at h3
    simp only [Option.some.injEq, Obj.cells.injEq] at h3
    exact absurd h3.2.1 (by decide)
theorem DstAt.lt {w : World} {base db : Nat} {bs : List UInt8} (h : DstAt w base db bs) : db < w.heap.size := by
  obtain ⟨-, v, hv, -⟩ := h
  exact (Array.getElem?_eq_some_iff.1 hv).1
theorem own_slice {w : World} {base : Nat} {v : Value} {bs : List UInt8} (ho : OwnB w base v bs) : ∃ p n m, v = .slice p n m := by
  rcases ho.2 with ⟨rfl, -⟩ | ⟨g, cap, cur, rfl, -⟩
  · exact ⟨_, _, _, rfl⟩
  · exact ⟨_, _, _, rfl⟩
theorem DstAt.cells {w : World} {base db : Nat} {bs : List UInt8} (h : DstAt w base db bs) : ∃ v, w.cell? ⟨db, 0, none⟩ = some v ∧ w.frozen? ⟨db, 0, none⟩ = false ∧ w.heap[db]? = some (.cells #[v] 22 (0, 0)) ∧ OwnB w base v bs ∧ v.ownBlock ≠ some db := by
  obtain ⟨-, v, hv, ho⟩ := h
  exact ⟨v, by rw [cell_of_row w db 0 _ _ _ hv]; rfl, by simp [World.frozen?, hv], hv, ho, own_ne hv ho⟩

end Go.Proofs.YthdfhnnoamlacaaDoor
/-
  Tags, written: keys sorted. Conditions: none.
-/
namespace Go.Proofs.YthdfhnnoamlacaaDoor
open Go.RowKit Go.Lib Go.Sort
open Kz

end Go.Proofs.YthdfhnnoamlacaaDoor
/-
  Tags, written: each of them, by rising numbers. Conditions: none.
-/
namespace Go.Proofs.YthdfhnnoamlacaaDoor
open Go.RowKit Go.Lib Go.Sort
open Kz

theorem strict_unique : ∀ a b : List Int, a.Pairwise (· < ·) → b.Pairwise (· < ·) → (∀ z, z ∈ a ↔ z ∈ b) → a = b
  | [], [], _, _, _ => rfl
  | [], y :: b, _, _, h => absurd ((h y).2 (by simp)) (by simp)
  | x :: a, [], _, _, h => absurd ((h x).1 (by simp)) (by simp)
  | x :: a, y :: b, ha, hb, h => by
    obtain ⟨ha1, ha2⟩ := List.pairwise_cons.1 ha
    obtain ⟨hb1, hb2⟩ := List.pairwise_cons.1 hb
    have hxy : x = y := by
      have h1 := (h x).1 (by simp)
      have h2 := (h y).2 (by simp)
      simp only [List.mem_cons] at h1 h2
      rcases h1 with h1 | h1
      · exact h1
      · rcases h2 with h2 | h2
        · exact h2.symm
        · have := hb1 x h1; have := ha1 y h2; omega
    subst hxy
    rw [strict_unique a b ha2 hb2 fun z => ?_]
    have hz := h z
    simp only [List.mem_cons] at hz
    constructor
    · intro hm
      have := ha1 z hm
      exact (hz.1 (.inr hm)).resolve_left (by omega)
    · intro hm
      have := hb1 z hm
      exact (hz.2 (.inr hm)).resolve_left (by omega)

theorem has_tags (l : List (Nat × Value)) (z : Int) : Maps.has (DataW.map (tagDs l)) (Lit.int .u32 z) = (l.map fun x => (x.1 : Int)).contains z := by
  rw [Maps.has_eq]
  induction l with
  | nil => rfl
  | cons x r ih =>
    simp only [tagDs, List.map_cons, List.any_cons, List.contains_cons] at ih ⊢
    rw [ih]
    congr 1
    simp [Lit.sameKey]
    by_cases h : (x.1 : Int) = z
    · simp [h]
    · simp [h]; exact fun e => h e.symm
theorem same_u32 (a b : Int) : (Lit.int .u32 a).sameKey (Lit.int .u32 b) = decide (a = b) := by
  simp [Lit.sameKey]
theorem tags_len {w : World} {K : Nat → Prop} : ∀ (l : List (Nat × Value)) (u : List (Nat × List UInt8)), TagsAt w K l u → u.length = l.length ∧ (u.map fun x => (x.1 : Int)) = l.map fun x => (x.1 : Int)
  | [], [], _ => ⟨rfl, rfl⟩
  | [], _ :: _, h => h.elim
  | _ :: _, [], h => h.elim
  | (k, v) :: l, (j, b) :: u, h => by
    obtain ⟨rfl, -, h3⟩ := h
    obtain ⟨e1, e2⟩ := tags_len l u h3
    exact ⟨by simp [e1], by simp [e2]⟩
/-- What has been collected. -/
structure Coll (l : List (Nat × Value)) (left : Lit → Bool) (ks : List Int) : Prop where
  nodup : ks.Nodup
  mem : ∀ z ∈ ks, z ∈ l.map fun x => (x.1 : Int)
  left : ∀ z : Int, left (Lit.int .u32 z) = ((l.map fun x => (x.1 : Int)).contains z && !ks.contains z)
theorem Coll.start (l : List (Nat × Value)) : Coll l (Maps.has (DataW.map (tagDs l))) [] := ⟨List.nodup_nil, fun z h => absurd h (by simp), fun z => by rw [has_tags]; simp⟩
theorem Coll.step {l : List (Nat × Value)} {left : Lit → Bool} {ks : List Int} (h : Coll l left ks) {x : Int} (hx : left (Lit.int .u32 x) = true) : Coll l (fun z => left z && !z.sameKey (Lit.int .u32 x)) (ks ++ [x]) := by
  have hl := h.left x
  rw [hx] at hl
  have hl' := hl.symm
  simp only [Bool.and_eq_true, Bool.not_eq_true', List.contains_eq_mem, decide_eq_true_eq, decide_eq_false_iff_not] at hl'
  refine ⟨?_, ?_, fun z => ?_⟩
  · rw [List.nodup_append]
    exact ⟨h.nodup, by simp, fun a ha b hb => by simp only [List.mem_singleton] at hb; subst hb; rintro rfl; exact hl'.2 ha⟩
  · intro z hz
    simp only [List.mem_append, List.mem_singleton] at hz
    rcases hz with hz | rfl
    · exact h.mem z hz
    · exact hl'.1
  · rw [h.left z, same_u32]
    by_cases e : z = x
    · subst e; simp
    · simp [e, List.contains_eq_mem]
theorem Coll.done {l : List (Nat × Value)} {left : Lit → Bool} {ks ts : List Int} (h : Coll l left ks) (hl : Rising l) (h0 : ∀ kl, left kl = false) (hp : ts.Perm ks) (hs : ts.Pairwise (fun x y => x ≤ y)) : ts = l.map fun x => (x.1 : Int) := by
  refine strict_unique _ _ ?_ ?_ fun z => ?_
  · have hn : ts.Nodup := hp.nodup_iff.2 h.nodup
    rw [List.Nodup] at hn
    exact (hs.and hn).imp fun ⟨a, b⟩ => by omega
  · rw [List.pairwise_map]
    exact hl.imp fun h => by omega
  · rw [hp.mem_iff]
    constructor
    · exact h.mem z
    · intro hz
      have := h.left z
      rw [h0] at this
      have hz' : (l.map fun x => (x.1 : Int)).contains z = true := by simpa [List.contains_eq_mem] using hz
      rw [hz'] at this
      simpa [List.contains_eq_mem] using this.symm

end Go.Proofs.YthdfhnnoamlacaaDoor
/-
  Tags, written: AppendEach, Len. Conditions: none.
-/
namespace Go.Proofs.YthdfhnnoamlacaaDoor
open Go.RowKit Go.Lib Go.Sort
open Kz

end Go.Proofs.YthdfhnnoamlacaaDoor
/-
  Code that writes: lists, tags, the ends of parts. Conditions: none.
-/
namespace Go.Proofs.YthdfhnnoamlacaaDoor
open Go.RowKit (Below)
open Kz

section
variable {tags : Rel (List (Nat × List UInt8))} {E : WE} {v : Int} {flex ht : Bool}

/-- A list's length, as it is handed on. -/
def ListA (ptr : Bool) (_ : World) (_ : Nat → Prop) (u : Value) (t : T) : Prop := ∃ p m, u = .slice p t.l.length m ∧ t.l.length ≤ most ∧ (ptr = true → (p = none ↔ t.null = true))
def WritesLen (f : Nat) (wrt : Nat → List UInt8) : Prop :=
  hasBody Tryd.prog f = true ∧ ∀ (base : Nat) (bs : List UInt8) (w : World) (v : Value) (n : Nat), OwnB w base v bs → base ≤ w.heap.size → n ≤ most → bs.length + (wrt n).length ≤ lim2 →
    Calls Tryd.prog f #[v, .int .i64 (n : Int)] w fun e w' => ∃ v', e = .returned v' ∧ OwnB w' base v' (bs ++ wrt n) ∧ Bel base w w'

/-- 'dst = f(dst, len(x))'. -/
theorem Av.len {ptr : Bool} {id f d t1 t2 t3 t4 TT e : Nat} {tys : Array TypeId} {ty1 ty2 ty3 ty4 ty5 : TypeId} {p1 p2 p3 p4 p5 : String} {e1 e2 e3 e4 e5 : Array Edge} {wrt : Nat → List UInt8} (hf : WritesLen f wrt) (hT : sliceOf Tryd.prog TT = some e) (hn : [t1, t2, t3, t4, E.ds].all (· < E.N) = true)
    (hd : decide (t1 ≠ t2 ∧ t1 ≠ d ∧ t1 ≠ t3) = true) :
    Av E v flex d (fun t : T => wrt t.l.length) (ListA ptr) (Code.region id #[⟨some t1, .move (.tmp E.ds), ty1, p1, e1, none⟩, ⟨some t2, .move (.tmp d), ty2, p2, e2, none⟩, ⟨some t3, .call { callee := .builtin .len, args := #[.tmp t2], argTypes := #[TT] }, ty3, p3, e3, none⟩,
      ⟨some t4, .call { callee := .value (.func f), args := #[.tmp t1, .tmp t3], argTypes := tys }, ty4, p4, e4, none⟩, ⟨some E.ds, .assign (.tmp t4), ty5, p5, e5, none⟩] false) := by
  intro base K bs a w x hp hr hl
  have hsz := hp.fr.size
  obtain ⟨p, m, hu, hm, -⟩ := hr
  simp only [List.all_cons, List.all_nil, Bool.and_true, Bool.and_eq_true, decide_eq_true_eq] at hn hd
  obtain ⟨n1, n2, n3, n4, n5⟩ := hn
  obtain ⟨d12, d1d, d13⟩ := hd
  obtain ⟨fn, hfn, hb, hnn⟩ := hasBody_ok hf.1
  refine wp_region_lit (st_move (st_move (st_val (v := .int .i64 (x.l.length : Int)) (w' := w) (exec_len_slice (p := p) (c := m) (sliceOf_ok hT) ?_) (st_call2 hfn hb hnn ?_))))
  · rw [eval_tmp, sl_put_self _ _ _ (by rw [put_size]; omega), eval_tmp, sl_put_other _ _ _ _ d1d, hu]
  · rw [eval_tmp, sl_put_other _ _ _ _ (fun e => d13 e.symm), sl_put_other _ _ _ _ (fun e => d12 e.symm), sl_put_self _ _ _ (by omega), eval_tmp, eval_tmp, sl_put_self _ _ _ (by simp only [put_size]; omega)]
    refine Calls.mono (hf.2 base bs w _ x.l.length hp.own hp.le hm hl) ?_
    rintro e w' ⟨v', rfl, ho, hbel⟩
    refine ⟨v', rfl, st_assign (wpList_nil ⟨(((((Upd.refl a _).put t1 _ (by simp [writes])).put t2 _ (by simp [writes])).put t3 _ (by simp [writes])).put t4 _ (by simp [writes])).put E.ds _ (by simp [writes]), hbel, ?_⟩)⟩
    rw [sl_put_self _ _ _ (by simp only [put_size]; omega), eval_tmp, sl_put_self _ _ _ (by simp only [put_size]; omega)]
    exact ho

/-- An element's octets, and how it lies. -/
abbrev elW (v : Int) (flex : Bool) (of : Nat) (sub : List F) : T → List UInt8 := valW of (Kz.part v flex sub) false flex
abbrev elA (tags : Rel (List (Nat × List UInt8))) (v : Int) (flex ht : Bool) (of : Nat) (sub : List F) : Rel T := fun w K c x => elR tags v flex ht of sub w K c x ∧ Fit x
theorem elA_stable (htg : flex = true → ht = true) (hT : Stable 1 tags) (of : Nat) (sub : List F) : Stable (valCells of (cellsP ht sub)) (elA tags v flex ht of sub) := by
  intro w w' K K' c c' x hk hs hK hc h
  exact ⟨elR_stable htg hT of sub w w' K K' c c' x hk hs hK hc h.1, h.2⟩

/-- An element that is a part. -/
theorem ElA.struct {id da di s t1 t2 t3 TT e sz : Nat} {ty1 ty2 ty3 ty4 : TypeId} {p1 p2 p3 p4 : String} {e1 e2 e3 e4 : Array Edge} {sub : List F} {c : Code} (hT : sliceOf Tryd.prog TT = some e) (hs : sizeIs Tryd.prog e sz = true) (hn : [t1, t2, t3, s].all (· < E.N) = true) (hd : decide (t1 ≠ t2 ∧ t1 ≠ di) = true)
    (hcl : [t1, t2, t3, s].all (fun t => !(E.ds :: E.slots).contains t) = true) (h : ApP tags E v flex ht s 0 sub c) :
    ElA E v flex da di sz (elW v flex 10 sub) (elA tags v flex ht 10 sub) ((Code.region id #[⟨some t1, .move (.tmp da), ty1, p1, e1, none⟩, ⟨some t2, .move (.tmp di), ty2, p2, e2, none⟩, ⟨some t3, .indexAddr TT (.tmp t1) (.tmp t2), ty3, p3, e3, none⟩, ⟨some s, .assign (.tmp t3), ty4, p4, e4, none⟩] false).seq c) := by
  intro base K bs a w g o n m j x hp hda hdi hj hg hr hl
  obtain ⟨i', hi', hs'⟩ := sizeIs_ok hs
  have hsz := hp.fr.size
  simp only [List.all_cons, List.all_nil, Bool.and_true, Bool.and_eq_true, decide_eq_true_eq] at hn hd
  have hc : ∀ t ∈ E.ds :: E.slots, t ∉ [t1, t2, t3, s] := by
    intro t ht hx
    have := List.all_eq_true.1 hcl t hx
    simp only [Bool.not_eq_true', List.contains_eq_mem, decide_eq_false_iff_not] at this
    exact this ht
  refine wp_seq (reg_indexK (indexOffK_of .i64 (sliceOf_ok hT) hi' hs') (by omega) (by omega) (by omega) (by omega) hd.1 hd.2 hda hdi hj fun a1 hu hs1 => ?_)
  have hp1 : PreA E v flex base K bs a1 w := hp.next hu (fun t ht => hc t (List.mem_cons_of_mem _ ht)) (Bel.refl _ _) (by rw [hu.same _ (hc _ (by simp))]; exact hp.own)
  refine wp_mono (h base K bs a1 w g (o + j * sz) x hp1 hs1 hg ⟨by simpa [valRep] using hr.1, hr.2⟩ hl) ?_
  intro e a2 w2 hq
  exact PostA.after hu (Bel.refl _ _) (fun t ht => by simp only [writes, List.mem_append]; left; simpa [writes] using ht) (fun t ht => by simp only [writes, List.mem_append]; exact .inr ht) e a2 w2 hq
/-- A list's field: its length, its elements. -/
theorem FA.listG (htg : flex = true → ht = true) (hT : Stable 1 tags) {ptr : Bool} {id ib i1 i2 i3 i4 da di tM0 tI tL tC tM tN sz of : Nat} {frm to null tag dflt : Int} {sub : List F} {TA TT T' T2 T2' ty1 ty2 ty3 ty4 ty5 ty6 ty7 ty8 : TypeId} {p1 p2 p3 p4 p5 p6 p7 p8 : String} {e1 e2 e3 e4 e5 e6 e7 e8 : Array Edge} {body cL : Code} {lw : T → List UInt8} {e : Nat}
    (hptr : decide (0 ≤ null) = ptr) (hsz : sz = valCells of (cellsP ht sub)) (hlen : Av E v flex da lw (ListA ptr) cL) (hE : ElA E v flex da di sz (elW v flex of sub) (elA tags v flex ht of sub) body) (hTA : sliceOf Tryd.prog TA = some e)
    (hlw : ∀ t : T, t.l.length ≤ most → (t.null = true → ptr = true ∧ t.l = []) → wr v flex (.mk 11 frm to null tag dflt of sub) t = lw t ++ t.l.flatMap (elW v flex of sub))
    (hb : clear (da :: tI :: tL :: E.slots) body = true) (hn : [tC, tM, tN, di, tI, tM0, tL].all (· < E.N) = true) (hcl : [tC, tM, tN, di].all (fun t => !(da :: E.ds :: tI :: tL :: E.slots).contains t) = true) (htI : (da :: E.ds :: tL :: E.slots).contains tI = false)
    (hcl2 : [tM0, tL].all (fun t => !(da :: E.ds :: E.slots).contains t) = true) (hclL : clear (da :: E.slots) cL = true) :
    FA tags E v flex ht (.mk 11 frm to null tag dflt of sub) da (cL.seq ((Code.region i4 #[⟨some tM0, .move (.tmp da), ty6, p6, e6, none⟩, ⟨some tL, .call { callee := .builtin .len, args := #[.tmp tM0], argTypes := #[TA] }, ty7, p7, e7, none⟩, ⟨some tI, .move (.const (.int .i64 0)), ty8, p8, e8, none⟩] false).seq
      (loopW id ib i1 i2 i3 di tI tL tC tM tN TT T' T2 T2' ty1 ty2 ty3 ty4 ty5 p1 p2 p3 p4 p5 e1 e2 e3 e4 e5 body))) := by
  subst hptr hsz
  intro base K bs a w x hp hr hl
  obtain ⟨hr, hfit⟩ := hr
  have hx : ∃ p m, sl a da = .slice p x.l.length m ∧ (x.null = true → decide (0 ≤ null) = true ∧ x.l = []) ∧ (decide (0 ≤ null) = true → (p = none ↔ x.null = true)) ∧
      (x.l = [] ∨ ∃ g o, p = some ⟨g, o, none⟩ ∧ K g ∧ ∀ i y, x.l[i]? = some y → elA tags v flex ht of sub w K (fun j => w.cell? ⟨g, o + i * valCells of (cellsP ht sub) + j, none⟩) y) := by
    simp only [repF, fieldRep, if_true, listRep] at hr
    split at hr
    · rename_i hq
      simp only [Option.some.injEq] at hr
      refine ⟨none, 0, by rw [hr.1, hr.2]; rfl, fun _ => ⟨hq.1, hr.2⟩, fun _ => ⟨fun _ => hq.2, fun _ => rfl⟩, .inl hr.2⟩
    · rename_i hq
      simp only [Option.some.injEq] at hr
      obtain ⟨h1, h2⟩ := hr
      have hnn : x.null = false := by
        by_cases h0 : x.null = true
        · by_cases hz : decide (0 ≤ null) = true
          · exact absurd ⟨hz, h0⟩ hq
          · exact h1 (by simpa using hz)
        · simpa using h0
      rcases h2 with ⟨a1, a2, a3⟩ | ⟨g, o, m, a1, a2, a3, a4⟩
      · exact ⟨none, 0, by rw [a2, a3]; rfl, fun h => absurd (hnn.symm.trans h) (by simp), fun h => absurd (a1.symm.trans h) (by simp), .inl a3⟩
      · exact ⟨_, m, a1, fun h => absurd (hnn.symm.trans h) (by simp), fun _ => ⟨fun h => absurd h (by simp), fun h => absurd (hnn.symm.trans h) (by simp)⟩, .inr ⟨g, o, rfl, a2, fun i y hy => ⟨a4 i y hy, hfit.fa y (List.mem_of_getElem? hy)⟩⟩⟩
  obtain ⟨p, m, hda, hnul, hpn, hel⟩ := hx
  have ew := hlw x hfit.fl hnul
  rw [ew, List.length_append] at hl
  simp only [List.all_cons, List.all_nil, Bool.and_true, Bool.and_eq_true, decide_eq_true_eq] at hn
  obtain ⟨n1, n2, n3, n4, n5, n6, n7⟩ := hn
  have hclL' := clear_iff hclL
  have hc2 : ∀ t ∈ da :: E.ds :: E.slots, t ∉ [tM0, tL] := by
    intro t ht hx
    have := List.all_eq_true.1 hcl2 t hx
    simp only [Bool.not_eq_true', List.contains_eq_mem, decide_eq_false_iff_not] at this
    exact this ht
  have htI' : tI ∉ da :: E.ds :: tL :: E.slots := by simpa [List.contains_eq_mem] using htI
  refine wp_seq (wp_mono (hlen base K bs a w x hp ⟨p, m, hda, hfit.fl, hpn⟩ (by omega)) ?_)
  intro e1' a1 w1 hq
  cases e1' with
  | normal =>
    obtain ⟨hu1, hb1, ho1⟩ := hq
    have hp1 : PreA E v flex base K (bs ++ lw x) a1 w1 := hp.next hu1 (fun t ht => hclL' t (List.mem_cons_of_mem _ ht)) hb1 ho1
    have hda1 : sl a1 da = .slice p x.l.length m := (hu1.same _ (hclL' _ (by simp))).trans hda
    have hN1 := hp1.fr.size
    have hM0 : tM0 ≠ da := fun e => hc2 da (by simp) (by simp [e])
    refine wp_seq (wp_region_lit (st_move (st_val (v := .int .i64 (x.l.length : Int)) (w' := w1) (exec_len_slice (p := p) (c := m) (sliceOf_ok hTA) ?_) (st_move (wpList_nil ?_)))))
    · rw [eval_tmp, sl_put_self _ _ _ (by omega), eval_tmp, hda1]
    generalize hA : (((a1.put (some tM0) (a1.eval (.tmp da))).put (some tL) (.int .i64 (x.l.length : Int))).put (some tI) (((a1.put (some tM0) (a1.eval (.tmp da))).put (some tL) (.int .i64 (x.l.length : Int))).eval (.const (.int .i64 0)))) = a2
    have hu2 : Upd a1 a2 [tM0, tL, tI] := by subst hA; exact ((((Upd.refl a1 _).put tM0 _ (by simp)).put tL _ (by simp)).put tI _ (by simp))
    have hI2 : sl a2 tI = .int .i64 0 := by subst hA; rw [sl_put_self _ _ _ (by simp only [put_size]; omega), eval_const]
    have hL2 : sl a2 tL = .int .i64 (x.l.length : Int) := by subst hA; rw [sl_put_other _ _ _ _ (fun e => htI' (by rw [e]; simp)), sl_put_self _ _ _ (by simp only [put_size]; omega)]
    have hk2 : ∀ t ∈ da :: E.ds :: E.slots, t ∉ [tM0, tL, tI] := by
      intro t ht hx
      simp only [List.mem_cons, List.not_mem_nil, or_false] at hx
      rcases hx with rfl | rfl | rfl
      · exact hc2 _ ht (by simp)
      · exact hc2 _ ht (by simp)
      · exact htI' (by simp only [List.mem_cons] at ht ⊢; rcases ht with h | h | h <;> simp [h])
    have hp2 : PreA E v flex base K (bs ++ lw x) a2 w1 := hp1.next hu2 (fun t ht => hk2 t (by simp [ht])) (Bel.refl _ _) (by rw [hu2.same _ (hk2 _ (by simp))]; exact ho1)
    have hl2 : (bs ++ lw x).length + (x.l.flatMap (elW v flex of sub)).length ≤ lim2 := by rw [List.length_append]; omega
    refine wp_mono (loop_writes hE (elA_stable htg hT of sub) hb (by simp [n1, n2, n3, n4, n5]) hcl htI hp2 ((hu2.same _ (hk2 _ (by simp))).trans hda1) hI2 hL2 rfl (by have := hfit.fl; simp only [most] at this; omega) ?_ hl2) ?_
    · rcases hel with h | ⟨g, o, h1, h2, h3⟩
      · exact .inl h
      · exact .inr ⟨g, o, h1, hp.kb g h2, fun i y hy => elA_stable htg hT of sub w w1 K K _ _ y (fun b hb' _ => hb1.block b (hp.kb b hb')) hb1.size (fun b hb' => hb') (fun j _ => below_cell hb1 (hp.kb g h2)) (h3 i y hy)⟩
    · intro e2' a3 w3 hq3
      rw [ew, ← List.append_assoc]
      refine PostA.after (W1 := writes cL ++ [tM0, tL, tI]) ((hu1.mono fun t ht => List.mem_append_left _ ht).trans (hu2.mono fun t ht => List.mem_append_right _ ht)) hb1 (fun t ht => ?_) (fun t ht => ?_) e2' a3 w3 hq3
      · simp only [writes, List.mem_append] at ht ⊢
        rcases ht with ht | ht
        · exact .inl ht
        · right; left; simpa using ht
      · rw [mem_writes_seq, mem_writes_seq]; exact .inr (.inr ht)
  | _ => exact hq.elim
end
end Go.Proofs.YthdfhnnoamlacaaDoor
/-
  Code that writes: the tags behind the fields, parts, whole functions. Conditions: none.
-/
namespace Go.Proofs.YthdfhnnoamlacaaDoor
open Go.RowKit (Below)
open Kz

section
variable {tags : Rel (List (Nat × List UInt8))} {E : WE} {v : Int} {flex ht : Bool}

end
end Go.Proofs.YthdfhnnoamlacaaDoor
/-
  Code that writes: parts, whole functions. Conditions: none.
-/
namespace Go.Proofs.YthdfhnnoamlacaaDoor
open Go.RowKit (Below)
open Kz

section
variable {E : WE} {v : Int} {flex ht : Bool}

theorem tags_keys {w : World} {K : Nat → Prop} : ∀ (l : List (Nat × Value)) (u : List (Nat × List UInt8)), TagsAt w K l u → Rising l → Sorted u
  | [], [], _, _ => trivial
  | [], _ :: _, h, _ => h.elim
  | _ :: _, [], h, _ => h.elim
  | (k, v) :: l, (j, b) :: u, h, hr => by
    obtain ⟨rfl, -, h3⟩ := h
    obtain ⟨h1, h2⟩ := List.pairwise_cons.1 hr
    refine ⟨fun y hy => ?_, tags_keys l u h3 h2⟩
    have e := (tags_len l u h3).2
    have : (y.1 : Int) ∈ u.map fun x => (x.1 : Int) := List.mem_map.2 ⟨y, hy, rfl⟩
    rw [e] at this
    obtain ⟨z, hz, hzy⟩ := List.mem_map.1 this
    have := h1 z hz
    have e2 : z.1 = y.1 := by omega
    show k < y.1
    rw [← e2]; exact this
theorem tagRep_sorted {w : World} {K : Nat → Prop} {c : Cells} {u : List (Nat × List UInt8)} (h : TagRep w K c u) : Sorted u := by
  obtain ⟨r, -, h⟩ := h
  cases r with
  | none => have : u = [] := h; subst this; exact trivial
  | some b => obtain ⟨-, l, n, -, h1, -, -, h2⟩ := h; exact tags_keys l u h2 h1
theorem noTag_known : ∀ (fs : List F), noTag fs = true → known fs = 0
  | [], _ => rfl
  | f :: fs, h => by
    simp only [noTag, List.all_cons, Bool.and_eq_true, decide_eq_true_eq] at h
    have : ¬ (0 ≤ f.tag) := by omega
    simp only [known, if_neg this, noTag_known fs h.2, Nat.max_self]
theorem unknown_whole {u : List (Nat × List UInt8)} (hs : Sorted u) (hl : u.length ≤ most) (hx : ∀ x ∈ u, x.2.length ≤ most) : (unknown 0 u).map whole2 = u := by
  rw [unknown_sorted 0 u hs hl (fun _ _ => Nat.zero_le _)]
  have : ∀ x ∈ u, whole2 x = x := fun x h => by simp only [whole2, take_fit (hx x h)]
  rw [List.map_congr_left this]; simp
/-- A part without known tags. -/
theorem ApTl.part {sp off : Nat} {fs : List F} {c : Code} (hno : noTag fs = true) (h : ApTl TagRep E v flex ht sp off fs c) : ApP TagRep E v flex ht sp off fs c := by
  refine Ap.conv h (fun t => (t.l, t.u)) (fun w K cc t hx => ?_) (fun w K cc t hx => ?_)
  · obtain ⟨hr, hf⟩ := hx
    exact ⟨⟨hr.1, hf.fa⟩, fun h => (hr.2 h).1, hf.fu, hf.fx⟩
  · obtain ⟨hr, hf⟩ := hx
    have hk := noTag_known fs hno
    have e : Kz.part v flex fs t = asmW v flex fs (wrs v flex fs) (usuals fs) t := rfl
    rw [e]
    unfold asmW
    cases flex with
    | false => simp
    | true =>
      rw [knownW_none _ _ _ _ hk, hk, unknown_whole (tagRep_sorted (hr.2 rfl).1) hf.fu (fun x hx => (hf.fx x hx).2)]
      simp

/-- Behind the whole of a function that writes. -/
def PostW (res : Nat) (base : Nat) (bs : List UInt8) (w : World) : Exit → Act → World → Prop
  | .ret, a', w' => a'.defers = [] ∧ Bel base w w' ∧ OwnB w' base (sl a' res) bs
  | _, _, _ => False
/-- Code that writes and returns. -/
def ApE {α : Type} (E : WE) (v : Int) (flex : Bool) (res sp off : Nat) (wrt : α → List UInt8) (R : Rel α) (c : Code) : Prop :=
  ∀ (base : Nat) (K : Nat → Prop) (bs : List UInt8) (a : Act) (w : World) (cb co : Nat) (x : α), PreA E v flex base K bs a w → sl a sp = .pointer (some ⟨cb, co, none⟩) → cb < base → R w K (fun j => w.cell? ⟨cb, co + off + j, none⟩) x →
    bs.length + (wrt x).length ≤ lim2 → c.wp Tryd.prog (PostW res base (bs ++ wrt x) w) a w

theorem ApE.conv {α β : Type} {res sp off : Nat} {wrt : α → List UInt8} {wrt' : β → List UInt8} {R : Rel α} {R' : Rel β} {c : Code} (h : ApE E v flex res sp off wrt R c) (k : β → α) (hR : ∀ w K cc x, R' w K cc x → R w K cc (k x)) (hw : ∀ w K cc x, R' w K cc x → wrt' x = wrt (k x)) : ApE E v flex res sp off wrt' R' c := by
  intro base K bs a w cb co x hp hsp hcb hr hl
  rw [hw _ _ _ _ hr] at hl ⊢
  exact h base K bs a w cb co (k x) hp hsp hcb (hR _ _ _ _ hr) hl
theorem ApE.last {α : Type} {res sp off : Nat} {wrt : α → List UInt8} {R : Rel α} {c r : Code} (h : Ap E v flex sp off wrt R c) (hr : SCopy E.N E.ds res r) : ApE E v flex res sp off wrt R (c.seq (r.seq Code.ret)) := by
  intro base K bs a w cb co x hp hsp hcb hR hl
  refine wp_seq (wp_mono (h base K bs a w cb co x hp hsp hcb hR hl) ?_)
  intro e a1 w1 hq
  cases e with
  | normal =>
    obtain ⟨hu, hb, ho⟩ := hq
    refine wp_seq (hr a1 w1 _ (hu.size.trans hp.fr.size) fun a2 hu2 hs2 => wp_ret ⟨hu2.defers.trans (hu.defers.trans hp.fr.defers), hb, by rw [hs2]; exact ho⟩)
  | _ => exact hq.elim
theorem ApE.seq {α β : Type} {res sp off n1 n2 : Nat} {w1 : α → List UInt8} {w2 : β → List UInt8} {R1 : Rel α} {R2 : Rel β} {c1 c2 : Code} (h1 : Ap E v flex sp off w1 R1 c1) (h2 : ApE E v flex res sp (off + n1) w2 R2 c2) (hcl : clear (sp :: E.slots) c1 = true) (hst : Stable n2 R2) :
    ApE E v flex res sp off (fun x : α × β => w1 x.1 ++ w2 x.2) (fun w K c x => R1 w K c x.1 ∧ R2 w K (fun j => c (n1 + j)) x.2) (c1.seq c2) := by
  intro base K bs a w cb co x hp hsp hcb hr hl
  have hcl' := clear_iff hcl
  rw [List.length_append] at hl
  refine wp_seq (wp_mono (h1 base K bs a w cb co x.1 hp hsp hcb hr.1 (by omega)) ?_)
  intro e a1 w1' hq
  cases e with
  | normal =>
    obtain ⟨hu, hb, ho⟩ := hq
    have hsp1 : sl a1 sp = .pointer (some ⟨cb, co, none⟩) := (hu.same _ (hcl' _ (by simp))).trans hsp
    have hr2 : R2 w1' K (fun j => w1'.cell? ⟨cb, co + (off + n1) + j, none⟩) x.2 := by
      refine hst w w1' K K _ _ _ (fun g hg _ => hb.block g (hp.kb g hg)) hb.size (fun g hg => hg) (fun j _ => ?_) hr.2
      rw [below_cell hb hcb, show co + (off + n1) + j = co + off + (n1 + j) by omega]
    refine wp_mono (h2 base K _ a1 w1' cb co x.2 (hp.next hu (fun t ht => hcl' t (List.mem_cons_of_mem _ ht)) hb ho) hsp1 hcb hr2 (by rw [List.length_append]; omega)) ?_
    intro e a2 w2' hq2
    cases e with
    | ret =>
      obtain ⟨q1, q2, q3⟩ := hq2
      exact ⟨q1, hb.trans q2, by rw [← List.append_assoc]; exact q3⟩
    | _ => exact hq2.elim
  | _ => exact hq.elim

def ApTE (tags : Rel (List (Nat × List UInt8))) (E : WE) (v : Int) (flex ht : Bool) (res sp off : Nat) (fs : List F) (c : Code) : Prop := ApE E v flex res sp off (fun x : List T × List (Nat × List UInt8) => plainW v fs (wrs v flex fs) x.1 ++ if flex then tagsB x.2 else [])
    (fun w K cc x => (plainRep v flex ht fs (repFs tags v flex ht fs) w K cc x.1 ∧ ∀ t ∈ x.1, Fit t) ∧ (flex = true → tags w K (fun j => cc (cellsFs ht fs + j)) x.2) ∧ x.2.length ≤ most ∧ ∀ y ∈ x.2, y.1 < 4294967296 ∧ y.2.length ≤ most) c
def ApPE (tags : Rel (List (Nat × List UInt8))) (E : WE) (v : Int) (flex ht : Bool) (res sp off : Nat) (fs : List F) (c : Code) : Prop := ApE E v flex res sp off (Kz.part v flex fs) (fun w K cc t => repP tags v flex ht fs w K cc t ∧ Fit t) c
theorem ApTE.last {tags : Rel (List (Nat × List UInt8))} {res sp off : Nat} {fs : List F} {c r : Code} (h : ApTl tags E v flex ht sp off fs c) (hr : SCopy E.N E.ds res r) : ApTE tags E v flex ht res sp off fs (c.seq (r.seq Code.ret)) := ApE.last h hr
theorem ApTE.nil {tags : Rel (List (Nat × List UInt8))} {res sp off : Nat} {r : Code} (hfl : flex = false) (hr : SCopy E.N E.ds res r) : ApTE tags E v flex ht res sp off [] (r.seq Code.ret) := by
  subst hfl
  intro base K bs a w cb co x hp hsp hcb hR hl
  refine wp_seq (hr a w _ hp.fr.size fun a2 hu2 hs2 => wp_ret ⟨hu2.defers.trans hp.fr.defers, Bel.refl _ _, ?_⟩)
  rw [hs2]
  simpa [wrs, plainW] using hp.own
theorem ApTE.cons {tags : Rel (List (Nat × List UInt8))} (htg : flex = true → ht = true) (hT : Stable 1 tags) {res sp off : Nat} {f : F} {fs : List F} {c1 c2 : Code} (h1 : ApF tags E v flex ht sp off f c1) (hcl : clear (sp :: E.slots) c1 = true) (h2 : ApTE tags E v flex ht res sp (off + cellsF ht f) fs c2) : ApTE tags E v flex ht res sp off (f :: fs) (c1.seq c2) := by
  have hst : Stable (cellsP ht fs) (fun w K cc (x : List T × List (Nat × List UInt8)) => (plainRep v flex ht fs (repFs tags v flex ht fs) w K cc x.1 ∧ ∀ t ∈ x.1, Fit t) ∧ (flex = true → tags w K (fun j => cc (cellsFs ht fs + j)) x.2) ∧ x.2.length ≤ most ∧ ∀ y ∈ x.2, y.1 < 4294967296 ∧ y.2.length ≤ most) := by
    intro w w' K K' c c' x hk hs hK hc hx
    refine ⟨⟨stable_plainF htg hT fs w w' K K' c c' x.1 hk hs hK (fun j hj => hc j (by simp only [cellsP]; omega)) hx.1.1, hx.1.2⟩, fun hf => hT w w' K K' _ _ _ hk hs hK (fun j hj => hc _ ?_) (hx.2.1 hf), hx.2.2⟩
    simp only [cellsP, htg hf, Bool.toNat_true]; omega
  refine ApE.conv (ApE.seq h1 h2 hcl hst) (fun x => (x.1.headD T.zero, (x.1.tail, x.2))) (fun w K cc x hx => ?_) (fun w K cc x hx => ?_)
  · obtain ⟨⟨⟨y, ys, he, hy, hys⟩, hfit⟩, htl, hu⟩ := hx
    rw [he] at hfit ⊢
    refine ⟨⟨hy, hfit y (by simp)⟩, ⟨hys, fun t ht => hfit t (List.mem_cons_of_mem _ ht)⟩, fun hf => ?_, hu⟩
    have := htl hf
    simp only [cellsFs, Nat.add_assoc] at this
    exact this
  · simp only [wrs, plainW, List.append_assoc]
theorem ApTE.part {res sp off : Nat} {fs : List F} {c : Code} (hno : noTag fs = true) (h : ApTE TagRep E v flex ht res sp off fs c) : ApPE TagRep E v flex ht res sp off fs c := by
  refine ApE.conv h (fun t => (t.l, t.u)) (fun w K cc t hx => ?_) (fun w K cc t hx => ?_)
  · obtain ⟨hr, hf⟩ := hx
    exact ⟨⟨hr.1, hf.fa⟩, fun h => (hr.2 h).1, hf.fu, hf.fx⟩
  · obtain ⟨hr, hf⟩ := hx
    have hk := noTag_known fs hno
    have e : Kz.part v flex fs t = asmW v flex fs (wrs v flex fs) (usuals fs) t := rfl
    rw [e]
    unfold asmW
    cases flex with
    | false => simp
    | true =>
      rw [knownW_none _ _ _ _ hk, hk, unknown_whole (tagRep_sorted (hr.2 rfl).1) hf.fu (fun x hx => (hf.fx x hx).2)]
      simp
end

section
variable {tags : Rel (List (Nat × List UInt8))} {m : M} {ht : Bool}
end
end Go.Proofs.YthdfhnnoamlacaaDoor
/-
  What a struct holds lies in blocks that are there. Conditions: none.
-/
namespace Go.Proofs.YthdfhnnoamlacaaDoor
open Go.RowKit (Below)
open Kz

/-- The blocks that are there. -/
abbrev inW (w : World) (K : Nat → Prop) : Nat → Prop := fun g => K g ∧ g < w.heap.size
theorem bnd_bytes {w : World} {K : Nat → Prop} {v : Value} {bs : List UInt8} (h : BytesAt w K v bs) : BytesAt w (inW w K) v bs := by
  rcases h with h | ⟨g, o, c, h1, h2, h2', h3, h4, h5⟩
  · exact .inl h
  · exact .inr ⟨g, o, c, h1, h2, h2', ⟨h3, h4⟩, h4, h5⟩
section
variable {tags : Rel (List (Nat × List UInt8))} {v : Int} {flex ht : Bool}
end
/-- Octets of one's own, as octets. -/
theorem own_bytes {w : World} {base : Nat} {v : Value} {bs : List UInt8} (h : OwnB w base v bs) : BytesAt w (fun g => v.ownBlock = some g) v bs := by
  obtain ⟨-, h⟩ := h
  rcases h with ⟨rfl, h0⟩ | ⟨g, cap, cur, rfl, h1, h2, h3, h4, h5, h6⟩
  · exact .inl ⟨rfl, List.length_eq_zero_iff.1 h0⟩
  · refine .inr ⟨g, 0, cap, rfl, h3, by simp only [maxLen] at h4; omega, rfl, (Array.getElem?_eq_some_iff.1 h2).1, fun i b hi => ?_⟩
    have hlt : i < bs.length := (List.getElem?_eq_some_iff.1 hi).1
    rw [cell_of_row w g (0 + i) _ _ _ h2, Nat.zero_add]
    have e : (cur.toList.take (bs.length * 1))[i]? = (bs.map bv)[i]? := by rw [h6]
    rw [List.getElem?_take_of_lt (by omega)] at e
    rw [← Array.getElem?_toList, e]
    simp [hi]
theorem OwnB.lower {w : World} {b b' : Nat} {v : Value} {bs : List UInt8} (h : OwnB w b v bs) (hb : b' ≤ b) : OwnB w b' v bs := by
  obtain ⟨h1, h⟩ := h
  refine ⟨h1, h.imp id ?_⟩
  rintro ⟨g, cap, cur, e1, e2, e3⟩
  exact ⟨g, cap, cur, e1, by omega, e3⟩
end Go.Proofs.YthdfhnnoamlacaaDoor
/-
  A message: new, at a version, read, written: the thin package's function. Conditions: none.
-/
namespace Go.Proofs.YthdfhnnoamlacaaDoor
open Go.RowKit (Below)
open Kz

end Go.Proofs.YthdfhnnoamlacaaDoor
/-
  The thin package's function: octets read as a message, written again. Conditions: none.
-/
namespace Go.Proofs.YthdfhnnoamlacaaDoor
open Go.RowKit (Below)
open Kz

end Go.Proofs.YthdfhnnoamlacaaDoor
/-
  What the laws lean on: the version, octets compared. Conditions: none.
-/
namespace Go.Proofs.YthdfhnnoamlacaaDoor
open Go.RowKit
open Kz

/-- Octets by their places. -/
theorem bytes_cell {w : World} {S : Nat → Prop} {v : Value} {bs : List UInt8} (h : BytesAt w S v bs) : ∃ p c, v = .slice p bs.length c ∧ (bs ≠ [] → ∃ g o, p = some ⟨g, o, none⟩ ∧ ∀ (i : Nat) (b : UInt8), bs[i]? = some b → w.cell? ⟨g, o + i, none⟩ = some (bv b)) := by
  rcases h with ⟨rfl, rfl⟩ | ⟨g, o, c, rfl, h2, h2', h3, h4, h5⟩
  · exact ⟨_, _, rfl, fun h => absurd rfl h⟩
  · exact ⟨_, _, rfl, fun _ => ⟨g, o, rfl, h5⟩⟩
end Go.Proofs.YthdfhnnoamlacaaDoor
/-
  What every row leans on: the listed variable, a world for the witness, arguments that stay. Conditions: none.
-/
namespace Go.Proofs.YthdfhnnoamlacaaDoor
open Go.ChangeShapes Go.WideShapes Go.ChangeAt Go.RowKit
open Kz

theorem own : ownKnob Tryd.prog.godebug = none := by kernel_rfl
theorem laidOut' : laidOutB Tryd.prog = true := by kernel_rfl
theorem star : "*" ++ "errors.errorString" = "*errors.errorString" := by decide
theorem rowErr (u : TypeId) (h : Tryd.prog.typeName? 3 u = some "*errors.errorString") : u = 143 :=
  typeName_ptr_named (nm := "errors.errorString") (by rw [star]; kernel_rfl) (by kernel_rfl) (by decide) u (by rw [star]; exact h)

/-- What the rows' lists give: the package's error. -/
abbrev errLaid : List (String × DataW Unit) := [("pub-kmsg/pub/kmsg/inner/kbin.ErrNotEnoughData", Rows.laid_pub_kmsg_pub_kmsg_inner_kbin_ErrNotEnoughData)]
theorem err_of_laid {W : World} (h : laidMet Tryd.prog errLaid W) : ErrOk W := by
  obtain ⟨a, s, hv, -⟩ := laid_sentinel (g := 0) h (by kernel_rfl) (by kernel_rfl) Tryd.underlying50 rowErr Tryd.underlying143 Tryd.underlying159 rfl rfl Tryd.underlying9 (by kernel_rfl) (by kernel_rfl)
  exact ⟨_, _, by simpa using World.var?_cell (g := 0) (by kernel_rfl) hv 0⟩

/-- A world for the witness: the settled one, the error's struct laid behind it. -/
noncomputable def laidWorld (os : Os) : World :=
  let w0 := World.holding Tryd.prog os ⟨#[.cells #[.string ⟨#[114, 101, 115, 112, 111, 110, 115, 101, 32, 100, 105, 100, 32, 110, 111, 116, 32, 99, 111, 110, 116, 97, 105, 110, 32, 101, 110, 111, 117, 103, 104, 32, 100, 97, 116, 97, 32, 116, 111, 32, 98, 101, 32, 118, 97, 108, 105, 100]⟩] 159], #[], []⟩
  { w0 with heap := w0.heap.modify 0 fun
    | .cells _ t frozen => .cells #[.iface 143 (.pointer (some ⟨(World.settled Tryd.prog os).heap.size, 0, none⟩))] t frozen
    | o => o }

section
variable {H : Type} {enc : TypeId × Value → H}
/-- Arguments stay as they were, where what lay is as it was. -/
theorem args_stay {W W' : World} (hb : Below W.heap.size W W') : ∀ (ts : List TypeId), (∀ t ∈ ts, Tryd.prog.readableRec t = true ∧ t < Tryd.prog.types.size) → ∀ (vs : List Value) (ds : List (DataW H)) (p : List MemPlace), DataW.TrodAll enc Tryd.prog W 0 (fun _ => true) true ts vs ds p →
    (∀ x ∈ p, x.block < W.heap.size) → ∀ sp : Nat → Bool, (∀ x ∈ p, sp x.block = true) → DataW.TrodAll enc Tryd.prog W' 0 sp true ts vs ds p
  | [], _, [], [], p, h, _, sp, _ => h
  | [], _, [], _ :: _, p, h, _, sp, _ => h.elim
  | [], _, _ :: _, _, p, h, _, sp, _ => h.elim
  | _ :: _, _, [], _, p, h, _, sp, _ => h.elim
  | _ :: _, _, _ :: _, [], p, h, _, sp, _ => h.elim
  | t :: ts, ht, v :: vs, d :: ds, p, h, hlt, sp, hsp => by
    obtain ⟨p1, p2, ⟨n, h1⟩, h2, rfl⟩ := h
    obtain ⟨hr, hrow⟩ := ht t (by simp)
    refine ⟨p1, p2, ⟨n, ?_⟩, args_stay hb ts (fun t h => ht t (by simp [h])) vs ds p2 h2 (fun x hx => hlt x (List.mem_append_right _ hx)) sp (fun x hx => hsp x (List.mem_append_right _ hx)), rfl⟩
    refine DataW.trod_stays (kids_book laidOut' hr) (book_sized hr) (fun h => by cases h) ⟨hrow, book_self t⟩ h1 (fun x hx => ?_) (fun x hx => hsp x (List.mem_append_left _ hx))
    have hbl := hb.block x.block (hlt x (List.mem_append_left _ hx))
    cases x with
    | cell b off => exact cell_kept hbl
    | map b => exact hbl

theorem u8_range {n : Int} (h : (Lit.int .u8 n).wf = true) : 0 ≤ n ∧ n < 256 := by
  simp [Lit.wf, IntKind.min, IntKind.max, IntKind.bits, IntKind.signed] at h
  omega
theorem cellsU8 : Tryd.prog.cellsOf 5 = 1 := by kernel_rfl
theorem byte_back {n : Int} (h : (Lit.int .u8 n).wf = true) : Value.int .u8 n = bv (UInt8.ofNat n.toNat) := by
  obtain ⟨h0, h1⟩ := u8_range h
  unfold bv
  rw [UInt8.toNat_ofNat']
  congr 1
  omega
set_option maxRecDepth 100000 in
/-- Octets that came in. -/
theorem open_octets {W : World} {base : Nat} {v : Value} {d : DataW H} {ps : List MemPlace} (hval : Value.okWide Tryd.prog W .any base 22 v) (h : DataW.Trod enc Tryd.prog W 0 (fun _ => true) true 22 v d ps) :
    ∃ q c bs, v = .slice q bs.length c ∧ BytesAt W (fun g => g < W.heap.size) (.slice q bs.length c) bs := by
  obtain ⟨a1, len, cap, rfl⟩ := okWide_slice Tryd.underlying22 hval
  obtain ⟨fuel, hf⟩ := h
  rcases open_ints Tryd.underlying22 Tryd.underlying5 cellsU8 hf with ⟨hcs, hx⟩ | ⟨a, len', cap', zs, hcs, _, hl, hm, hz, hx, hcell, hwz⟩
  · simp [Value.cells] at hcs
    obtain ⟨rfl, rfl, rfl⟩ := hcs
    exact ⟨none, 0, [], rfl, .inl ⟨rfl, rfl⟩⟩
  · simp [Value.cells] at hcs
    obtain ⟨rfl, rfl, rfl⟩ := hcs
    simp only [if_true] at hz
    have hlen : ((zs.take len).map fun n => UInt8.ofNat n.toNat).length = len := by simp; omega
    have hsp : a.spot = none ∧ a.block < W.heap.size := by
      unfold Value.okWide at hval
      rw [Tryd.underlying22] at hval
      simp only [Cell.okWide, Cell.ok, Tryd.underlying22] at hval
      obtain ⟨-, -, -, h2, row, cells, h3, -⟩ := hval
      refine ⟨h2, ?_⟩
      unfold World.shape? at h3
      split at h3
      · rename_i c e f hx; exact (Array.getElem?_eq_some_iff.1 hx).1
      · cases h3
    obtain ⟨ab, ao, spot⟩ := a
    obtain ⟨rfl, hlt⟩ := hsp
    refine ⟨some ⟨ab, ao, none⟩, cap, (zs.take len).map fun n => UInt8.ofNat n.toNat, by rw [hlen], .inr ⟨ab, ao, cap, rfl, by rw [hlen]; exact hl, by simp only [maxLen] at hm; omega, hlt, hlt, fun i b hi => ?_⟩⟩
    have hil : i < len := by rw [← hlen]; exact (List.getElem?_eq_some_iff.1 hi).1
    have hc := hcell i (by omega)
    rw [Addr.add_lit] at hc
    rw [hc]
    have e : zs.getD i 0 = zs[i]'(by omega) := by simp [List.getD, List.getElem?_eq_getElem (show i < zs.length by omega)]
    rw [e, byte_back (hwz _ (List.getElem_mem _))]
    congr 2
    simp only [List.getElem?_map, List.getElem?_take, hil, if_true, List.getElem?_eq_getElem (show i < zs.length by omega), Option.map_some, Option.some.injEq] at hi
    exact hi
/-- A law's row: what its walk gives. -/
theorem law_post {fn : Func} {s : ChangeSpec} {W W' : World} {args : Array Value} {ds gs : List (DataW H)} {before : List MemPlace} (hvars : s.vars = []) (hres : fn.resultTypes = #[4]) (hW : DataW.Whole enc Tryd.prog fn.params.toList s.vars false W args.toList ds gs before)
    (hfn : s.fn H (ds ++ gs) = { results := [.lit (.bool true)], args := ds }) (hts : ∀ t ∈ fn.params.toList, Tryd.prog.readableRec t = true ∧ t < Tryd.prog.types.size) (hb : Below W.heap.size W W') : s.post enc Tryd.prog fn false true false false W args (.bool true) W' := by
  have hW' := hW
  have hlt := hW.lt
  obtain ⟨p, q, hA, hV, rfl, -, -⟩ := hW
  have hV' : DataW.TrodVars enc Tryd.prog W (fun _ => true) [] gs q := by rw [← hvars]; exact hV
  obtain ⟨rfl, rfl⟩ := trodVars_none hV'
  refine ⟨_, _, _, [], p, [], hW', ?_, ?_, ?_, hb.frame _, fun h => by cases h⟩
  · rw [hfn, hres]
    exact trodAll_mk1 (shut_bool Tryd.underlying4 _)
  · rw [hfn]
    exact args_stay hb _ hts _ _ _ hA (fun x hx => hlt x (List.mem_append_left _ hx)) _ (fun x hx => by simpa using hlt x (List.mem_append_left _ hx))
  · rw [hfn, hvars]; rfl
end
end Go.Proofs.YthdfhnnoamlacaaDoor
