/-
  Tags, written: each of them, by rising numbers. Conditions: none.
-/
import Derived.Test.YtpknjenihcfhlaaDoorTa2
import Derived.Maps.AppendAt
namespace Go.Proofs.YtpknjenihcfhlaaDoor
open Go.RowKit Go.Lib Go.Sort
open Kz

theorem strict_unique : ∀ a b : List Int, a.Pairwise (· < ·) → b.Pairwise (· < ·) → (∀ z, z ∈ a ↔ z ∈ b) → a = b
  | [], [], _, _, _ => rfl
  | [], y :: b, _, _, h => absurd ((h y).2 (by simp)) (by simp)
  | x :: a, [], _, _, h => absurd ((h x).1 (by simp)) (by simp)
  | x :: a, y :: b, ha, hb, h => by
    obtain ⟨ha1, ha2⟩ := List.pairwise_cons.1 ha
    obtain ⟨hb1, hb2⟩ := List.pairwise_cons.1 hb
    have hxy : x = y := by
      have h1 := (h x).1 (by simp)
      have h2 := (h y).2 (by simp)
      simp only [List.mem_cons] at h1 h2
      rcases h1 with h1 | h1
      · exact h1
      · rcases h2 with h2 | h2
        · exact h2.symm
        · have := hb1 x h1; have := ha1 y h2; omega
    subst hxy
    rw [strict_unique a b ha2 hb2 fun z => ?_]
    have hz := h z
    simp only [List.mem_cons] at hz
    constructor
    · intro hm
      have := ha1 z hm
      exact (hz.1 (.inr hm)).resolve_left (by omega)
    · intro hm
      have := hb1 z hm
      exact (hz.2 (.inr hm)).resolve_left (by omega)

theorem has_tags (l : List (Nat × Value)) (z : Int) : Maps.has (DataW.map (tagDs l)) (Lit.int .u32 z) = (l.map fun x => (x.1 : Int)).contains z := by
  rw [Maps.has_eq]
  induction l with
  | nil => rfl
  | cons x r ih =>
    simp only [tagDs, List.map_cons, List.any_cons, List.contains_cons] at ih ⊢
    rw [ih]
    congr 1
    simp [Lit.sameKey]
    by_cases h : (x.1 : Int) = z
    · simp [h]
    · simp [h]; exact fun e => h e.symm
theorem size_tags (l : List (Nat × Value)) : Maps.size (DataW.map (tagDs l)) = l.length := by simp [Maps.size_eq, tagDs]
theorem same_u32 (a b : Int) : (Lit.int .u32 a).sameKey (Lit.int .u32 b) = decide (a = b) := by
  simp [Lit.sameKey]
theorem tags_len {w : World} {K : Nat → Prop} : ∀ (l : List (Nat × Value)) (u : List (Nat × List UInt8)), TagsAt w K l u → u.length = l.length ∧ (u.map fun x => (x.1 : Int)) = l.map fun x => (x.1 : Int)
  | [], [], _ => ⟨rfl, rfl⟩
  | [], _ :: _, h => h.elim
  | _ :: _, [], h => h.elim
  | (k, v) :: l, (j, b) :: u, h => by
    obtain ⟨rfl, -, h3⟩ := h
    obtain ⟨e1, e2⟩ := tags_len l u h3
    exact ⟨by simp [e1], by simp [e2]⟩
theorem tags_at {w : World} {K : Nat → Prop} : ∀ (l : List (Nat × Value)) (u : List (Nat × List UInt8)), TagsAt w K l u → ∀ (i : Nat) (k : Nat) (b : List UInt8), u[i]? = some (k, b) → ∃ v, l[i]? = some (k, v) ∧ BytesAt w K v b
  | [], [], _, _, _, _, h => by cases h
  | [], _ :: _, h, _, _, _, _ => h.elim
  | _ :: _, [], h, _, _, _, _ => h.elim
  | (k, v) :: l, (j, b) :: u, h, 0, k', b', hi => by
    simp only [List.getElem?_cons_zero, Option.some.injEq, Prod.mk.injEq] at hi
    obtain ⟨rfl, rfl⟩ := hi
    exact ⟨v, by simp [h.1], h.2.1⟩
  | (k, v) :: l, (j, b) :: u, h, i + 1, k', b', hi => by
    simpa using tags_at l u h.2.2 i k' b' (by simpa using hi)
theorem atKey_tags (z0 : DataW Value) : ∀ (l : List (Nat × Value)), Rising l → ∀ (i k : Nat) (v : Value), l[i]? = some (k, v) → (DataW.map (tagDs l)).atKey (Lit.int .u32 (k : Int)) z0 = DataW.held v := by
  intro l
  induction l with
  | nil => intro _ i k v h; cases h
  | cons x r ih =>
    intro hr i k v h
    obtain ⟨h1, h2⟩ := List.pairwise_cons.1 hr
    cases i with
    | zero =>
      simp only [List.getElem?_cons_zero, Option.some.injEq] at h
      subst h
      simp [DataW.atKey, tagDs, Lit.sameKey]
    | succ i =>
      simp only [List.getElem?_cons_succ] at h
      have hlt := h1 _ (List.mem_of_getElem? h)
      have := ih h2 i k v h
      have hne : ¬ ((x.1 : Int) = (k : Int)) := by have : x.1 < k := hlt; omega
      simp only [DataW.atKey, tagDs, List.map_cons, List.find?_cons, same_u32, hne, decide_false] at this ⊢
      exact this

theorem info32 : (Tryd.prog.info? 56).map (fun i => (i.zero, i.size, i.bytes)) = some (some (.int .u32 0), 1, 4) := by kernel_rfl
/-- What has been collected. -/
structure Coll (l : List (Nat × Value)) (left : Lit → Bool) (ks : List Int) : Prop where
  nodup : ks.Nodup
  mem : ∀ z ∈ ks, z ∈ l.map fun x => (x.1 : Int)
  left : ∀ z : Int, left (Lit.int .u32 z) = ((l.map fun x => (x.1 : Int)).contains z && !ks.contains z)
theorem Coll.start (l : List (Nat × Value)) : Coll l (Maps.has (DataW.map (tagDs l))) [] := ⟨List.nodup_nil, fun z h => absurd h (by simp), fun z => by rw [has_tags]; simp⟩
theorem Coll.step {l : List (Nat × Value)} {left : Lit → Bool} {ks : List Int} (h : Coll l left ks) {x : Int} (hx : left (Lit.int .u32 x) = true) : Coll l (fun z => left z && !z.sameKey (Lit.int .u32 x)) (ks ++ [x]) := by
  have hl := h.left x
  rw [hx] at hl
  have hl' := hl.symm
  simp only [Bool.and_eq_true, Bool.not_eq_true', List.contains_eq_mem, decide_eq_true_eq, decide_eq_false_iff_not] at hl'
  refine ⟨?_, ?_, fun z => ?_⟩
  · rw [List.nodup_append]
    exact ⟨h.nodup, by simp, fun a ha b hb => by simp only [List.mem_singleton] at hb; subst hb; rintro rfl; exact hl'.2 ha⟩
  · intro z hz
    simp only [List.mem_append, List.mem_singleton] at hz
    rcases hz with hz | rfl
    · exact h.mem z hz
    · exact hl'.1
  · rw [h.left z, same_u32]
    by_cases e : z = x
    · subst e; simp
    · simp [e, List.contains_eq_mem]
theorem Coll.done {l : List (Nat × Value)} {left : Lit → Bool} {ks ts : List Int} (h : Coll l left ks) (hl : Rising l) (h0 : ∀ kl, left kl = false) (hp : ts.Perm ks) (hs : ts.Pairwise (fun x y => x ≤ y)) : ts = l.map fun x => (x.1 : Int) := by
  refine strict_unique _ _ ?_ ?_ fun z => ?_
  · have hn : ts.Nodup := hp.nodup_iff.2 h.nodup
    rw [List.Nodup] at hn
    exact (hs.and hn).imp fun ⟨a, b⟩ => by omega
  · rw [List.pairwise_map]
    exact hl.imp fun h => by omega
  · rw [hp.mem_iff]
    constructor
    · exact h.mem z
    · intro hz
      have := h.left z
      rw [h0] at this
      have hz' : (l.map fun x => (x.1 : Int)).contains z = true := by simpa [List.contains_eq_mem] using hz
      rw [hz'] at this
      simpa [List.contains_eq_mem] using this.symm

set_option maxRecDepth 100000 in
set_option maxHeartbeats 2000000 in
theorem each_some (w : World) (base tb to db b n : Nat) (bs : List UInt8) (l : List (Nat × Value)) (u : List (Nat × List UInt8)) (K : Nat → Prop) (hr : w.cell? ⟨tb, to, none⟩ = some (.map (some b))) (htb : tb < base) (hKb : K b) (hne : l ≠ [])
    (hl : Rising l) (hown : w.ownsMap Tryd.prog 56 heldR b n (.map (tagDs l))) (hta : TagsAt w K l u) (hd : DstAt w base db bs) (hb : base ≤ w.heap.size) (hK : ∀ g, K g → g < base) (hu : u.length ≤ most) (hf : ∀ x ∈ u, x.1 < 4294967296 ∧ x.2.length ≤ most)
    (hlen : bs.length + (u.flatMap tagB).length ≤ lim2) :
    Calls Tryd.prog 78 #[.pointer (some ⟨tb, to, none⟩), .func (.func 79) #[] #[.pointer (some ⟨db, 0, none⟩)]] w fun e w' =>
      e = .returned (.tuple #[]) ∧ DstAt w' base db (bs ++ u.flatMap tagB) ∧ Below base w w' := by
  obtain ⟨i0, hi, hz0, hz1, hz2⟩ := info_parts info32
  obtain ⟨ul, ukeys⟩ := tags_len l u hta
  have hsz : Maps.size (DataW.map (tagDs l)) = l.length := size_tags l
  have hl0 : ¬ ((l.length : Int) = 0) := by
    intro e
    have : l.length = 0 := by omega
    exact hne (List.length_eq_zero_iff.1 this)
  have hlm : l.length ≤ 32767 := by rw [← ul]; exact hu
  have blm : Box _ := ⟨hlm⟩
  have bown : Box _ := ⟨hown⟩
  have bta : Box _ := ⟨hta⟩
  have bd : Box _ := ⟨hd⟩
  have bnd : Box _ := ⟨hlen⟩
  clear hown hta hd hlen hlm hu
  go_enter Tryd.func78, Tryd.ntmps78
  go_wp2_with (first
    | (at_len; refine wpList_len_own _ rfl _ 46 rfl 56 22 Tryd.underlying46 _ b n _ rfl bown.get ?_; rw [hsz])
    | (at_make; refine wpList_make_own _ rfl _ _ 107 rfl w.heap.size 56 i0 (.int .u32 0) 1 Tryd.underlying107 hi hz0 hz1 _ _ _ l.length rfl rfl rfl ?_ ?_ (Nat.le_refl _) ?_))
  · have := blm.get; rw [hz2]; omega
  · have := blm.get; simp only [maxLen]; omega
  intro w1 hrow1 hg1
  have hs1 : w.heap.size ≤ w1.heap.size := hg1.size
  have old1 : ∀ k, k < w.heap.size → w1.heap[k]? = w.heap[k]? := fun k hk => hg1.block k hk (by simp)
  have c1 : w1.cell? ⟨tb, to, none⟩ = some (.map (some b)) := by rw [cell_kept (old1 tb (by omega))]; exact hr
  have hbl : b < w.heap.size := bown.get.lt
  have brow1 : Box _ := ⟨hrow1⟩
  have bold1 : Box _ := ⟨old1⟩
  have bg1 : Box _ := ⟨hg1⟩
  have htb1 : tb < w1.heap.size := by omega
  have hsl : l.length < 4611686018427387904 := by have := blm.get; omega
  clear hrow1 hg1 old1
  go_wp2_with (first
    | (at_range; refine wpList_range_own _ rfl _ 46 rfl 56 22 keyed32 Tryd.underlying46 heldR b n (.map (tagDs l)) rfl ?_ ?_))
  · refine ownsMap_block bown.get ?_
    rw [alloc_old _ _ _ (by omega)]
    exact bold1.get b hbl
  intro w2 hrg2 hg2 hs2
  have hob2 : w2.heap[w1.heap.size]? = some (.cells #[.slice (some ⟨w.heap.size, 0, none⟩) 0 l.length] 107 (0, 0)) := (hg2.block _ (by simp) (by simp)).trans (alloc_new _ _)
  have hrow2 : w2.ownsRow w.heap.size 56 1 (.slice (some ⟨w.heap.size, 0, none⟩) 0 l.length) 0 [] := (brow1.get.kept (World.grownBy_alloc w1 _ none) (.inr (by simp [Value.ownBlock]))).kept hg2 (.inr (by simp [Value.ownBlock]))
  have hbel2 : Below w.heap.size w w2 := ⟨hg2.os.trans bg1.get.os, hg2.tape.trans bg1.get.tape, hg2.output.trans bg1.get.output, by have := hg2.size; simp at this; omega, fun k hk => by
    rw [hg2.block k (by simp; omega) (by simp), alloc_old _ _ _ (by omega)]; exact bold1.get k hk⟩
  have bob2 : Box _ := ⟨hob2⟩
  have brow2 : Box _ := ⟨hrow2⟩
  have bbel2 : Box _ := ⟨hbel2⟩
  have brg2 : Box (w2.ranges Tryd.prog 56 heldR b (w1.heap.size + 1) n (.map (tagDs l)) (Maps.has (.map (tagDs l))) l.length) := ⟨by simpa [hsz] using hrg2⟩
  clear hob2 hrow2 hbel2 hg2 hs2 hrg2
  go_wp2
  go_loopw [5] (fun _ wr => ∃ (left : Lit → Bool) (cnt : Nat) (ks : List Int) (p m : Nat), wr.ranges Tryd.prog 56 heldR b (w1.heap.size + 1) n (.map (tagDs l)) left cnt ∧ ks.length + cnt ≤ l.length ∧
      wr.heap[w1.heap.size]? = some (.cells #[.slice (some ⟨p, 0, none⟩) ks.length m] 107 (0, 0)) ∧ wr.ownsRow w.heap.size 56 1 (.slice (some ⟨p, 0, none⟩) ks.length m) ks.length (ks.map uvl) ∧ Coll l left ks ∧ Below w.heap.size w wr)
    (fun _ wr => wr.rangeLeft b (w1.heap.size + 1))
  case atStart => exact ⟨_, _, [], _, _, brg2.get, by simp, bob2.get, brow2.get, Coll.start l, bbel2.get⟩
  case round =>
    obtain ⟨left, cnt, ks, p, m, hrg, hcs, hob, hrow, hC, hbel⟩ := hrel
    have hs := hbel.size
    have cob : wr.cell? ⟨w1.heap.size, 0, none⟩ = some (.slice (some ⟨p, 0, none⟩) ks.length m) := by rw [cell_of_row wr _ 0 _ _ _ hob]; rfl
    have fob : wr.frozen? ⟨w1.heap.size, 0, none⟩ = false := by simp [World.frozen?, hob]
    have bobr : Box _ := ⟨hob⟩
    have browr : Box _ := ⟨hrow⟩
    have bC : Box _ := ⟨hC⟩
    have bbel : Box _ := ⟨hbel⟩
    have brg : Box _ := ⟨hrg⟩
    have bcs : Box _ := ⟨hcs⟩
    clear hob hrow hC hbel hrg hcs
    go_wp2_with (first
      | (at_next; refine wpList_next_ranges _ rfl _ rfl 56 keyed32 heldR (Value.int .u32) id (fun key kl hk => by obtain ⟨x, hx, _⟩ := Maps.keyOf_int_inv Tryd.underlying56 hk; exact ⟨x, hx⟩) (fun v y _ => ⟨v, rfl⟩) b (w1.heap.size + 1) n _ _ _ rfl brg.get ?_ ?_))
    · intro hc0 hl0
      have hnep : w1.heap.size ≠ p := by
        rintro rfl
        rcases browr.get.2 with ⟨hx, _⟩ | ⟨g', cap', cur', hv', _, hh', _⟩
        · cases hx
        · simp only [Value.slice.injEq, Option.some.injEq, Addr.mk.injEq] at hv'
          obtain ⟨⟨rfl, -⟩, -⟩ := hv'
          have := bobr.get
          rw [hh'] at this
          simp only [Option.some.injEq, Obj.cells.injEq] at this
          exact absurd this.2.1 (by decide)
      have hkl : ks.length ≤ l.length := by have := bcs.get; omega
      have hlr : p < wr.heap.size := (browr.get.lt p rfl).2
      have hlrb : w.heap.size ≤ p := (browr.get.lt p rfl).1
      have hsort := sort_keys wr w.heap.size w1.heap.size p m ks cob hnep browr.get (by omega)
      have bsort : Box _ := ⟨hsort⟩
      clear hsort
      go_wp2_with fail
      refine bsort.get.mono ?_
      rintro e w5 ⟨rfl, ts, hperm, hsorted, hrow5, hg5⟩
      have hts := bC.get.done hl hl0 hperm hsorted
      have hob5 : w5.heap[w1.heap.size]? = some (.cells #[.slice (some ⟨p, 0, none⟩) ks.length m] 107 (0, 0)) := (hg5.block _ (Array.getElem?_eq_some_iff.1 bobr.get).1 (fun e => hnep (Option.some.inj e))).trans bobr.get
      have cob5 : w5.cell? ⟨w1.heap.size, 0, none⟩ = some (.slice (some ⟨p, 0, none⟩) ks.length m) := by rw [cell_of_row w5 _ 0 _ _ _ hob5]; rfl
      have hkn : ks.length = l.length := by rw [← hperm.length_eq, hts]; simp
      have bel5 : Box (Below w.heap.size w w5) := ⟨hg5.os.trans bbel.get.os, hg5.tape.trans bbel.get.tape, hg5.output.trans bbel.get.output, Nat.le_trans bbel.get.size hg5.size, fun k hk => (hg5.block k (by omega) (fun e => by have := Option.some.inj e; omega)).trans (bbel.get.block k hk)⟩
      subst hts
      rw [hkn] at hrow5 cob5
      rcases hrow5.2 with ⟨hx, _⟩ | ⟨g', cap', cur, hv', _, hcur, h1', h2', h3', h4'⟩
      · cases hx
      simp only [Value.slice.injEq, Option.some.injEq, Addr.mk.injEq, true_and, and_true] at hv'
      obtain ⟨rfl, rfl⟩ := hv'
      have bcur : Box _ := ⟨hcur⟩
      have bkey : Box (∀ (j k : Nat) v, l[j]? = some (k, v) → cur[j]? = some (uvl (k : Int))) := ⟨fun j k v hj => by
        have hlt : j < l.length := (List.getElem?_eq_some_iff.1 hj).1
        have e1 : (cur.toList.take (l.length * 1))[j]? = (List.map uvl (l.map fun x => (x.1 : Int)))[j]? := by rw [h4']
        rw [List.getElem?_take_of_lt (by omega)] at e1
        rw [← Array.getElem?_toList, e1]
        simp [hj]⟩
      have bd5 : Box (DstAt w5 base db bs) := ⟨⟨bd.get.1, bd.get.2.elim fun v hv => ⟨v, (bel5.get.block db bd.get.lt).trans hv.1, hv.2.grown bel5.get.block⟩⟩⟩
      clear hob5 hg5 hrow5 hperm hsorted hcur h1' h2' h3' h4' bsort
      have hl63 : l.length < 9223372036854775807 := by have := blm.get; omega
      go_wp2
      go_loopw [39] (fun i wr' => ∃ j : Nat, i = .int .i64 (j : Int) ∧ j ≤ l.length ∧ wr'.heap[p]? = some (.cells cur 56 (0, 0)) ∧ Below base w wr' ∧ DstAt wr' base db (bs ++ (u.take j).flatMap tagB)) (fun i _ => l.length - (intOf i).toNat)
      case atStart => exact ⟨0, rfl, Nat.zero_le _, bcur.get, below_below bel5.get hb, by simpa using bd5.get⟩
      case round =>
        obtain ⟨j, rfl, hj, hcur', hbel', hd'⟩ := hrel
        have ct : wr.cell? ⟨tb, to, none⟩ = some (.map (some b)) := by rw [cell_kept (hbel'.block tb htb)]; exact hr
        have bcur' : Box _ := ⟨hcur'⟩
        have bbel' : Box _ := ⟨hbel'⟩
        have bd' : Box _ := ⟨hd'⟩
        by_cases hjl : j < l.length
        · obtain ⟨k, s, huj⟩ : ∃ k s, u[j]? = some (k, s) := ⟨(u[j]'(by omega)).1, (u[j]'(by omega)).2, by rw [List.getElem?_eq_getElem (by omega)]⟩
          obtain ⟨vv, hlj, hbv⟩ := tags_at l u bta.get j k s huj
          have hfk := hf _ (List.mem_of_getElem? huj)
          have cj : wr.cell? ⟨p, j, none⟩ = some (.int .u32 (k : Int)) := by rw [cell_of_row wr p j _ _ _ hcur']; exact bkey.get j k vv hlj
          obtain ⟨v0, ps, hrun, hv0⟩ := (ownsMap_block bown.get (hbel'.block b (hK b hKb))).lookup keyed32 Tryd.underlying46 (z := .slice none 0 0) (zd := .held (.slice none 0 0)) (zp := []) (by kernel_rfl) rfl (key_ok hfk.1)
          rw [atKey_tags _ l hl j k vv hlj] at hv0
          obtain rfl : v0 = vv := by
            simp only [heldR, Option.some.injEq, Prod.mk.injEq, DataW.held.injEq] at hv0
            exact hv0.1
          have hji : (j : Int) < (l.length : Int) := by omega
          have hsplit : (u.take (j + 1)).flatMap tagB = (u.take j).flatMap tagB ++ tagB (k, s) := by rw [List.take_add_one, huj]; simp
          have bsplit : Box _ := ⟨hsplit⟩
          have hroom : (bs ++ (u.take j).flatMap tagB).length + (tagB (k, s)).length ≤ lim2 := by
            have e : u = u.take (j + 1) ++ u.drop (j + 1) := (List.take_append_drop _ _).symm
            have h0 := bnd.get
            rw [e] at h0
            rw [List.flatMap_append, hsplit] at h0
            simp only [List.length_append] at h0 ⊢
            omega
          have broom : Box _ := ⟨hroom⟩
          have bbv : Box _ := ⟨hbv.below hbel' hK⟩
          have bfk : Box _ := ⟨hfk⟩
          have hbw : base ≤ wr.heap.size := Nat.le_trans hb (Nat.le_trans (Nat.le_refl _) hbel'.size)
          clear hcur' hbel' hd' hlj hbv hfk hv0 huj hsplit hroom
          go_wp2_with fail
          refine (app_tag wr base db k _ s v0 K bd'.get hbw bfk.get.1 bbv.get hK (by have := bfk.get.2; simp only [most] at this; omega) broom.get).mono ?_
          rintro e w6 ⟨rfl, hd6, hb6, hk6⟩
          have bd6 : Box _ := ⟨hd6⟩
          have bb6 : Box _ := ⟨hb6⟩
          have bk6 : Box _ := ⟨hk6⟩
          have hwj : IntKind.wrap .i64 ((j : Int) + 1) = ((j + 1 : Nat) : Int) := by rw [IntKind.wrap_i64]; omega
          clear hd6 hb6 hk6
          go_wp2
          go_roundw
          case rel => exact ⟨j + 1, rfl, by omega, bk6.get p cur _ bcur'.get, bbel'.get.trans bb6.get, by rw [bsplit.get, ← List.append_assoc]; exact bd6.get⟩
          case measure => simp only [intOf]; omega
        · have hji : ¬ ((j : Int) < (l.length : Int)) := by omega
          obtain rfl : j = l.length := by omega
          clear hcur' hbel' hd'
          go_wp2
          have hd := bd'.get
          rw [show l.length = u.length from ul.symm, List.take_length] at hd
          exact ⟨rfl, .tuple #[], results_none (by kernel_rfl) _ _ _, rfl, hd, bbel'.get⟩
    · intro x c kl yd yp w3 cnt3 hkey hlk hv hat hrg3 hlt hg3 hs3 hen
      obtain ⟨x', ex, rfl, hwx⟩ := Maps.keyOf_int_inv Tryd.underlying56 hkey
      obtain rfl : x = x' := by injection ex
      have hs3' : wr.heap.size ≤ w3.heap.size := hg3.size
      have hob3 : w3.heap[w1.heap.size]? = some (.cells #[.slice (some ⟨p, 0, none⟩) ks.length m] 107 (0, 0)) := (hg3.block _ (Array.getElem?_eq_some_iff.1 bobr.get).1 (by simp)).trans bobr.get
      have cob3 : w3.cell? ⟨w1.heap.size, 0, none⟩ = some (.slice (some ⟨p, 0, none⟩) ks.length m) := by rw [cell_of_row w3 _ 0 _ _ _ hob3]; rfl
      have fob3 : w3.frozen? ⟨w1.heap.size, 0, none⟩ = false := by simp [World.frozen?, hob3]
      have hlob : w1.heap.size < w3.heap.size := (Array.getElem?_eq_some_iff.1 hob3).1
      have hrow3 := browr.get.kept hg3 (.inr (row_ne_iter browr.get brg.get).symm)
      have bob3 : Box _ := ⟨hob3⟩
      have brow3 : Box _ := ⟨hrow3⟩
      have brg3 : Box _ := ⟨hrg3⟩
      have bg3 : Box _ := ⟨hg3⟩
      have blt3 : Box _ := ⟨hlt⟩
      have blk : Box _ := ⟨hlk⟩
      have bws : Box (w.heap.size ≤ w3.heap.size) := ⟨by omega⟩
      clear hs3 hob3 hrow3 hrg3 hg3 hlt hkey hv hat ex hlk
      go_wp2_with (first
        | (at_builtin; refine wpList_append_own _ rfl _ _ 107 rfl w.heap.size 56 i0 (.int .u32 0) 1 4 Tryd.underlying107 hi hz0 hz1 hz2 rfl (by decide) _ _ _ rfl (brow3.get.alloc _) ⟨w3.heap.size, 0, none⟩ 1 1 [uvl x] rfl rfl (cell_one_new _ _ _) (by simp [Value.oneCell']) ?_ ?_ ?_ ?_))
      · have := blm.get; have := bcs.get; simp only [maxLen]; omega
      · have := blm.get; have := bcs.get; omega
      · simp; have := bws.get; omega
      intro v4 w4 hown4 hg4 hnil4
      have hob4 : w4.heap[w1.heap.size]? = some (.cells #[.slice (some ⟨p, 0, none⟩) ks.length m] 107 (0, 0)) := by
        rw [hg4.block _ (by simp; omega) ?_, alloc_old _ _ _ hlob]
        · exact bob3.get
        · intro e
          rcases brow3.get.2 with ⟨hx, _⟩ | ⟨g', cap', cur', hv', _, hh', _⟩
          · cases hx
          · rw [hv'] at e
            simp only [Value.ownBlock, Option.some.injEq] at e
            subst e
            have := bob3.get
            rw [hh'] at this
            simp only [Option.some.injEq, Obj.cells.injEq] at this
            exact absurd this.2.1 (by decide)
      obtain ⟨p4, m4, rfl⟩ : ∃ p4 m4, v4 = .slice (some ⟨p4, 0, none⟩) (ks.length + 1) m4 := by
        rcases hown4.2 with ⟨hx, hy⟩ | ⟨g', cap', cur', hv', _⟩
        · exact absurd hy (by simp)
        · exact ⟨_, _, hv'⟩
      have cob4 : w4.cell? ⟨w1.heap.size, 0, none⟩ = some (.slice (some ⟨p, 0, none⟩) ks.length m) := by rw [cell_of_row w4 _ 0 _ _ _ hob4]; rfl
      have fob4 : w4.frozen? ⟨w1.heap.size, 0, none⟩ = false := by simp [World.frozen?, hob4]
      have bob4 : Box _ := ⟨hob4⟩
      have bown4 : Box _ := ⟨hown4⟩
      have bg4 : Box _ := ⟨hg4⟩
      clear hob4 hown4 hg4 hnil4
      have hnep : p4 ≠ w1.heap.size := by
        rintro rfl
        rcases bown4.get.2 with ⟨hx, _⟩ | ⟨g', cap', cur', hv', _, hh', _⟩
        · cases hx
        · simp only [Value.slice.injEq, Option.some.injEq, Addr.mk.injEq] at hv'
          obtain ⟨⟨rfl, -⟩, -⟩ := hv'
          have := bob4.get
          rw [hh'] at this
          simp only [Option.some.injEq, Obj.cells.injEq] at this
          exact absurd this.2.1 (by decide)
      have hset : w4.grownBy (w4.setCell ⟨w1.heap.size, 0, none⟩ (.slice (some ⟨p4, 0, none⟩) (ks.length + 1) m4)) (some w1.heap.size) := grown_setCell (grownBy_refl _ _) 0 _
      have hrg4 := ((brg3.get.alloc (.cells #[uvl x] 56)).kept bg4.get (row_ne_low brow3.get hbl) (row_ne_iter brow3.get brg3.get)).kept hset (by simp; omega) (by simp)
      have brg4 : Box _ := ⟨hrg4⟩
      have bbel4 : Box (Below w.heap.size w (w4.setCell ⟨w1.heap.size, 0, none⟩ (.slice (some ⟨p4, 0, none⟩) (ks.length + 1) m4))) := ⟨by
        refine ⟨hset.os.trans (bg4.get.os.trans (bg3.get.os.trans bbel.get.os)), hset.tape.trans (bg4.get.tape.trans (bg3.get.tape.trans bbel.get.tape)), hset.output.trans (bg4.get.output.trans (bg3.get.output.trans bbel.get.output)), ?_, fun k hk => ?_⟩
        · have h1 := hset.size; have h2 := bg4.get.size; have h3 := bws.get; simp at h2; omega
        · rw [hset.block k (by have h2 := bg4.get.size; have h3 := bws.get; simp at h2; omega) (by simp; omega), bg4.get.block k (by have h3 := bws.get; simp; omega) (fun e => by have := (brow3.get.lt k e.symm).1; omega), alloc_old _ _ _ (by have h3 := bws.get; omega),
            bg3.get.block k (by omega) (by simp; omega)]
          exact bbel.get.block k hk⟩
      have bownS : Box _ := ⟨bown4.get.kept hset (.inr (by simp only [Value.ownBlock, ne_eq, Option.some.injEq]; exact hnep))⟩
      clear hset hrg4
      go_wp2
      go_roundw
      case rel =>
        exact ⟨_, cnt3, ks ++ [x], p4, m4, brg4.get, by have := blt3.get; have := bcs.get; simp; omega, by rw [heap_setCell_row bob4.get]; simp only [List.length_append, List.length_singleton]; rfl, by simpa using bownS.get, bC.get.step blk.get, bbel4.get⟩
      case measure => rw [brg4.get.left_eq, brg.get.left_eq]; exact blt3.get
end Go.Proofs.YtpknjenihcfhlaaDoor
