/-
  Records: the thin package tells a header. Conditions: none.
-/
import Derived.Test.YthdfhnnoamlacaaDoorQd
import Derived.Deep.RegionHeld3
namespace Go.Proofs.YthdfhnnoamlacaaDoor.Rec
open Go.Proofs.YthdfhnnoamlacaaDoor
open Go.RowKit (Below wrap64 wrap32)
open Kz

/-- What the package reads. -/
def pHead (bs : List UInt8) : (List UInt8 × Option (List UInt8)) × St :=
  (((rdVB (some bs)).1.getD [], (rdVB (rdVB (some bs)).2).1), (rdVB (rdVB (some bs)).2).2)
theorem kmsg_Header_Default_is (w : World) (v : Value) : Calls Tryd.prog 41 #[v] w fun e w' => e = .returned (.tuple #[]) ∧ w' = w := by
  go_enter Tryd.func41, Tryd.ntmps41
  go_wp2
  go_end0
  exact ⟨rfl, rfl⟩
set_option maxRecDepth 8000 in
theorem hreadFrom_any (w : World) (S : Nat → Prop) (B : Nat) (p : Option Addr) (c : Nat) (bs : List UInt8) (hB : w.heap[B]? = some (.cells #[.string ⟨#[]⟩, .slice none 0 0] 48 (0, 0))) (h : BytesAt w S (.slice p bs.length c) bs) (hSB : ¬ S B) (hS : ∀ g, S g → g < w.heap.size) (he : ErrOk w) (hBe : B ≠ 0) :
    Calls Tryd.prog 26 #[.pointer (some ⟨B, 0, none⟩), .slice p bs.length c, .bool false] w fun e w' => ∃ u v, e = .returned u ∧ ErrV (pHead bs).2 u ∧ w.grownBy w' (some B) ∧ w'.heap[B]? = some (.cells #[strV (pHead bs).1.1, v] 48 (0, 0)) ∧ NilOr w' S v (pHead bs).2.isSome (pHead bs).1.2 := by
  have hBl : B < w.heap.size := (Array.getElem?_eq_some_iff.1 hB).1
  have hr0 : RdIs (w.alloc (.cells #[.slice p bs.length c, .bool false] 99)) S w.heap.size (some bs) :=
    ⟨fun h => by have := hS _ h; omega, .slice p bs.length c, (by show (w.heap.push _)[w.heap.size]? = _; exact Array.getElem?_push_size), h.kept (grown_alloc w _ none) (by simp)⟩
  have HS := Lib.hid (VarintString_any _ S w.heap.size (some bs) hr0)
  have HB := Lib.hid hB
  have HE := Lib.hid he
  unfold pHead
  generalize rdVB (some bs) = r at *
  obtain ⟨k, s1⟩ := r
  have HV := Lib.hid (fun w h => VarintBytes_any w S h s1)
  generalize rdVB s1 = r at *
  obtain ⟨x, s2⟩ := r
  simp only at HS HV ⊢
  clear h hr0 hB he
  go_enter Tryd.func26, Tryd.ntmps26
  go_wp2_with fail
  refine (kmsg_Header_Default_is _ _).mono ?_
  rintro e w' ⟨rfl, hw⟩
  have hw := hw.symm
  subst hw
  go_wp2_with fail
  refine HS.out.mono ?_
  rintro e w1 ⟨rfl, h1, g1⟩
  have hB1 : w1.heap[B]? = some (.cells #[.string ⟨#[]⟩, .slice none 0 0] 48 (0, 0)) := by
    rw [g1.block B (Nat.lt_of_lt_of_le hBl (grown_alloc w _ none).size) (fun e => by have := Option.some.inj e; omega), (grown_alloc w _ none).block B hBl (by simp)]
    exact HB.out
  have c10 : w1.cell? ⟨B, 0, none⟩ = some (.string ⟨#[]⟩) := by rw [cell_of_row w1 _ _ _ _ _ hB1]; rfl
  have f10 : w1.frozen? ⟨B, 0, none⟩ = false := by simp [World.frozen?, hB1]
  have HB1 := Lib.hid hB1
  have H1 := Lib.hid h1
  have HG1 := Lib.hid (grown_sub (grown_alloc w _ none) g1 (Nat.le_refl _))
  clear h1 g1 hB1 HS
  unfold strV
  go_wp2_with fail
  have gs : w1.grownBy (w1.setCell ⟨B, 0, none⟩ (.string ⟨(k.getD []).toArray⟩)) (some B) := grown_setCell (grownBy_refl _ _) 0 _
  have hk : ∀ g, S g → some g ≠ some B := fun g hg e => hSB (by rw [← Option.some.inj e]; exact hg)
  refine (HV.out _ _ (H1.out.kept gs hk (fun e => by have := Option.some.inj e; omega))).mono ?_
  rintro e w2 ⟨v, rfl, hv, h2, g2⟩
  obtain ⟨ad2, k2, rfl⟩ := bytes_len hv.bytes
  have hB2 : w2.heap[B]? = some (.cells #[.string ⟨(k.getD []).toArray⟩, .slice none 0 0] 48 (0, 0)) := by
    rw [g2.block B (by have := HG1.out.size; have := gs.size; omega) (fun e => by have := Option.some.inj e; omega), heap_setCell_row HB1.out]
    rfl
  have c20 : w2.cell? ⟨B, 1, none⟩ = some (.slice none 0 0) := by rw [cell_of_row w2 _ _ _ _ _ hB2]; rfl
  have f20 : w2.frozen? ⟨B, 1, none⟩ = false := by simp [World.frozen?, hB2]
  have g12 : w.grownBy w2 (some B) := by
    have z := HG1.out
    have y := gs
    refine ⟨g2.os.trans (y.os.trans z.os), g2.tape.trans (y.tape.trans z.tape), g2.output.trans (y.output.trans z.output), Nat.le_trans z.size (Nat.le_trans y.size g2.size), fun j hj hr => ?_⟩
    rw [g2.block j (Nat.lt_of_lt_of_le hj (Nat.le_trans z.size y.size)) (fun e => by have := Option.some.inj e; omega), y.block j (Nat.lt_of_lt_of_le hj z.size) hr]
    exact z.block j hj (by simp)
  have gs2 : ∀ u, w2.grownBy (w2.setCell ⟨B, 1, none⟩ u) (some B) := fun u => grown_setCell (grownBy_refl _ _) 1 _
  have HC := Lib.hid (fun u => Complete_any (w2.setCell ⟨B, 1, none⟩ u) S w.heap.size s2 (h2.kept (gs2 u) hk (fun e => by have := Option.some.inj e; omega)) ((HE.out.kept (grownBy_trans g12 (gs2 u)) (fun e => hBe (Option.some.inj e)))))
  have HN := Lib.hid hv
  have HB2 := Lib.hid hB2
  have HG2 := Lib.hid g12
  clear hB2 gs g2 g12 hv h2 HV
  go_wp2_with fail
  refine (HC.out _).mono ?_
  rintro e w3 ⟨u, rfl, hu, hw3⟩
  subst hw3
  have HU := Lib.hid hu
  clear hu HC
  go_wp2
  go_ret
  refine ⟨_, _, rfl, HU.out, grownBy_trans HG2.out (gs2 _), ?_, HN.out.kept (gs2 _) hk⟩
  rw [heap_setCell_row HB2.out]
  rfl
theorem hReadFrom_any (w : World) (S : Nat → Prop) (B : Nat) (p : Option Addr) (c : Nat) (bs : List UInt8) (hB : w.heap[B]? = some (.cells #[.string ⟨#[]⟩, .slice none 0 0] 48 (0, 0))) (h : BytesAt w S (.slice p bs.length c) bs) (hSB : ¬ S B) (hS : ∀ g, S g → g < w.heap.size) (he : ErrOk w) (hBe : B ≠ 0) :
    Calls Tryd.prog 13 #[.pointer (some ⟨B, 0, none⟩), .slice p bs.length c] w fun e w' => ∃ u v, e = .returned u ∧ ErrV (pHead bs).2 u ∧ w.grownBy w' (some B) ∧ w'.heap[B]? = some (.cells #[strV (pHead bs).1.1, v] 48 (0, 0)) ∧ NilOr w' S v (pHead bs).2.isSome (pHead bs).1.2 := by
  have HH := Lib.hid (hreadFrom_any w S B p c bs hB h hSB hS he hBe)
  clear hB h he
  go_enter Tryd.func13, Tryd.ntmps13
  go_wp2_with fail
  refine HH.out.mono ?_
  rintro e w1 ⟨u, v, rfl, hr⟩
  have HR := Lib.hid hr
  clear hr
  go_wp2
  go_ret
  exact ⟨_, _, rfl, HR.out⟩
/-- New memory of the same octets. -/
theorem own_any (w : World) (S : Nat → Prop) (v : Value) (bs : List UInt8) (h : BytesAt w S v bs) (hl : bs.length < 4294967296) : Calls Tryd.prog 14 #[v] w fun e w' =>
    ∃ u, e = .returned u ∧ OwnB w' w.heap.size u bs ∧ Below w.heap.size w w' := by
  obtain ⟨p, c, rfl⟩ := bytes_len h
  have HB := Lib.hid h
  clear h
  go_enter Tryd.func14, Tryd.ntmps14
  go_wp2_with (at_builtin; refine wpList_append_octets rfl _ _ rfl w.heap.size _ _ [] bs S rfl rfl (OwnB.nil _ _) HB.out ?_ (Nat.le_refl _) ?_)
  · simp [lim]; omega
  intro v1 w1 ho hg
  have HO := Lib.hid ho
  have hg : w.grownBy w1 none := hg
  have HG := Lib.hid hg
  clear ho hg
  go_wp2
  go_ret
  exact ⟨_, rfl, HO.out, grown_below HG.out⟩
theorem size_alloc (w : World) (o : Obj) : (w.alloc o).heap.size = w.heap.size + 1 := Array.size_push _
theorem own_made2 (w : World) (o : Obj) : OwnB ((w.alloc o).alloc (.cells #[] 5)) (w.heap.size + 1) (.slice (some ⟨w.heap.size + 1, 0, none⟩) 0 0) [] := by
  have := World.ownsRow_made (base := w.heap.size + 1) (e := 5) (size := 1) (w.alloc o) #[] 0 (by rw [size_alloc]; exact Nat.le_refl _) (by decide) rfl
  rw [size_alloc] at this
  exact this
theorem octs_any (w : World) (S : Nat → Prop) (v : Value) (x : Option (List UInt8)) (h : NilOr w S v true x) (hl : (x.getD []).length < 4294967296) : Calls Tryd.prog 15 #[v] w fun e w' =>
    ∃ u, e = .returned (.agg #[.bool x.isNone, u]) ∧ BytesAt w' (fun g => w.heap.size ≤ g) u (x.getD []) ∧ Below w.heap.size w w' := by
  cases x with
  | none =>
    have h : v = .slice none 0 0 := h
    subst h
    have qS : ∀ (w : World) (a : Option Addr) (n c : Nat), (binOp .eql 22 (.slice a n c) (.slice none 0 0)).run Tryd.prog w = .ok (.bool a.isNone) w := fun w a n c => Go.Lib.run_eql_slice_nil w _ _ a n c 0 0 Tryd.underlying22
    go_enter Tryd.func15, Tryd.ntmps15
    go_wp2
    refine bodyPost_ret (v := .agg #[.bool true, .slice none 0 0]) (by simp [results, Tryd.results15, go_sem]) rfl ?_
    exact ⟨_, rfl, .inl ⟨rfl, rfl⟩, (Below.refl _ _).alloc (Nat.le_refl _) _⟩
  | some bs =>
    obtain ⟨hb, hn⟩ := h
    obtain ⟨ad, n, c, rfl⟩ := hn rfl
    have HB := Lib.hid hb
    clear hb hn
    have qS : ∀ (w : World) (a : Option Addr) (n c : Nat), (binOp .eql 22 (.slice a n c) (.slice none 0 0)).run Tryd.prog w = .ok (.bool a.isNone) w := fun w a n c => Go.Lib.run_eql_slice_nil w _ _ a n c 0 0 Tryd.underlying22
    go_enter Tryd.func15, Tryd.ntmps15
    go_wp2_with (at_builtin; refine wpList_append_octets rfl _ _ rfl (w.heap.size + 1) _ _ [] bs S rfl rfl (own_made2 _ _) (HB.out.kept (grownBy_trans (grown_alloc _ _ none) (grown_alloc _ _ none)) (by simp)) ?_ (by rw [size_alloc, size_alloc]; omega) ?_)
    · simp [lim]; simp at hl; omega
    intro v1 w1 ho hg
    have hg : ((w.alloc (.cells #[.bool false, .slice none 0 0] 24)).alloc (.cells #[] 5)).grownBy w1 (some (w.heap.size + 1)) := hg
    have hg : w.grownBy w1 none ∧ w1.heap[w.heap.size]? = some (.cells #[.bool false, .slice none 0 0] 24 (0, 0)) := by
      refine ⟨grown_sub (grownBy_trans (grown_alloc _ _ none) (grown_alloc _ _ none)) hg (by omega), ?_⟩
      rw [hg.block w.heap.size (by rw [size_alloc, size_alloc]; omega) (by simp), (grown_alloc _ _ none).block w.heap.size (by rw [size_alloc]; omega) (by simp)]
      show (w.heap.push _)[w.heap.size]? = _
      exact Array.getElem?_push_size
    obtain ⟨hg, hn⟩ := hg
    obtain ⟨ad2, n2, c2, rfl⟩ := own_slice ho
    have n10 : w1.cell? ⟨w.heap.size, 0, none⟩ = some (.bool false) := by rw [cell_of_row w1 _ _ _ _ _ hn]; rfl
    have n11 : w1.cell? ⟨w.heap.size, 1, none⟩ = some (.slice none 0 0) := by rw [cell_of_row w1 _ _ _ _ _ hn]; rfl
    have n20 : w1.frozen? ⟨w.heap.size, 0, none⟩ = false := by simp [World.frozen?, hn]
    have n21 : w1.frozen? ⟨w.heap.size, 1, none⟩ = false := by simp [World.frozen?, hn]
    have HO := Lib.hid ho
    have HG := Lib.hid hg
    clear ho hg hn
    go_wp2
    refine bodyPost_ret (v := .agg #[.bool false, .slice ad2 n2 c2]) (by simp [results, Tryd.results15, go_sem, n10, n11]) rfl ?_
    have gn : ∀ x y, w1.grownBy ((w1.setCell ⟨w.heap.size, 0, none⟩ x).setCell ⟨w.heap.size, 1, none⟩ y) (some w.heap.size) := fun x y => grown_setCell (grown_setCell (grownBy_refl _ _) 0 _) 1 _
    refine ⟨_, rfl, ((own_bytes HO.out).kept (gn _ _) (fun g hg e => ?_)).mono (fun g hg => ?_), grown_below (grown_sub HG.out (gn _ _) (Nat.le_refl _))⟩
    · have := HO.out.base g hg
      have := Option.some.inj e
      omega
    · have := HO.out.base g hg
      omega
theorem uvA_len : ∀ (k : Nat) (bs : List UInt8) (n : Nat) (r : List UInt8), uvA k bs = some (n, r) → r.length ≤ bs.length
  | _, [], _, _, h => by simp [uvA] at h
  | 0, b :: r, n, r', h => by
    simp only [uvA] at h
    split at h
    · simp only [Option.some.injEq, Prod.mk.injEq] at h; obtain ⟨-, rfl⟩ := h; simp
    · cases h
  | k + 1, b :: r, n, r', h => by
    simp only [uvA] at h
    split at h
    · simp only [Option.some.injEq, Prod.mk.injEq] at h; obtain ⟨-, rfl⟩ := h; simp
    · cases hx : uvA k r with
      | none => rw [hx] at h; cases h
      | some y =>
        rw [hx] at h
        simp only [Option.map_some, Option.some.injEq, Prod.mk.injEq] at h
        obtain ⟨-, rfl⟩ := h
        have := uvA_len k r y.1 y.2 (by rw [hx])
        simp; omega
def left (st : St) : Nat := (st.getD []).length
theorem rdV_left (st : St) : left (rdV st).2 ≤ left st := by
  cases st with
  | none => exact Nat.le_refl _
  | some bs =>
    cases h : uvA 4 bs with
    | none => rw [rdV_less bs h]; simp [left]
    | some y => obtain ⟨n, r⟩ := y; rw [rdV_some bs n r h]; exact uvA_len 4 bs _ _ h
theorem rdSpan_left (l : Int) (st : St) : (rdSpan l st).1.length ≤ left st ∧ left (rdSpan l st).2 ≤ left st := by
  cases st with
  | none => simp [rdSpan, left]
  | some bs =>
    unfold rdSpan
    simp only
    split <;> simp [left]
    omega
theorem rdVB_left (st : St) : ((rdVB st).1.getD []).length ≤ left st ∧ left (rdVB st).2 ≤ left st := by
  unfold rdVB
  have h1 := rdV_left st
  have h2 := rdSpan_left (zig (rdV st).1) (rdV st).2
  split
  · exact ⟨by simp, h1⟩
  · exact ⟨by simp only [Option.getD_some]; omega, by simp only; omega⟩
theorem pHead_len (bs : List UInt8) : ((pHead bs).1.2.getD []).length ≤ bs.length := by
  have h1 := rdVB_left (some bs)
  have h2 := rdVB_left (rdVB (some bs)).2
  unfold pHead
  simp only
  have : left (some bs) = bs.length := rfl
  omega
theorem three_keep {w3 : World} {b b' : Nat} {x y z : Value} (hne : b' ≠ b) {cs : Array Value} (h : ∀ j, w3.cell? ⟨b', j, none⟩ = cs[j]?) (j : Nat) : (((w3.setCell ⟨b, 0, none⟩ x).setCell ⟨b, 1, none⟩ y).setCell ⟨b, 2, none⟩ z).cell? ⟨b', j, none⟩ = cs[j]? := by
  rw [World.cell?_setCell_other (h := fun e => hne (congrArg Addr.block e).symm), World.cell?_setCell_other (h := fun e => hne (congrArg Addr.block e).symm), World.cell?_setCell_other (h := fun e => hne (congrArg Addr.block e).symm)]
  exact h j
/-- What the thin package tells. -/
def TellsHead (w : World) (bs : List UInt8) (e : Ending) (w' : World) : Prop :=
  ∃ u, (match (pHead bs).2 with
    | some _ => e = .returned (.tuple #[.agg #[strV (pHead bs).1.1, .bool (pHead bs).1.2.isNone, u], .bool true]) ∧ BytesAt w' (fun _ => True) u ((pHead bs).1.2.getD [])
    | none => e = .returned (.tuple #[.agg #[.string ⟨#[]⟩, .bool false, u], .bool false]) ∧ u = .slice none 0 0) ∧ Below w.heap.size w w'
set_option maxRecDepth 8000 in
theorem TellHeader_any (w : World) (S : Nat → Prop) (v : Value) (bs : List UInt8) (h : BytesAt w S v bs) (hl : bs.length < 4294967296) (he : ErrOk w) : Calls Tryd.prog 6 #[v] w (TellsHead w bs) := by
  obtain ⟨p, c, rfl⟩ := bytes_len h
  have HB := Lib.hid h
  have HE := Lib.hid he
  clear h he
  go_enter Tryd.func6, Tryd.ntmps6
  go_wp2_with fail
  refine (own_any _ S _ bs (HB.out.kept (grownBy_trans (grown_alloc _ _ none) (grown_alloc _ _ none)) (by simp)) hl).mono ?_
  rintro e w1 ⟨v1, rfl, ho, hb1⟩
  rw [size_alloc, size_alloc] at ho
  obtain ⟨g1, r0, r1⟩ : w.grownBy w1 none ∧ w1.heap[w.heap.size]? = some (.cells #[.string ⟨#[]⟩, .bool false, .slice none 0 0] 26 (0, 0)) ∧ w1.heap[w.heap.size + 1]? = some (.cells #[.string ⟨#[]⟩, .slice none 0 0] 48 (0, 0)) := by
    refine ⟨grownBy_trans (grownBy_trans (grown_alloc _ _ none) (grown_alloc _ _ none)) (below_grown hb1 none), ?_, ?_⟩
    · rw [hb1.block w.heap.size (by rw [size_alloc, size_alloc]; omega), (grown_alloc _ _ none).block w.heap.size (by rw [size_alloc]; omega) (by simp)]
      show (w.heap.push _)[w.heap.size]? = _
      exact Array.getElem?_push_size
    · rw [hb1.block (w.heap.size + 1) (by rw [size_alloc, size_alloc]; omega)]
      show ((w.alloc _).heap.push _)[w.heap.size + 1]? = _
      have := Array.getElem?_push_size (xs := (w.alloc (.cells #[.string ⟨#[]⟩, .bool false, .slice none 0 0] 26)).heap) (x := Obj.cells #[.string ⟨#[]⟩, .slice none 0 0] 48 (0, 0))
      rw [size_alloc] at this
      exact this
  obtain ⟨ad1, c1, rfl⟩ := bytes_len (own_bytes ho)
  have hS2 : ∀ g, (Value.slice ad1 bs.length c1).ownBlock = some g → w.heap.size + 2 ≤ g ∧ g < w1.heap.size := fun g hg => World.ownsRow.lt ho g hg
  have HR := Lib.hid (hReadFrom_any w1 _ (w.heap.size + 1) ad1 c1 bs r1 (own_bytes ho) (fun h => by have := hS2 _ h; omega) (fun g hg => (hS2 g hg).2) (HE.out.kept g1 (by simp)) (by omega))
  have HG1 := Lib.hid g1
  have HR0 := Lib.hid r0
  have HS2 := Lib.hid hS2
  clear ho hb1 g1 r0 r1 HB hS2
  go_wp2_with fail
  refine HR.out.mono ?_
  rintro e w2 ⟨u, v, rfl, hu, g2, hB2, hn2⟩
  have s1 : w.heap.size ≤ w1.heap.size := HG1.out.size
  have r0 : w2.heap[w.heap.size]? = some (.cells #[.string ⟨#[]⟩, .bool false, .slice none 0 0] 26 (0, 0)) := by
    rw [g2.block w.heap.size ((Array.getElem?_eq_some_iff.1 HR0.out).1) (by simp)]
    exact HR0.out
  have HG2 := Lib.hid (grown_sub HG1.out g2 (by omega))
  have n10 : w2.cell? ⟨w.heap.size, 0, none⟩ = some (.string ⟨#[]⟩) := by rw [cell_of_row w2 _ _ _ _ _ r0]; rfl
  have n11 : w2.cell? ⟨w.heap.size, 1, none⟩ = some (.bool false) := by rw [cell_of_row w2 _ _ _ _ _ r0]; rfl
  have n12 : w2.cell? ⟨w.heap.size, 2, none⟩ = some (.slice none 0 0) := by rw [cell_of_row w2 _ _ _ _ _ r0]; rfl
  have f1 : ∀ i, w2.frozen? ⟨w.heap.size, i, none⟩ = false := fun i => by simp [World.frozen?, r0]
  have f10 := f1 0
  have f11 := f1 1
  have f12 := f1 2
  have HB2 := Lib.hid hB2
  have HN2 := Lib.hid hn2
  clear r0 f1 g2 hB2 hn2 HR HR0
  obtain ⟨ad2, n2, c2, rfl⟩ : ∃ a n c, v = .slice a n c := by obtain ⟨a, c, h⟩ := bytes_len HN2.out.bytes; exact ⟨a, _, c, h⟩
  have hxl : ((pHead bs).1.2.getD []).length < 4294967296 := Nat.lt_of_le_of_lt (pHead_len bs) hl
  obtain ⟨⟨⟨k, x⟩, s⟩, hr⟩ : ∃ r, pHead bs = r := ⟨_, rfl⟩
  rw [hr] at hu hxl HN2 HB2
  have HRR := Lib.hid hr
  clear hr
  simp only at hu hxl
  cases s with
  | none =>
    obtain ⟨t, y, rfl⟩ := hu
    go_wp2
    refine bodyPost_ret (v := .tuple #[.agg #[.string ⟨#[]⟩, .bool false, .slice none 0 0], .bool false]) (by simp [results, Tryd.results6, go_sem, n10, n11, n12]) rfl ?_
    unfold TellsHead
    rw [HRR.out]
    exact ⟨_, ⟨rfl, rfl⟩, grown_below (grown_new (grown_new (grown_new HG2.out _ _ _ (Nat.le_refl _)) _ _ _ (Nat.le_refl _)) _ _ _ (Nat.le_refl _))⟩
  | some rest =>
    have hu : u = .nilIface := hu
    subst hu
    have y1 : ∀ j, w2.cell? ⟨w.heap.size + 1, j, none⟩ = (#[.string ⟨k.toArray⟩, .slice ad2 n2 c2] : Array Value)[j]? := fun j => by rw [cell_of_row w2 _ _ _ _ _ HB2.out]
    have s2 := HG2.out.size
    have h12 : w.heap.size + 1 < w2.heap.size := (Array.getElem?_eq_some_iff.1 HB2.out).1
    go_wp2
    go_region_held3 (fun w' => ∀ j, w'.cell? ⟨w.heap.size + 1, j, none⟩ = (#[.string ⟨k.toArray⟩, .slice ad2 n2 c2] : Array Value)[j]?) (first | assumption | exact three_keep (by omega) y3) (first
      | (go_at_call 15; refine (octs_any w2.drew _ (.slice ad2 n2 c2) x (show NilOr w2.drew _ (.slice ad2 n2 c2) true x from HN2.out) hxl).mono ?_; rintro e w3 ⟨u3, rfl, hu3, hb3'⟩; have hb3 : Below w2.heap.size w2 w3 := below_undrew hb3'; obtain ⟨ad3, c3, rfl⟩ := bytes_len hu3;
         have y3 := fun j => ((bcell hb3).1 (w.heap.size + 1) j h12).trans (y1 j);
         have h10 : w.heap.size < w2.heap.size := by omega;
         have m10 := ((bcell hb3).1 w.heap.size 0 h10).trans n10; have m11 := ((bcell hb3).1 w.heap.size 1 h10).trans n11; have m12 := ((bcell hb3).1 w.heap.size 2 h10).trans n12;
         have q10 := ((bcell hb3).2 w.heap.size 0 h10).trans f10; have q11 := ((bcell hb3).2 w.heap.size 1 h10).trans f11; have q12 := ((bcell hb3).2 w.heap.size 2 h10).trans f12;
         have HB3 := Lib.hid hb3; have HU3 := Lib.hid hu3; clear hb3' hb3 hu3))
    go_wp2
    refine bodyPost_ret (v := .tuple #[.agg #[.string ⟨k.toArray⟩, .bool x.isNone, .slice ad3 (x.getD []).length c3], .bool true]) (by simp [results, Tryd.results6, go_sem, m10, m11, m12]) rfl ?_
    unfold TellsHead
    rw [HRR.out]
    have g3 : w.grownBy w3 none := grownBy_trans HG2.out (below_grown HB3.out none)
    refine ⟨_, ⟨rfl, ?_⟩, grown_below (grown_new (grown_new (grown_new g3 _ _ _ (Nat.le_refl _)) _ _ _ (Nat.le_refl _)) _ _ _ (Nat.le_refl _))⟩
    exact (HU3.out.kept (row := some w.heap.size) (grown_setCell (grown_setCell (grown_setCell (grownBy_refl _ _) 0 _) 1 _) 2 _) (fun g hg e => by have hg : w2.heap.size ≤ g := hg; have := Option.some.inj e; omega)).mono (fun _ _ => trivial)
end Go.Proofs.YthdfhnnoamlacaaDoor.Rec
