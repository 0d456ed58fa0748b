/-
  Texts of the names: the package's small texts; the rows of names. Conditions: none.
-/
import Derived.Test.YtbogepbfbplndaaDoorN2
namespace Go.Proofs.YtbogepbfbplndaaDoor.Nm
open Go.RowKit (Below)
open Kz

/-- The table of blanks, as it stands. -/
def Tab (w : World) : Prop := Lib.TabIs Tryd.prog w "strings.asciiSpace" .u8 Lib.asciiSpaceTab
theorem Tab.up {w w' : World} (h : Tab w) (hb : Below w.heap.size w w') : Tab w' := by
  unfold Tab Lib.TabIs World.var? at *
  cases hg : Tryd.prog.globalNamed "strings.asciiSpace" with
  | none => simp [hg] at h
  | some g =>
    simp only [hg, Option.bind_some] at h ⊢
    have hlt : g < w.heap.size := by
      rcases Nat.lt_or_ge g w.heap.size with h' | h'
      · exact h'
      · rw [Array.getElem?_eq_none h'] at h; simp at h
    rw [hb.block g hlt]
    exact h
theorem up {w a b : World} (h : Below w.heap.size w a) (k : Below a.heap.size a b) : Below w.heap.size w b :=
  ⟨k.os.trans h.os, k.tape.trans h.tape, k.output.trans h.output, Nat.le_trans h.size k.size, fun i hi => (k.block i (Nat.lt_of_lt_of_le hi h.size)).trans (h.block i hi)⟩
def Low (l : List UInt8) : Prop := ∀ b ∈ l, b.toNat < 128
/-- What the package makes of a text. -/
def norm (l : List UInt8) : List UInt8 := Lib.toLowerA (Lib.trimSpace (((l.filter (· != 46)).filter (· != 95)).filter (· != 45)))
theorem trim_sub (l : List UInt8) : (Lib.trimSpace l).Sublist l := by
  rw [Lib.trimSpace]
  have h1 := (List.dropWhile_sublist (p := Lib.isSp) (l := l))
  have h2 := (List.dropWhile_sublist (p := Lib.isSp) (l := (l.dropWhile Lib.isSp).reverse))
  exact ((List.reverse_sublist.2 h2).trans (by rw [List.reverse_reverse]; exact h1))

set_option maxHeartbeats 1000000 in
theorem norm_is (l : List UInt8) (w : World) (hs : l.length ≤ 1000000) (hl : Low l) (ht : Tab w) :
    Calls Tryd.prog 46 #[.string ⟨l.toArray⟩] w fun e w' => e = .returned (.string ⟨(norm l).toArray⟩) ∧ Below w.heap.size w w' := by
  go_enter Tryd.func46, Tryd.ntmps46
  go_wp2_with fail
  refine (replace_is l 46 _ hs).mono ?_
  rintro e w1 ⟨rfl, b1⟩
  have s1 := List.length_filter_le (· != 46) l
  generalize h1 : l.filter (· != 46) = l1 at *
  go_wp2_with fail
  refine (replace_is l1 95 _ (by omega)).mono ?_
  rintro e w2 ⟨rfl, b2⟩
  have s2 := List.length_filter_le (· != 95) l1
  generalize h2 : l1.filter (· != 95) = l2 at *
  go_wp2_with fail
  refine (replace_is l2 45 _ (by omega)).mono ?_
  rintro e w3 ⟨rfl, b3⟩
  have s3 := List.length_filter_le (· != 45) l2
  generalize h3 : l2.filter (· != 45) = l3 at *
  go_wp2_with fail
  have g3 : Low l3 := fun b hb => hl b (by
    rw [← h3] at hb
    have hb := (List.mem_filter.1 hb).1
    rw [← h2] at hb
    have hb := (List.mem_filter.1 hb).1
    rw [← h1] at hb
    exact (List.mem_filter.1 hb).1)
  have c4 := Tryd.strings_TrimSpace ⟨l3.toArray⟩ w3 (by simp [ByteArray.size]; omega) (fun j b hb => g3 b (List.mem_of_getElem? hb)) (((ht.up b1).up b2).up b3)
  change Calls _ _ _ _ (fun e w' => e = .returned (.string ⟨(Lib.trimSpace l3).toArray⟩) ∧ _) at c4
  have s4 := (trim_sub l3).length_le
  have g4 : Low (Lib.trimSpace l3) := fun b hb => g3 b ((trim_sub l3).subset hb)
  have e4 : norm l = Lib.toLowerA (Lib.trimSpace l3) := by rw [norm, h1, h2, h3]
  generalize h4 : Lib.trimSpace l3 = l4 at *
  refine c4.mono ?_
  clear c4
  rintro e w4 ⟨rfl, b4⟩
  replace b4 : Below w3.heap.size w3 w4 := by
    rw [b4]
    exact Go.Joins.below_bytesWorld _ _ _ _ (Nat.le_refl _)
  go_wp2_with fail
  refine (Tryd.strings_ToLower_ascii ⟨l4.toArray⟩ _ (by simp [ByteArray.size]; omega) (fun j b hb => g4 b (List.mem_of_getElem? hb))).mono ?_
  rintro e w5 ⟨rfl, b5⟩
  go_wp2
  go_ret
  exact ⟨by rw [e4]; rfl, up (up (up (up b1 b2) b3) b4) b5⟩

/-- Rows of names, as a slice holds them. -/
def NL (w : World) (v : Value) (rows : List (Int × List UInt8)) : Prop := ∃ g, v = .slice (some ⟨g, 0, none⟩) rows.length rows.length ∧ g < w.heap.size ∧
  ∀ (i : Nat) r, rows[i]? = some r → w.cell? ⟨g, i * 2, none⟩ = some (.int .i64 r.1) ∧ w.cell? ⟨g, i * 2 + 1, none⟩ = some (.string ⟨r.2.toArray⟩)
/-- The first row of a number. -/
def rowOf (n : Int) : List (Int × List UInt8) → Option (List UInt8)
  | [] => none
  | r :: l => if r.1 = n then some r.2 else rowOf n l
theorem rowOf_none {n : Int} {l : List (Int × List UInt8)} (h : ∀ (j : Nat) r, j < l.length → l[j]? = some r → r.1 ≠ n) : rowOf n l = none := by
  induction l with
  | nil => rfl
  | cons x l ih => rw [rowOf, if_neg (h 0 x (by simp) rfl), ih fun j r hj hr => h (j + 1) r (by simp; omega) (by simpa using hr)]
theorem rowOf_some {n : Int} {l : List (Int × List UInt8)} {k : Nat} {r : Int × List UInt8} (h : ∀ (j : Nat) r, j < k → l[j]? = some r → r.1 ≠ n) (hk : l[k]? = some r) (hr : r.1 = n) : rowOf n l = some r.2 := by
  induction l generalizing k with
  | nil => simp at hk
  | cons x l ih =>
    cases k with
    | zero => simp at hk; subst hk; rw [rowOf, if_pos hr]
    | succ k => rw [rowOf, if_neg (h 0 x (by omega) rfl), ih (k := k) (fun j r hj hr => h (j + 1) r (by omega) (by simpa using hr)) (by simpa using hk)]

set_option maxRecDepth 8000 in
set_option maxHeartbeats 1000000 in
theorem word_is (rows : List (Int × List UInt8)) (n : Int) (v : Value) (w : World) (h : NL w v rows) (hl : rows.length ≤ 1000000) :
    Calls Tryd.prog 12 #[v, .int .i64 n] w fun e w' => e = .returned (.tuple #[.string ⟨((rowOf n rows).getD []).toArray⟩, .bool (rowOf n rows).isSome]) ∧ Below w.heap.size w w' := by
  obtain ⟨g, rfl, hg, hc⟩ := h
  go_enter Tryd.func12, Tryd.ntmps12
  go_wp2
  go_loopw [7, 10] (fun _ i wr => ∃ j : Nat, i = .int .i64 (j : Int) ∧ j ≤ rows.length ∧ (∀ (k : Nat) r, k < j → rows[k]? = some r → r.1 ≠ n) ∧ Below w.heap.size w wr) (fun _ i _ => rows.length - (intOf i).toNat)
  case atStart => exact ⟨0, rfl, by omega, fun _ _ h => absurd h (by omega), Below.refl _ _⟩
  case round =>
    obtain ⟨j, rfl, hj, hall, hbel⟩ := hrel
    have H1 := Lib.hid hall
    have H2 := Lib.hid hbel
    by_cases hlt : j < rows.length
    · have q1 : (j : Int) < (rows.length : Int) := by omega
      obtain ⟨c0, c1⟩ := hc j _ (List.getElem?_eq_getElem hlt)
      rw [← (bcell hbel).1 _ _ hg] at c0 c1
      have HR := Lib.hid (List.getElem?_eq_getElem hlt)
      have HC := Lib.hid hc
      clear hc hall hbel
      generalize hr : rows[j] = r at *
      obtain ⟨m, t⟩ := r
      clear hr
      simp only at c0 c1
      by_cases hm : m = n
      · subst hm
        go_wp2
        go_ret2
        exact ⟨by rw [rowOf_some H1.out HR.out rfl]; rfl, H2.out.alloc H2.out.size _⟩
      · go_wp2
        refine ⟨⟨j + 1, rfl, by omega, fun k r hk hr => ?_, H2.out.alloc H2.out.size _⟩, by simp only [intOf]; omega⟩
        by_cases e : k = j
        · subst e
          rw [HR.out] at hr
          obtain rfl := Option.some.inj hr
          exact hm
        · exact H1.out k r (by omega) hr
    · have q1 : ¬ ((j : Int) < (rows.length : Int)) := by omega
      clear hc hall hbel
      go_wp2
      go_ret2
      exact ⟨by rw [rowOf_none fun k r hk hr => H1.out k r (by omega) hr]; rfl, H2.out⟩

theorem below_low {B C : Nat} {w w' : World} (h : Below B w w') (hc : C ≤ B) : Below C w w' := ⟨h.os, h.tape, h.output, h.size, fun k hk => h.block k (by omega)⟩
theorem below_from {a wr w1 w2 : World} {o : Obj} (h : a.heap.size ≤ wr.heap.size) (b1 : Below (wr.alloc o).heap.size (wr.alloc o) w1) (b2 : Below w1.heap.size w1 w2) : Below a.heap.size wr w2 :=
  ((Below.refl _ _).alloc h o).trans ((below_low b1 (by simp; omega)).trans (below_low b2 (Nat.le_trans h (Nat.le_trans (by simp) b1.size))))
/-- The first row whose name is a text's. -/
def findOf (s : List UInt8) : List (Int × List UInt8) → Option Int
  | [] => none
  | r :: l => if Lib.trimSpace (small r.2) = s then some r.1 else findOf s l
theorem findOf_none {s : List UInt8} {l : List (Int × List UInt8)} (h : ∀ (j : Nat) r, j < l.length → l[j]? = some r → Lib.trimSpace (small r.2) ≠ s) : findOf s l = none := by
  induction l with
  | nil => rfl
  | cons x l ih => rw [findOf, if_neg (h 0 x (by simp) rfl), ih fun j r hj hr => h (j + 1) r (by simp; omega) (by simpa using hr)]
theorem findOf_some {s : List UInt8} {l : List (Int × List UInt8)} {k : Nat} {r : Int × List UInt8} (h : ∀ (j : Nat) r, j < k → l[j]? = some r → Lib.trimSpace (small r.2) ≠ s) (hk : l[k]? = some r) (hr : Lib.trimSpace (small r.2) = s) : findOf s l = some r.1 := by
  induction l generalizing k with
  | nil => simp at hk
  | cons x l ih =>
    cases k with
    | zero => simp at hk; subst hk; rw [findOf, if_pos hr]
    | succ k => rw [findOf, if_neg (h 0 x (by omega) rfl), ih (k := k) (fun j r hj hr => h (j + 1) r (by omega) (by simpa using hr)) (by simpa using hk)]

set_option maxRecDepth 8000 in
set_option maxHeartbeats 1000000 in
theorem parsed_is (rows : List (Int × List UInt8)) (s T : List UInt8) (hT : Lib.trimSpace (small s) = T) (v : Value) (w : World) (h : NL w v rows) (hl : rows.length ≤ 1000000) (hr : ∀ r ∈ rows, r.2.length ≤ 1000000) (hs : s.length ≤ 1000000) :
    Calls Tryd.prog 28 #[v, .string ⟨s.toArray⟩] w fun e w' => e = .returned (.tuple #[.int .i64 ((findOf T rows).getD 0), .bool (findOf T rows).isSome]) ∧ Below w.heap.size w w' := by
  obtain ⟨g, rfl, hg, hc⟩ := h
  go_enter Tryd.func28, Tryd.ntmps28
  go_wp2
  go_loopw [7, 10] (fun _ i wr => ∃ j : Nat, i = .int .i64 (j : Int) ∧ j ≤ rows.length ∧ (∀ (k : Nat) r, k < j → rows[k]? = some r → Lib.trimSpace (small r.2) ≠ T) ∧ Below w.heap.size w wr) (fun _ i _ => rows.length - (intOf i).toNat)
  case atStart => exact ⟨0, rfl, by omega, fun _ _ h => absurd h (by omega), Below.refl _ _⟩
  case round =>
    obtain ⟨j, rfl, hj, hall, hbel⟩ := hrel
    have H1 := Lib.hid hall
    have H2 := Lib.hid hbel
    by_cases hlt : j < rows.length
    · have q1 : (j : Int) < (rows.length : Int) := by omega
      obtain ⟨c0, c1⟩ := hc j _ (List.getElem?_eq_getElem hlt)
      rw [← (bcell hbel).1 _ _ hg] at c0 c1
      have HR := Lib.hid (List.getElem?_eq_getElem hlt)
      have hlr := hr _ (List.getElem_mem hlt)
      have HC := Lib.hid hc
      have HL := Lib.hid hr
      clear hc hall hbel hr
      generalize hr : rows[j] = r at *
      obtain ⟨m, t⟩ := r
      clear hr
      simp only at c0 c1 hlr
      go_wp2_with fail
      refine (normal_is t _ hlr).mono ?_
      rintro e w1 ⟨rfl, b1⟩
      generalize h1 : Lib.trimSpace (small t) = t1 at *
      go_wp2_with fail
      have cn := normal_is s w1 hs
      rw [hT] at cn
      refine cn.mono ?_
      clear cn
      rintro e w2 ⟨rfl, b2⟩
      have B := Lib.hid (H2.out.trans (below_from H2.out.size b1 b2))
      have z0 : w2.cell? ⟨wr.heap.size, 0, none⟩ = some (.int .i64 m) := by
        rw [(bcell b2).1 _ _ (Nat.lt_of_lt_of_le (by simp) b1.size), (bcell b1).1 _ _ (by simp)]
        simp
      clear b1 b2
      by_cases he : t1 = T
      · have hf := findOf_some H1.out HR.out (h1.trans he)
        have h9 : (t1 == T) = true := by rw [he]; simp
        clear H1
        go_wp2
        go_ret2
        exact ⟨by rw [hf]; rfl, B.out⟩
      · have H3 : RowKit.Hid (∀ (k : Nat) r, k < j + 1 → rows[k]? = some r → Lib.trimSpace (small r.2) ≠ T) := Lib.hid fun k r hk hr => by
          by_cases e : k = j
          · subst e
            rw [HR.out] at hr
            obtain rfl := Option.some.inj hr
            rw [h1]
            exact he
          · exact H1.out k r (by omega) hr
        have h9 : (t1 == T) = false := by simp [he]
        go_wp2
        exact ⟨⟨j + 1, rfl, by omega, H3.out, B.out⟩, by simp only [intOf]; omega⟩
    · have q1 : ¬ ((j : Int) < (rows.length : Int)) := by omega
      clear hc hall hbel
      go_wp2
      go_ret2
      exact ⟨by rw [findOf_none fun k r hk hr => H1.out k r (by omega) hr]; rfl, H2.out⟩
end Go.Proofs.YtbogepbfbplndaaDoor.Nm
