/-
  Texts of the names: the two laws. Conditions: none.
-/
import Derived.Test.YtbogepbfbplndaaDoorN7
namespace Go.Proofs.YtbogepbfbplndaaDoor.Nm
open Go.RowKit (Below)
open Kz

set_option maxRecDepth 8000 in
set_option maxHeartbeats 2000000 in
theorem inc_law (l : List UInt8) (w : World) (ht : Tab w) :
    Calls Tryd.prog 3 #[.string ⟨l.toArray⟩] w fun e w' => e = .returned (.bool true) ∧ Below w.heap.size w w' := by
  have hsz : (⟨l.toArray⟩ : ByteArray).size = l.length := by simp [ByteArray.size]
  go_enter Tryd.func3, Tryd.ntmps3
  by_cases hbig : (2147483647 : Int) < (l.length : Int)
  · go_wp2
    go_ret
    exact ⟨rfl, Below.refl _ _⟩
  · go_wp2_with fail
    refine (plain_is l w (by omega)).mono ?_
    rintro e w1 ⟨rfl, b1⟩
    have B1 := Lib.hid b1
    clear b1
    cases hp : isPlain l with
    | false =>
      go_wp2
      go_ret
      exact ⟨rfl, B1.out⟩
    | true =>
      simp only [isPlain, Bool.and_eq_true, decide_eq_true_eq, List.all_eq_true] at hp
      obtain ⟨⟨h200, -⟩, h127⟩ := hp
      have hlow : Low l := fun b hb => by have := h127 b hb; omega
      have hs : l.length ≤ 1000000 := by omega
      obtain ⟨T, hT⟩ : ∃ T, norm l = T := ⟨_, rfl⟩
      have hT2 : Lib.trimSpace (small l) = T := by rw [← norm_small, hT]
      clear h127 h200
      have T1 := ht.up B1.out
      go_wp2_with fail
      refine (inc_got l T hT w1 hs hlow T1).mono ?_
      rintro e w2 ⟨g1, b2⟩
      have T2 := T1.up b2
      have B2 := Lib.hid (up B1.out b2)
      clear b2
      obtain ⟨n1, o1, rfl, hn1⟩ := g1.parts
      obtain ⟨c1, c2, c3⟩ := bytes_new w2 l hs
      have T3 := T2.up c3
      have B3 := Lib.hid (up B2.out c3)
      have C2 := Lib.hid c2
      clear c2 c3
      go_wp2_with fail
      refine (inc_of l T hT _ _ C2.out hs hlow T3).mono ?_
      rintro e w4 ⟨g2, b4⟩
      have B4 := Lib.hid (up B3.out b4)
      clear b4
      obtain ⟨n2, o2, rfl, hn2⟩ := g2.parts
      go_wp2_with fail
      refine (inc_list w4).mono ?_
      rintro e w5 ⟨v5, rfl, l5, b5⟩
      have B5 := Lib.hid (up B4.out b5)
      clear b5
      go_wp2_with fail
      refine (agrees_is incRows l T hT2 v5 w5 l5 (by decide) (by decide) hs n1 o1 hn1).mono ?_
      rintro e w6 ⟨rfl, b6⟩
      have B6 := Lib.hid (up B5.out b6)
      clear b6
      go_wp2_with fail
      refine (inc_list w6).mono ?_
      rintro e w7 ⟨v7, rfl, l7, b7⟩
      have B7 := Lib.hid (up B6.out b7)
      clear b7
      go_wp2_with fail
      refine (agrees_is incRows l T hT2 v7 w7 l7 (by decide) (by decide) hs n2 o2 hn2).mono ?_
      rintro e w8 ⟨rfl, b8⟩
      have B8 := Lib.hid (up B7.out b8)
      clear b8
      go_wp2
      go_ret
      exact ⟨rfl, B8.out⟩

theorem rowOf_mem {n : Int} {t : List UInt8} : ∀ {l : List (Int × List UInt8)}, rowOf n l = some t → (n, t) ∈ l
  | [], h => by simp [rowOf] at h
  | r :: l, h => by
    rw [rowOf] at h
    split at h
    · rename_i e
      obtain rfl := Option.some.inj h
      subst e
      simp
    · exact List.mem_cons_of_mem _ (rowOf_mem h)
theorem acl_facts : ∀ r ∈ aclRows, findOf (norm r.2) aclRows = some r.1 ∧ r.2.length ≤ 1000000 ∧ (∀ b ∈ r.2, b.toNat < 128) := by decide +kernel

set_option maxRecDepth 8000 in
set_option maxHeartbeats 2000000 in
theorem acl_law (n : Int) (h1 : -128 ≤ n) (h2 : n ≤ 127) (w : World) (ht : Tab w) :
    Calls Tryd.prog 4 #[.int .i8 n] w fun e w' => e = .returned (.bool true) ∧ Below w.heap.size w w' := by
  have e2 : IntKind.i64.wrap n = n := by rw [IntKind.wrap_i64]; omega
  go_enter Tryd.func4, Tryd.ntmps4
  go_wp2_with fail
  refine (acl_list w).mono ?_
  rintro e w1 ⟨v1, rfl, l1, b1⟩
  have B1 := Lib.hid b1
  have T1 := ht.up b1
  clear b1
  go_wp2_with fail
  refine (word_is aclRows n v1 w1 l1 (by decide)).mono ?_
  rintro e w2 ⟨rfl, b2⟩
  have B2 := Lib.hid (up B1.out b2)
  have T2 := T1.up b2
  clear b2
  cases hr : rowOf n aclRows with
  | none =>
    go_wp2
    go_ret
    exact ⟨rfl, B2.out⟩
  | some t =>
    have hm := rowOf_mem hr
    obtain ⟨f1, f2, f3⟩ := acl_facts _ hm
    simp only at f1 f2 f3
    clear hr
    have F3 : Low t := f3
    clear f3
    go_wp2_with fail
    refine (acl_text n t hm f2 w2).mono ?_
    rintro e w3 ⟨v3, rfl, hb3, b3⟩
    have B3 := Lib.hid (up B2.out b3)
    have T3 := T2.up b3
    have H3 := Lib.hid hb3
    clear b3 hb3
    go_wp2_with fail
    refine (acl_str n t hm w3).mono ?_
    rintro e w4 ⟨rfl, rfl⟩
    have hc := conv_string H3.out 26 9 rfl rfl
    go_wp2_with fail
    refine (acl_got t (norm t) rfl w4 f2 F3 T3).mono ?_
    rintro e w5 ⟨g1, b5⟩
    have B5 := Lib.hid (up B3.out b5)
    have T5 := T3.up b5
    have H5 := Lib.hid (bytes_up H3.out b5)
    clear b5 hc
    rw [f1] at g1
    obtain rfl := g1
    go_wp2_with fail
    refine (acl_of t (norm t) rfl w5 v3 H5.out f2 F3 T5).mono ?_
    rintro e w6 ⟨g2, b6⟩
    have B6 := Lib.hid (up B5.out b6)
    clear b6
    rw [f1] at g2
    obtain rfl := g2
    go_wp2
    go_ret
    exact ⟨rfl, B6.out⟩
end Go.Proofs.YtbogepbfbplndaaDoor.Nm
