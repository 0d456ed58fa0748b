/-
  Texts of the names: the two types with their names. Conditions: none.
-/
import Derived.Test.YtbogepbfbplndaaDoorN3
namespace Go.Proofs.YtbogepbfbplndaaDoor.Nm
open Go.RowKit (Below)
open Kz

/-- What a parsing returns. -/
def ParseIs : Option Int → Ending → Prop
  | some k, e => e = .returned (.tuple #[.int .i8 k, .nilIface])
  | none, e => ∃ t x, e = .returned (.tuple #[.int .i8 0, .iface t x])
theorem error_is (s : ByteArray) (w : World) : Calls Tryd.prog 47 #[.string s] w fun e w' => (∃ t x, e = .returned (.iface t x)) ∧ Below w.heap.size w w' := by
  go_enter Tryd.func47, Tryd.ntmps47
  go_wp2
  go_ret
  exact ⟨⟨_, _, rfl⟩, (Below.refl _ _).alloc (Nat.le_refl _) _⟩
def incRows : List (Int × List UInt8) := [(0, [83, 69, 84]), (1, [68, 69, 76, 69, 84, 69]), (2, [65, 80, 80, 69, 78, 68]), (3, [83, 85, 66, 84, 82, 65, 67, 84])]
def aclRows : List (Int × List UInt8) := [(1, [65, 78, 89]), (2, [65, 76, 76]), (3, [82, 69, 65, 68]), (4, [87, 82, 73, 84, 69]), (5, [67, 82, 69, 65, 84, 69]), (6, [68, 69, 76, 69, 84, 69]), (7, [65, 76, 84, 69, 82]), (8, [68, 69, 83, 67, 82, 73, 66, 69]), (9, [67, 76, 85, 83, 84, 69, 82, 95, 65, 67, 84, 73, 79, 78]), (10, [68, 69, 83, 67, 82, 73, 66, 69, 95, 67, 79, 78, 70, 73, 71, 83]), (11, [65, 76, 84, 69, 82, 95, 67, 79, 78, 70, 73, 71, 83]), (12, [73, 68, 69, 77, 80, 79, 84, 69, 78, 84, 95, 87, 82, 73, 84, 69]), (13, [67, 82, 69, 65, 84, 69, 95, 84, 79, 75, 69, 78, 83]), (14, [68, 69, 83, 67, 82, 73, 66, 69, 95, 84, 79, 75, 69, 78, 83])]

set_option maxRecDepth 8000 in
set_option maxHeartbeats 1000000 in
theorem inc_list (w : World) : Calls Tryd.prog 11 #[] w fun e w' => ∃ v, e = .returned v ∧ NL w' v incRows ∧ Below w.heap.size w w' := by
  go_enter Tryd.func11, Tryd.ntmps11
  go_wp2
  go_ret
  refine ⟨_, rfl, ⟨w.heap.size, rfl, by simp, ?_⟩, (Below.refl _ _).alloc (Nat.le_refl _) _⟩
  intro i r hi
  have hlt : i < 4 := (List.getElem?_eq_some_iff.1 hi).1
  rcases (by omega : i = 0 ∨ i = 1 ∨ i = 2 ∨ i = 3) with rfl | rfl | rfl | rfl
  all_goals
    obtain rfl := Option.some.inj hi
    constructor <;> simp

set_option maxRecDepth 8000 in
set_option maxHeartbeats 4000000 in
theorem inc_parse (l T : List UInt8) (hT : norm l = T) (w : World) (hs : l.length ≤ 1000000) (hl : Low l) (ht : Tab w) :
    Calls Tryd.prog 26 #[.string ⟨l.toArray⟩] w fun e w' => ParseIs (findOf T incRows) e ∧ Below w.heap.size w w' := by
  go_enter Tryd.func26, Tryd.ntmps26
  go_wp2_with fail
  have cn := norm_is l w hs hl ht
  rw [hT] at cn
  refine cn.mono ?_
  clear cn
  rintro e w1 ⟨rfl, b1⟩
  by_cases h0 : T = [115, 101, 116]
  · subst h0
    have e : findOf [115, 101, 116] incRows = some 0 := by decide +kernel
    go_wp2
    go_ret2
    exact ⟨by rw [e]; rfl, b1⟩
  have g0 : (T == [115, 101, 116]) = false := by simp [h0]
  by_cases h1 : T = [100, 101, 108, 101, 116, 101]
  · subst h1
    have e : findOf [100, 101, 108, 101, 116, 101] incRows = some 1 := by decide +kernel
    go_wp2
    go_ret2
    exact ⟨by rw [e]; rfl, b1⟩
  have g1 : (T == [100, 101, 108, 101, 116, 101]) = false := by simp [h1]
  by_cases h2 : T = [97, 112, 112, 101, 110, 100]
  · subst h2
    have e : findOf [97, 112, 112, 101, 110, 100] incRows = some 2 := by decide +kernel
    go_wp2
    go_ret2
    exact ⟨by rw [e]; rfl, b1⟩
  have g2 : (T == [97, 112, 112, 101, 110, 100]) = false := by simp [h2]
  by_cases h3 : T = [115, 117, 98, 116, 114, 97, 99, 116]
  · subst h3
    have e : findOf [115, 117, 98, 116, 114, 97, 99, 116] incRows = some 3 := by decide +kernel
    go_wp2
    go_ret2
    exact ⟨by rw [e]; rfl, b1⟩
  have g3 : (T == [115, 117, 98, 116, 114, 97, 99, 116]) = false := by simp [h3]
  have e : findOf T incRows = none := by
    simp only [incRows, findOf]
    rw [if_neg (by rw [show Lib.trimSpace (small [83, 69, 84]) = [115, 101, 116] by decide +kernel]; exact fun h => h0 h.symm)]
    rw [if_neg (by rw [show Lib.trimSpace (small [68, 69, 76, 69, 84, 69]) = [100, 101, 108, 101, 116, 101] by decide +kernel]; exact fun h => h1 h.symm)]
    rw [if_neg (by rw [show Lib.trimSpace (small [65, 80, 80, 69, 78, 68]) = [97, 112, 112, 101, 110, 100] by decide +kernel]; exact fun h => h2 h.symm)]
    rw [if_neg (by rw [show Lib.trimSpace (small [83, 85, 66, 84, 82, 65, 67, 84]) = [115, 117, 98, 116, 114, 97, 99, 116] by decide +kernel]; exact fun h => h3 h.symm)]
  go_wp2_with fail
  refine (error_is _ _).mono ?_
  rintro e w2 ⟨⟨t, x, rfl⟩, b2⟩
  go_wp2
  go_ret2
  exact ⟨by rw [e]; exact ⟨_, _, rfl⟩, up b1 b2⟩

set_option maxRecDepth 8000 in
set_option maxHeartbeats 1000000 in
theorem acl_list (w : World) : Calls Tryd.prog 13 #[] w fun e w' => ∃ v, e = .returned v ∧ NL w' v aclRows ∧ Below w.heap.size w w' := by
  go_enter Tryd.func13, Tryd.ntmps13
  go_wp2
  go_ret
  refine ⟨_, rfl, ⟨w.heap.size, rfl, by simp, ?_⟩, (Below.refl _ _).alloc (Nat.le_refl _) _⟩
  intro i r hi
  have hlt : i < 14 := (List.getElem?_eq_some_iff.1 hi).1
  rcases (by omega : i = 0 ∨ i = 1 ∨ i = 2 ∨ i = 3 ∨ i = 4 ∨ i = 5 ∨ i = 6 ∨ i = 7 ∨ i = 8 ∨ i = 9 ∨ i = 10 ∨ i = 11 ∨ i = 12 ∨ i = 13) with rfl | rfl | rfl | rfl | rfl | rfl | rfl | rfl | rfl | rfl | rfl | rfl | rfl | rfl
  all_goals
    obtain rfl := Option.some.inj hi
    constructor <;> simp

set_option maxRecDepth 8000 in
set_option maxHeartbeats 4000000 in
theorem acl_parse (l T : List UInt8) (hT : norm l = T) (w : World) (hs : l.length ≤ 1000000) (hl : Low l) (ht : Tab w) :
    Calls Tryd.prog 31 #[.string ⟨l.toArray⟩] w fun e w' => ParseIs (findOf T aclRows) e ∧ Below w.heap.size w w' := by
  go_enter Tryd.func31, Tryd.ntmps31
  go_wp2_with fail
  have cn := norm_is l w hs hl ht
  rw [hT] at cn
  refine cn.mono ?_
  clear cn
  rintro e w1 ⟨rfl, b1⟩
  by_cases h0 : T = [97, 110, 121]
  · subst h0
    have e : findOf [97, 110, 121] aclRows = some 1 := by decide +kernel
    go_wp2
    go_ret2
    exact ⟨by rw [e]; rfl, b1⟩
  have g0 : (T == [97, 110, 121]) = false := by simp [h0]
  by_cases h1 : T = [97, 108, 108]
  · subst h1
    have e : findOf [97, 108, 108] aclRows = some 2 := by decide +kernel
    go_wp2
    go_ret2
    exact ⟨by rw [e]; rfl, b1⟩
  have g1 : (T == [97, 108, 108]) = false := by simp [h1]
  by_cases h2 : T = [114, 101, 97, 100]
  · subst h2
    have e : findOf [114, 101, 97, 100] aclRows = some 3 := by decide +kernel
    go_wp2
    go_ret2
    exact ⟨by rw [e]; rfl, b1⟩
  have g2 : (T == [114, 101, 97, 100]) = false := by simp [h2]
  by_cases h3 : T = [119, 114, 105, 116, 101]
  · subst h3
    have e : findOf [119, 114, 105, 116, 101] aclRows = some 4 := by decide +kernel
    go_wp2
    go_ret2
    exact ⟨by rw [e]; rfl, b1⟩
  have g3 : (T == [119, 114, 105, 116, 101]) = false := by simp [h3]
  by_cases h4 : T = [99, 114, 101, 97, 116, 101]
  · subst h4
    have e : findOf [99, 114, 101, 97, 116, 101] aclRows = some 5 := by decide +kernel
    go_wp2
    go_ret2
    exact ⟨by rw [e]; rfl, b1⟩
  have g4 : (T == [99, 114, 101, 97, 116, 101]) = false := by simp [h4]
  by_cases h5 : T = [100, 101, 108, 101, 116, 101]
  · subst h5
    have e : findOf [100, 101, 108, 101, 116, 101] aclRows = some 6 := by decide +kernel
    go_wp2
    go_ret2
    exact ⟨by rw [e]; rfl, b1⟩
  have g5 : (T == [100, 101, 108, 101, 116, 101]) = false := by simp [h5]
  by_cases h6 : T = [97, 108, 116, 101, 114]
  · subst h6
    have e : findOf [97, 108, 116, 101, 114] aclRows = some 7 := by decide +kernel
    go_wp2
    go_ret2
    exact ⟨by rw [e]; rfl, b1⟩
  have g6 : (T == [97, 108, 116, 101, 114]) = false := by simp [h6]
  by_cases h7 : T = [100, 101, 115, 99, 114, 105, 98, 101]
  · subst h7
    have e : findOf [100, 101, 115, 99, 114, 105, 98, 101] aclRows = some 8 := by decide +kernel
    go_wp2
    go_ret2
    exact ⟨by rw [e]; rfl, b1⟩
  have g7 : (T == [100, 101, 115, 99, 114, 105, 98, 101]) = false := by simp [h7]
  by_cases h8 : T = [99, 108, 117, 115, 116, 101, 114, 97, 99, 116, 105, 111, 110]
  · subst h8
    have e : findOf [99, 108, 117, 115, 116, 101, 114, 97, 99, 116, 105, 111, 110] aclRows = some 9 := by decide +kernel
    go_wp2
    go_ret2
    exact ⟨by rw [e]; rfl, b1⟩
  have g8 : (T == [99, 108, 117, 115, 116, 101, 114, 97, 99, 116, 105, 111, 110]) = false := by simp [h8]
  by_cases h9 : T = [100, 101, 115, 99, 114, 105, 98, 101, 99, 111, 110, 102, 105, 103, 115]
  · subst h9
    have e : findOf [100, 101, 115, 99, 114, 105, 98, 101, 99, 111, 110, 102, 105, 103, 115] aclRows = some 10 := by decide +kernel
    go_wp2
    go_ret2
    exact ⟨by rw [e]; rfl, b1⟩
  have g9 : (T == [100, 101, 115, 99, 114, 105, 98, 101, 99, 111, 110, 102, 105, 103, 115]) = false := by simp [h9]
  by_cases h10 : T = [97, 108, 116, 101, 114, 99, 111, 110, 102, 105, 103, 115]
  · subst h10
    have e : findOf [97, 108, 116, 101, 114, 99, 111, 110, 102, 105, 103, 115] aclRows = some 11 := by decide +kernel
    go_wp2
    go_ret2
    exact ⟨by rw [e]; rfl, b1⟩
  have g10 : (T == [97, 108, 116, 101, 114, 99, 111, 110, 102, 105, 103, 115]) = false := by simp [h10]
  by_cases h11 : T = [105, 100, 101, 109, 112, 111, 116, 101, 110, 116, 119, 114, 105, 116, 101]
  · subst h11
    have e : findOf [105, 100, 101, 109, 112, 111, 116, 101, 110, 116, 119, 114, 105, 116, 101] aclRows = some 12 := by decide +kernel
    go_wp2
    go_ret2
    exact ⟨by rw [e]; rfl, b1⟩
  have g11 : (T == [105, 100, 101, 109, 112, 111, 116, 101, 110, 116, 119, 114, 105, 116, 101]) = false := by simp [h11]
  by_cases h12 : T = [99, 114, 101, 97, 116, 101, 116, 111, 107, 101, 110, 115]
  · subst h12
    have e : findOf [99, 114, 101, 97, 116, 101, 116, 111, 107, 101, 110, 115] aclRows = some 13 := by decide +kernel
    go_wp2
    go_ret2
    exact ⟨by rw [e]; rfl, b1⟩
  have g12 : (T == [99, 114, 101, 97, 116, 101, 116, 111, 107, 101, 110, 115]) = false := by simp [h12]
  by_cases h13 : T = [100, 101, 115, 99, 114, 105, 98, 101, 116, 111, 107, 101, 110, 115]
  · subst h13
    have e : findOf [100, 101, 115, 99, 114, 105, 98, 101, 116, 111, 107, 101, 110, 115] aclRows = some 14 := by decide +kernel
    go_wp2
    go_ret2
    exact ⟨by rw [e]; rfl, b1⟩
  have g13 : (T == [100, 101, 115, 99, 114, 105, 98, 101, 116, 111, 107, 101, 110, 115]) = false := by simp [h13]
  have e : findOf T aclRows = none := by
    simp only [aclRows, findOf]
    rw [if_neg (by rw [show Lib.trimSpace (small [65, 78, 89]) = [97, 110, 121] by decide +kernel]; exact fun h => h0 h.symm)]
    rw [if_neg (by rw [show Lib.trimSpace (small [65, 76, 76]) = [97, 108, 108] by decide +kernel]; exact fun h => h1 h.symm)]
    rw [if_neg (by rw [show Lib.trimSpace (small [82, 69, 65, 68]) = [114, 101, 97, 100] by decide +kernel]; exact fun h => h2 h.symm)]
    rw [if_neg (by rw [show Lib.trimSpace (small [87, 82, 73, 84, 69]) = [119, 114, 105, 116, 101] by decide +kernel]; exact fun h => h3 h.symm)]
    rw [if_neg (by rw [show Lib.trimSpace (small [67, 82, 69, 65, 84, 69]) = [99, 114, 101, 97, 116, 101] by decide +kernel]; exact fun h => h4 h.symm)]
    rw [if_neg (by rw [show Lib.trimSpace (small [68, 69, 76, 69, 84, 69]) = [100, 101, 108, 101, 116, 101] by decide +kernel]; exact fun h => h5 h.symm)]
    rw [if_neg (by rw [show Lib.trimSpace (small [65, 76, 84, 69, 82]) = [97, 108, 116, 101, 114] by decide +kernel]; exact fun h => h6 h.symm)]
    rw [if_neg (by rw [show Lib.trimSpace (small [68, 69, 83, 67, 82, 73, 66, 69]) = [100, 101, 115, 99, 114, 105, 98, 101] by decide +kernel]; exact fun h => h7 h.symm)]
    rw [if_neg (by rw [show Lib.trimSpace (small [67, 76, 85, 83, 84, 69, 82, 95, 65, 67, 84, 73, 79, 78]) = [99, 108, 117, 115, 116, 101, 114, 97, 99, 116, 105, 111, 110] by decide +kernel]; exact fun h => h8 h.symm)]
    rw [if_neg (by rw [show Lib.trimSpace (small [68, 69, 83, 67, 82, 73, 66, 69, 95, 67, 79, 78, 70, 73, 71, 83]) = [100, 101, 115, 99, 114, 105, 98, 101, 99, 111, 110, 102, 105, 103, 115] by decide +kernel]; exact fun h => h9 h.symm)]
    rw [if_neg (by rw [show Lib.trimSpace (small [65, 76, 84, 69, 82, 95, 67, 79, 78, 70, 73, 71, 83]) = [97, 108, 116, 101, 114, 99, 111, 110, 102, 105, 103, 115] by decide +kernel]; exact fun h => h10 h.symm)]
    rw [if_neg (by rw [show Lib.trimSpace (small [73, 68, 69, 77, 80, 79, 84, 69, 78, 84, 95, 87, 82, 73, 84, 69]) = [105, 100, 101, 109, 112, 111, 116, 101, 110, 116, 119, 114, 105, 116, 101] by decide +kernel]; exact fun h => h11 h.symm)]
    rw [if_neg (by rw [show Lib.trimSpace (small [67, 82, 69, 65, 84, 69, 95, 84, 79, 75, 69, 78, 83]) = [99, 114, 101, 97, 116, 101, 116, 111, 107, 101, 110, 115] by decide +kernel]; exact fun h => h12 h.symm)]
    rw [if_neg (by rw [show Lib.trimSpace (small [68, 69, 83, 67, 82, 73, 66, 69, 95, 84, 79, 75, 69, 78, 83]) = [100, 101, 115, 99, 114, 105, 98, 101, 116, 111, 107, 101, 110, 115] by decide +kernel]; exact fun h => h13 h.symm)]
  go_wp2_with fail
  refine (error_is _ _).mono ?_
  rintro e w2 ⟨⟨t, x, rfl⟩, b2⟩
  go_wp2
  go_ret2
  exact ⟨by rw [e]; exact ⟨_, _, rfl⟩, up b1 b2⟩
end Go.Proofs.YtbogepbfbplndaaDoor.Nm
