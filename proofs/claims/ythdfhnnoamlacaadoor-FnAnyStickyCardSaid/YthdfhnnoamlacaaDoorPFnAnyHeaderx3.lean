/- What the texts behind this one lean on, out of what the kit's print writes for this seat, cut down. Conditions: none. -/
import Derived.Test.YthdfhnnoamlacaaDoorPFnAnyHeaderx0
import Derived.Test.YthdfhnnoamlacaaDoorPFnAnyHeaderx1
import Derived.Test.YthdfhnnoamlacaaDoorPFnAnyHeaderx2
namespace Go.Proofs.YthdfhnnoamlacaaDoor.PFnAnyHeader
open Go.RowKit Go.Proofs.YthdfhnnoamlacaaDoorW.PrintWords Go.Proofs.YthdfhnnoamlacaaDoorW.PrintLast Go.Proofs.YthdfhnnoamlacaaDoorW.PrintMore

/-! ### spec_OldBytes: function 29 -/
def spec_OldBytes.f (k : Nat) (a0 : Int) (a1_0 : Int) (a1_1 : Int) (a1_2 : Int) (a1_3 : Int) (a1_4 : Int) (a1_5 : Int) (a1_6 : Bool) (l1_7 : List Int) (a1_8 : Bool) (l1_9 : List Int) : Option (List Int) := (spec_Fixed.f k a1_0 8).bind fun t210 => ((spec_Fixed.f k (wrap64 (a1_1)) 4).bind fun t213 => (if t210.length + t213.length < 140737488355328 then ((some (t210 ++ t213 : List Int)).bind fun y216 => ((spec_Fixed.f k (wrap64 (a1_2)) 4).bind fun t219 => (if y216.length + t219.length < 140737488355328 then ((some (y216 ++ t219 : List Int)).bind fun y222 => ((some (([(a1_3) % 256, (a1_4) % 256] : List Int) : List Int)).bind fun y225 => (if y222.length + y225.length < 140737488355328 then ((some (y222 ++ y225 : List Int)).bind fun y228 => (if a0 > 0 then ((spec_Fixed.f k a1_5 8).bind fun t231 => (if y228.length + t231.length < 140737488355328 then ((some (y228 ++ t231 : List Int)).bind fun y234 => ((spec_fixedOctets.f k a1_6 l1_7).bind fun t237 => (if y234.length + t237.length < 140737488355328 then ((some (y234 ++ t237 : List Int)).bind fun y240 => ((spec_fixedOctets.f k a1_8 l1_9).bind fun t243 => (if y240.length + t243.length < 140737488355328 then (some (y240 ++ t243)) else (none)))) else (none)))) else (none))) else ((spec_fixedOctets.f k a1_6 l1_7).bind fun t249 => (if y228.length + t249.length < 140737488355328 then ((some (y228 ++ t249 : List Int)).bind fun y252 => ((spec_fixedOctets.f k a1_8 l1_9).bind fun t255 => (if y252.length + t255.length < 140737488355328 then (some (y252 ++ t255)) else (none)))) else (none))))) else (none)))) else (none)))) else (none)))
def spec_OldBytes.T1 : Bool × List (List Nat × List Nat) := (true, [([], []), ([0], [0]), ([1], [1]), ([], []), ([3], [3]), ([4], [4]), ([5, 2], [5]), ([2, 6, 6], [2, 6]), ([7, 7, 0, 1, 2, 3, 4, 5, 6, 7], [7])])
def spec_OldBytes.B1 : List Nat := [0, 1, 3, 0, 8, 24, 63, 127, 255]
theorem spec_OldBytes.tab1 : rtab .any (opsOf Tryd.f29 1) = spec_OldBytes.T1 := by kernel_rfl
theorem spec_OldBytes.bits1 : waitsOk spec_OldBytes.T1.2 spec_OldBytes.B1 = true := by kernel_rfl
def spec_OldBytes.T6 : Bool × List (List Nat × List Nat) := (true, [([], []), ([], []), ([1], [1]), ([2], [2]), ([0, 3, 3], [0, 3]), ([], []), ([5], [5]), ([6, 4], [6]), ([4, 7, 7], [4, 7]), ([8, 8, 0, 1, 2, 3, 4, 5, 6, 7, 8], [8])])
def spec_OldBytes.B6 : List Nat := [0, 0, 2, 6, 15, 0, 32, 127, 255, 511]
theorem spec_OldBytes.tab6 : rtab .any (opsOf Tryd.f29 6) = spec_OldBytes.T6 := by kernel_rfl
theorem spec_OldBytes.bits6 : waitsOk spec_OldBytes.T6.2 spec_OldBytes.B6 = true := by kernel_rfl
set_option maxHeartbeats 8000000 in
set_option maxRecDepth 100000 in
theorem spec_OldBytes.calls (k : Nat) (a0 : Int) (a1_0 : Int) (a1_1 : Int) (a1_2 : Int) (a1_3 : Int) (a1_4 : Int) (a1_5 : Int) (a1_6 : Bool) (A1_7 : Option Addr) (c1_7 : Nat) (l1_7 : List Int) (a1_8 : Bool) (A1_9 : Option Addr) (c1_9 : Nat) (l1_9 : List Int) (r : List Int) (w : World) (hr1_7 : Kd.C (Kd.int .u8) w A1_7 l1_7.length l1_7) (hc1_7 : l1_7.length ≤ c1_7) (hr1_9 : Kd.C (Kd.int .u8) w A1_9 l1_9.length l1_9) (hc1_9 : l1_9.length ≤ c1_9) (h : spec_OldBytes.f k a0 a1_0 a1_1 a1_2 a1_3 a1_4 a1_5 a1_6 l1_7 a1_8 l1_9 = some r) :
    Calls Tryd.prog 29 #[.int .i64 a0, .agg #[.int .i64 a1_0, .int .i32 a1_1, .int .i32 a1_2, .int .i8 a1_3, .int .i8 a1_4, .int .i64 a1_5, .bool a1_6, .slice A1_7 l1_7.length c1_7, .bool a1_8, .slice A1_9 l1_9.length c1_9]] w fun e w' => ∃ v0_ : Value, e = .returned (v0_) ∧ Kd.R (Kd.int .u8) 5 w' w.heap.size (fun _ => True) v0_ r ∧ Below w.heap.size w w' := by
  have hu75 := Tryd.underlying75
  have hu24 := Tryd.underlying24
  have HR1_7 := Aside0.mk hr1_7
  have HC1_7 := Aside0.mk hc1_7
  clear hr1_7 hc1_7
  have HR1_9 := Aside0.mk hr1_9
  have HC1_9 := Aside0.mk hc1_9
  clear hr1_9 hc1_9
  have HB := Aside0.mk (Below.refl w.heap.size w)
  have H : ((spec_Fixed.f k a1_0 8).bind fun t210 => ((spec_Fixed.f k (wrap64 (a1_1)) 4).bind fun t213 => (if t210.length + t213.length < 140737488355328 then ((some (t210 ++ t213 : List Int)).bind fun y216 => ((spec_Fixed.f k (wrap64 (a1_2)) 4).bind fun t219 => (if y216.length + t219.length < 140737488355328 then ((some (y216 ++ t219 : List Int)).bind fun y222 => ((some (([(a1_3) % 256, (a1_4) % 256] : List Int) : List Int)).bind fun y225 => (if y222.length + y225.length < 140737488355328 then ((some (y222 ++ y225 : List Int)).bind fun y228 => (if a0 > 0 then ((spec_Fixed.f k a1_5 8).bind fun t231 => (if y228.length + t231.length < 140737488355328 then ((some (y228 ++ t231 : List Int)).bind fun y234 => ((spec_fixedOctets.f k a1_6 l1_7).bind fun t237 => (if y234.length + t237.length < 140737488355328 then ((some (y234 ++ t237 : List Int)).bind fun y240 => ((spec_fixedOctets.f k a1_8 l1_9).bind fun t243 => (if y240.length + t243.length < 140737488355328 then (some (y240 ++ t243)) else (none)))) else (none)))) else (none))) else ((spec_fixedOctets.f k a1_6 l1_7).bind fun t249 => (if y228.length + t249.length < 140737488355328 then ((some (y228 ++ t249 : List Int)).bind fun y252 => ((spec_fixedOctets.f k a1_8 l1_9).bind fun t255 => (if y252.length + t255.length < 140737488355328 then (some (y252 ++ t255)) else (none)))) else (none))))) else (none)))) else (none)))) else (none)))) = some r := h
  clear h
  replace H := Option.bind_eq_some_iff.mp H
  obtain ⟨t210, A30, H⟩ := H
  replace H : ((spec_Fixed.f k (wrap64 (a1_1)) 4).bind fun t213 => (if t210.length + t213.length < 140737488355328 then ((some (t210 ++ t213 : List Int)).bind fun y216 => ((spec_Fixed.f k (wrap64 (a1_2)) 4).bind fun t219 => (if y216.length + t219.length < 140737488355328 then ((some (y216 ++ t219 : List Int)).bind fun y222 => ((some (([(a1_3) % 256, (a1_4) % 256] : List Int) : List Int)).bind fun y225 => (if y222.length + y225.length < 140737488355328 then ((some (y222 ++ y225 : List Int)).bind fun y228 => (if a0 > 0 then ((spec_Fixed.f k a1_5 8).bind fun t231 => (if y228.length + t231.length < 140737488355328 then ((some (y228 ++ t231 : List Int)).bind fun y234 => ((spec_fixedOctets.f k a1_6 l1_7).bind fun t237 => (if y234.length + t237.length < 140737488355328 then ((some (y234 ++ t237 : List Int)).bind fun y240 => ((spec_fixedOctets.f k a1_8 l1_9).bind fun t243 => (if y240.length + t243.length < 140737488355328 then (some (y240 ++ t243)) else (none)))) else (none)))) else (none))) else ((spec_fixedOctets.f k a1_6 l1_7).bind fun t249 => (if y228.length + t249.length < 140737488355328 then ((some (y228 ++ t249 : List Int)).bind fun y252 => ((spec_fixedOctets.f k a1_8 l1_9).bind fun t255 => (if y252.length + t255.length < 140737488355328 then (some (y252 ++ t255)) else (none)))) else (none))))) else (none)))) else (none)))) else (none))) = some r := H
  have A3 := Aside0.mk A30
  clear A30
  replace H := Option.bind_eq_some_iff.mp H
  obtain ⟨t213, A40, H⟩ := H
  replace H : (if t210.length + t213.length < 140737488355328 then ((some (t210 ++ t213 : List Int)).bind fun y216 => ((spec_Fixed.f k (wrap64 (a1_2)) 4).bind fun t219 => (if y216.length + t219.length < 140737488355328 then ((some (y216 ++ t219 : List Int)).bind fun y222 => ((some (([(a1_3) % 256, (a1_4) % 256] : List Int) : List Int)).bind fun y225 => (if y222.length + y225.length < 140737488355328 then ((some (y222 ++ y225 : List Int)).bind fun y228 => (if a0 > 0 then ((spec_Fixed.f k a1_5 8).bind fun t231 => (if y228.length + t231.length < 140737488355328 then ((some (y228 ++ t231 : List Int)).bind fun y234 => ((spec_fixedOctets.f k a1_6 l1_7).bind fun t237 => (if y234.length + t237.length < 140737488355328 then ((some (y234 ++ t237 : List Int)).bind fun y240 => ((spec_fixedOctets.f k a1_8 l1_9).bind fun t243 => (if y240.length + t243.length < 140737488355328 then (some (y240 ++ t243)) else (none)))) else (none)))) else (none))) else ((spec_fixedOctets.f k a1_6 l1_7).bind fun t249 => (if y228.length + t249.length < 140737488355328 then ((some (y228 ++ t249 : List Int)).bind fun y252 => ((spec_fixedOctets.f k a1_8 l1_9).bind fun t255 => (if y252.length + t255.length < 140737488355328 then (some (y252 ++ t255)) else (none)))) else (none))))) else (none)))) else (none)))) else (none)) = some r := H
  have A4 := Aside0.mk A40
  clear A40
  by_cases c5 : t210.length + t213.length < 140737488355328
  · rw [if_pos c5] at H
    have LMc5 := Aside0.mk c5
    clear c5
    obtain ⟨y216, hy216⟩ : ∃ y_ : List Int, y_ = (t210 ++ t213) := ⟨_, rfl⟩
    replace H : ((spec_Fixed.f k (wrap64 (a1_2)) 4).bind fun t219 => (if y216.length + t219.length < 140737488355328 then ((some (y216 ++ t219 : List Int)).bind fun y222 => ((some (([(a1_3) % 256, (a1_4) % 256] : List Int) : List Int)).bind fun y225 => (if y222.length + y225.length < 140737488355328 then ((some (y222 ++ y225 : List Int)).bind fun y228 => (if a0 > 0 then ((spec_Fixed.f k a1_5 8).bind fun t231 => (if y228.length + t231.length < 140737488355328 then ((some (y228 ++ t231 : List Int)).bind fun y234 => ((spec_fixedOctets.f k a1_6 l1_7).bind fun t237 => (if y234.length + t237.length < 140737488355328 then ((some (y234 ++ t237 : List Int)).bind fun y240 => ((spec_fixedOctets.f k a1_8 l1_9).bind fun t243 => (if y240.length + t243.length < 140737488355328 then (some (y240 ++ t243)) else (none)))) else (none)))) else (none))) else ((spec_fixedOctets.f k a1_6 l1_7).bind fun t249 => (if y228.length + t249.length < 140737488355328 then ((some (y228 ++ t249 : List Int)).bind fun y252 => ((spec_fixedOctets.f k a1_8 l1_9).bind fun t255 => (if y252.length + t255.length < 140737488355328 then (some (y252 ++ t255)) else (none)))) else (none))))) else (none)))) else (none))) = some r := by first | (rw [hy216]; with_reducible exact H) | (have H2_ := (Option.bind_some _ _).symm.trans H; rw [hy216]; with_reducible exact H2_) | (have H2_ := (Option.bind_some _ _).symm.trans H; with_reducible exact H2_) | with_reducible exact H | (rw [hy216]; exact H) | exact H
    have Ny216 := Aside0.mk hy216
    clear hy216
    replace H := Option.bind_eq_some_iff.mp H
    obtain ⟨t219, A60, H⟩ := H
    replace H : (if y216.length + t219.length < 140737488355328 then ((some (y216 ++ t219 : List Int)).bind fun y222 => ((some (([(a1_3) % 256, (a1_4) % 256] : List Int) : List Int)).bind fun y225 => (if y222.length + y225.length < 140737488355328 then ((some (y222 ++ y225 : List Int)).bind fun y228 => (if a0 > 0 then ((spec_Fixed.f k a1_5 8).bind fun t231 => (if y228.length + t231.length < 140737488355328 then ((some (y228 ++ t231 : List Int)).bind fun y234 => ((spec_fixedOctets.f k a1_6 l1_7).bind fun t237 => (if y234.length + t237.length < 140737488355328 then ((some (y234 ++ t237 : List Int)).bind fun y240 => ((spec_fixedOctets.f k a1_8 l1_9).bind fun t243 => (if y240.length + t243.length < 140737488355328 then (some (y240 ++ t243)) else (none)))) else (none)))) else (none))) else ((spec_fixedOctets.f k a1_6 l1_7).bind fun t249 => (if y228.length + t249.length < 140737488355328 then ((some (y228 ++ t249 : List Int)).bind fun y252 => ((spec_fixedOctets.f k a1_8 l1_9).bind fun t255 => (if y252.length + t255.length < 140737488355328 then (some (y252 ++ t255)) else (none)))) else (none))))) else (none)))) else (none)) = some r := H
    have A6 := Aside0.mk A60
    clear A60
    by_cases c7 : y216.length + t219.length < 140737488355328
    · rw [if_pos c7] at H
      have LMc7 := Aside0.mk c7
      clear c7
      obtain ⟨y222, hy222⟩ : ∃ y_ : List Int, y_ = (y216 ++ t219) := ⟨_, rfl⟩
      replace H : ((some (([(a1_3) % 256, (a1_4) % 256] : List Int) : List Int)).bind fun y225 => (if y222.length + y225.length < 140737488355328 then ((some (y222 ++ y225 : List Int)).bind fun y228 => (if a0 > 0 then ((spec_Fixed.f k a1_5 8).bind fun t231 => (if y228.length + t231.length < 140737488355328 then ((some (y228 ++ t231 : List Int)).bind fun y234 => ((spec_fixedOctets.f k a1_6 l1_7).bind fun t237 => (if y234.length + t237.length < 140737488355328 then ((some (y234 ++ t237 : List Int)).bind fun y240 => ((spec_fixedOctets.f k a1_8 l1_9).bind fun t243 => (if y240.length + t243.length < 140737488355328 then (some (y240 ++ t243)) else (none)))) else (none)))) else (none))) else ((spec_fixedOctets.f k a1_6 l1_7).bind fun t249 => (if y228.length + t249.length < 140737488355328 then ((some (y228 ++ t249 : List Int)).bind fun y252 => ((spec_fixedOctets.f k a1_8 l1_9).bind fun t255 => (if y252.length + t255.length < 140737488355328 then (some (y252 ++ t255)) else (none)))) else (none))))) else (none))) = some r := by first | (rw [hy222]; with_reducible exact H) | (have H2_ := (Option.bind_some _ _).symm.trans H; rw [hy222]; with_reducible exact H2_) | (have H2_ := (Option.bind_some _ _).symm.trans H; with_reducible exact H2_) | with_reducible exact H | (rw [hy222]; exact H) | exact H
      have Ny222 := Aside0.mk hy222
      clear hy222
      obtain ⟨y225, hy225⟩ : ∃ y_ : List Int, y_ = (([(a1_3) % 256, (a1_4) % 256] : List Int)) := ⟨_, rfl⟩
      replace H : (if y222.length + y225.length < 140737488355328 then ((some (y222 ++ y225 : List Int)).bind fun y228 => (if a0 > 0 then ((spec_Fixed.f k a1_5 8).bind fun t231 => (if y228.length + t231.length < 140737488355328 then ((some (y228 ++ t231 : List Int)).bind fun y234 => ((spec_fixedOctets.f k a1_6 l1_7).bind fun t237 => (if y234.length + t237.length < 140737488355328 then ((some (y234 ++ t237 : List Int)).bind fun y240 => ((spec_fixedOctets.f k a1_8 l1_9).bind fun t243 => (if y240.length + t243.length < 140737488355328 then (some (y240 ++ t243)) else (none)))) else (none)))) else (none))) else ((spec_fixedOctets.f k a1_6 l1_7).bind fun t249 => (if y228.length + t249.length < 140737488355328 then ((some (y228 ++ t249 : List Int)).bind fun y252 => ((spec_fixedOctets.f k a1_8 l1_9).bind fun t255 => (if y252.length + t255.length < 140737488355328 then (some (y252 ++ t255)) else (none)))) else (none))))) else (none)) = some r := by first | (rw [hy225]; with_reducible exact H) | (have H2_ := (Option.bind_some _ _).symm.trans H; rw [hy225]; with_reducible exact H2_) | (have H2_ := (Option.bind_some _ _).symm.trans H; with_reducible exact H2_) | with_reducible exact H | (rw [hy225]; exact H) | exact H
      have Ny225 := Aside0.mk hy225
      clear hy225
      by_cases c8 : y222.length + y225.length < 140737488355328
      · rw [if_pos c8] at H
        have LMc8 := Aside0.mk c8
        clear c8
        obtain ⟨y228, hy228⟩ : ∃ y_ : List Int, y_ = (y222 ++ y225) := ⟨_, rfl⟩
        replace H : (if a0 > 0 then ((spec_Fixed.f k a1_5 8).bind fun t231 => (if y228.length + t231.length < 140737488355328 then ((some (y228 ++ t231 : List Int)).bind fun y234 => ((spec_fixedOctets.f k a1_6 l1_7).bind fun t237 => (if y234.length + t237.length < 140737488355328 then ((some (y234 ++ t237 : List Int)).bind fun y240 => ((spec_fixedOctets.f k a1_8 l1_9).bind fun t243 => (if y240.length + t243.length < 140737488355328 then (some (y240 ++ t243)) else (none)))) else (none)))) else (none))) else ((spec_fixedOctets.f k a1_6 l1_7).bind fun t249 => (if y228.length + t249.length < 140737488355328 then ((some (y228 ++ t249 : List Int)).bind fun y252 => ((spec_fixedOctets.f k a1_8 l1_9).bind fun t255 => (if y252.length + t255.length < 140737488355328 then (some (y252 ++ t255)) else (none)))) else (none)))) = some r := by first | (rw [hy228]; with_reducible exact H) | (have H2_ := (Option.bind_some _ _).symm.trans H; rw [hy228]; with_reducible exact H2_) | (have H2_ := (Option.bind_some _ _).symm.trans H; with_reducible exact H2_) | with_reducible exact H | (rw [hy228]; exact H) | exact H
        have Ny228 := Aside0.mk hy228
        clear hy228
        by_cases c9 : a0 > 0
        · rw [if_pos c9] at H
          have c9b0 : decide (0 < a0) = true := decide_eq_true c9
          clear c9
          replace H := Option.bind_eq_some_iff.mp H
          obtain ⟨t231, A100, H⟩ := H
          replace H : (if y228.length + t231.length < 140737488355328 then ((some (y228 ++ t231 : List Int)).bind fun y234 => ((spec_fixedOctets.f k a1_6 l1_7).bind fun t237 => (if y234.length + t237.length < 140737488355328 then ((some (y234 ++ t237 : List Int)).bind fun y240 => ((spec_fixedOctets.f k a1_8 l1_9).bind fun t243 => (if y240.length + t243.length < 140737488355328 then (some (y240 ++ t243)) else (none)))) else (none)))) else (none)) = some r := H
          have A10 := Aside0.mk A100
          clear A100
          by_cases c11 : y228.length + t231.length < 140737488355328
          · rw [if_pos c11] at H
            have LMc11 := Aside0.mk c11
            clear c11
            obtain ⟨y234, hy234⟩ : ∃ y_ : List Int, y_ = (y228 ++ t231) := ⟨_, rfl⟩
            replace H : ((spec_fixedOctets.f k a1_6 l1_7).bind fun t237 => (if y234.length + t237.length < 140737488355328 then ((some (y234 ++ t237 : List Int)).bind fun y240 => ((spec_fixedOctets.f k a1_8 l1_9).bind fun t243 => (if y240.length + t243.length < 140737488355328 then (some (y240 ++ t243)) else (none)))) else (none))) = some r := by first | (rw [hy234]; with_reducible exact H) | (have H2_ := (Option.bind_some _ _).symm.trans H; rw [hy234]; with_reducible exact H2_) | (have H2_ := (Option.bind_some _ _).symm.trans H; with_reducible exact H2_) | with_reducible exact H | (rw [hy234]; exact H) | exact H
            have Ny234 := Aside0.mk hy234
            clear hy234
            replace H := Option.bind_eq_some_iff.mp H
            obtain ⟨t237, A120, H⟩ := H
            replace H : (if y234.length + t237.length < 140737488355328 then ((some (y234 ++ t237 : List Int)).bind fun y240 => ((spec_fixedOctets.f k a1_8 l1_9).bind fun t243 => (if y240.length + t243.length < 140737488355328 then (some (y240 ++ t243)) else (none)))) else (none)) = some r := H
            have A12 := Aside0.mk A120
            clear A120
            by_cases c13 : y234.length + t237.length < 140737488355328
            · rw [if_pos c13] at H
              have LMc13 := Aside0.mk c13
              clear c13
              obtain ⟨y240, hy240⟩ : ∃ y_ : List Int, y_ = (y234 ++ t237) := ⟨_, rfl⟩
              replace H : ((spec_fixedOctets.f k a1_8 l1_9).bind fun t243 => (if y240.length + t243.length < 140737488355328 then (some (y240 ++ t243)) else (none))) = some r := by first | (rw [hy240]; with_reducible exact H) | (have H2_ := (Option.bind_some _ _).symm.trans H; rw [hy240]; with_reducible exact H2_) | (have H2_ := (Option.bind_some _ _).symm.trans H; with_reducible exact H2_) | with_reducible exact H | (rw [hy240]; exact H) | exact H
              have Ny240 := Aside0.mk hy240
              clear hy240
              replace H := Option.bind_eq_some_iff.mp H
              obtain ⟨t243, A140, H⟩ := H
              replace H : (if y240.length + t243.length < 140737488355328 then (some (y240 ++ t243)) else (none)) = some r := H
              have A14 := Aside0.mk A140
              clear A140
              by_cases c15 : y240.length + t243.length < 140737488355328
              · rw [if_pos c15] at H
                have LMc15 := Aside0.mk c15
                clear c15
                obtain ⟨y246, hy246⟩ : ∃ y_ : List Int, y_ = (y240 ++ t243) := ⟨_, rfl⟩
                replace H : (some y246) = some r := by first | (rw [hy246]; with_reducible exact H) | (have H2_ := (Option.bind_some _ _).symm.trans H; rw [hy246]; with_reducible exact H2_) | (have H2_ := (Option.bind_some _ _).symm.trans H; with_reducible exact H2_) | with_reducible exact H | (rw [hy246]; exact H) | exact H
                have Ny246 := Aside0.mk hy246
                clear hy246
                obtain rfl := Option.some.inj H
                go_enter Tryd.func29, Tryd.ntmps29
                try go_wp2_with (first | ((with_reducible refine gate_dst (N := 3) rfl ?_); refine box_event ?hg (N := 3) ?hd (cs := #[.int .i64 a1_0, .int .i32 a1_1, .int .i32 a1_2, .int .i8 a1_3, .int .i8 a1_4, .int .i64 a1_5, .bool a1_6, .slice A1_7 l1_7.length c1_7, .bool a1_8, .slice A1_9 l1_9.length c1_9]) (t := 75) ?hr ?_; (case hd => rfl); (case hg => rfl); (case hr => first | (go_simp; done) | (go_simp; rfl)); intro gb209 hg w16 hbox hb; have n0_ := Aside0.mk (below_step (by repeat (first | (with_reducible first | exact HB.out | apply below_alloc | apply pw_below_drewN | apply below_drew1) | exact HB.out)) hb); have n1_ := Aside0.mk (hbox); have n2_ := Aside0.mk ((by rw [hg]; exact (below_size (by repeat (first | (with_reducible first | exact HB.out | apply below_alloc | apply pw_below_drewN | apply below_drew1) | exact HB.out))) : w.heap.size ≤ gb209)); have n3_ := Aside0.mk ((by rw [hg]; exact (below_size (by repeat (first | (with_reducible first | exact HB.out | apply below_alloc | apply pw_below_drewN | apply below_drew1) | exact HB.out))) : w.heap.size ≤ gb209)); clear HB; have HB := n0_; have BK209 := n1_; have GW209 := n2_; have GE209 := n3_; clear n0_ n1_ n2_ n3_; clear hb hbox hg))
                have n0_ := Aside0.mk (blk_drew BK209.out)
                have n1_ := Aside0.mk (below_drew1 HB.out)
                clear BK209
                clear HB
                have BK209 := n0_
                have HB := n1_
                clear n0_ n1_
                refine start_ (n := 9) (S := fun w' => w'.cell? ⟨gb209, 0, none⟩ = some (.int .i64 a1_0) ∧ w'.cell? ⟨gb209, 1, none⟩ = some (.int .i32 a1_1) ∧ w'.cell? ⟨gb209, 2, none⟩ = some (.int .i32 a1_2) ∧ w'.cell? ⟨gb209, 3, none⟩ = some (.int .i8 a1_3) ∧ w'.cell? ⟨gb209, 4, none⟩ = some (.int .i8 a1_4) ∧ w'.cell? ⟨gb209, 5, none⟩ = some (.int .i64 a1_5) ∧ w'.cell? ⟨gb209, 6, none⟩ = some (.bool a1_6) ∧ w'.cell? ⟨gb209, 7, none⟩ = some (.slice A1_7 l1_7.length c1_7) ∧ w'.cell? ⟨gb209, 8, none⟩ = some (.bool a1_8) ∧ w'.cell? ⟨gb209, 9, none⟩ = some (.slice A1_9 l1_9.length c1_9)) (ds := []) #[false, false, false, false, false, false, false, false, false] (by kernel_rfl) rfl rfl ⟨(blk_cell BK209.out 0).trans rfl, (blk_cell BK209.out 1).trans rfl, (blk_cell BK209.out 2).trans rfl, (blk_cell BK209.out 3).trans rfl, (blk_cell BK209.out 4).trans rfl, (blk_cell BK209.out 5).trans rfl, (blk_cell BK209.out 6).trans rfl, (blk_cell BK209.out 7).trans rfl, (blk_cell BK209.out 8).trans rfl, (blk_cell BK209.out 9).trans rfl⟩ (fun hHeld => ?_); refine with_tabW spec_OldBytes.tab1 spec_OldBytes.bits1 (fun HT_ HW_ => ?_)
                generalize w16.drew = w17 at BK209 HB hHeld ⊢
                refine pure_ (i := 0) (N := some 6) (v := ?_) (a' := ?_) #[true, false, false, false, false, false, false, false, false] rfl rfl (any_of HT_.out (by kernel_rfl)) (fun _ _ _ h => h) (Or.inl ⟨by rfl, ?_⟩) ?_ ?_
                rotate_left
                · intro w'
                  go_simp
                  with_reducible rfl
                rotate_left
                · simp only [Act.put, List.setIfInBounds_toArray, List.set_cons_zero, List.set_cons_succ, i64_w, i32_w]
                  rfl
                refine pure_ (i := 3) (N := some 9) (v := ?_) (a' := ?_) #[true, false, false, true, false, false, false, false, false] rfl rfl (any_of HT_.out (by kernel_rfl)) (fun _ _ _ h => h) (Or.inl ⟨by rfl, ?_⟩) ?_ ?_
                rotate_left
                · intro w'
                  go_simp
                  with_reducible rfl
                rotate_left
                · simp only [Act.put, List.setIfInBounds_toArray, List.set_cons_zero, List.set_cons_succ, i64_w, i32_w]
                  rfl
                refine take_ (i := 1) (N := some 7) (v := ?_) (a' := ?_) #[true, true, false, true, false, false, false, false, false] rfl rfl (take_ofW HT_.out HW_.out (by kernel_rfl)) (fun _ _ _ h => h) (Or.inl ⟨by rfl, ?_⟩) hHeld ?_ ?_
                rotate_left
                · rintro w' ⟨s0, s1, s2, s3, s4, s5, s6, s7, s8, s9⟩
                  go_simp
                  with_reducible rfl
                rotate_left
                · simp only [Act.put, List.setIfInBounds_toArray, List.set_cons_zero, List.set_cons_succ, i64_w, i32_w]
                  rfl
                refine take_ (i := 4) (N := some 10) (v := ?_) (a' := ?_) #[true, true, false, true, true, false, false, false, false] rfl rfl (take_ofW HT_.out HW_.out (by kernel_rfl)) (fun _ _ _ h => h) (Or.inl ⟨by rfl, ?_⟩) hHeld ?_ ?_
                rotate_left
                · rintro w' ⟨s0, s1, s2, s3, s4, s5, s6, s7, s8, s9⟩
                  go_simp
                  with_reducible rfl
                rotate_left
                · simp only [Act.put, List.setIfInBounds_toArray, List.set_cons_zero, List.set_cons_succ, i64_w, i32_w]
                  rfl
                refine pure_ (i := 5) (N := some 11) (v := ?_) (a' := ?_) #[true, true, false, true, true, true, false, false, false] rfl rfl (any_of HT_.out (by kernel_rfl)) (fun _ _ _ h => h) (Or.inl ⟨by rfl, ?_⟩) ?_ ?_
                rotate_left
                · intro w'
                  go_simp
                  with_reducible rfl
                rotate_left
                · simp only [Act.put, List.setIfInBounds_toArray, List.set_cons_zero, List.set_cons_succ, i64_w, i32_w]
                  rfl
                refine one_ (i := 2) (N := some 8) #[true, true, true, true, true, true, false, false, false] rfl rfl (one_of HT_.out (by kernel_rfl)) (by decide) (fun K hK => ?_)
                refine goes_ Tryd.func39 (by kernel_rfl) rfl #[.int .i64 a1_0, .int .i64 8] (by rfl) rfl rfl (by (try simp only [List.map_toArray, List.map_cons, List.map_nil]); first | done | rfl | (simp only [List.length_drop, List.length_take]; rfl)) ?_
                with_reducible refine (spec_Fixed.calls k a1_0 8 t210 _ A3.out).mono ?_
                rintro e w18 ⟨v211, rfl, ho0, hb⟩
                refine ⟨_, rfl, ?_⟩
                have n0_ := Aside0.mk (Kd.R_lower ho0 (below_size (by repeat (first | (with_reducible first | exact HB.out | apply below_alloc | apply pw_below_drewN | apply below_drew1 | refine below_set ?_ GE209.out) | exact HB.out))))
                have n1_ := Aside0.mk (blk_below (g := gb209) (o := .cells #[.int .i64 a1_0, .int .i32 a1_1, .int .i32 a1_2, .int .i8 a1_3, .int .i8 a1_4, .int .i64 a1_5, .bool a1_6, .slice A1_7 l1_7.length c1_7, .bool a1_8, .slice A1_9 l1_9.length c1_9] 75 (0, 0)) (by (with_reducible repeat (first | refine blk_drewN ?_ _ | refine blk_drew ?_ | refine blk_alloc ?_ _)); exact BK209.out) hb)
                have n2_ := Aside0.mk (below_step (by repeat (first | (with_reducible first | exact HB.out | apply below_alloc | apply pw_below_drewN | apply below_drew1 | refine below_set ?_ GE209.out) | exact HB.out)) hb)
                clear BK209
                clear HB
                have HO212 := n0_
                have BK209 := n1_
                have HB := n2_
                clear n0_ n1_ n2_
                (try clear hb)
                (try clear hb2)
                (try clear hk)
                (try clear hi)
                (try clear ho0)
                refine hK.out _ _ ⟨(blk_cell BK209.out 0).trans rfl, (blk_cell BK209.out 1).trans rfl, (blk_cell BK209.out 2).trans rfl, (blk_cell BK209.out 3).trans rfl, (blk_cell BK209.out 4).trans rfl, (blk_cell BK209.out 5).trans rfl, (blk_cell BK209.out 6).trans rfl, (blk_cell BK209.out 7).trans rfl, (blk_cell BK209.out 8).trans rfl, (blk_cell BK209.out 9).trans rfl⟩ (fun hHeld => ?_)
                clear hK K
                refine norm_ (a' := ?_) ?_ ?_
                rotate_left
                · show Act.put _ (some 8) _ = _
                  simp only [Act.put, List.setIfInBounds_toArray, List.set_cons_zero, List.set_cons_succ, i64_w, i32_w]
                  rfl
                refine one_ (i := 6) (N := some 12) #[true, true, true, true, true, true, true, false, false] rfl rfl (one_of HT_.out (by kernel_rfl)) (by decide) (fun K hK => ?_)
                refine goes_ Tryd.func39 (by kernel_rfl) rfl #[.int .i64 (wrap64 (a1_1)), .int .i64 4] (by rfl) rfl rfl (by (try simp only [List.map_toArray, List.map_cons, List.map_nil]); first | done | rfl | (simp only [List.length_drop, List.length_take]; rfl)) ?_
                with_reducible refine (spec_Fixed.calls k (wrap64 (a1_1)) 4 t213 _ A4.out).mono ?_
                rintro e w19 ⟨v214, rfl, ho0, hb⟩
                refine ⟨_, rfl, ?_⟩
                have n0_ := Aside0.mk (Kd.R_elder' (by (with_reducible repeat (first | apply Kd.R_alloc | apply Kd.R_drewN | apply Kd.R_drew)); exact HO212.out) (Kd.R_base ho0) hb)
                have n1_ := Aside0.mk (Kd.R_lower (Kd.R_new' ho0 (Kd.R_lt (by (with_reducible repeat (first | apply Kd.R_alloc | apply Kd.R_drewN | apply Kd.R_drew)); exact HO212.out))) (below_size (by repeat (first | (with_reducible first | exact HB.out | apply below_alloc | apply pw_below_drewN | apply below_drew1 | refine below_set ?_ GE209.out) | exact HB.out))))
                have n2_ := Aside0.mk (blk_below (g := gb209) (o := .cells #[.int .i64 a1_0, .int .i32 a1_1, .int .i32 a1_2, .int .i8 a1_3, .int .i8 a1_4, .int .i64 a1_5, .bool a1_6, .slice A1_7 l1_7.length c1_7, .bool a1_8, .slice A1_9 l1_9.length c1_9] 75 (0, 0)) (by (with_reducible repeat (first | refine blk_drewN ?_ _ | refine blk_drew ?_ | refine blk_alloc ?_ _)); exact BK209.out) hb)
                have n3_ := Aside0.mk (below_step (by repeat (first | (with_reducible first | exact HB.out | apply below_alloc | apply pw_below_drewN | apply below_drew1 | refine below_set ?_ GE209.out) | exact HB.out)) hb)
                clear HO212
                clear BK209
                clear HB
                have HO212 := n0_
                have HO215 := n1_
                have BK209 := n2_
                have HB := n3_
                clear n0_ n1_ n2_ n3_
                (try clear hb)
                (try clear hb2)
                (try clear hk)
                (try clear hi)
                (try clear ho0)
                obtain ⟨Ao21, co21, eo21⟩ := Kd.R_slice HO215.out
                (first | subst eo21 | (injection eo21 with f1_ f2_ f3_; have f4_ := f1_.symm; have f5_ := f3_.symm; clear f1_ f2_ f3_; subst f4_; subst f5_))
                refine hK.out _ _ ⟨(blk_cell BK209.out 0).trans rfl, (blk_cell BK209.out 1).trans rfl, (blk_cell BK209.out 2).trans rfl, (blk_cell BK209.out 3).trans rfl, (blk_cell BK209.out 4).trans rfl, (blk_cell BK209.out 5).trans rfl, (blk_cell BK209.out 6).trans rfl, (blk_cell BK209.out 7).trans rfl, (blk_cell BK209.out 8).trans rfl, (blk_cell BK209.out 9).trans rfl⟩ (fun hHeld => ?_)
                clear hK K
                refine norm_ (a' := ?_) ?_ ?_
                rotate_left
                · show Act.put _ (some 12) _ = _
                  simp only [Act.put, List.setIfInBounds_toArray, List.set_cons_zero, List.set_cons_succ, i64_w, i32_w]
                  rfl
                refine one_ (i := 7) (N := some 13) #[true, true, true, true, true, true, true, true, false] rfl rfl (one_of HT_.out (by kernel_rfl)) (by decide) (fun K hK => ?_)
                refine Kd.R_append_rows_step (Kd.int .u8) (w0 := w) w.heap.size (by rfl) (.tmp 8) (.tmp 12) 22 5 (.int .u8 0) 1 rfl Tryd.underlying22 info5 rfl (by decide) (by omega) v211 t210 t213 _ _ _ (fun k_ => some k_ ≠ (.slice Ao21 t213.length co21 : Value).ownBlock) (fun _ => False) rfl rfl ?aO ?aR (fun _ _ h => h) (fun _ h => h.elim) ?aF ?aB ?aS ?aL ?_
                (case aR => repeat (first | exact (Kd.R_reads' HO215.out).2.2 | (with_reducible refine Kd.C_alloc ?_ _) | (with_reducible refine Kd.C_drewN ?_ _) | (with_reducible refine Kd.C_drew ?_)))
                (case aB => exact (by repeat (first | (with_reducible first | exact HB.out | apply below_alloc | apply pw_below_drewN | apply below_drew1 | refine below_set ?_ GE209.out) | exact HB.out)))
                (case aF => exact (fun k_ hk => Kd.fresh' (Kd.R_lt (by (with_reducible repeat (first | apply Kd.R_alloc | apply Kd.R_drewN | apply Kd.R_drew)); exact HO215.out)) k_ hk))
                (case aO => exact (by (with_reducible repeat (first | apply Kd.R_alloc | apply Kd.R_drewN | apply Kd.R_drew)); exact Kd.R_mono HO212.out (fun _ hk => hk.2)))
                (case aS => exact (below_size (by repeat (first | (with_reducible first | exact HB.out | apply below_alloc | apply pw_below_drewN | apply below_drew1 | refine below_set ?_ GE209.out) | exact HB.out))))
                (case aL => have := LMc5.out; omega)
                intro v217 w20 ho hb hg hat
                rw [← Ny216.out] at ho
                have n0_ := Aside0.mk (blk_grown (g := gb209) (o := .cells #[.int .i64 a1_0, .int .i32 a1_1, .int .i32 a1_2, .int .i8 a1_3, .int .i8 a1_4, .int .i64 a1_5, .bool a1_6, .slice A1_7 l1_7.length c1_7, .bool a1_8, .slice A1_9 l1_9.length c1_9] 75 (0, 0)) (by (with_reducible repeat (first | refine blk_drewN ?_ _ | refine blk_drew ?_ | refine blk_alloc ?_ _)); exact BK209.out) hg (Kd.R_ne HO212.out BK209.out (by decide)))
                have n1_ := Aside0.mk (Kd.R_after (ok := (fun _ => True)) (by (with_reducible repeat (first | apply Kd.R_alloc | apply Kd.R_drewN | apply Kd.R_drew)); exact HO215.out) hg hat)
                have n2_ := Aside0.mk (hb)
                have n3_ := Aside0.mk (ho)
                clear BK209
                clear HO215
                clear HB
                clear HO212
                have BK209 := n0_
                have HO215 := n1_
                have HB := n2_
                have HO218 := n3_
                clear n0_ n1_ n2_ n3_
                clear ho hb hg hat
                refine hK.out _ _ ⟨(blk_cell BK209.out 0).trans rfl, (blk_cell BK209.out 1).trans rfl, (blk_cell BK209.out 2).trans rfl, (blk_cell BK209.out 3).trans rfl, (blk_cell BK209.out 4).trans rfl, (blk_cell BK209.out 5).trans rfl, (blk_cell BK209.out 6).trans rfl, (blk_cell BK209.out 7).trans rfl, (blk_cell BK209.out 8).trans rfl, (blk_cell BK209.out 9).trans rfl⟩ (fun hHeld => ?_)
                clear hK K
                refine norm_ (a' := ?_) ?_ ?_
                rotate_left
                · show Act.put _ (some 13) _ = _
                  simp only [Act.put, List.setIfInBounds_toArray, List.set_cons_zero, List.set_cons_succ, i64_w, i32_w]
                  rfl
                refine pure_ (i := 8) (N := some 5) (v := ?_) (a' := ?_) #[true, true, true, true, true, true, true, true, true] rfl rfl (any_of HT_.out (by kernel_rfl)) (fun _ _ _ h => h) (Or.inl ⟨by rfl, ?_⟩) ?_ ?_
                rotate_left
                · intro w'
                  go_simp
                  with_reducible rfl
                rotate_left
                · simp only [Act.put, List.setIfInBounds_toArray, List.set_cons_zero, List.set_cons_succ, i64_w, i32_w]
                  rfl
                refine done_ (done_of HT_.out (by kernel_rfl)) ?_
                have hcz22_0 : w20.cell? ⟨gb209, 0, none⟩ = some (.int .i64 a1_0) := (blk_cell BK209.out 0).trans rfl
                have hcz22_1 : w20.cell? ⟨gb209, 1, none⟩ = some (.int .i32 a1_1) := (blk_cell BK209.out 1).trans rfl
                have hcz22_2 : w20.cell? ⟨gb209, 2, none⟩ = some (.int .i32 a1_2) := (blk_cell BK209.out 2).trans rfl
                have hcz22_3 : w20.cell? ⟨gb209, 3, none⟩ = some (.int .i8 a1_3) := (blk_cell BK209.out 3).trans rfl
                have hcz22_4 : w20.cell? ⟨gb209, 4, none⟩ = some (.int .i8 a1_4) := (blk_cell BK209.out 4).trans rfl
                have hcz22_5 : w20.cell? ⟨gb209, 5, none⟩ = some (.int .i64 a1_5) := (blk_cell BK209.out 5).trans rfl
                have hcz22_6 : w20.cell? ⟨gb209, 6, none⟩ = some (.bool a1_6) := (blk_cell BK209.out 6).trans rfl
                have hcz22_7 : w20.cell? ⟨gb209, 7, none⟩ = some (.slice A1_7 l1_7.length c1_7) := (blk_cell BK209.out 7).trans rfl
                have hcz22_8 : w20.cell? ⟨gb209, 8, none⟩ = some (.bool a1_8) := (blk_cell BK209.out 8).trans rfl
                have hcz22_9 : w20.cell? ⟨gb209, 9, none⟩ = some (.slice A1_9 l1_9.length c1_9) := (blk_cell BK209.out 9).trans rfl
                have hfz22_0 := blk_frozen BK209.out 0
                have hfz22_1 := blk_frozen BK209.out 1
                have hfz22_2 := blk_frozen BK209.out 2
                have hfz22_3 := blk_frozen BK209.out 3
                have hfz22_4 := blk_frozen BK209.out 4
                have hfz22_5 := blk_frozen BK209.out 5
                have hfz22_6 := blk_frozen BK209.out 6
                have hfz22_7 := blk_frozen BK209.out 7
                have hfz22_8 := blk_frozen BK209.out 8
                have hfz22_9 := blk_frozen BK209.out 9
                try go_wp2_with (first | ((with_reducible refine gate_callee (f := 39) rfl ?_); refine goesL_ (some 18) rfl rfl Tryd.func39 (by kernel_rfl) rfl #[.int .i64 (wrap64 (a1_2)), .int .i64 4] rfl (by (try simp only [List.map_toArray, List.map_cons, List.map_nil]); first | done | rfl | (simp only [List.length_drop, List.length_take]; rfl)) ?_; (with_reducible refine (spec_Fixed.calls k (wrap64 (a1_2)) 4 t219 _ A6.out).mono ?_); rintro e w23 ⟨v220, rfl, ho0, hb⟩; refine ⟨_, rfl, ?_⟩; have n0_ := Aside0.mk (Kd.R_elder' (by (with_reducible repeat (first | apply Kd.R_alloc | apply Kd.R_drewN | apply Kd.R_drew)); exact HO215.out) (Kd.R_base ho0) hb); have n1_ := Aside0.mk (Kd.R_elder' (by (with_reducible repeat (first | apply Kd.R_alloc | apply Kd.R_drewN | apply Kd.R_drew)); exact HO218.out) (Kd.R_base ho0) hb); have n2_ := Aside0.mk (Kd.R_lower (Kd.R_new' (Kd.R_new' ho0 (Kd.R_lt (by (with_reducible repeat (first | apply Kd.R_alloc | apply Kd.R_drewN | apply Kd.R_drew)); exact HO215.out))) (Kd.R_lt (by (with_reducible repeat (first | apply Kd.R_alloc | apply Kd.R_drewN | apply Kd.R_drew)); exact HO218.out))) (below_size (by repeat (first | (with_reducible first | exact HB.out | apply below_alloc | apply pw_below_drewN | apply below_drew1 | refine below_set ?_ GE209.out) | exact HB.out)))); have n3_ := Aside0.mk (blk_below (g := gb209) (o := .cells #[.int .i64 a1_0, .int .i32 a1_1, .int .i32 a1_2, .int .i8 a1_3, .int .i8 a1_4, .int .i64 a1_5, .bool a1_6, .slice A1_7 l1_7.length c1_7, .bool a1_8, .slice A1_9 l1_9.length c1_9] 75 (0, 0)) (by (with_reducible repeat (first | refine blk_drewN ?_ _ | refine blk_drew ?_ | refine blk_alloc ?_ _)); exact BK209.out) hb); have n4_ := Aside0.mk (below_step (by repeat (first | (with_reducible first | exact HB.out | apply below_alloc | apply pw_below_drewN | apply below_drew1 | refine below_set ?_ GE209.out) | exact HB.out)) hb); clear HO215; clear HO218; clear BK209; clear HB; have HO215 := n0_; have HO218 := n1_; have HO221 := n2_; have BK209 := n3_; have HB := n4_; clear n0_ n1_ n2_ n3_ n4_; (try clear hb); (try clear hb2); (try clear hk); (try clear hi); (try clear ho0); obtain ⟨Ao25, co25, eo25⟩ := Kd.R_slice HO221.out; subst eo25) | ((with_reducible refine gate_builtin (b := .append) (xs := #[.tmp 14, .tmp 18]) rfl ?_); at_builtin; refine Kd.R_append_rows (Kd.int .u8) (w0 := w) w.heap.size rfl (.tmp 14) (.tmp 18) 22 5 (.int .u8 0) 1 rfl Tryd.underlying22 info5 rfl (by decide) (by omega) v217 y216 t219 _ _ _ (fun k_ => some k_ ≠ (.slice Ao21 t213.length co21 : Value).ownBlock ∧ some k_ ≠ (.slice Ao25 t219.length co25 : Value).ownBlock) (fun _ => False) rfl rfl ?aO ?aR (fun _ _ h => h) (fun _ h => h.elim) ?aF ?aB ?aS ?aL ?_; (case aR => repeat (first | exact (Kd.R_reads' HO221.out).2.2 | (with_reducible refine Kd.C_alloc ?_ _) | (with_reducible refine Kd.C_drewN ?_ _) | (with_reducible refine Kd.C_drew ?_))); (case aB => exact (by repeat (first | (with_reducible first | exact HB.out | apply below_alloc | apply pw_below_drewN | apply below_drew1 | refine below_set ?_ GE209.out) | exact HB.out))); (case aF => exact (fun k_ hk => ⟨Kd.fresh' (Kd.R_lt (by (with_reducible repeat (first | apply Kd.R_alloc | apply Kd.R_drewN | apply Kd.R_drew)); exact HO215.out)) k_ hk, Kd.fresh' (Kd.R_lt (by (with_reducible repeat (first | apply Kd.R_alloc | apply Kd.R_drewN | apply Kd.R_drew)); exact HO221.out)) k_ hk⟩)); (case aO => exact (by (with_reducible repeat (first | apply Kd.R_alloc | apply Kd.R_drewN | apply Kd.R_drew)); exact HO218.out)); (case aS => exact (below_size (by repeat (first | (with_reducible first | exact HB.out | apply below_alloc | apply pw_below_drewN | apply below_drew1 | refine below_set ?_ GE209.out) | exact HB.out)))); (case aL => have := LMc7.out; omega); intro v223 w24 ho hb hg hat; rw [← Ny222.out] at ho; have n0_ := Aside0.mk (blk_grown (g := gb209) (o := .cells #[.int .i64 a1_0, .int .i32 a1_1, .int .i32 a1_2, .int .i8 a1_3, .int .i8 a1_4, .int .i64 a1_5, .bool a1_6, .slice A1_7 l1_7.length c1_7, .bool a1_8, .slice A1_9 l1_9.length c1_9] 75 (0, 0)) (by (with_reducible repeat (first | refine blk_drewN ?_ _ | refine blk_drew ?_ | refine blk_alloc ?_ _)); exact BK209.out) hg (Kd.R_ne HO218.out BK209.out (by decide))); have n1_ := Aside0.mk (Kd.R_after (ok := (fun k_ => some k_ ≠ (.slice Ao25 t219.length co25 : Value).ownBlock)) (by (with_reducible repeat (first | apply Kd.R_alloc | apply Kd.R_drewN | apply Kd.R_drew)); exact Kd.R_mono HO215.out (fun _ hk => ⟨hk.2, hk.1.2⟩)) hg hat); have n2_ := Aside0.mk (Kd.R_after (ok := (fun k_ => some k_ ≠ (.slice Ao21 t213.length co21 : Value).ownBlock)) (by (with_reducible repeat (first | apply Kd.R_alloc | apply Kd.R_drewN | apply Kd.R_drew)); exact Kd.R_mono HO221.out (fun _ hk => ⟨hk.1.2, hk.2⟩)) hg hat); have n3_ := Aside0.mk (hb); have n4_ := Aside0.mk (ho); clear BK209; clear HO215; clear HO221; clear HB; clear HO218; have BK209 := n0_; have HO215 := n1_; have HO221 := n2_; have HB := n3_; have HO224 := n4_; clear n0_ n1_ n2_ n3_ n4_; clear ho hb hg hat; have hcz26_0 : w24.cell? ⟨gb209, 0, none⟩ = some (.int .i64 a1_0) := (blk_cell BK209.out 0).trans rfl; have hcz26_1 : w24.cell? ⟨gb209, 1, none⟩ = some (.int .i32 a1_1) := (blk_cell BK209.out 1).trans rfl; have hcz26_2 : w24.cell? ⟨gb209, 2, none⟩ = some (.int .i32 a1_2) := (blk_cell BK209.out 2).trans rfl; have hcz26_3 : w24.cell? ⟨gb209, 3, none⟩ = some (.int .i8 a1_3) := (blk_cell BK209.out 3).trans rfl; have hcz26_4 : w24.cell? ⟨gb209, 4, none⟩ = some (.int .i8 a1_4) := (blk_cell BK209.out 4).trans rfl; have hcz26_5 : w24.cell? ⟨gb209, 5, none⟩ = some (.int .i64 a1_5) := (blk_cell BK209.out 5).trans rfl; have hcz26_6 : w24.cell? ⟨gb209, 6, none⟩ = some (.bool a1_6) := (blk_cell BK209.out 6).trans rfl; have hcz26_7 : w24.cell? ⟨gb209, 7, none⟩ = some (.slice A1_7 l1_7.length c1_7) := (blk_cell BK209.out 7).trans rfl; have hcz26_8 : w24.cell? ⟨gb209, 8, none⟩ = some (.bool a1_8) := (blk_cell BK209.out 8).trans rfl; have hcz26_9 : w24.cell? ⟨gb209, 9, none⟩ = some (.slice A1_9 l1_9.length c1_9) := (blk_cell BK209.out 9).trans rfl; have hfz26_0 := blk_frozen BK209.out 0; have hfz26_1 := blk_frozen BK209.out 1; have hfz26_2 := blk_frozen BK209.out 2; have hfz26_3 := blk_frozen BK209.out 3; have hfz26_4 := blk_frozen BK209.out 4; have hfz26_5 := blk_frozen BK209.out 5; have hfz26_6 := blk_frozen BK209.out 6; have hfz26_7 := blk_frozen BK209.out 7; have hfz26_8 := blk_frozen BK209.out 8; have hfz26_9 := blk_frozen BK209.out 9) | ((with_reducible refine gate_dst (N := 27) rfl ?_); refine Kd.R_lit (Kd.int .u8) _ 5 ?hg (N := 27) ?hd (xs := ([(a1_3) % 256, (a1_4) % 256] : List Int)) (inner := [.int .u8 ((a1_3) % 256), .int .u8 ((a1_4) % 256)]) (ok := fun _ => True) (okp := fun _ => True) ?hr ?hp (fun _ hk => hk) trivial (Below.refl _ _) (Nat.le_refl _) (by simp) ?_; (case hd => rfl); (case hg => rfl); (case hr => first | (go_simp; done) | (go_simp; rfl)); (case hp => exact (Reps.one (show Kd.M (Kd.int .u8) _ _ _ ((a1_3) % 256) [.int .u8 ((a1_3) % 256)] from rfl) (Reps.one (show Kd.M (Kd.int .u8) _ _ _ ((a1_4) % 256) [.int .u8 ((a1_4) % 256)] from rfl) (Reps.none _ _)))); intro v226 w27 ho28 hb hg_ hnew_; clear hg_ hnew_; (first | rw [← Ny225.out] at ho28 | (simp only [Int.reduceToNat] at ho28; rw [← Ny225.out] at ho28)); have n0_ := Aside0.mk (Kd.R_elder' (by (with_reducible repeat (first | apply Kd.R_alloc | apply Kd.R_drewN | apply Kd.R_drew)); exact HO215.out) (Kd.R_base ho28) hb); have n1_ := Aside0.mk (Kd.R_elder' (by (with_reducible repeat (first | apply Kd.R_alloc | apply Kd.R_drewN | apply Kd.R_drew)); exact HO221.out) (Kd.R_base ho28) hb); have n2_ := Aside0.mk (Kd.R_elder' (by (with_reducible repeat (first | apply Kd.R_alloc | apply Kd.R_drewN | apply Kd.R_drew)); exact HO224.out) (Kd.R_base ho28) hb); have n3_ := Aside0.mk (Kd.R_lower (Kd.R_new' (Kd.R_new' (Kd.R_new' ho28 (Kd.R_lt (by (with_reducible repeat (first | apply Kd.R_alloc | apply Kd.R_drewN | apply Kd.R_drew)); exact HO215.out))) (Kd.R_lt (by (with_reducible repeat (first | apply Kd.R_alloc | apply Kd.R_drewN | apply Kd.R_drew)); exact HO221.out))) (Kd.R_lt (by (with_reducible repeat (first | apply Kd.R_alloc | apply Kd.R_drewN | apply Kd.R_drew)); exact HO224.out))) (below_size (by repeat (first | (with_reducible first | exact HB.out | apply below_alloc | apply pw_below_drewN | apply below_drew1 | refine below_set ?_ GE209.out) | exact HB.out)))); have n4_ := Aside0.mk (blk_below (g := gb209) (o := .cells #[.int .i64 a1_0, .int .i32 a1_1, .int .i32 a1_2, .int .i8 a1_3, .int .i8 a1_4, .int .i64 a1_5, .bool a1_6, .slice A1_7 l1_7.length c1_7, .bool a1_8, .slice A1_9 l1_9.length c1_9] 75 (0, 0)) (by (with_reducible repeat (first | refine blk_drewN ?_ _ | refine blk_drew ?_ | refine blk_alloc ?_ _)); exact BK209.out) hb); have n5_ := Aside0.mk (below_step (by repeat (first | (with_reducible first | exact HB.out | apply below_alloc | apply pw_below_drewN | apply below_drew1 | refine below_set ?_ GE209.out) | exact HB.out)) hb); clear HO215; clear HO221; clear HO224; clear BK209; clear HB; have HO215 := n0_; have HO221 := n1_; have HO224 := n2_; have HO227 := n3_; have BK209 := n4_; have HB := n5_; clear n0_ n1_ n2_ n3_ n4_ n5_; clear hb ho28; obtain ⟨Ao30, co30, eo30⟩ := Kd.R_slice HO227.out; subst eo30) | ((with_reducible refine gate_builtin (b := .append) (xs := #[.tmp 20, .tmp 27]) rfl ?_); at_builtin; refine Kd.R_append_rows (Kd.int .u8) (w0 := w) w.heap.size rfl (.tmp 20) (.tmp 27) 22 5 (.int .u8 0) 1 rfl Tryd.underlying22 info5 rfl (by decide) (by omega) v223 y222 y225 _ _ _ (fun k_ => some k_ ≠ (.slice Ao21 t213.length co21 : Value).ownBlock ∧ some k_ ≠ (.slice Ao25 t219.length co25 : Value).ownBlock ∧ some k_ ≠ (.slice Ao30 y225.length co30 : Value).ownBlock) (fun _ => False) rfl rfl ?aO ?aR (fun _ _ h => h) (fun _ h => h.elim) ?aF ?aB ?aS ?aL ?_; (case aR => repeat (first | exact (Kd.R_reads' HO227.out).2.2 | (with_reducible refine Kd.C_alloc ?_ _) | (with_reducible refine Kd.C_drewN ?_ _) | (with_reducible refine Kd.C_drew ?_))); (case aB => exact (by repeat (first | (with_reducible first | exact HB.out | apply below_alloc | apply pw_below_drewN | apply below_drew1 | refine below_set ?_ GE209.out) | exact HB.out))); (case aF => exact (fun k_ hk => ⟨Kd.fresh' (Kd.R_lt (by (with_reducible repeat (first | apply Kd.R_alloc | apply Kd.R_drewN | apply Kd.R_drew)); exact HO215.out)) k_ hk, Kd.fresh' (Kd.R_lt (by (with_reducible repeat (first | apply Kd.R_alloc | apply Kd.R_drewN | apply Kd.R_drew)); exact HO221.out)) k_ hk, Kd.fresh' (Kd.R_lt (by (with_reducible repeat (first | apply Kd.R_alloc | apply Kd.R_drewN | apply Kd.R_drew)); exact HO227.out)) k_ hk⟩)); (case aO => exact (by (with_reducible repeat (first | apply Kd.R_alloc | apply Kd.R_drewN | apply Kd.R_drew)); exact Kd.R_mono HO224.out (fun _ hk => ⟨hk.1.1, ⟨hk.1.2, hk.2⟩⟩))); (case aS => exact (below_size (by repeat (first | (with_reducible first | exact HB.out | apply below_alloc | apply pw_below_drewN | apply below_drew1 | refine below_set ?_ GE209.out) | exact HB.out)))); (case aL => have := LMc8.out; omega); intro v229 w29 ho hb hg hat; rw [← Ny228.out] at ho; have n0_ := Aside0.mk (blk_grown (g := gb209) (o := .cells #[.int .i64 a1_0, .int .i32 a1_1, .int .i32 a1_2, .int .i8 a1_3, .int .i8 a1_4, .int .i64 a1_5, .bool a1_6, .slice A1_7 l1_7.length c1_7, .bool a1_8, .slice A1_9 l1_9.length c1_9] 75 (0, 0)) (by (with_reducible repeat (first | refine blk_drewN ?_ _ | refine blk_drew ?_ | refine blk_alloc ?_ _)); exact BK209.out) hg (Kd.R_ne HO224.out BK209.out (by decide))); have n1_ := Aside0.mk (Kd.R_after (ok := (fun k_ => some k_ ≠ (.slice Ao25 t219.length co25 : Value).ownBlock ∧ some k_ ≠ (.slice Ao30 y225.length co30 : Value).ownBlock)) (by (with_reducible repeat (first | apply Kd.R_alloc | apply Kd.R_drewN | apply Kd.R_drew)); exact Kd.R_mono HO215.out (fun _ hk => ⟨⟨hk.1.1, hk.2⟩, hk.1.2⟩)) hg hat); have n2_ := Aside0.mk (Kd.R_after (ok := (fun k_ => some k_ ≠ (.slice Ao21 t213.length co21 : Value).ownBlock ∧ some k_ ≠ (.slice Ao30 y225.length co30 : Value).ownBlock)) (by (with_reducible repeat (first | apply Kd.R_alloc | apply Kd.R_drewN | apply Kd.R_drew)); exact Kd.R_mono HO221.out (fun _ hk => ⟨⟨hk.1.1, hk.2⟩, hk.1.2⟩)) hg hat); have n3_ := Aside0.mk (Kd.R_after (ok := (fun k_ => some k_ ≠ (.slice Ao21 t213.length co21 : Value).ownBlock ∧ some k_ ≠ (.slice Ao25 t219.length co25 : Value).ownBlock)) (by (with_reducible repeat (first | apply Kd.R_alloc | apply Kd.R_drewN | apply Kd.R_drew)); exact Kd.R_mono HO227.out (fun _ hk => ⟨⟨hk.1.1.2, hk.1.2⟩, hk.2⟩)) hg hat); have n4_ := Aside0.mk (hb); have n5_ := Aside0.mk (ho); clear BK209; clear HO215; clear HO221; clear HO227; clear HB; clear HO224; have BK209 := n0_; have HO215 := n1_; have HO221 := n2_; have HO227 := n3_; have HB := n4_; have HO230 := n5_; clear n0_ n1_ n2_ n3_ n4_ n5_; clear ho hb hg hat; have hcz31_0 : w29.cell? ⟨gb209, 0, none⟩ = some (.int .i64 a1_0) := (blk_cell BK209.out 0).trans rfl; have hcz31_1 : w29.cell? ⟨gb209, 1, none⟩ = some (.int .i32 a1_1) := (blk_cell BK209.out 1).trans rfl; have hcz31_2 : w29.cell? ⟨gb209, 2, none⟩ = some (.int .i32 a1_2) := (blk_cell BK209.out 2).trans rfl; have hcz31_3 : w29.cell? ⟨gb209, 3, none⟩ = some (.int .i8 a1_3) := (blk_cell BK209.out 3).trans rfl; have hcz31_4 : w29.cell? ⟨gb209, 4, none⟩ = some (.int .i8 a1_4) := (blk_cell BK209.out 4).trans rfl; have hcz31_5 : w29.cell? ⟨gb209, 5, none⟩ = some (.int .i64 a1_5) := (blk_cell BK209.out 5).trans rfl; have hcz31_6 : w29.cell? ⟨gb209, 6, none⟩ = some (.bool a1_6) := (blk_cell BK209.out 6).trans rfl; have hcz31_7 : w29.cell? ⟨gb209, 7, none⟩ = some (.slice A1_7 l1_7.length c1_7) := (blk_cell BK209.out 7).trans rfl; have hcz31_8 : w29.cell? ⟨gb209, 8, none⟩ = some (.bool a1_8) := (blk_cell BK209.out 8).trans rfl; have hcz31_9 : w29.cell? ⟨gb209, 9, none⟩ = some (.slice A1_9 l1_9.length c1_9) := (blk_cell BK209.out 9).trans rfl; have hfz31_0 := blk_frozen BK209.out 0; have hfz31_1 := blk_frozen BK209.out 1; have hfz31_2 := blk_frozen BK209.out 2; have hfz31_3 := blk_frozen BK209.out 3; have hfz31_4 := blk_frozen BK209.out 4; have hfz31_5 := blk_frozen BK209.out 5; have hfz31_6 := blk_frozen BK209.out 6; have hfz31_7 := blk_frozen BK209.out 7; have hfz31_8 := blk_frozen BK209.out 8; have hfz31_9 := blk_frozen BK209.out 9) | ((with_reducible refine gate_callee (f := 39) rfl ?_); refine goesL_ (some 34) rfl rfl Tryd.func39 (by kernel_rfl) rfl #[.int .i64 a1_5, .int .i64 8] rfl (by (try simp only [List.map_toArray, List.map_cons, List.map_nil]); first | done | rfl | (simp only [List.length_drop, List.length_take]; rfl)) ?_; (with_reducible refine (spec_Fixed.calls k a1_5 8 t231 _ A10.out).mono ?_); rintro e w32 ⟨v232, rfl, ho0, hb⟩; refine ⟨_, rfl, ?_⟩; have n0_ := Aside0.mk (Kd.R_elder' (by (with_reducible repeat (first | apply Kd.R_alloc | apply Kd.R_drewN | apply Kd.R_drew)); exact HO215.out) (Kd.R_base ho0) hb); have n1_ := Aside0.mk (Kd.R_elder' (by (with_reducible repeat (first | apply Kd.R_alloc | apply Kd.R_drewN | apply Kd.R_drew)); exact HO221.out) (Kd.R_base ho0) hb); have n2_ := Aside0.mk (Kd.R_elder' (by (with_reducible repeat (first | apply Kd.R_alloc | apply Kd.R_drewN | apply Kd.R_drew)); exact HO227.out) (Kd.R_base ho0) hb); have n3_ := Aside0.mk (Kd.R_elder' (by (with_reducible repeat (first | apply Kd.R_alloc | apply Kd.R_drewN | apply Kd.R_drew)); exact HO230.out) (Kd.R_base ho0) hb); have n4_ := Aside0.mk (Kd.R_lower (Kd.R_new' (Kd.R_new' (Kd.R_new' (Kd.R_new' ho0 (Kd.R_lt (by (with_reducible repeat (first | apply Kd.R_alloc | apply Kd.R_drewN | apply Kd.R_drew)); exact HO215.out))) (Kd.R_lt (by (with_reducible repeat (first | apply Kd.R_alloc | apply Kd.R_drewN | apply Kd.R_drew)); exact HO221.out))) (Kd.R_lt (by (with_reducible repeat (first | apply Kd.R_alloc | apply Kd.R_drewN | apply Kd.R_drew)); exact HO227.out))) (Kd.R_lt (by (with_reducible repeat (first | apply Kd.R_alloc | apply Kd.R_drewN | apply Kd.R_drew)); exact HO230.out))) (below_size (by repeat (first | (with_reducible first | exact HB.out | apply below_alloc | apply pw_below_drewN | apply below_drew1 | refine below_set ?_ GE209.out) | exact HB.out)))); have n5_ := Aside0.mk (blk_below (g := gb209) (o := .cells #[.int .i64 a1_0, .int .i32 a1_1, .int .i32 a1_2, .int .i8 a1_3, .int .i8 a1_4, .int .i64 a1_5, .bool a1_6, .slice A1_7 l1_7.length c1_7, .bool a1_8, .slice A1_9 l1_9.length c1_9] 75 (0, 0)) (by (with_reducible repeat (first | refine blk_drewN ?_ _ | refine blk_drew ?_ | refine blk_alloc ?_ _)); exact BK209.out) hb); have n6_ := Aside0.mk (below_step (by repeat (first | (with_reducible first | exact HB.out | apply below_alloc | apply pw_below_drewN | apply below_drew1 | refine below_set ?_ GE209.out) | exact HB.out)) hb); clear HO215; clear HO221; clear HO227; clear HO230; clear BK209; clear HB; have HO215 := n0_; have HO221 := n1_; have HO227 := n2_; have HO230 := n3_; have HO233 := n4_; have BK209 := n5_; have HB := n6_; clear n0_ n1_ n2_ n3_ n4_ n5_ n6_; (try clear hb); (try clear hb2); (try clear hk); (try clear hi); (try clear ho0); obtain ⟨Ao34, co34, eo34⟩ := Kd.R_slice HO233.out; subst eo34) | ((with_reducible refine gate_builtin (b := .append) (xs := #[.tmp 31, .tmp 34]) rfl ?_); at_builtin; refine Kd.R_append_rows (Kd.int .u8) (w0 := w) w.heap.size rfl (.tmp 31) (.tmp 34) 22 5 (.int .u8 0) 1 rfl Tryd.underlying22 info5 rfl (by decide) (by omega) v229 y228 t231 _ _ _ (fun k_ => some k_ ≠ (.slice Ao21 t213.length co21 : Value).ownBlock ∧ some k_ ≠ (.slice Ao25 t219.length co25 : Value).ownBlock ∧ some k_ ≠ (.slice Ao30 y225.length co30 : Value).ownBlock ∧ some k_ ≠ (.slice Ao34 t231.length co34 : Value).ownBlock) (fun _ => False) rfl rfl ?aO ?aR (fun _ _ h => h) (fun _ h => h.elim) ?aF ?aB ?aS ?aL ?_; (case aR => repeat (first | exact (Kd.R_reads' HO233.out).2.2 | (with_reducible refine Kd.C_alloc ?_ _) | (with_reducible refine Kd.C_drewN ?_ _) | (with_reducible refine Kd.C_drew ?_))); (case aB => exact (by repeat (first | (with_reducible first | exact HB.out | apply below_alloc | apply pw_below_drewN | apply below_drew1 | refine below_set ?_ GE209.out) | exact HB.out))); (case aF => exact (fun k_ hk => ⟨Kd.fresh' (Kd.R_lt (by (with_reducible repeat (first | apply Kd.R_alloc | apply Kd.R_drewN | apply Kd.R_drew)); exact HO215.out)) k_ hk, Kd.fresh' (Kd.R_lt (by (with_reducible repeat (first | apply Kd.R_alloc | apply Kd.R_drewN | apply Kd.R_drew)); exact HO221.out)) k_ hk, Kd.fresh' (Kd.R_lt (by (with_reducible repeat (first | apply Kd.R_alloc | apply Kd.R_drewN | apply Kd.R_drew)); exact HO227.out)) k_ hk, Kd.fresh' (Kd.R_lt (by (with_reducible repeat (first | apply Kd.R_alloc | apply Kd.R_drewN | apply Kd.R_drew)); exact HO233.out)) k_ hk⟩)); (case aO => exact (by (with_reducible repeat (first | apply Kd.R_alloc | apply Kd.R_drewN | apply Kd.R_drew)); exact Kd.R_mono HO230.out (fun _ hk => ⟨hk.1.1, ⟨hk.1.2.1, ⟨hk.1.2.2, hk.2⟩⟩⟩))); (case aS => exact (below_size (by repeat (first | (with_reducible first | exact HB.out | apply below_alloc | apply pw_below_drewN | apply below_drew1 | refine below_set ?_ GE209.out) | exact HB.out)))); (case aL => have := LMc11.out; omega); intro v235 w33 ho hb hg hat; rw [← Ny234.out] at ho; have n0_ := Aside0.mk (blk_grown (g := gb209) (o := .cells #[.int .i64 a1_0, .int .i32 a1_1, .int .i32 a1_2, .int .i8 a1_3, .int .i8 a1_4, .int .i64 a1_5, .bool a1_6, .slice A1_7 l1_7.length c1_7, .bool a1_8, .slice A1_9 l1_9.length c1_9] 75 (0, 0)) (by (with_reducible repeat (first | refine blk_drewN ?_ _ | refine blk_drew ?_ | refine blk_alloc ?_ _)); exact BK209.out) hg (Kd.R_ne HO230.out BK209.out (by decide))); have n1_ := Aside0.mk (Kd.R_after (ok := (fun k_ => some k_ ≠ (.slice Ao25 t219.length co25 : Value).ownBlock ∧ some k_ ≠ (.slice Ao30 y225.length co30 : Value).ownBlock ∧ some k_ ≠ (.slice Ao34 t231.length co34 : Value).ownBlock)) (by (with_reducible repeat (first | apply Kd.R_alloc | apply Kd.R_drewN | apply Kd.R_drew)); exact Kd.R_mono HO215.out (fun _ hk => ⟨⟨hk.1.1.1, ⟨hk.1.1.2, hk.2⟩⟩, hk.1.2⟩)) hg hat); have n2_ := Aside0.mk (Kd.R_after (ok := (fun k_ => some k_ ≠ (.slice Ao21 t213.length co21 : Value).ownBlock ∧ some k_ ≠ (.slice Ao30 y225.length co30 : Value).ownBlock ∧ some k_ ≠ (.slice Ao34 t231.length co34 : Value).ownBlock)) (by (with_reducible repeat (first | apply Kd.R_alloc | apply Kd.R_drewN | apply Kd.R_drew)); exact Kd.R_mono HO221.out (fun _ hk => ⟨⟨hk.1.1.1, ⟨hk.1.1.2, hk.2⟩⟩, hk.1.2⟩)) hg hat); have n3_ := Aside0.mk (Kd.R_after (ok := (fun k_ => some k_ ≠ (.slice Ao21 t213.length co21 : Value).ownBlock ∧ some k_ ≠ (.slice Ao25 t219.length co25 : Value).ownBlock ∧ some k_ ≠ (.slice Ao34 t231.length co34 : Value).ownBlock)) (by (with_reducible repeat (first | apply Kd.R_alloc | apply Kd.R_drewN | apply Kd.R_drew)); exact Kd.R_mono HO227.out (fun _ hk => ⟨⟨hk.1.1.1, ⟨hk.1.1.2, hk.2⟩⟩, hk.1.2⟩)) hg hat); have n4_ := Aside0.mk (Kd.R_after (ok := (fun k_ => some k_ ≠ (.slice Ao21 t213.length co21 : Value).ownBlock ∧ some k_ ≠ (.slice Ao25 t219.length co25 : Value).ownBlock ∧ some k_ ≠ (.slice Ao30 y225.length co30 : Value).ownBlock)) (by (with_reducible repeat (first | apply Kd.R_alloc | apply Kd.R_drewN | apply Kd.R_drew)); exact Kd.R_mono HO233.out (fun _ hk => ⟨⟨hk.1.1.1.2, ⟨hk.1.1.2, hk.1.2⟩⟩, hk.2⟩)) hg hat); have n5_ := Aside0.mk (hb); have n6_ := Aside0.mk (ho); clear BK209; clear HO215; clear HO221; clear HO227; clear HO233; clear HB; clear HO230; have BK209 := n0_; have HO215 := n1_; have HO221 := n2_; have HO227 := n3_; have HO233 := n4_; have HB := n5_; have HO236 := n6_; clear n0_ n1_ n2_ n3_ n4_ n5_ n6_; clear ho hb hg hat))
                have n0_ := Aside0.mk (Kd.R_drew HO215.out)
                have n1_ := Aside0.mk (Kd.R_drew HO221.out)
                have n2_ := Aside0.mk (Kd.R_drew HO227.out)
                have n3_ := Aside0.mk (Kd.R_drew HO233.out)
                have n4_ := Aside0.mk (Kd.R_drew HO236.out)
                have n5_ := Aside0.mk (blk_drew BK209.out)
                have n6_ := Aside0.mk (below_drew1 HB.out)
                clear HO215
                clear HO221
                clear HO227
                clear HO233
                clear HO236
                clear BK209
                clear HB
                have HO215 := n0_
                have HO221 := n1_
                have HO227 := n2_
                have HO233 := n3_
                have HO236 := n4_
                have BK209 := n5_
                have HB := n6_
                clear n0_ n1_ n2_ n3_ n4_ n5_ n6_
                refine start_ (n := 10) (S := fun w' => w'.cell? ⟨gb209, 0, none⟩ = some (.int .i64 a1_0) ∧ w'.cell? ⟨gb209, 1, none⟩ = some (.int .i32 a1_1) ∧ w'.cell? ⟨gb209, 2, none⟩ = some (.int .i32 a1_2) ∧ w'.cell? ⟨gb209, 3, none⟩ = some (.int .i8 a1_3) ∧ w'.cell? ⟨gb209, 4, none⟩ = some (.int .i8 a1_4) ∧ w'.cell? ⟨gb209, 5, none⟩ = some (.int .i64 a1_5) ∧ w'.cell? ⟨gb209, 6, none⟩ = some (.bool a1_6) ∧ w'.cell? ⟨gb209, 7, none⟩ = some (.slice A1_7 l1_7.length c1_7) ∧ w'.cell? ⟨gb209, 8, none⟩ = some (.bool a1_8) ∧ w'.cell? ⟨gb209, 9, none⟩ = some (.slice A1_9 l1_9.length c1_9)) (ds := []) #[false, false, false, false, false, false, false, false, false, false] (by kernel_rfl) rfl rfl ⟨(blk_cell BK209.out 0).trans rfl, (blk_cell BK209.out 1).trans rfl, (blk_cell BK209.out 2).trans rfl, (blk_cell BK209.out 3).trans rfl, (blk_cell BK209.out 4).trans rfl, (blk_cell BK209.out 5).trans rfl, (blk_cell BK209.out 6).trans rfl, (blk_cell BK209.out 7).trans rfl, (blk_cell BK209.out 8).trans rfl, (blk_cell BK209.out 9).trans rfl⟩ (fun hHeld => ?_); refine with_tabW spec_OldBytes.tab6 spec_OldBytes.bits6 (fun HT_ HW_ => ?_)
                generalize w33.drew = w35 at HO215 HO221 HO227 HO233 HO236 BK209 HB hHeld ⊢
                refine pure_ (i := 0) (N := some 36) (v := ?_) (a' := ?_) #[true, false, false, false, false, false, false, false, false, false] rfl rfl (any_of HT_.out (by kernel_rfl)) (fun _ _ _ h => h) (Or.inl ⟨by rfl, ?_⟩) ?_ ?_
                rotate_left
                · intro w'
                  go_simp
                  with_reducible rfl
                rotate_left
                · simp only [Act.put, List.setIfInBounds_toArray, List.set_cons_zero, List.set_cons_succ, i64_w, i32_w]
                  rfl
                refine pure_ (i := 1) (N := some 37) (v := ?_) (a' := ?_) #[true, true, false, false, false, false, false, false, false, false] rfl rfl (any_of HT_.out (by kernel_rfl)) (fun _ _ _ h => h) (Or.inl ⟨by rfl, ?_⟩) ?_ ?_
                rotate_left
                · intro w'
                  go_simp
                  with_reducible rfl
                rotate_left
                · simp only [Act.put, List.setIfInBounds_toArray, List.set_cons_zero, List.set_cons_succ, i64_w, i32_w]
                  rfl
                refine pure_ (i := 5) (N := some 41) (v := ?_) (a' := ?_) #[true, true, false, false, false, true, false, false, false, false] rfl rfl (any_of HT_.out (by kernel_rfl)) (fun _ _ _ h => h) (Or.inl ⟨by rfl, ?_⟩) ?_ ?_
                rotate_left
                · intro w'
                  go_simp
                  with_reducible rfl
                rotate_left
                · simp only [Act.put, List.setIfInBounds_toArray, List.set_cons_zero, List.set_cons_succ, i64_w, i32_w]
                  rfl
                refine take_ (i := 2) (N := some 38) (v := ?_) (a' := ?_) #[true, true, true, false, false, true, false, false, false, false] rfl rfl (take_ofW HT_.out HW_.out (by kernel_rfl)) (fun _ _ _ h => h) (Or.inl ⟨by rfl, ?_⟩) hHeld ?_ ?_
                rotate_left
                · rintro w' ⟨s0, s1, s2, s3, s4, s5, s6, s7, s8, s9⟩
                  go_simp
                  with_reducible rfl
                rotate_left
                · simp only [Act.put, List.setIfInBounds_toArray, List.set_cons_zero, List.set_cons_succ, i64_w, i32_w]
                  rfl
                refine take_ (i := 6) (N := some 42) (v := ?_) (a' := ?_) #[true, true, true, false, false, true, true, false, false, false] rfl rfl (take_ofW HT_.out HW_.out (by kernel_rfl)) (fun _ _ _ h => h) (Or.inl ⟨by rfl, ?_⟩) hHeld ?_ ?_
                rotate_left
                · rintro w' ⟨s0, s1, s2, s3, s4, s5, s6, s7, s8, s9⟩
                  go_simp
                  with_reducible rfl
                rotate_left
                · simp only [Act.put, List.setIfInBounds_toArray, List.set_cons_zero, List.set_cons_succ, i64_w, i32_w]
                  rfl
                refine one_ (i := 3) (N := some 39) #[true, true, true, true, false, true, true, false, false, false] rfl rfl (one_of HT_.out (by kernel_rfl)) (by decide) (fun K hK => ?_)
                refine goes_ Tryd.func49 (by kernel_rfl) rfl #[.agg #[.bool a1_6, .slice A1_7 l1_7.length c1_7]] (by rfl) rfl rfl (by (try simp only [List.map_toArray, List.map_cons, List.map_nil]); first | done | rfl | (simp only [List.length_drop, List.length_take]; rfl)) ?_
                with_reducible refine (spec_fixedOctets.calls k a1_6 _ _ l1_7 t237 _ ?side1 ?side2 A12.out).mono ?_
                (case side1 => repeat (first | exact (Kd.C_below HR1_7.out HB.out) | (with_reducible refine Kd.C_alloc ?_ _) | (with_reducible refine Kd.C_drewN ?_ _) | (with_reducible refine Kd.C_drew ?_)))
                (case side2 => exact HC1_7.out)
                rintro e w36 ⟨v238, rfl, ho0, hb⟩
                refine ⟨_, rfl, ?_⟩
                have n0_ := Aside0.mk (Kd.R_elder' (by (with_reducible repeat (first | apply Kd.R_alloc | apply Kd.R_drewN | apply Kd.R_drew)); exact HO215.out) (Kd.R_base ho0) hb)
                have n1_ := Aside0.mk (Kd.R_elder' (by (with_reducible repeat (first | apply Kd.R_alloc | apply Kd.R_drewN | apply Kd.R_drew)); exact HO221.out) (Kd.R_base ho0) hb)
                have n2_ := Aside0.mk (Kd.R_elder' (by (with_reducible repeat (first | apply Kd.R_alloc | apply Kd.R_drewN | apply Kd.R_drew)); exact HO227.out) (Kd.R_base ho0) hb)
                have n3_ := Aside0.mk (Kd.R_elder' (by (with_reducible repeat (first | apply Kd.R_alloc | apply Kd.R_drewN | apply Kd.R_drew)); exact HO233.out) (Kd.R_base ho0) hb)
                have n4_ := Aside0.mk (Kd.R_elder' (by (with_reducible repeat (first | apply Kd.R_alloc | apply Kd.R_drewN | apply Kd.R_drew)); exact HO236.out) (Kd.R_base ho0) hb)
                have n5_ := Aside0.mk (Kd.R_lower (Kd.R_new' (Kd.R_new' (Kd.R_new' (Kd.R_new' (Kd.R_new' ho0 (Kd.R_lt (by (with_reducible repeat (first | apply Kd.R_alloc | apply Kd.R_drewN | apply Kd.R_drew)); exact HO215.out))) (Kd.R_lt (by (with_reducible repeat (first | apply Kd.R_alloc | apply Kd.R_drewN | apply Kd.R_drew)); exact HO221.out))) (Kd.R_lt (by (with_reducible repeat (first | apply Kd.R_alloc | apply Kd.R_drewN | apply Kd.R_drew)); exact HO227.out))) (Kd.R_lt (by (with_reducible repeat (first | apply Kd.R_alloc | apply Kd.R_drewN | apply Kd.R_drew)); exact HO233.out))) (Kd.R_lt (by (with_reducible repeat (first | apply Kd.R_alloc | apply Kd.R_drewN | apply Kd.R_drew)); exact HO236.out))) (below_size (by repeat (first | (with_reducible first | exact HB.out | apply below_alloc | apply pw_below_drewN | apply below_drew1 | refine below_set ?_ GE209.out) | exact HB.out))))
                have n6_ := Aside0.mk (blk_below (g := gb209) (o := .cells #[.int .i64 a1_0, .int .i32 a1_1, .int .i32 a1_2, .int .i8 a1_3, .int .i8 a1_4, .int .i64 a1_5, .bool a1_6, .slice A1_7 l1_7.length c1_7, .bool a1_8, .slice A1_9 l1_9.length c1_9] 75 (0, 0)) (by (with_reducible repeat (first | refine blk_drewN ?_ _ | refine blk_drew ?_ | refine blk_alloc ?_ _)); exact BK209.out) hb)
                have n7_ := Aside0.mk (below_step (by repeat (first | (with_reducible first | exact HB.out | apply below_alloc | apply pw_below_drewN | apply below_drew1 | refine below_set ?_ GE209.out) | exact HB.out)) hb)
                clear HO215
                clear HO221
                clear HO227
                clear HO233
                clear HO236
                clear BK209
                clear HB
                have HO215 := n0_
                have HO221 := n1_
                have HO227 := n2_
                have HO233 := n3_
                have HO236 := n4_
                have HO239 := n5_
                have BK209 := n6_
                have HB := n7_
                clear n0_ n1_ n2_ n3_ n4_ n5_ n6_ n7_
                (try clear hb)
                (try clear hb2)
                (try clear hk)
                (try clear hi)
                (try clear ho0)
                obtain ⟨Ao38, co38, eo38⟩ := Kd.R_slice HO239.out
                (first | subst eo38 | (injection eo38 with f1_ f2_ f3_; have f4_ := f1_.symm; have f5_ := f3_.symm; clear f1_ f2_ f3_; subst f4_; subst f5_))
                refine hK.out _ _ ⟨(blk_cell BK209.out 0).trans rfl, (blk_cell BK209.out 1).trans rfl, (blk_cell BK209.out 2).trans rfl, (blk_cell BK209.out 3).trans rfl, (blk_cell BK209.out 4).trans rfl, (blk_cell BK209.out 5).trans rfl, (blk_cell BK209.out 6).trans rfl, (blk_cell BK209.out 7).trans rfl, (blk_cell BK209.out 8).trans rfl, (blk_cell BK209.out 9).trans rfl⟩ (fun hHeld => ?_)
                clear hK K
                refine norm_ (a' := ?_) ?_ ?_
                rotate_left
                · show Act.put _ (some 39) _ = _
                  simp only [Act.put, List.setIfInBounds_toArray, List.set_cons_zero, List.set_cons_succ, i64_w, i32_w]
                  rfl
                refine one_ (i := 4) (N := some 40) #[true, true, true, true, true, true, true, false, false, false] rfl rfl (one_of HT_.out (by kernel_rfl)) (by decide) (fun K hK => ?_)
                refine Kd.R_append_rows_step (Kd.int .u8) (w0 := w) w.heap.size (by rfl) (.tmp 36) (.tmp 39) 22 5 (.int .u8 0) 1 rfl Tryd.underlying22 info5 rfl (by decide) (by omega) v235 y234 t237 _ _ _ (fun k_ => some k_ ≠ (.slice Ao21 t213.length co21 : Value).ownBlock ∧ some k_ ≠ (.slice Ao25 t219.length co25 : Value).ownBlock ∧ some k_ ≠ (.slice Ao30 y225.length co30 : Value).ownBlock ∧ some k_ ≠ (.slice Ao34 t231.length co34 : Value).ownBlock ∧ some k_ ≠ (.slice Ao38 t237.length co38 : Value).ownBlock) (fun _ => False) rfl rfl ?aO ?aR (fun _ _ h => h) (fun _ h => h.elim) ?aF ?aB ?aS ?aL ?_
                (case aR => repeat (first | exact (Kd.R_reads' HO239.out).2.2 | (with_reducible refine Kd.C_alloc ?_ _) | (with_reducible refine Kd.C_drewN ?_ _) | (with_reducible refine Kd.C_drew ?_)))
                (case aB => exact (by repeat (first | (with_reducible first | exact HB.out | apply below_alloc | apply pw_below_drewN | apply below_drew1 | refine below_set ?_ GE209.out) | exact HB.out)))
                (case aF => exact (fun k_ hk => ⟨Kd.fresh' (Kd.R_lt (by (with_reducible repeat (first | apply Kd.R_alloc | apply Kd.R_drewN | apply Kd.R_drew)); exact HO215.out)) k_ hk, Kd.fresh' (Kd.R_lt (by (with_reducible repeat (first | apply Kd.R_alloc | apply Kd.R_drewN | apply Kd.R_drew)); exact HO221.out)) k_ hk, Kd.fresh' (Kd.R_lt (by (with_reducible repeat (first | apply Kd.R_alloc | apply Kd.R_drewN | apply Kd.R_drew)); exact HO227.out)) k_ hk, Kd.fresh' (Kd.R_lt (by (with_reducible repeat (first | apply Kd.R_alloc | apply Kd.R_drewN | apply Kd.R_drew)); exact HO233.out)) k_ hk, Kd.fresh' (Kd.R_lt (by (with_reducible repeat (first | apply Kd.R_alloc | apply Kd.R_drewN | apply Kd.R_drew)); exact HO239.out)) k_ hk⟩))
                (case aO => exact (by (with_reducible repeat (first | apply Kd.R_alloc | apply Kd.R_drewN | apply Kd.R_drew)); exact Kd.R_mono HO236.out (fun _ hk => ⟨hk.1.1, ⟨hk.1.2.1, ⟨hk.1.2.2.1, ⟨hk.1.2.2.2, hk.2⟩⟩⟩⟩)))
                (case aS => exact (below_size (by repeat (first | (with_reducible first | exact HB.out | apply below_alloc | apply pw_below_drewN | apply below_drew1 | refine below_set ?_ GE209.out) | exact HB.out))))
                (case aL => have := LMc13.out; omega)
                intro v241 w37 ho hb hg hat
                rw [← Ny240.out] at ho
                have n0_ := Aside0.mk (blk_grown (g := gb209) (o := .cells #[.int .i64 a1_0, .int .i32 a1_1, .int .i32 a1_2, .int .i8 a1_3, .int .i8 a1_4, .int .i64 a1_5, .bool a1_6, .slice A1_7 l1_7.length c1_7, .bool a1_8, .slice A1_9 l1_9.length c1_9] 75 (0, 0)) (by (with_reducible repeat (first | refine blk_drewN ?_ _ | refine blk_drew ?_ | refine blk_alloc ?_ _)); exact BK209.out) hg (Kd.R_ne HO236.out BK209.out (by decide)))
                have n1_ := Aside0.mk (Kd.R_after (ok := (fun k_ => some k_ ≠ (.slice Ao25 t219.length co25 : Value).ownBlock ∧ some k_ ≠ (.slice Ao30 y225.length co30 : Value).ownBlock ∧ some k_ ≠ (.slice Ao34 t231.length co34 : Value).ownBlock ∧ some k_ ≠ (.slice Ao38 t237.length co38 : Value).ownBlock)) (by (with_reducible repeat (first | apply Kd.R_alloc | apply Kd.R_drewN | apply Kd.R_drew)); exact Kd.R_mono HO215.out (fun _ hk => ⟨⟨hk.1.1.1, ⟨hk.1.1.2.1, ⟨hk.1.1.2.2, hk.2⟩⟩⟩, hk.1.2⟩)) hg hat)
                have n2_ := Aside0.mk (Kd.R_after (ok := (fun k_ => some k_ ≠ (.slice Ao21 t213.length co21 : Value).ownBlock ∧ some k_ ≠ (.slice Ao30 y225.length co30 : Value).ownBlock ∧ some k_ ≠ (.slice Ao34 t231.length co34 : Value).ownBlock ∧ some k_ ≠ (.slice Ao38 t237.length co38 : Value).ownBlock)) (by (with_reducible repeat (first | apply Kd.R_alloc | apply Kd.R_drewN | apply Kd.R_drew)); exact Kd.R_mono HO221.out (fun _ hk => ⟨⟨hk.1.1.1, ⟨hk.1.1.2.1, ⟨hk.1.1.2.2, hk.2⟩⟩⟩, hk.1.2⟩)) hg hat)
                have n3_ := Aside0.mk (Kd.R_after (ok := (fun k_ => some k_ ≠ (.slice Ao21 t213.length co21 : Value).ownBlock ∧ some k_ ≠ (.slice Ao25 t219.length co25 : Value).ownBlock ∧ some k_ ≠ (.slice Ao34 t231.length co34 : Value).ownBlock ∧ some k_ ≠ (.slice Ao38 t237.length co38 : Value).ownBlock)) (by (with_reducible repeat (first | apply Kd.R_alloc | apply Kd.R_drewN | apply Kd.R_drew)); exact Kd.R_mono HO227.out (fun _ hk => ⟨⟨hk.1.1.1, ⟨hk.1.1.2.1, ⟨hk.1.1.2.2, hk.2⟩⟩⟩, hk.1.2⟩)) hg hat)
                have n4_ := Aside0.mk (Kd.R_after (ok := (fun k_ => some k_ ≠ (.slice Ao21 t213.length co21 : Value).ownBlock ∧ some k_ ≠ (.slice Ao25 t219.length co25 : Value).ownBlock ∧ some k_ ≠ (.slice Ao30 y225.length co30 : Value).ownBlock ∧ some k_ ≠ (.slice Ao38 t237.length co38 : Value).ownBlock)) (by (with_reducible repeat (first | apply Kd.R_alloc | apply Kd.R_drewN | apply Kd.R_drew)); exact Kd.R_mono HO233.out (fun _ hk => ⟨⟨hk.1.1.1, ⟨hk.1.1.2.1, ⟨hk.1.1.2.2, hk.2⟩⟩⟩, hk.1.2⟩)) hg hat)
                have n5_ := Aside0.mk (Kd.R_after (ok := (fun k_ => some k_ ≠ (.slice Ao21 t213.length co21 : Value).ownBlock ∧ some k_ ≠ (.slice Ao25 t219.length co25 : Value).ownBlock ∧ some k_ ≠ (.slice Ao30 y225.length co30 : Value).ownBlock ∧ some k_ ≠ (.slice Ao34 t231.length co34 : Value).ownBlock)) (by (with_reducible repeat (first | apply Kd.R_alloc | apply Kd.R_drewN | apply Kd.R_drew)); exact Kd.R_mono HO239.out (fun _ hk => ⟨⟨hk.1.1.1.1.2, ⟨hk.1.1.1.2, ⟨hk.1.1.2, hk.1.2⟩⟩⟩, hk.2⟩)) hg hat)
                have n6_ := Aside0.mk (hb)
                have n7_ := Aside0.mk (ho)
                clear BK209
                clear HO215
                clear HO221
                clear HO227
                clear HO233
                clear HO239
                clear HB
                clear HO236
                have BK209 := n0_
                have HO215 := n1_
                have HO221 := n2_
                have HO227 := n3_
                have HO233 := n4_
                have HO239 := n5_
                have HB := n6_
                have HO242 := n7_
                clear n0_ n1_ n2_ n3_ n4_ n5_ n6_ n7_
                clear ho hb hg hat
                refine hK.out _ _ ⟨(blk_cell BK209.out 0).trans rfl, (blk_cell BK209.out 1).trans rfl, (blk_cell BK209.out 2).trans rfl, (blk_cell BK209.out 3).trans rfl, (blk_cell BK209.out 4).trans rfl, (blk_cell BK209.out 5).trans rfl, (blk_cell BK209.out 6).trans rfl, (blk_cell BK209.out 7).trans rfl, (blk_cell BK209.out 8).trans rfl, (blk_cell BK209.out 9).trans rfl⟩ (fun hHeld => ?_)
                clear hK K
                refine norm_ (a' := ?_) ?_ ?_
                rotate_left
                · show Act.put _ (some 40) _ = _
                  simp only [Act.put, List.setIfInBounds_toArray, List.set_cons_zero, List.set_cons_succ, i64_w, i32_w]
                  rfl
                refine one_ (i := 7) (N := some 43) #[true, true, true, true, true, true, true, true, false, false] rfl rfl (one_of HT_.out (by kernel_rfl)) (by decide) (fun K hK => ?_)
                refine goes_ Tryd.func49 (by kernel_rfl) rfl #[.agg #[.bool a1_8, .slice A1_9 l1_9.length c1_9]] (by rfl) rfl rfl (by (try simp only [List.map_toArray, List.map_cons, List.map_nil]); first | done | rfl | (simp only [List.length_drop, List.length_take]; rfl)) ?_
                with_reducible refine (spec_fixedOctets.calls k a1_8 _ _ l1_9 t243 _ ?side1 ?side2 A14.out).mono ?_
                (case side1 => repeat (first | exact (Kd.C_below HR1_9.out HB.out) | (with_reducible refine Kd.C_alloc ?_ _) | (with_reducible refine Kd.C_drewN ?_ _) | (with_reducible refine Kd.C_drew ?_)))
                (case side2 => exact HC1_9.out)
                rintro e w39 ⟨v244, rfl, ho0, hb⟩
                refine ⟨_, rfl, ?_⟩
                have n0_ := Aside0.mk (Kd.R_elder' (by (with_reducible repeat (first | apply Kd.R_alloc | apply Kd.R_drewN | apply Kd.R_drew)); exact HO215.out) (Kd.R_base ho0) hb)
                have n1_ := Aside0.mk (Kd.R_elder' (by (with_reducible repeat (first | apply Kd.R_alloc | apply Kd.R_drewN | apply Kd.R_drew)); exact HO221.out) (Kd.R_base ho0) hb)
                have n2_ := Aside0.mk (Kd.R_elder' (by (with_reducible repeat (first | apply Kd.R_alloc | apply Kd.R_drewN | apply Kd.R_drew)); exact HO227.out) (Kd.R_base ho0) hb)
                have n3_ := Aside0.mk (Kd.R_elder' (by (with_reducible repeat (first | apply Kd.R_alloc | apply Kd.R_drewN | apply Kd.R_drew)); exact HO233.out) (Kd.R_base ho0) hb)
                have n4_ := Aside0.mk (Kd.R_elder' (by (with_reducible repeat (first | apply Kd.R_alloc | apply Kd.R_drewN | apply Kd.R_drew)); exact HO239.out) (Kd.R_base ho0) hb)
                have n5_ := Aside0.mk (Kd.R_elder' (by (with_reducible repeat (first | apply Kd.R_alloc | apply Kd.R_drewN | apply Kd.R_drew)); exact HO242.out) (Kd.R_base ho0) hb)
                have n6_ := Aside0.mk (Kd.R_lower (Kd.R_new' (Kd.R_new' (Kd.R_new' (Kd.R_new' (Kd.R_new' (Kd.R_new' ho0 (Kd.R_lt (by (with_reducible repeat (first | apply Kd.R_alloc | apply Kd.R_drewN | apply Kd.R_drew)); exact HO215.out))) (Kd.R_lt (by (with_reducible repeat (first | apply Kd.R_alloc | apply Kd.R_drewN | apply Kd.R_drew)); exact HO221.out))) (Kd.R_lt (by (with_reducible repeat (first | apply Kd.R_alloc | apply Kd.R_drewN | apply Kd.R_drew)); exact HO227.out))) (Kd.R_lt (by (with_reducible repeat (first | apply Kd.R_alloc | apply Kd.R_drewN | apply Kd.R_drew)); exact HO233.out))) (Kd.R_lt (by (with_reducible repeat (first | apply Kd.R_alloc | apply Kd.R_drewN | apply Kd.R_drew)); exact HO239.out))) (Kd.R_lt (by (with_reducible repeat (first | apply Kd.R_alloc | apply Kd.R_drewN | apply Kd.R_drew)); exact HO242.out))) (below_size (by repeat (first | (with_reducible first | exact HB.out | apply below_alloc | apply pw_below_drewN | apply below_drew1 | refine below_set ?_ GE209.out) | exact HB.out))))
                have n7_ := Aside0.mk (blk_below (g := gb209) (o := .cells #[.int .i64 a1_0, .int .i32 a1_1, .int .i32 a1_2, .int .i8 a1_3, .int .i8 a1_4, .int .i64 a1_5, .bool a1_6, .slice A1_7 l1_7.length c1_7, .bool a1_8, .slice A1_9 l1_9.length c1_9] 75 (0, 0)) (by (with_reducible repeat (first | refine blk_drewN ?_ _ | refine blk_drew ?_ | refine blk_alloc ?_ _)); exact BK209.out) hb)
                have n8_ := Aside0.mk (below_step (by repeat (first | (with_reducible first | exact HB.out | apply below_alloc | apply pw_below_drewN | apply below_drew1 | refine below_set ?_ GE209.out) | exact HB.out)) hb)
                clear HO215
                clear HO221
                clear HO227
                clear HO233
                clear HO239
                clear HO242
                clear BK209
                clear HB
                have HO215 := n0_
                have HO221 := n1_
                have HO227 := n2_
                have HO233 := n3_
                have HO239 := n4_
                have HO242 := n5_
                have HO245 := n6_
                have BK209 := n7_
                have HB := n8_
                clear n0_ n1_ n2_ n3_ n4_ n5_ n6_ n7_ n8_
                (try clear hb)
                (try clear hb2)
                (try clear hk)
                (try clear hi)
                (try clear ho0)
                obtain ⟨Ao41, co41, eo41⟩ := Kd.R_slice HO245.out
                (first | subst eo41 | (injection eo41 with f1_ f2_ f3_; have f4_ := f1_.symm; have f5_ := f3_.symm; clear f1_ f2_ f3_; subst f4_; subst f5_))
                refine hK.out _ _ ⟨(blk_cell BK209.out 0).trans rfl, (blk_cell BK209.out 1).trans rfl, (blk_cell BK209.out 2).trans rfl, (blk_cell BK209.out 3).trans rfl, (blk_cell BK209.out 4).trans rfl, (blk_cell BK209.out 5).trans rfl, (blk_cell BK209.out 6).trans rfl, (blk_cell BK209.out 7).trans rfl, (blk_cell BK209.out 8).trans rfl, (blk_cell BK209.out 9).trans rfl⟩ (fun hHeld => ?_)
                clear hK K
                refine norm_ (a' := ?_) ?_ ?_
                rotate_left
                · show Act.put _ (some 43) _ = _
                  simp only [Act.put, List.setIfInBounds_toArray, List.set_cons_zero, List.set_cons_succ, i64_w, i32_w]
                  rfl
                refine one_ (i := 8) (N := some 44) #[true, true, true, true, true, true, true, true, true, false] rfl rfl (one_of HT_.out (by kernel_rfl)) (by decide) (fun K hK => ?_)
                refine Kd.R_append_rows_step (Kd.int .u8) (w0 := w) w.heap.size (by rfl) (.tmp 40) (.tmp 43) 22 5 (.int .u8 0) 1 rfl Tryd.underlying22 info5 rfl (by decide) (by omega) v241 y240 t243 _ _ _ (fun k_ => some k_ ≠ (.slice Ao21 t213.length co21 : Value).ownBlock ∧ some k_ ≠ (.slice Ao25 t219.length co25 : Value).ownBlock ∧ some k_ ≠ (.slice Ao30 y225.length co30 : Value).ownBlock ∧ some k_ ≠ (.slice Ao34 t231.length co34 : Value).ownBlock ∧ some k_ ≠ (.slice Ao38 t237.length co38 : Value).ownBlock ∧ some k_ ≠ (.slice Ao41 t243.length co41 : Value).ownBlock) (fun _ => False) rfl rfl ?aO ?aR (fun _ _ h => h) (fun _ h => h.elim) ?aF ?aB ?aS ?aL ?_
                (case aR => repeat (first | exact (Kd.R_reads' HO245.out).2.2 | (with_reducible refine Kd.C_alloc ?_ _) | (with_reducible refine Kd.C_drewN ?_ _) | (with_reducible refine Kd.C_drew ?_)))
                (case aB => exact (by repeat (first | (with_reducible first | exact HB.out | apply below_alloc | apply pw_below_drewN | apply below_drew1 | refine below_set ?_ GE209.out) | exact HB.out)))
                (case aF => exact (fun k_ hk => ⟨Kd.fresh' (Kd.R_lt (by (with_reducible repeat (first | apply Kd.R_alloc | apply Kd.R_drewN | apply Kd.R_drew)); exact HO215.out)) k_ hk, Kd.fresh' (Kd.R_lt (by (with_reducible repeat (first | apply Kd.R_alloc | apply Kd.R_drewN | apply Kd.R_drew)); exact HO221.out)) k_ hk, Kd.fresh' (Kd.R_lt (by (with_reducible repeat (first | apply Kd.R_alloc | apply Kd.R_drewN | apply Kd.R_drew)); exact HO227.out)) k_ hk, Kd.fresh' (Kd.R_lt (by (with_reducible repeat (first | apply Kd.R_alloc | apply Kd.R_drewN | apply Kd.R_drew)); exact HO233.out)) k_ hk, Kd.fresh' (Kd.R_lt (by (with_reducible repeat (first | apply Kd.R_alloc | apply Kd.R_drewN | apply Kd.R_drew)); exact HO239.out)) k_ hk, Kd.fresh' (Kd.R_lt (by (with_reducible repeat (first | apply Kd.R_alloc | apply Kd.R_drewN | apply Kd.R_drew)); exact HO245.out)) k_ hk⟩))
                (case aO => exact (by (with_reducible repeat (first | apply Kd.R_alloc | apply Kd.R_drewN | apply Kd.R_drew)); exact Kd.R_mono HO242.out (fun _ hk => ⟨hk.1.1, ⟨hk.1.2.1, ⟨hk.1.2.2.1, ⟨hk.1.2.2.2.1, ⟨hk.1.2.2.2.2, hk.2⟩⟩⟩⟩⟩)))
                (case aS => exact (below_size (by repeat (first | (with_reducible first | exact HB.out | apply below_alloc | apply pw_below_drewN | apply below_drew1 | refine below_set ?_ GE209.out) | exact HB.out))))
                (case aL => have := LMc15.out; omega)
                intro v247 w40 ho hb hg hat
                rw [← Ny246.out] at ho
                have n0_ := Aside0.mk (blk_grown (g := gb209) (o := .cells #[.int .i64 a1_0, .int .i32 a1_1, .int .i32 a1_2, .int .i8 a1_3, .int .i8 a1_4, .int .i64 a1_5, .bool a1_6, .slice A1_7 l1_7.length c1_7, .bool a1_8, .slice A1_9 l1_9.length c1_9] 75 (0, 0)) (by (with_reducible repeat (first | refine blk_drewN ?_ _ | refine blk_drew ?_ | refine blk_alloc ?_ _)); exact BK209.out) hg (Kd.R_ne HO242.out BK209.out (by decide)))
                have n1_ := Aside0.mk (Kd.R_after (ok := (fun k_ => some k_ ≠ (.slice Ao25 t219.length co25 : Value).ownBlock ∧ some k_ ≠ (.slice Ao30 y225.length co30 : Value).ownBlock ∧ some k_ ≠ (.slice Ao34 t231.length co34 : Value).ownBlock ∧ some k_ ≠ (.slice Ao38 t237.length co38 : Value).ownBlock ∧ some k_ ≠ (.slice Ao41 t243.length co41 : Value).ownBlock)) (by (with_reducible repeat (first | apply Kd.R_alloc | apply Kd.R_drewN | apply Kd.R_drew)); exact Kd.R_mono HO215.out (fun _ hk => ⟨⟨hk.1.1.1, ⟨hk.1.1.2.1, ⟨hk.1.1.2.2.1, ⟨hk.1.1.2.2.2, hk.2⟩⟩⟩⟩, hk.1.2⟩)) hg hat)
                have n2_ := Aside0.mk (Kd.R_after (ok := (fun k_ => some k_ ≠ (.slice Ao21 t213.length co21 : Value).ownBlock ∧ some k_ ≠ (.slice Ao30 y225.length co30 : Value).ownBlock ∧ some k_ ≠ (.slice Ao34 t231.length co34 : Value).ownBlock ∧ some k_ ≠ (.slice Ao38 t237.length co38 : Value).ownBlock ∧ some k_ ≠ (.slice Ao41 t243.length co41 : Value).ownBlock)) (by (with_reducible repeat (first | apply Kd.R_alloc | apply Kd.R_drewN | apply Kd.R_drew)); exact Kd.R_mono HO221.out (fun _ hk => ⟨⟨hk.1.1.1, ⟨hk.1.1.2.1, ⟨hk.1.1.2.2.1, ⟨hk.1.1.2.2.2, hk.2⟩⟩⟩⟩, hk.1.2⟩)) hg hat)
                have n3_ := Aside0.mk (Kd.R_after (ok := (fun k_ => some k_ ≠ (.slice Ao21 t213.length co21 : Value).ownBlock ∧ some k_ ≠ (.slice Ao25 t219.length co25 : Value).ownBlock ∧ some k_ ≠ (.slice Ao34 t231.length co34 : Value).ownBlock ∧ some k_ ≠ (.slice Ao38 t237.length co38 : Value).ownBlock ∧ some k_ ≠ (.slice Ao41 t243.length co41 : Value).ownBlock)) (by (with_reducible repeat (first | apply Kd.R_alloc | apply Kd.R_drewN | apply Kd.R_drew)); exact Kd.R_mono HO227.out (fun _ hk => ⟨⟨hk.1.1.1, ⟨hk.1.1.2.1, ⟨hk.1.1.2.2.1, ⟨hk.1.1.2.2.2, hk.2⟩⟩⟩⟩, hk.1.2⟩)) hg hat)
                have n4_ := Aside0.mk (Kd.R_after (ok := (fun k_ => some k_ ≠ (.slice Ao21 t213.length co21 : Value).ownBlock ∧ some k_ ≠ (.slice Ao25 t219.length co25 : Value).ownBlock ∧ some k_ ≠ (.slice Ao30 y225.length co30 : Value).ownBlock ∧ some k_ ≠ (.slice Ao38 t237.length co38 : Value).ownBlock ∧ some k_ ≠ (.slice Ao41 t243.length co41 : Value).ownBlock)) (by (with_reducible repeat (first | apply Kd.R_alloc | apply Kd.R_drewN | apply Kd.R_drew)); exact Kd.R_mono HO233.out (fun _ hk => ⟨⟨hk.1.1.1, ⟨hk.1.1.2.1, ⟨hk.1.1.2.2.1, ⟨hk.1.1.2.2.2, hk.2⟩⟩⟩⟩, hk.1.2⟩)) hg hat)
                have n5_ := Aside0.mk (Kd.R_after (ok := (fun k_ => some k_ ≠ (.slice Ao21 t213.length co21 : Value).ownBlock ∧ some k_ ≠ (.slice Ao25 t219.length co25 : Value).ownBlock ∧ some k_ ≠ (.slice Ao30 y225.length co30 : Value).ownBlock ∧ some k_ ≠ (.slice Ao34 t231.length co34 : Value).ownBlock ∧ some k_ ≠ (.slice Ao41 t243.length co41 : Value).ownBlock)) (by (with_reducible repeat (first | apply Kd.R_alloc | apply Kd.R_drewN | apply Kd.R_drew)); exact Kd.R_mono HO239.out (fun _ hk => ⟨⟨hk.1.1.1, ⟨hk.1.1.2.1, ⟨hk.1.1.2.2.1, ⟨hk.1.1.2.2.2, hk.2⟩⟩⟩⟩, hk.1.2⟩)) hg hat)
                have n6_ := Aside0.mk (Kd.R_after (ok := (fun k_ => some k_ ≠ (.slice Ao21 t213.length co21 : Value).ownBlock ∧ some k_ ≠ (.slice Ao25 t219.length co25 : Value).ownBlock ∧ some k_ ≠ (.slice Ao30 y225.length co30 : Value).ownBlock ∧ some k_ ≠ (.slice Ao34 t231.length co34 : Value).ownBlock ∧ some k_ ≠ (.slice Ao38 t237.length co38 : Value).ownBlock)) (by (with_reducible repeat (first | apply Kd.R_alloc | apply Kd.R_drewN | apply Kd.R_drew)); exact Kd.R_mono HO245.out (fun _ hk => ⟨⟨hk.1.1.1.1.1.2, ⟨hk.1.1.1.1.2, ⟨hk.1.1.1.2, ⟨hk.1.1.2, hk.1.2⟩⟩⟩⟩, hk.2⟩)) hg hat)
                have n7_ := Aside0.mk (hb)
                have n8_ := Aside0.mk (ho)
                clear BK209
                clear HO215
                clear HO221
                clear HO227
                clear HO233
                clear HO239
                clear HO245
                clear HB
                clear HO242
                have BK209 := n0_
                have HO215 := n1_
                have HO221 := n2_
                have HO227 := n3_
                have HO233 := n4_
                have HO239 := n5_
                have HO245 := n6_
                have HB := n7_
                have HO248 := n8_
                clear n0_ n1_ n2_ n3_ n4_ n5_ n6_ n7_ n8_
                clear ho hb hg hat
                refine hK.out _ _ ⟨(blk_cell BK209.out 0).trans rfl, (blk_cell BK209.out 1).trans rfl, (blk_cell BK209.out 2).trans rfl, (blk_cell BK209.out 3).trans rfl, (blk_cell BK209.out 4).trans rfl, (blk_cell BK209.out 5).trans rfl, (blk_cell BK209.out 6).trans rfl, (blk_cell BK209.out 7).trans rfl, (blk_cell BK209.out 8).trans rfl, (blk_cell BK209.out 9).trans rfl⟩ (fun hHeld => ?_)
                clear hK K
                refine norm_ (a' := ?_) ?_ ?_
                rotate_left
                · show Act.put _ (some 44) _ = _
                  simp only [Act.put, List.setIfInBounds_toArray, List.set_cons_zero, List.set_cons_succ, i64_w, i32_w]
                  rfl
                refine pure_ (i := 9) (N := some 4) (v := ?_) (a' := ?_) #[true, true, true, true, true, true, true, true, true, true] rfl rfl (any_of HT_.out (by kernel_rfl)) (fun _ _ _ h => h) (Or.inl ⟨by rfl, ?_⟩) ?_ ?_
                rotate_left
                · intro w'
                  go_simp
                  with_reducible rfl
                rotate_left
                · simp only [Act.put, List.setIfInBounds_toArray, List.set_cons_zero, List.set_cons_succ, i64_w, i32_w]
                  rfl
                refine done_ (done_of HT_.out (by kernel_rfl)) ?_
                try go_wp2
                go_ret
                exact ⟨_, by first | rfl | (simp [errW_none, errW_some] <;> rfl) | (simp [*, errW_none, errW_some] <;> rfl), by (with_reducible repeat (first | apply Kd.R_alloc | apply Kd.R_drewN | apply Kd.R_drew)); exact Kd.R_mono HO248.out (fun _ hk => trivial), by repeat (first | (with_reducible first | exact HB.out | apply below_alloc | apply pw_below_drewN | apply below_drew1 | refine below_set ?_ GE209.out) | exact HB.out)⟩
              · rw [if_neg c15] at H
                exact absurd H (by simp)
            · rw [if_neg c13] at H
              exact absurd H (by simp)
          · rw [if_neg c11] at H
            exact absurd H (by simp)
        · rw [if_neg c9] at H
          have c9b0 : decide (0 < a0) = false := decide_eq_false c9
          clear c9
          replace H := Option.bind_eq_some_iff.mp H
          obtain ⟨t249, A420, H⟩ := H
          replace H : (if y228.length + t249.length < 140737488355328 then ((some (y228 ++ t249 : List Int)).bind fun y252 => ((spec_fixedOctets.f k a1_8 l1_9).bind fun t255 => (if y252.length + t255.length < 140737488355328 then (some (y252 ++ t255)) else (none)))) else (none)) = some r := H
          have A42 := Aside0.mk A420
          clear A420
          by_cases c43 : y228.length + t249.length < 140737488355328
          · rw [if_pos c43] at H
            have LMc43 := Aside0.mk c43
            clear c43
            obtain ⟨y252, hy252⟩ : ∃ y_ : List Int, y_ = (y228 ++ t249) := ⟨_, rfl⟩
            replace H : ((spec_fixedOctets.f k a1_8 l1_9).bind fun t255 => (if y252.length + t255.length < 140737488355328 then (some (y252 ++ t255)) else (none))) = some r := by first | (rw [hy252]; with_reducible exact H) | (have H2_ := (Option.bind_some _ _).symm.trans H; rw [hy252]; with_reducible exact H2_) | (have H2_ := (Option.bind_some _ _).symm.trans H; with_reducible exact H2_) | with_reducible exact H | (rw [hy252]; exact H) | exact H
            have Ny252 := Aside0.mk hy252
            clear hy252
            replace H := Option.bind_eq_some_iff.mp H
            obtain ⟨t255, A440, H⟩ := H
            replace H : (if y252.length + t255.length < 140737488355328 then (some (y252 ++ t255)) else (none)) = some r := H
            have A44 := Aside0.mk A440
            clear A440
            by_cases c45 : y252.length + t255.length < 140737488355328
            · rw [if_pos c45] at H
              have LMc45 := Aside0.mk c45
              clear c45
              obtain ⟨y258, hy258⟩ : ∃ y_ : List Int, y_ = (y252 ++ t255) := ⟨_, rfl⟩
              replace H : (some y258) = some r := by first | (rw [hy258]; with_reducible exact H) | (have H2_ := (Option.bind_some _ _).symm.trans H; rw [hy258]; with_reducible exact H2_) | (have H2_ := (Option.bind_some _ _).symm.trans H; with_reducible exact H2_) | with_reducible exact H | (rw [hy258]; exact H) | exact H
              have Ny258 := Aside0.mk hy258
              clear hy258
              obtain rfl := Option.some.inj H
              go_enter Tryd.func29, Tryd.ntmps29
              try go_wp2_with (first | ((with_reducible refine gate_dst (N := 3) rfl ?_); refine box_event ?hg (N := 3) ?hd (cs := #[.int .i64 a1_0, .int .i32 a1_1, .int .i32 a1_2, .int .i8 a1_3, .int .i8 a1_4, .int .i64 a1_5, .bool a1_6, .slice A1_7 l1_7.length c1_7, .bool a1_8, .slice A1_9 l1_9.length c1_9]) (t := 75) ?hr ?_; (case hd => rfl); (case hg => rfl); (case hr => first | (go_simp; done) | (go_simp; rfl)); intro gb209 hg w46 hbox hb; have n0_ := Aside0.mk (below_step (by repeat (first | (with_reducible first | exact HB.out | apply below_alloc | apply pw_below_drewN | apply below_drew1) | exact HB.out)) hb); have n1_ := Aside0.mk (hbox); have n2_ := Aside0.mk ((by rw [hg]; exact (below_size (by repeat (first | (with_reducible first | exact HB.out | apply below_alloc | apply pw_below_drewN | apply below_drew1) | exact HB.out))) : w.heap.size ≤ gb209)); have n3_ := Aside0.mk ((by rw [hg]; exact (below_size (by repeat (first | (with_reducible first | exact HB.out | apply below_alloc | apply pw_below_drewN | apply below_drew1) | exact HB.out))) : w.heap.size ≤ gb209)); clear HB; have HB := n0_; have BK209 := n1_; have GW209 := n2_; have GE209 := n3_; clear n0_ n1_ n2_ n3_; clear hb hbox hg))
              have n0_ := Aside0.mk (blk_drew BK209.out)
              have n1_ := Aside0.mk (below_drew1 HB.out)
              clear BK209
              clear HB
              have BK209 := n0_
              have HB := n1_
              clear n0_ n1_
              refine start_ (n := 9) (S := fun w' => w'.cell? ⟨gb209, 0, none⟩ = some (.int .i64 a1_0) ∧ w'.cell? ⟨gb209, 1, none⟩ = some (.int .i32 a1_1) ∧ w'.cell? ⟨gb209, 2, none⟩ = some (.int .i32 a1_2) ∧ w'.cell? ⟨gb209, 3, none⟩ = some (.int .i8 a1_3) ∧ w'.cell? ⟨gb209, 4, none⟩ = some (.int .i8 a1_4) ∧ w'.cell? ⟨gb209, 5, none⟩ = some (.int .i64 a1_5) ∧ w'.cell? ⟨gb209, 6, none⟩ = some (.bool a1_6) ∧ w'.cell? ⟨gb209, 7, none⟩ = some (.slice A1_7 l1_7.length c1_7) ∧ w'.cell? ⟨gb209, 8, none⟩ = some (.bool a1_8) ∧ w'.cell? ⟨gb209, 9, none⟩ = some (.slice A1_9 l1_9.length c1_9)) (ds := []) #[false, false, false, false, false, false, false, false, false] (by kernel_rfl) rfl rfl ⟨(blk_cell BK209.out 0).trans rfl, (blk_cell BK209.out 1).trans rfl, (blk_cell BK209.out 2).trans rfl, (blk_cell BK209.out 3).trans rfl, (blk_cell BK209.out 4).trans rfl, (blk_cell BK209.out 5).trans rfl, (blk_cell BK209.out 6).trans rfl, (blk_cell BK209.out 7).trans rfl, (blk_cell BK209.out 8).trans rfl, (blk_cell BK209.out 9).trans rfl⟩ (fun hHeld => ?_); refine with_tabW spec_OldBytes.tab1 spec_OldBytes.bits1 (fun HT_ HW_ => ?_)
              generalize w46.drew = w47 at BK209 HB hHeld ⊢
              refine pure_ (i := 0) (N := some 6) (v := ?_) (a' := ?_) #[true, false, false, false, false, false, false, false, false] rfl rfl (any_of HT_.out (by kernel_rfl)) (fun _ _ _ h => h) (Or.inl ⟨by rfl, ?_⟩) ?_ ?_
              rotate_left
              · intro w'
                go_simp
                with_reducible rfl
              rotate_left
              · simp only [Act.put, List.setIfInBounds_toArray, List.set_cons_zero, List.set_cons_succ, i64_w, i32_w]
                rfl
              refine pure_ (i := 3) (N := some 9) (v := ?_) (a' := ?_) #[true, false, false, true, false, false, false, false, false] rfl rfl (any_of HT_.out (by kernel_rfl)) (fun _ _ _ h => h) (Or.inl ⟨by rfl, ?_⟩) ?_ ?_
              rotate_left
              · intro w'
                go_simp
                with_reducible rfl
              rotate_left
              · simp only [Act.put, List.setIfInBounds_toArray, List.set_cons_zero, List.set_cons_succ, i64_w, i32_w]
                rfl
              refine take_ (i := 1) (N := some 7) (v := ?_) (a' := ?_) #[true, true, false, true, false, false, false, false, false] rfl rfl (take_ofW HT_.out HW_.out (by kernel_rfl)) (fun _ _ _ h => h) (Or.inl ⟨by rfl, ?_⟩) hHeld ?_ ?_
              rotate_left
              · rintro w' ⟨s0, s1, s2, s3, s4, s5, s6, s7, s8, s9⟩
                go_simp
                with_reducible rfl
              rotate_left
              · simp only [Act.put, List.setIfInBounds_toArray, List.set_cons_zero, List.set_cons_succ, i64_w, i32_w]
                rfl
              refine take_ (i := 4) (N := some 10) (v := ?_) (a' := ?_) #[true, true, false, true, true, false, false, false, false] rfl rfl (take_ofW HT_.out HW_.out (by kernel_rfl)) (fun _ _ _ h => h) (Or.inl ⟨by rfl, ?_⟩) hHeld ?_ ?_
              rotate_left
              · rintro w' ⟨s0, s1, s2, s3, s4, s5, s6, s7, s8, s9⟩
                go_simp
                with_reducible rfl
              rotate_left
              · simp only [Act.put, List.setIfInBounds_toArray, List.set_cons_zero, List.set_cons_succ, i64_w, i32_w]
                rfl
              refine pure_ (i := 5) (N := some 11) (v := ?_) (a' := ?_) #[true, true, false, true, true, true, false, false, false] rfl rfl (any_of HT_.out (by kernel_rfl)) (fun _ _ _ h => h) (Or.inl ⟨by rfl, ?_⟩) ?_ ?_
              rotate_left
              · intro w'
                go_simp
                with_reducible rfl
              rotate_left
              · simp only [Act.put, List.setIfInBounds_toArray, List.set_cons_zero, List.set_cons_succ, i64_w, i32_w]
                rfl
              refine one_ (i := 2) (N := some 8) #[true, true, true, true, true, true, false, false, false] rfl rfl (one_of HT_.out (by kernel_rfl)) (by decide) (fun K hK => ?_)
              refine goes_ Tryd.func39 (by kernel_rfl) rfl #[.int .i64 a1_0, .int .i64 8] (by rfl) rfl rfl (by (try simp only [List.map_toArray, List.map_cons, List.map_nil]); first | done | rfl | (simp only [List.length_drop, List.length_take]; rfl)) ?_
              with_reducible refine (spec_Fixed.calls k a1_0 8 t210 _ A3.out).mono ?_
              rintro e w48 ⟨v211, rfl, ho0, hb⟩
              refine ⟨_, rfl, ?_⟩
              have n0_ := Aside0.mk (Kd.R_lower ho0 (below_size (by repeat (first | (with_reducible first | exact HB.out | apply below_alloc | apply pw_below_drewN | apply below_drew1 | refine below_set ?_ GE209.out) | exact HB.out))))
              have n1_ := Aside0.mk (blk_below (g := gb209) (o := .cells #[.int .i64 a1_0, .int .i32 a1_1, .int .i32 a1_2, .int .i8 a1_3, .int .i8 a1_4, .int .i64 a1_5, .bool a1_6, .slice A1_7 l1_7.length c1_7, .bool a1_8, .slice A1_9 l1_9.length c1_9] 75 (0, 0)) (by (with_reducible repeat (first | refine blk_drewN ?_ _ | refine blk_drew ?_ | refine blk_alloc ?_ _)); exact BK209.out) hb)
              have n2_ := Aside0.mk (below_step (by repeat (first | (with_reducible first | exact HB.out | apply below_alloc | apply pw_below_drewN | apply below_drew1 | refine below_set ?_ GE209.out) | exact HB.out)) hb)
              clear BK209
              clear HB
              have HO212 := n0_
              have BK209 := n1_
              have HB := n2_
              clear n0_ n1_ n2_
              (try clear hb)
              (try clear hb2)
              (try clear hk)
              (try clear hi)
              (try clear ho0)
              refine hK.out _ _ ⟨(blk_cell BK209.out 0).trans rfl, (blk_cell BK209.out 1).trans rfl, (blk_cell BK209.out 2).trans rfl, (blk_cell BK209.out 3).trans rfl, (blk_cell BK209.out 4).trans rfl, (blk_cell BK209.out 5).trans rfl, (blk_cell BK209.out 6).trans rfl, (blk_cell BK209.out 7).trans rfl, (blk_cell BK209.out 8).trans rfl, (blk_cell BK209.out 9).trans rfl⟩ (fun hHeld => ?_)
              clear hK K
              refine norm_ (a' := ?_) ?_ ?_
              rotate_left
              · show Act.put _ (some 8) _ = _
                simp only [Act.put, List.setIfInBounds_toArray, List.set_cons_zero, List.set_cons_succ, i64_w, i32_w]
                rfl
              refine one_ (i := 6) (N := some 12) #[true, true, true, true, true, true, true, false, false] rfl rfl (one_of HT_.out (by kernel_rfl)) (by decide) (fun K hK => ?_)
              refine goes_ Tryd.func39 (by kernel_rfl) rfl #[.int .i64 (wrap64 (a1_1)), .int .i64 4] (by rfl) rfl rfl (by (try simp only [List.map_toArray, List.map_cons, List.map_nil]); first | done | rfl | (simp only [List.length_drop, List.length_take]; rfl)) ?_
              with_reducible refine (spec_Fixed.calls k (wrap64 (a1_1)) 4 t213 _ A4.out).mono ?_
              rintro e w49 ⟨v214, rfl, ho0, hb⟩
              refine ⟨_, rfl, ?_⟩
              have n0_ := Aside0.mk (Kd.R_elder' (by (with_reducible repeat (first | apply Kd.R_alloc | apply Kd.R_drewN | apply Kd.R_drew)); exact HO212.out) (Kd.R_base ho0) hb)
              have n1_ := Aside0.mk (Kd.R_lower (Kd.R_new' ho0 (Kd.R_lt (by (with_reducible repeat (first | apply Kd.R_alloc | apply Kd.R_drewN | apply Kd.R_drew)); exact HO212.out))) (below_size (by repeat (first | (with_reducible first | exact HB.out | apply below_alloc | apply pw_below_drewN | apply below_drew1 | refine below_set ?_ GE209.out) | exact HB.out))))
              have n2_ := Aside0.mk (blk_below (g := gb209) (o := .cells #[.int .i64 a1_0, .int .i32 a1_1, .int .i32 a1_2, .int .i8 a1_3, .int .i8 a1_4, .int .i64 a1_5, .bool a1_6, .slice A1_7 l1_7.length c1_7, .bool a1_8, .slice A1_9 l1_9.length c1_9] 75 (0, 0)) (by (with_reducible repeat (first | refine blk_drewN ?_ _ | refine blk_drew ?_ | refine blk_alloc ?_ _)); exact BK209.out) hb)
              have n3_ := Aside0.mk (below_step (by repeat (first | (with_reducible first | exact HB.out | apply below_alloc | apply pw_below_drewN | apply below_drew1 | refine below_set ?_ GE209.out) | exact HB.out)) hb)
              clear HO212
              clear BK209
              clear HB
              have HO212 := n0_
              have HO215 := n1_
              have BK209 := n2_
              have HB := n3_
              clear n0_ n1_ n2_ n3_
              (try clear hb)
              (try clear hb2)
              (try clear hk)
              (try clear hi)
              (try clear ho0)
              obtain ⟨Ao51, co51, eo51⟩ := Kd.R_slice HO215.out
              (first | subst eo51 | (injection eo51 with f1_ f2_ f3_; have f4_ := f1_.symm; have f5_ := f3_.symm; clear f1_ f2_ f3_; subst f4_; subst f5_))
              refine hK.out _ _ ⟨(blk_cell BK209.out 0).trans rfl, (blk_cell BK209.out 1).trans rfl, (blk_cell BK209.out 2).trans rfl, (blk_cell BK209.out 3).trans rfl, (blk_cell BK209.out 4).trans rfl, (blk_cell BK209.out 5).trans rfl, (blk_cell BK209.out 6).trans rfl, (blk_cell BK209.out 7).trans rfl, (blk_cell BK209.out 8).trans rfl, (blk_cell BK209.out 9).trans rfl⟩ (fun hHeld => ?_)
              clear hK K
              refine norm_ (a' := ?_) ?_ ?_
              rotate_left
              · show Act.put _ (some 12) _ = _
                simp only [Act.put, List.setIfInBounds_toArray, List.set_cons_zero, List.set_cons_succ, i64_w, i32_w]
                rfl
              refine one_ (i := 7) (N := some 13) #[true, true, true, true, true, true, true, true, false] rfl rfl (one_of HT_.out (by kernel_rfl)) (by decide) (fun K hK => ?_)
              refine Kd.R_append_rows_step (Kd.int .u8) (w0 := w) w.heap.size (by rfl) (.tmp 8) (.tmp 12) 22 5 (.int .u8 0) 1 rfl Tryd.underlying22 info5 rfl (by decide) (by omega) v211 t210 t213 _ _ _ (fun k_ => some k_ ≠ (.slice Ao51 t213.length co51 : Value).ownBlock) (fun _ => False) rfl rfl ?aO ?aR (fun _ _ h => h) (fun _ h => h.elim) ?aF ?aB ?aS ?aL ?_
              (case aR => repeat (first | exact (Kd.R_reads' HO215.out).2.2 | (with_reducible refine Kd.C_alloc ?_ _) | (with_reducible refine Kd.C_drewN ?_ _) | (with_reducible refine Kd.C_drew ?_)))
              (case aB => exact (by repeat (first | (with_reducible first | exact HB.out | apply below_alloc | apply pw_below_drewN | apply below_drew1 | refine below_set ?_ GE209.out) | exact HB.out)))
              (case aF => exact (fun k_ hk => Kd.fresh' (Kd.R_lt (by (with_reducible repeat (first | apply Kd.R_alloc | apply Kd.R_drewN | apply Kd.R_drew)); exact HO215.out)) k_ hk))
              (case aO => exact (by (with_reducible repeat (first | apply Kd.R_alloc | apply Kd.R_drewN | apply Kd.R_drew)); exact Kd.R_mono HO212.out (fun _ hk => hk.2)))
              (case aS => exact (below_size (by repeat (first | (with_reducible first | exact HB.out | apply below_alloc | apply pw_below_drewN | apply below_drew1 | refine below_set ?_ GE209.out) | exact HB.out))))
              (case aL => have := LMc5.out; omega)
              intro v217 w50 ho hb hg hat
              rw [← Ny216.out] at ho
              have n0_ := Aside0.mk (blk_grown (g := gb209) (o := .cells #[.int .i64 a1_0, .int .i32 a1_1, .int .i32 a1_2, .int .i8 a1_3, .int .i8 a1_4, .int .i64 a1_5, .bool a1_6, .slice A1_7 l1_7.length c1_7, .bool a1_8, .slice A1_9 l1_9.length c1_9] 75 (0, 0)) (by (with_reducible repeat (first | refine blk_drewN ?_ _ | refine blk_drew ?_ | refine blk_alloc ?_ _)); exact BK209.out) hg (Kd.R_ne HO212.out BK209.out (by decide)))
              have n1_ := Aside0.mk (Kd.R_after (ok := (fun _ => True)) (by (with_reducible repeat (first | apply Kd.R_alloc | apply Kd.R_drewN | apply Kd.R_drew)); exact HO215.out) hg hat)
              have n2_ := Aside0.mk (hb)
              have n3_ := Aside0.mk (ho)
              clear BK209
              clear HO215
              clear HB
              clear HO212
              have BK209 := n0_
              have HO215 := n1_
              have HB := n2_
              have HO218 := n3_
              clear n0_ n1_ n2_ n3_
              clear ho hb hg hat
              refine hK.out _ _ ⟨(blk_cell BK209.out 0).trans rfl, (blk_cell BK209.out 1).trans rfl, (blk_cell BK209.out 2).trans rfl, (blk_cell BK209.out 3).trans rfl, (blk_cell BK209.out 4).trans rfl, (blk_cell BK209.out 5).trans rfl, (blk_cell BK209.out 6).trans rfl, (blk_cell BK209.out 7).trans rfl, (blk_cell BK209.out 8).trans rfl, (blk_cell BK209.out 9).trans rfl⟩ (fun hHeld => ?_)
              clear hK K
              refine norm_ (a' := ?_) ?_ ?_
              rotate_left
              · show Act.put _ (some 13) _ = _
                simp only [Act.put, List.setIfInBounds_toArray, List.set_cons_zero, List.set_cons_succ, i64_w, i32_w]
                rfl
              refine pure_ (i := 8) (N := some 5) (v := ?_) (a' := ?_) #[true, true, true, true, true, true, true, true, true] rfl rfl (any_of HT_.out (by kernel_rfl)) (fun _ _ _ h => h) (Or.inl ⟨by rfl, ?_⟩) ?_ ?_
              rotate_left
              · intro w'
                go_simp
                with_reducible rfl
              rotate_left
              · simp only [Act.put, List.setIfInBounds_toArray, List.set_cons_zero, List.set_cons_succ, i64_w, i32_w]
                rfl
              refine done_ (done_of HT_.out (by kernel_rfl)) ?_
              have hcz52_0 : w50.cell? ⟨gb209, 0, none⟩ = some (.int .i64 a1_0) := (blk_cell BK209.out 0).trans rfl
              have hcz52_1 : w50.cell? ⟨gb209, 1, none⟩ = some (.int .i32 a1_1) := (blk_cell BK209.out 1).trans rfl
              have hcz52_2 : w50.cell? ⟨gb209, 2, none⟩ = some (.int .i32 a1_2) := (blk_cell BK209.out 2).trans rfl
              have hcz52_3 : w50.cell? ⟨gb209, 3, none⟩ = some (.int .i8 a1_3) := (blk_cell BK209.out 3).trans rfl
              have hcz52_4 : w50.cell? ⟨gb209, 4, none⟩ = some (.int .i8 a1_4) := (blk_cell BK209.out 4).trans rfl
              have hcz52_5 : w50.cell? ⟨gb209, 5, none⟩ = some (.int .i64 a1_5) := (blk_cell BK209.out 5).trans rfl
              have hcz52_6 : w50.cell? ⟨gb209, 6, none⟩ = some (.bool a1_6) := (blk_cell BK209.out 6).trans rfl
              have hcz52_7 : w50.cell? ⟨gb209, 7, none⟩ = some (.slice A1_7 l1_7.length c1_7) := (blk_cell BK209.out 7).trans rfl
              have hcz52_8 : w50.cell? ⟨gb209, 8, none⟩ = some (.bool a1_8) := (blk_cell BK209.out 8).trans rfl
              have hcz52_9 : w50.cell? ⟨gb209, 9, none⟩ = some (.slice A1_9 l1_9.length c1_9) := (blk_cell BK209.out 9).trans rfl
              have hfz52_0 := blk_frozen BK209.out 0
              have hfz52_1 := blk_frozen BK209.out 1
              have hfz52_2 := blk_frozen BK209.out 2
              have hfz52_3 := blk_frozen BK209.out 3
              have hfz52_4 := blk_frozen BK209.out 4
              have hfz52_5 := blk_frozen BK209.out 5
              have hfz52_6 := blk_frozen BK209.out 6
              have hfz52_7 := blk_frozen BK209.out 7
              have hfz52_8 := blk_frozen BK209.out 8
              have hfz52_9 := blk_frozen BK209.out 9
              try go_wp2_with (first | ((with_reducible refine gate_callee (f := 39) rfl ?_); refine goesL_ (some 18) rfl rfl Tryd.func39 (by kernel_rfl) rfl #[.int .i64 (wrap64 (a1_2)), .int .i64 4] rfl (by (try simp only [List.map_toArray, List.map_cons, List.map_nil]); first | done | rfl | (simp only [List.length_drop, List.length_take]; rfl)) ?_; (with_reducible refine (spec_Fixed.calls k (wrap64 (a1_2)) 4 t219 _ A6.out).mono ?_); rintro e w53 ⟨v220, rfl, ho0, hb⟩; refine ⟨_, rfl, ?_⟩; have n0_ := Aside0.mk (Kd.R_elder' (by (with_reducible repeat (first | apply Kd.R_alloc | apply Kd.R_drewN | apply Kd.R_drew)); exact HO215.out) (Kd.R_base ho0) hb); have n1_ := Aside0.mk (Kd.R_elder' (by (with_reducible repeat (first | apply Kd.R_alloc | apply Kd.R_drewN | apply Kd.R_drew)); exact HO218.out) (Kd.R_base ho0) hb); have n2_ := Aside0.mk (Kd.R_lower (Kd.R_new' (Kd.R_new' ho0 (Kd.R_lt (by (with_reducible repeat (first | apply Kd.R_alloc | apply Kd.R_drewN | apply Kd.R_drew)); exact HO215.out))) (Kd.R_lt (by (with_reducible repeat (first | apply Kd.R_alloc | apply Kd.R_drewN | apply Kd.R_drew)); exact HO218.out))) (below_size (by repeat (first | (with_reducible first | exact HB.out | apply below_alloc | apply pw_below_drewN | apply below_drew1 | refine below_set ?_ GE209.out) | exact HB.out)))); have n3_ := Aside0.mk (blk_below (g := gb209) (o := .cells #[.int .i64 a1_0, .int .i32 a1_1, .int .i32 a1_2, .int .i8 a1_3, .int .i8 a1_4, .int .i64 a1_5, .bool a1_6, .slice A1_7 l1_7.length c1_7, .bool a1_8, .slice A1_9 l1_9.length c1_9] 75 (0, 0)) (by (with_reducible repeat (first | refine blk_drewN ?_ _ | refine blk_drew ?_ | refine blk_alloc ?_ _)); exact BK209.out) hb); have n4_ := Aside0.mk (below_step (by repeat (first | (with_reducible first | exact HB.out | apply below_alloc | apply pw_below_drewN | apply below_drew1 | refine below_set ?_ GE209.out) | exact HB.out)) hb); clear HO215; clear HO218; clear BK209; clear HB; have HO215 := n0_; have HO218 := n1_; have HO221 := n2_; have BK209 := n3_; have HB := n4_; clear n0_ n1_ n2_ n3_ n4_; (try clear hb); (try clear hb2); (try clear hk); (try clear hi); (try clear ho0); obtain ⟨Ao55, co55, eo55⟩ := Kd.R_slice HO221.out; subst eo55) | ((with_reducible refine gate_builtin (b := .append) (xs := #[.tmp 14, .tmp 18]) rfl ?_); at_builtin; refine Kd.R_append_rows (Kd.int .u8) (w0 := w) w.heap.size rfl (.tmp 14) (.tmp 18) 22 5 (.int .u8 0) 1 rfl Tryd.underlying22 info5 rfl (by decide) (by omega) v217 y216 t219 _ _ _ (fun k_ => some k_ ≠ (.slice Ao51 t213.length co51 : Value).ownBlock ∧ some k_ ≠ (.slice Ao55 t219.length co55 : Value).ownBlock) (fun _ => False) rfl rfl ?aO ?aR (fun _ _ h => h) (fun _ h => h.elim) ?aF ?aB ?aS ?aL ?_; (case aR => repeat (first | exact (Kd.R_reads' HO221.out).2.2 | (with_reducible refine Kd.C_alloc ?_ _) | (with_reducible refine Kd.C_drewN ?_ _) | (with_reducible refine Kd.C_drew ?_))); (case aB => exact (by repeat (first | (with_reducible first | exact HB.out | apply below_alloc | apply pw_below_drewN | apply below_drew1 | refine below_set ?_ GE209.out) | exact HB.out))); (case aF => exact (fun k_ hk => ⟨Kd.fresh' (Kd.R_lt (by (with_reducible repeat (first | apply Kd.R_alloc | apply Kd.R_drewN | apply Kd.R_drew)); exact HO215.out)) k_ hk, Kd.fresh' (Kd.R_lt (by (with_reducible repeat (first | apply Kd.R_alloc | apply Kd.R_drewN | apply Kd.R_drew)); exact HO221.out)) k_ hk⟩)); (case aO => exact (by (with_reducible repeat (first | apply Kd.R_alloc | apply Kd.R_drewN | apply Kd.R_drew)); exact HO218.out)); (case aS => exact (below_size (by repeat (first | (with_reducible first | exact HB.out | apply below_alloc | apply pw_below_drewN | apply below_drew1 | refine below_set ?_ GE209.out) | exact HB.out)))); (case aL => have := LMc7.out; omega); intro v223 w54 ho hb hg hat; rw [← Ny222.out] at ho; have n0_ := Aside0.mk (blk_grown (g := gb209) (o := .cells #[.int .i64 a1_0, .int .i32 a1_1, .int .i32 a1_2, .int .i8 a1_3, .int .i8 a1_4, .int .i64 a1_5, .bool a1_6, .slice A1_7 l1_7.length c1_7, .bool a1_8, .slice A1_9 l1_9.length c1_9] 75 (0, 0)) (by (with_reducible repeat (first | refine blk_drewN ?_ _ | refine blk_drew ?_ | refine blk_alloc ?_ _)); exact BK209.out) hg (Kd.R_ne HO218.out BK209.out (by decide))); have n1_ := Aside0.mk (Kd.R_after (ok := (fun k_ => some k_ ≠ (.slice Ao55 t219.length co55 : Value).ownBlock)) (by (with_reducible repeat (first | apply Kd.R_alloc | apply Kd.R_drewN | apply Kd.R_drew)); exact Kd.R_mono HO215.out (fun _ hk => ⟨hk.2, hk.1.2⟩)) hg hat); have n2_ := Aside0.mk (Kd.R_after (ok := (fun k_ => some k_ ≠ (.slice Ao51 t213.length co51 : Value).ownBlock)) (by (with_reducible repeat (first | apply Kd.R_alloc | apply Kd.R_drewN | apply Kd.R_drew)); exact Kd.R_mono HO221.out (fun _ hk => ⟨hk.1.2, hk.2⟩)) hg hat); have n3_ := Aside0.mk (hb); have n4_ := Aside0.mk (ho); clear BK209; clear HO215; clear HO221; clear HB; clear HO218; have BK209 := n0_; have HO215 := n1_; have HO221 := n2_; have HB := n3_; have HO224 := n4_; clear n0_ n1_ n2_ n3_ n4_; clear ho hb hg hat; have hcz56_0 : w54.cell? ⟨gb209, 0, none⟩ = some (.int .i64 a1_0) := (blk_cell BK209.out 0).trans rfl; have hcz56_1 : w54.cell? ⟨gb209, 1, none⟩ = some (.int .i32 a1_1) := (blk_cell BK209.out 1).trans rfl; have hcz56_2 : w54.cell? ⟨gb209, 2, none⟩ = some (.int .i32 a1_2) := (blk_cell BK209.out 2).trans rfl; have hcz56_3 : w54.cell? ⟨gb209, 3, none⟩ = some (.int .i8 a1_3) := (blk_cell BK209.out 3).trans rfl; have hcz56_4 : w54.cell? ⟨gb209, 4, none⟩ = some (.int .i8 a1_4) := (blk_cell BK209.out 4).trans rfl; have hcz56_5 : w54.cell? ⟨gb209, 5, none⟩ = some (.int .i64 a1_5) := (blk_cell BK209.out 5).trans rfl; have hcz56_6 : w54.cell? ⟨gb209, 6, none⟩ = some (.bool a1_6) := (blk_cell BK209.out 6).trans rfl; have hcz56_7 : w54.cell? ⟨gb209, 7, none⟩ = some (.slice A1_7 l1_7.length c1_7) := (blk_cell BK209.out 7).trans rfl; have hcz56_8 : w54.cell? ⟨gb209, 8, none⟩ = some (.bool a1_8) := (blk_cell BK209.out 8).trans rfl; have hcz56_9 : w54.cell? ⟨gb209, 9, none⟩ = some (.slice A1_9 l1_9.length c1_9) := (blk_cell BK209.out 9).trans rfl; have hfz56_0 := blk_frozen BK209.out 0; have hfz56_1 := blk_frozen BK209.out 1; have hfz56_2 := blk_frozen BK209.out 2; have hfz56_3 := blk_frozen BK209.out 3; have hfz56_4 := blk_frozen BK209.out 4; have hfz56_5 := blk_frozen BK209.out 5; have hfz56_6 := blk_frozen BK209.out 6; have hfz56_7 := blk_frozen BK209.out 7; have hfz56_8 := blk_frozen BK209.out 8; have hfz56_9 := blk_frozen BK209.out 9) | ((with_reducible refine gate_dst (N := 27) rfl ?_); refine Kd.R_lit (Kd.int .u8) _ 5 ?hg (N := 27) ?hd (xs := ([(a1_3) % 256, (a1_4) % 256] : List Int)) (inner := [.int .u8 ((a1_3) % 256), .int .u8 ((a1_4) % 256)]) (ok := fun _ => True) (okp := fun _ => True) ?hr ?hp (fun _ hk => hk) trivial (Below.refl _ _) (Nat.le_refl _) (by simp) ?_; (case hd => rfl); (case hg => rfl); (case hr => first | (go_simp; done) | (go_simp; rfl)); (case hp => exact (Reps.one (show Kd.M (Kd.int .u8) _ _ _ ((a1_3) % 256) [.int .u8 ((a1_3) % 256)] from rfl) (Reps.one (show Kd.M (Kd.int .u8) _ _ _ ((a1_4) % 256) [.int .u8 ((a1_4) % 256)] from rfl) (Reps.none _ _)))); intro v226 w57 ho58 hb hg_ hnew_; clear hg_ hnew_; (first | rw [← Ny225.out] at ho58 | (simp only [Int.reduceToNat] at ho58; rw [← Ny225.out] at ho58)); have n0_ := Aside0.mk (Kd.R_elder' (by (with_reducible repeat (first | apply Kd.R_alloc | apply Kd.R_drewN | apply Kd.R_drew)); exact HO215.out) (Kd.R_base ho58) hb); have n1_ := Aside0.mk (Kd.R_elder' (by (with_reducible repeat (first | apply Kd.R_alloc | apply Kd.R_drewN | apply Kd.R_drew)); exact HO221.out) (Kd.R_base ho58) hb); have n2_ := Aside0.mk (Kd.R_elder' (by (with_reducible repeat (first | apply Kd.R_alloc | apply Kd.R_drewN | apply Kd.R_drew)); exact HO224.out) (Kd.R_base ho58) hb); have n3_ := Aside0.mk (Kd.R_lower (Kd.R_new' (Kd.R_new' (Kd.R_new' ho58 (Kd.R_lt (by (with_reducible repeat (first | apply Kd.R_alloc | apply Kd.R_drewN | apply Kd.R_drew)); exact HO215.out))) (Kd.R_lt (by (with_reducible repeat (first | apply Kd.R_alloc | apply Kd.R_drewN | apply Kd.R_drew)); exact HO221.out))) (Kd.R_lt (by (with_reducible repeat (first | apply Kd.R_alloc | apply Kd.R_drewN | apply Kd.R_drew)); exact HO224.out))) (below_size (by repeat (first | (with_reducible first | exact HB.out | apply below_alloc | apply pw_below_drewN | apply below_drew1 | refine below_set ?_ GE209.out) | exact HB.out)))); have n4_ := Aside0.mk (blk_below (g := gb209) (o := .cells #[.int .i64 a1_0, .int .i32 a1_1, .int .i32 a1_2, .int .i8 a1_3, .int .i8 a1_4, .int .i64 a1_5, .bool a1_6, .slice A1_7 l1_7.length c1_7, .bool a1_8, .slice A1_9 l1_9.length c1_9] 75 (0, 0)) (by (with_reducible repeat (first | refine blk_drewN ?_ _ | refine blk_drew ?_ | refine blk_alloc ?_ _)); exact BK209.out) hb); have n5_ := Aside0.mk (below_step (by repeat (first | (with_reducible first | exact HB.out | apply below_alloc | apply pw_below_drewN | apply below_drew1 | refine below_set ?_ GE209.out) | exact HB.out)) hb); clear HO215; clear HO221; clear HO224; clear BK209; clear HB; have HO215 := n0_; have HO221 := n1_; have HO224 := n2_; have HO227 := n3_; have BK209 := n4_; have HB := n5_; clear n0_ n1_ n2_ n3_ n4_ n5_; clear hb ho58; obtain ⟨Ao60, co60, eo60⟩ := Kd.R_slice HO227.out; subst eo60) | ((with_reducible refine gate_builtin (b := .append) (xs := #[.tmp 20, .tmp 27]) rfl ?_); at_builtin; refine Kd.R_append_rows (Kd.int .u8) (w0 := w) w.heap.size rfl (.tmp 20) (.tmp 27) 22 5 (.int .u8 0) 1 rfl Tryd.underlying22 info5 rfl (by decide) (by omega) v223 y222 y225 _ _ _ (fun k_ => some k_ ≠ (.slice Ao51 t213.length co51 : Value).ownBlock ∧ some k_ ≠ (.slice Ao55 t219.length co55 : Value).ownBlock ∧ some k_ ≠ (.slice Ao60 y225.length co60 : Value).ownBlock) (fun _ => False) rfl rfl ?aO ?aR (fun _ _ h => h) (fun _ h => h.elim) ?aF ?aB ?aS ?aL ?_; (case aR => repeat (first | exact (Kd.R_reads' HO227.out).2.2 | (with_reducible refine Kd.C_alloc ?_ _) | (with_reducible refine Kd.C_drewN ?_ _) | (with_reducible refine Kd.C_drew ?_))); (case aB => exact (by repeat (first | (with_reducible first | exact HB.out | apply below_alloc | apply pw_below_drewN | apply below_drew1 | refine below_set ?_ GE209.out) | exact HB.out))); (case aF => exact (fun k_ hk => ⟨Kd.fresh' (Kd.R_lt (by (with_reducible repeat (first | apply Kd.R_alloc | apply Kd.R_drewN | apply Kd.R_drew)); exact HO215.out)) k_ hk, Kd.fresh' (Kd.R_lt (by (with_reducible repeat (first | apply Kd.R_alloc | apply Kd.R_drewN | apply Kd.R_drew)); exact HO221.out)) k_ hk, Kd.fresh' (Kd.R_lt (by (with_reducible repeat (first | apply Kd.R_alloc | apply Kd.R_drewN | apply Kd.R_drew)); exact HO227.out)) k_ hk⟩)); (case aO => exact (by (with_reducible repeat (first | apply Kd.R_alloc | apply Kd.R_drewN | apply Kd.R_drew)); exact Kd.R_mono HO224.out (fun _ hk => ⟨hk.1.1, ⟨hk.1.2, hk.2⟩⟩))); (case aS => exact (below_size (by repeat (first | (with_reducible first | exact HB.out | apply below_alloc | apply pw_below_drewN | apply below_drew1 | refine below_set ?_ GE209.out) | exact HB.out)))); (case aL => have := LMc8.out; omega); intro v229 w59 ho hb hg hat; rw [← Ny228.out] at ho; have n0_ := Aside0.mk (blk_grown (g := gb209) (o := .cells #[.int .i64 a1_0, .int .i32 a1_1, .int .i32 a1_2, .int .i8 a1_3, .int .i8 a1_4, .int .i64 a1_5, .bool a1_6, .slice A1_7 l1_7.length c1_7, .bool a1_8, .slice A1_9 l1_9.length c1_9] 75 (0, 0)) (by (with_reducible repeat (first | refine blk_drewN ?_ _ | refine blk_drew ?_ | refine blk_alloc ?_ _)); exact BK209.out) hg (Kd.R_ne HO224.out BK209.out (by decide))); have n1_ := Aside0.mk (Kd.R_after (ok := (fun k_ => some k_ ≠ (.slice Ao55 t219.length co55 : Value).ownBlock ∧ some k_ ≠ (.slice Ao60 y225.length co60 : Value).ownBlock)) (by (with_reducible repeat (first | apply Kd.R_alloc | apply Kd.R_drewN | apply Kd.R_drew)); exact Kd.R_mono HO215.out (fun _ hk => ⟨⟨hk.1.1, hk.2⟩, hk.1.2⟩)) hg hat); have n2_ := Aside0.mk (Kd.R_after (ok := (fun k_ => some k_ ≠ (.slice Ao51 t213.length co51 : Value).ownBlock ∧ some k_ ≠ (.slice Ao60 y225.length co60 : Value).ownBlock)) (by (with_reducible repeat (first | apply Kd.R_alloc | apply Kd.R_drewN | apply Kd.R_drew)); exact Kd.R_mono HO221.out (fun _ hk => ⟨⟨hk.1.1, hk.2⟩, hk.1.2⟩)) hg hat); have n3_ := Aside0.mk (Kd.R_after (ok := (fun k_ => some k_ ≠ (.slice Ao51 t213.length co51 : Value).ownBlock ∧ some k_ ≠ (.slice Ao55 t219.length co55 : Value).ownBlock)) (by (with_reducible repeat (first | apply Kd.R_alloc | apply Kd.R_drewN | apply Kd.R_drew)); exact Kd.R_mono HO227.out (fun _ hk => ⟨⟨hk.1.1.2, hk.1.2⟩, hk.2⟩)) hg hat); have n4_ := Aside0.mk (hb); have n5_ := Aside0.mk (ho); clear BK209; clear HO215; clear HO221; clear HO227; clear HB; clear HO224; have BK209 := n0_; have HO215 := n1_; have HO221 := n2_; have HO227 := n3_; have HB := n4_; have HO230 := n5_; clear n0_ n1_ n2_ n3_ n4_ n5_; clear ho hb hg hat))
              have n0_ := Aside0.mk (Kd.R_drew HO215.out)
              have n1_ := Aside0.mk (Kd.R_drew HO221.out)
              have n2_ := Aside0.mk (Kd.R_drew HO227.out)
              have n3_ := Aside0.mk (Kd.R_drew HO230.out)
              have n4_ := Aside0.mk (blk_drew BK209.out)
              have n5_ := Aside0.mk (below_drew1 HB.out)
              clear HO215
              clear HO221
              clear HO227
              clear HO230
              clear BK209
              clear HB
              have HO215 := n0_
              have HO221 := n1_
              have HO227 := n2_
              have HO230 := n3_
              have BK209 := n4_
              have HB := n5_
              clear n0_ n1_ n2_ n3_ n4_ n5_
              refine start_ (n := 10) (S := fun w' => w'.cell? ⟨gb209, 0, none⟩ = some (.int .i64 a1_0) ∧ w'.cell? ⟨gb209, 1, none⟩ = some (.int .i32 a1_1) ∧ w'.cell? ⟨gb209, 2, none⟩ = some (.int .i32 a1_2) ∧ w'.cell? ⟨gb209, 3, none⟩ = some (.int .i8 a1_3) ∧ w'.cell? ⟨gb209, 4, none⟩ = some (.int .i8 a1_4) ∧ w'.cell? ⟨gb209, 5, none⟩ = some (.int .i64 a1_5) ∧ w'.cell? ⟨gb209, 6, none⟩ = some (.bool a1_6) ∧ w'.cell? ⟨gb209, 7, none⟩ = some (.slice A1_7 l1_7.length c1_7) ∧ w'.cell? ⟨gb209, 8, none⟩ = some (.bool a1_8) ∧ w'.cell? ⟨gb209, 9, none⟩ = some (.slice A1_9 l1_9.length c1_9)) (ds := []) #[false, false, false, false, false, false, false, false, false, false] (by kernel_rfl) rfl rfl ⟨(blk_cell BK209.out 0).trans rfl, (blk_cell BK209.out 1).trans rfl, (blk_cell BK209.out 2).trans rfl, (blk_cell BK209.out 3).trans rfl, (blk_cell BK209.out 4).trans rfl, (blk_cell BK209.out 5).trans rfl, (blk_cell BK209.out 6).trans rfl, (blk_cell BK209.out 7).trans rfl, (blk_cell BK209.out 8).trans rfl, (blk_cell BK209.out 9).trans rfl⟩ (fun hHeld => ?_); refine with_tabW spec_OldBytes.tab6 spec_OldBytes.bits6 (fun HT_ HW_ => ?_)
              generalize w59.drew = w61 at HO215 HO221 HO227 HO230 BK209 HB hHeld ⊢
              refine pure_ (i := 0) (N := some 36) (v := ?_) (a' := ?_) #[true, false, false, false, false, false, false, false, false, false] rfl rfl (any_of HT_.out (by kernel_rfl)) (fun _ _ _ h => h) (Or.inl ⟨by rfl, ?_⟩) ?_ ?_
              rotate_left
              · intro w'
                go_simp
                with_reducible rfl
              rotate_left
              · simp only [Act.put, List.setIfInBounds_toArray, List.set_cons_zero, List.set_cons_succ, i64_w, i32_w]
                rfl
              refine pure_ (i := 1) (N := some 37) (v := ?_) (a' := ?_) #[true, true, false, false, false, false, false, false, false, false] rfl rfl (any_of HT_.out (by kernel_rfl)) (fun _ _ _ h => h) (Or.inl ⟨by rfl, ?_⟩) ?_ ?_
              rotate_left
              · intro w'
                go_simp
                with_reducible rfl
              rotate_left
              · simp only [Act.put, List.setIfInBounds_toArray, List.set_cons_zero, List.set_cons_succ, i64_w, i32_w]
                rfl
              refine pure_ (i := 5) (N := some 41) (v := ?_) (a' := ?_) #[true, true, false, false, false, true, false, false, false, false] rfl rfl (any_of HT_.out (by kernel_rfl)) (fun _ _ _ h => h) (Or.inl ⟨by rfl, ?_⟩) ?_ ?_
              rotate_left
              · intro w'
                go_simp
                with_reducible rfl
              rotate_left
              · simp only [Act.put, List.setIfInBounds_toArray, List.set_cons_zero, List.set_cons_succ, i64_w, i32_w]
                rfl
              refine take_ (i := 2) (N := some 38) (v := ?_) (a' := ?_) #[true, true, true, false, false, true, false, false, false, false] rfl rfl (take_ofW HT_.out HW_.out (by kernel_rfl)) (fun _ _ _ h => h) (Or.inl ⟨by rfl, ?_⟩) hHeld ?_ ?_
              rotate_left
              · rintro w' ⟨s0, s1, s2, s3, s4, s5, s6, s7, s8, s9⟩
                go_simp
                with_reducible rfl
              rotate_left
              · simp only [Act.put, List.setIfInBounds_toArray, List.set_cons_zero, List.set_cons_succ, i64_w, i32_w]
                rfl
              refine take_ (i := 6) (N := some 42) (v := ?_) (a' := ?_) #[true, true, true, false, false, true, true, false, false, false] rfl rfl (take_ofW HT_.out HW_.out (by kernel_rfl)) (fun _ _ _ h => h) (Or.inl ⟨by rfl, ?_⟩) hHeld ?_ ?_
              rotate_left
              · rintro w' ⟨s0, s1, s2, s3, s4, s5, s6, s7, s8, s9⟩
                go_simp
                with_reducible rfl
              rotate_left
              · simp only [Act.put, List.setIfInBounds_toArray, List.set_cons_zero, List.set_cons_succ, i64_w, i32_w]
                rfl
              refine one_ (i := 3) (N := some 39) #[true, true, true, true, false, true, true, false, false, false] rfl rfl (one_of HT_.out (by kernel_rfl)) (by decide) (fun K hK => ?_)
              refine goes_ Tryd.func49 (by kernel_rfl) rfl #[.agg #[.bool a1_6, .slice A1_7 l1_7.length c1_7]] (by rfl) rfl rfl (by (try simp only [List.map_toArray, List.map_cons, List.map_nil]); first | done | rfl | (simp only [List.length_drop, List.length_take]; rfl)) ?_
              with_reducible refine (spec_fixedOctets.calls k a1_6 _ _ l1_7 t249 _ ?side1 ?side2 A42.out).mono ?_
              (case side1 => repeat (first | exact (Kd.C_below HR1_7.out HB.out) | (with_reducible refine Kd.C_alloc ?_ _) | (with_reducible refine Kd.C_drewN ?_ _) | (with_reducible refine Kd.C_drew ?_)))
              (case side2 => exact HC1_7.out)
              rintro e w62 ⟨v250, rfl, ho0, hb⟩
              refine ⟨_, rfl, ?_⟩
              have n0_ := Aside0.mk (Kd.R_elder' (by (with_reducible repeat (first | apply Kd.R_alloc | apply Kd.R_drewN | apply Kd.R_drew)); exact HO215.out) (Kd.R_base ho0) hb)
              have n1_ := Aside0.mk (Kd.R_elder' (by (with_reducible repeat (first | apply Kd.R_alloc | apply Kd.R_drewN | apply Kd.R_drew)); exact HO221.out) (Kd.R_base ho0) hb)
              have n2_ := Aside0.mk (Kd.R_elder' (by (with_reducible repeat (first | apply Kd.R_alloc | apply Kd.R_drewN | apply Kd.R_drew)); exact HO227.out) (Kd.R_base ho0) hb)
              have n3_ := Aside0.mk (Kd.R_elder' (by (with_reducible repeat (first | apply Kd.R_alloc | apply Kd.R_drewN | apply Kd.R_drew)); exact HO230.out) (Kd.R_base ho0) hb)
              have n4_ := Aside0.mk (Kd.R_lower (Kd.R_new' (Kd.R_new' (Kd.R_new' (Kd.R_new' ho0 (Kd.R_lt (by (with_reducible repeat (first | apply Kd.R_alloc | apply Kd.R_drewN | apply Kd.R_drew)); exact HO215.out))) (Kd.R_lt (by (with_reducible repeat (first | apply Kd.R_alloc | apply Kd.R_drewN | apply Kd.R_drew)); exact HO221.out))) (Kd.R_lt (by (with_reducible repeat (first | apply Kd.R_alloc | apply Kd.R_drewN | apply Kd.R_drew)); exact HO227.out))) (Kd.R_lt (by (with_reducible repeat (first | apply Kd.R_alloc | apply Kd.R_drewN | apply Kd.R_drew)); exact HO230.out))) (below_size (by repeat (first | (with_reducible first | exact HB.out | apply below_alloc | apply pw_below_drewN | apply below_drew1 | refine below_set ?_ GE209.out) | exact HB.out))))
              have n5_ := Aside0.mk (blk_below (g := gb209) (o := .cells #[.int .i64 a1_0, .int .i32 a1_1, .int .i32 a1_2, .int .i8 a1_3, .int .i8 a1_4, .int .i64 a1_5, .bool a1_6, .slice A1_7 l1_7.length c1_7, .bool a1_8, .slice A1_9 l1_9.length c1_9] 75 (0, 0)) (by (with_reducible repeat (first | refine blk_drewN ?_ _ | refine blk_drew ?_ | refine blk_alloc ?_ _)); exact BK209.out) hb)
              have n6_ := Aside0.mk (below_step (by repeat (first | (with_reducible first | exact HB.out | apply below_alloc | apply pw_below_drewN | apply below_drew1 | refine below_set ?_ GE209.out) | exact HB.out)) hb)
              clear HO215
              clear HO221
              clear HO227
              clear HO230
              clear BK209
              clear HB
              have HO215 := n0_
              have HO221 := n1_
              have HO227 := n2_
              have HO230 := n3_
              have HO251 := n4_
              have BK209 := n5_
              have HB := n6_
              clear n0_ n1_ n2_ n3_ n4_ n5_ n6_
              (try clear hb)
              (try clear hb2)
              (try clear hk)
              (try clear hi)
              (try clear ho0)
              obtain ⟨Ao64, co64, eo64⟩ := Kd.R_slice HO251.out
              (first | subst eo64 | (injection eo64 with f1_ f2_ f3_; have f4_ := f1_.symm; have f5_ := f3_.symm; clear f1_ f2_ f3_; subst f4_; subst f5_))
              refine hK.out _ _ ⟨(blk_cell BK209.out 0).trans rfl, (blk_cell BK209.out 1).trans rfl, (blk_cell BK209.out 2).trans rfl, (blk_cell BK209.out 3).trans rfl, (blk_cell BK209.out 4).trans rfl, (blk_cell BK209.out 5).trans rfl, (blk_cell BK209.out 6).trans rfl, (blk_cell BK209.out 7).trans rfl, (blk_cell BK209.out 8).trans rfl, (blk_cell BK209.out 9).trans rfl⟩ (fun hHeld => ?_)
              clear hK K
              refine norm_ (a' := ?_) ?_ ?_
              rotate_left
              · show Act.put _ (some 39) _ = _
                simp only [Act.put, List.setIfInBounds_toArray, List.set_cons_zero, List.set_cons_succ, i64_w, i32_w]
                rfl
              refine one_ (i := 4) (N := some 40) #[true, true, true, true, true, true, true, false, false, false] rfl rfl (one_of HT_.out (by kernel_rfl)) (by decide) (fun K hK => ?_)
              refine Kd.R_append_rows_step (Kd.int .u8) (w0 := w) w.heap.size (by rfl) (.tmp 36) (.tmp 39) 22 5 (.int .u8 0) 1 rfl Tryd.underlying22 info5 rfl (by decide) (by omega) v229 y228 t249 _ _ _ (fun k_ => some k_ ≠ (.slice Ao51 t213.length co51 : Value).ownBlock ∧ some k_ ≠ (.slice Ao55 t219.length co55 : Value).ownBlock ∧ some k_ ≠ (.slice Ao60 y225.length co60 : Value).ownBlock ∧ some k_ ≠ (.slice Ao64 t249.length co64 : Value).ownBlock) (fun _ => False) rfl rfl ?aO ?aR (fun _ _ h => h) (fun _ h => h.elim) ?aF ?aB ?aS ?aL ?_
              (case aR => repeat (first | exact (Kd.R_reads' HO251.out).2.2 | (with_reducible refine Kd.C_alloc ?_ _) | (with_reducible refine Kd.C_drewN ?_ _) | (with_reducible refine Kd.C_drew ?_)))
              (case aB => exact (by repeat (first | (with_reducible first | exact HB.out | apply below_alloc | apply pw_below_drewN | apply below_drew1 | refine below_set ?_ GE209.out) | exact HB.out)))
              (case aF => exact (fun k_ hk => ⟨Kd.fresh' (Kd.R_lt (by (with_reducible repeat (first | apply Kd.R_alloc | apply Kd.R_drewN | apply Kd.R_drew)); exact HO215.out)) k_ hk, Kd.fresh' (Kd.R_lt (by (with_reducible repeat (first | apply Kd.R_alloc | apply Kd.R_drewN | apply Kd.R_drew)); exact HO221.out)) k_ hk, Kd.fresh' (Kd.R_lt (by (with_reducible repeat (first | apply Kd.R_alloc | apply Kd.R_drewN | apply Kd.R_drew)); exact HO227.out)) k_ hk, Kd.fresh' (Kd.R_lt (by (with_reducible repeat (first | apply Kd.R_alloc | apply Kd.R_drewN | apply Kd.R_drew)); exact HO251.out)) k_ hk⟩))
              (case aO => exact (by (with_reducible repeat (first | apply Kd.R_alloc | apply Kd.R_drewN | apply Kd.R_drew)); exact Kd.R_mono HO230.out (fun _ hk => ⟨hk.1.1, ⟨hk.1.2.1, ⟨hk.1.2.2, hk.2⟩⟩⟩)))
              (case aS => exact (below_size (by repeat (first | (with_reducible first | exact HB.out | apply below_alloc | apply pw_below_drewN | apply below_drew1 | refine below_set ?_ GE209.out) | exact HB.out))))
              (case aL => have := LMc43.out; omega)
              intro v253 w63 ho hb hg hat
              rw [← Ny252.out] at ho
              have n0_ := Aside0.mk (blk_grown (g := gb209) (o := .cells #[.int .i64 a1_0, .int .i32 a1_1, .int .i32 a1_2, .int .i8 a1_3, .int .i8 a1_4, .int .i64 a1_5, .bool a1_6, .slice A1_7 l1_7.length c1_7, .bool a1_8, .slice A1_9 l1_9.length c1_9] 75 (0, 0)) (by (with_reducible repeat (first | refine blk_drewN ?_ _ | refine blk_drew ?_ | refine blk_alloc ?_ _)); exact BK209.out) hg (Kd.R_ne HO230.out BK209.out (by decide)))
              have n1_ := Aside0.mk (Kd.R_after (ok := (fun k_ => some k_ ≠ (.slice Ao55 t219.length co55 : Value).ownBlock ∧ some k_ ≠ (.slice Ao60 y225.length co60 : Value).ownBlock ∧ some k_ ≠ (.slice Ao64 t249.length co64 : Value).ownBlock)) (by (with_reducible repeat (first | apply Kd.R_alloc | apply Kd.R_drewN | apply Kd.R_drew)); exact Kd.R_mono HO215.out (fun _ hk => ⟨⟨hk.1.1.1, ⟨hk.1.1.2, hk.2⟩⟩, hk.1.2⟩)) hg hat)
              have n2_ := Aside0.mk (Kd.R_after (ok := (fun k_ => some k_ ≠ (.slice Ao51 t213.length co51 : Value).ownBlock ∧ some k_ ≠ (.slice Ao60 y225.length co60 : Value).ownBlock ∧ some k_ ≠ (.slice Ao64 t249.length co64 : Value).ownBlock)) (by (with_reducible repeat (first | apply Kd.R_alloc | apply Kd.R_drewN | apply Kd.R_drew)); exact Kd.R_mono HO221.out (fun _ hk => ⟨⟨hk.1.1.1, ⟨hk.1.1.2, hk.2⟩⟩, hk.1.2⟩)) hg hat)
              have n3_ := Aside0.mk (Kd.R_after (ok := (fun k_ => some k_ ≠ (.slice Ao51 t213.length co51 : Value).ownBlock ∧ some k_ ≠ (.slice Ao55 t219.length co55 : Value).ownBlock ∧ some k_ ≠ (.slice Ao64 t249.length co64 : Value).ownBlock)) (by (with_reducible repeat (first | apply Kd.R_alloc | apply Kd.R_drewN | apply Kd.R_drew)); exact Kd.R_mono HO227.out (fun _ hk => ⟨⟨hk.1.1.1, ⟨hk.1.1.2, hk.2⟩⟩, hk.1.2⟩)) hg hat)
              have n4_ := Aside0.mk (Kd.R_after (ok := (fun k_ => some k_ ≠ (.slice Ao51 t213.length co51 : Value).ownBlock ∧ some k_ ≠ (.slice Ao55 t219.length co55 : Value).ownBlock ∧ some k_ ≠ (.slice Ao60 y225.length co60 : Value).ownBlock)) (by (with_reducible repeat (first | apply Kd.R_alloc | apply Kd.R_drewN | apply Kd.R_drew)); exact Kd.R_mono HO251.out (fun _ hk => ⟨⟨hk.1.1.1.2, ⟨hk.1.1.2, hk.1.2⟩⟩, hk.2⟩)) hg hat)
              have n5_ := Aside0.mk (hb)
              have n6_ := Aside0.mk (ho)
              clear BK209
              clear HO215
              clear HO221
              clear HO227
              clear HO251
              clear HB
              clear HO230
              have BK209 := n0_
              have HO215 := n1_
              have HO221 := n2_
              have HO227 := n3_
              have HO251 := n4_
              have HB := n5_
              have HO254 := n6_
              clear n0_ n1_ n2_ n3_ n4_ n5_ n6_
              clear ho hb hg hat
              refine hK.out _ _ ⟨(blk_cell BK209.out 0).trans rfl, (blk_cell BK209.out 1).trans rfl, (blk_cell BK209.out 2).trans rfl, (blk_cell BK209.out 3).trans rfl, (blk_cell BK209.out 4).trans rfl, (blk_cell BK209.out 5).trans rfl, (blk_cell BK209.out 6).trans rfl, (blk_cell BK209.out 7).trans rfl, (blk_cell BK209.out 8).trans rfl, (blk_cell BK209.out 9).trans rfl⟩ (fun hHeld => ?_)
              clear hK K
              refine norm_ (a' := ?_) ?_ ?_
              rotate_left
              · show Act.put _ (some 40) _ = _
                simp only [Act.put, List.setIfInBounds_toArray, List.set_cons_zero, List.set_cons_succ, i64_w, i32_w]
                rfl
              refine one_ (i := 7) (N := some 43) #[true, true, true, true, true, true, true, true, false, false] rfl rfl (one_of HT_.out (by kernel_rfl)) (by decide) (fun K hK => ?_)
              refine goes_ Tryd.func49 (by kernel_rfl) rfl #[.agg #[.bool a1_8, .slice A1_9 l1_9.length c1_9]] (by rfl) rfl rfl (by (try simp only [List.map_toArray, List.map_cons, List.map_nil]); first | done | rfl | (simp only [List.length_drop, List.length_take]; rfl)) ?_
              with_reducible refine (spec_fixedOctets.calls k a1_8 _ _ l1_9 t255 _ ?side1 ?side2 A44.out).mono ?_
              (case side1 => repeat (first | exact (Kd.C_below HR1_9.out HB.out) | (with_reducible refine Kd.C_alloc ?_ _) | (with_reducible refine Kd.C_drewN ?_ _) | (with_reducible refine Kd.C_drew ?_)))
              (case side2 => exact HC1_9.out)
              rintro e w65 ⟨v256, rfl, ho0, hb⟩
              refine ⟨_, rfl, ?_⟩
              have n0_ := Aside0.mk (Kd.R_elder' (by (with_reducible repeat (first | apply Kd.R_alloc | apply Kd.R_drewN | apply Kd.R_drew)); exact HO215.out) (Kd.R_base ho0) hb)
              have n1_ := Aside0.mk (Kd.R_elder' (by (with_reducible repeat (first | apply Kd.R_alloc | apply Kd.R_drewN | apply Kd.R_drew)); exact HO221.out) (Kd.R_base ho0) hb)
              have n2_ := Aside0.mk (Kd.R_elder' (by (with_reducible repeat (first | apply Kd.R_alloc | apply Kd.R_drewN | apply Kd.R_drew)); exact HO227.out) (Kd.R_base ho0) hb)
              have n3_ := Aside0.mk (Kd.R_elder' (by (with_reducible repeat (first | apply Kd.R_alloc | apply Kd.R_drewN | apply Kd.R_drew)); exact HO251.out) (Kd.R_base ho0) hb)
              have n4_ := Aside0.mk (Kd.R_elder' (by (with_reducible repeat (first | apply Kd.R_alloc | apply Kd.R_drewN | apply Kd.R_drew)); exact HO254.out) (Kd.R_base ho0) hb)
              have n5_ := Aside0.mk (Kd.R_lower (Kd.R_new' (Kd.R_new' (Kd.R_new' (Kd.R_new' (Kd.R_new' ho0 (Kd.R_lt (by (with_reducible repeat (first | apply Kd.R_alloc | apply Kd.R_drewN | apply Kd.R_drew)); exact HO215.out))) (Kd.R_lt (by (with_reducible repeat (first | apply Kd.R_alloc | apply Kd.R_drewN | apply Kd.R_drew)); exact HO221.out))) (Kd.R_lt (by (with_reducible repeat (first | apply Kd.R_alloc | apply Kd.R_drewN | apply Kd.R_drew)); exact HO227.out))) (Kd.R_lt (by (with_reducible repeat (first | apply Kd.R_alloc | apply Kd.R_drewN | apply Kd.R_drew)); exact HO251.out))) (Kd.R_lt (by (with_reducible repeat (first | apply Kd.R_alloc | apply Kd.R_drewN | apply Kd.R_drew)); exact HO254.out))) (below_size (by repeat (first | (with_reducible first | exact HB.out | apply below_alloc | apply pw_below_drewN | apply below_drew1 | refine below_set ?_ GE209.out) | exact HB.out))))
              have n6_ := Aside0.mk (blk_below (g := gb209) (o := .cells #[.int .i64 a1_0, .int .i32 a1_1, .int .i32 a1_2, .int .i8 a1_3, .int .i8 a1_4, .int .i64 a1_5, .bool a1_6, .slice A1_7 l1_7.length c1_7, .bool a1_8, .slice A1_9 l1_9.length c1_9] 75 (0, 0)) (by (with_reducible repeat (first | refine blk_drewN ?_ _ | refine blk_drew ?_ | refine blk_alloc ?_ _)); exact BK209.out) hb)
              have n7_ := Aside0.mk (below_step (by repeat (first | (with_reducible first | exact HB.out | apply below_alloc | apply pw_below_drewN | apply below_drew1 | refine below_set ?_ GE209.out) | exact HB.out)) hb)
              clear HO215
              clear HO221
              clear HO227
              clear HO251
              clear HO254
              clear BK209
              clear HB
              have HO215 := n0_
              have HO221 := n1_
              have HO227 := n2_
              have HO251 := n3_
              have HO254 := n4_
              have HO257 := n5_
              have BK209 := n6_
              have HB := n7_
              clear n0_ n1_ n2_ n3_ n4_ n5_ n6_ n7_
              (try clear hb)
              (try clear hb2)
              (try clear hk)
              (try clear hi)
              (try clear ho0)
              obtain ⟨Ao67, co67, eo67⟩ := Kd.R_slice HO257.out
              (first | subst eo67 | (injection eo67 with f1_ f2_ f3_; have f4_ := f1_.symm; have f5_ := f3_.symm; clear f1_ f2_ f3_; subst f4_; subst f5_))
              refine hK.out _ _ ⟨(blk_cell BK209.out 0).trans rfl, (blk_cell BK209.out 1).trans rfl, (blk_cell BK209.out 2).trans rfl, (blk_cell BK209.out 3).trans rfl, (blk_cell BK209.out 4).trans rfl, (blk_cell BK209.out 5).trans rfl, (blk_cell BK209.out 6).trans rfl, (blk_cell BK209.out 7).trans rfl, (blk_cell BK209.out 8).trans rfl, (blk_cell BK209.out 9).trans rfl⟩ (fun hHeld => ?_)
              clear hK K
              refine norm_ (a' := ?_) ?_ ?_
              rotate_left
              · show Act.put _ (some 43) _ = _
                simp only [Act.put, List.setIfInBounds_toArray, List.set_cons_zero, List.set_cons_succ, i64_w, i32_w]
                rfl
              refine one_ (i := 8) (N := some 44) #[true, true, true, true, true, true, true, true, true, false] rfl rfl (one_of HT_.out (by kernel_rfl)) (by decide) (fun K hK => ?_)
              refine Kd.R_append_rows_step (Kd.int .u8) (w0 := w) w.heap.size (by rfl) (.tmp 40) (.tmp 43) 22 5 (.int .u8 0) 1 rfl Tryd.underlying22 info5 rfl (by decide) (by omega) v253 y252 t255 _ _ _ (fun k_ => some k_ ≠ (.slice Ao51 t213.length co51 : Value).ownBlock ∧ some k_ ≠ (.slice Ao55 t219.length co55 : Value).ownBlock ∧ some k_ ≠ (.slice Ao60 y225.length co60 : Value).ownBlock ∧ some k_ ≠ (.slice Ao64 t249.length co64 : Value).ownBlock ∧ some k_ ≠ (.slice Ao67 t255.length co67 : Value).ownBlock) (fun _ => False) rfl rfl ?aO ?aR (fun _ _ h => h) (fun _ h => h.elim) ?aF ?aB ?aS ?aL ?_
              (case aR => repeat (first | exact (Kd.R_reads' HO257.out).2.2 | (with_reducible refine Kd.C_alloc ?_ _) | (with_reducible refine Kd.C_drewN ?_ _) | (with_reducible refine Kd.C_drew ?_)))
              (case aB => exact (by repeat (first | (with_reducible first | exact HB.out | apply below_alloc | apply pw_below_drewN | apply below_drew1 | refine below_set ?_ GE209.out) | exact HB.out)))
              (case aF => exact (fun k_ hk => ⟨Kd.fresh' (Kd.R_lt (by (with_reducible repeat (first | apply Kd.R_alloc | apply Kd.R_drewN | apply Kd.R_drew)); exact HO215.out)) k_ hk, Kd.fresh' (Kd.R_lt (by (with_reducible repeat (first | apply Kd.R_alloc | apply Kd.R_drewN | apply Kd.R_drew)); exact HO221.out)) k_ hk, Kd.fresh' (Kd.R_lt (by (with_reducible repeat (first | apply Kd.R_alloc | apply Kd.R_drewN | apply Kd.R_drew)); exact HO227.out)) k_ hk, Kd.fresh' (Kd.R_lt (by (with_reducible repeat (first | apply Kd.R_alloc | apply Kd.R_drewN | apply Kd.R_drew)); exact HO251.out)) k_ hk, Kd.fresh' (Kd.R_lt (by (with_reducible repeat (first | apply Kd.R_alloc | apply Kd.R_drewN | apply Kd.R_drew)); exact HO257.out)) k_ hk⟩))
              (case aO => exact (by (with_reducible repeat (first | apply Kd.R_alloc | apply Kd.R_drewN | apply Kd.R_drew)); exact Kd.R_mono HO254.out (fun _ hk => ⟨hk.1.1, ⟨hk.1.2.1, ⟨hk.1.2.2.1, ⟨hk.1.2.2.2, hk.2⟩⟩⟩⟩)))
              (case aS => exact (below_size (by repeat (first | (with_reducible first | exact HB.out | apply below_alloc | apply pw_below_drewN | apply below_drew1 | refine below_set ?_ GE209.out) | exact HB.out))))
              (case aL => have := LMc45.out; omega)
              intro v259 w66 ho hb hg hat
              rw [← Ny258.out] at ho
              have n0_ := Aside0.mk (blk_grown (g := gb209) (o := .cells #[.int .i64 a1_0, .int .i32 a1_1, .int .i32 a1_2, .int .i8 a1_3, .int .i8 a1_4, .int .i64 a1_5, .bool a1_6, .slice A1_7 l1_7.length c1_7, .bool a1_8, .slice A1_9 l1_9.length c1_9] 75 (0, 0)) (by (with_reducible repeat (first | refine blk_drewN ?_ _ | refine blk_drew ?_ | refine blk_alloc ?_ _)); exact BK209.out) hg (Kd.R_ne HO254.out BK209.out (by decide)))
              have n1_ := Aside0.mk (Kd.R_after (ok := (fun k_ => some k_ ≠ (.slice Ao55 t219.length co55 : Value).ownBlock ∧ some k_ ≠ (.slice Ao60 y225.length co60 : Value).ownBlock ∧ some k_ ≠ (.slice Ao64 t249.length co64 : Value).ownBlock ∧ some k_ ≠ (.slice Ao67 t255.length co67 : Value).ownBlock)) (by (with_reducible repeat (first | apply Kd.R_alloc | apply Kd.R_drewN | apply Kd.R_drew)); exact Kd.R_mono HO215.out (fun _ hk => ⟨⟨hk.1.1.1, ⟨hk.1.1.2.1, ⟨hk.1.1.2.2, hk.2⟩⟩⟩, hk.1.2⟩)) hg hat)
              have n2_ := Aside0.mk (Kd.R_after (ok := (fun k_ => some k_ ≠ (.slice Ao51 t213.length co51 : Value).ownBlock ∧ some k_ ≠ (.slice Ao60 y225.length co60 : Value).ownBlock ∧ some k_ ≠ (.slice Ao64 t249.length co64 : Value).ownBlock ∧ some k_ ≠ (.slice Ao67 t255.length co67 : Value).ownBlock)) (by (with_reducible repeat (first | apply Kd.R_alloc | apply Kd.R_drewN | apply Kd.R_drew)); exact Kd.R_mono HO221.out (fun _ hk => ⟨⟨hk.1.1.1, ⟨hk.1.1.2.1, ⟨hk.1.1.2.2, hk.2⟩⟩⟩, hk.1.2⟩)) hg hat)
              have n3_ := Aside0.mk (Kd.R_after (ok := (fun k_ => some k_ ≠ (.slice Ao51 t213.length co51 : Value).ownBlock ∧ some k_ ≠ (.slice Ao55 t219.length co55 : Value).ownBlock ∧ some k_ ≠ (.slice Ao64 t249.length co64 : Value).ownBlock ∧ some k_ ≠ (.slice Ao67 t255.length co67 : Value).ownBlock)) (by (with_reducible repeat (first | apply Kd.R_alloc | apply Kd.R_drewN | apply Kd.R_drew)); exact Kd.R_mono HO227.out (fun _ hk => ⟨⟨hk.1.1.1, ⟨hk.1.1.2.1, ⟨hk.1.1.2.2, hk.2⟩⟩⟩, hk.1.2⟩)) hg hat)
              have n4_ := Aside0.mk (Kd.R_after (ok := (fun k_ => some k_ ≠ (.slice Ao51 t213.length co51 : Value).ownBlock ∧ some k_ ≠ (.slice Ao55 t219.length co55 : Value).ownBlock ∧ some k_ ≠ (.slice Ao60 y225.length co60 : Value).ownBlock ∧ some k_ ≠ (.slice Ao67 t255.length co67 : Value).ownBlock)) (by (with_reducible repeat (first | apply Kd.R_alloc | apply Kd.R_drewN | apply Kd.R_drew)); exact Kd.R_mono HO251.out (fun _ hk => ⟨⟨hk.1.1.1, ⟨hk.1.1.2.1, ⟨hk.1.1.2.2, hk.2⟩⟩⟩, hk.1.2⟩)) hg hat)
              have n5_ := Aside0.mk (Kd.R_after (ok := (fun k_ => some k_ ≠ (.slice Ao51 t213.length co51 : Value).ownBlock ∧ some k_ ≠ (.slice Ao55 t219.length co55 : Value).ownBlock ∧ some k_ ≠ (.slice Ao60 y225.length co60 : Value).ownBlock ∧ some k_ ≠ (.slice Ao64 t249.length co64 : Value).ownBlock)) (by (with_reducible repeat (first | apply Kd.R_alloc | apply Kd.R_drewN | apply Kd.R_drew)); exact Kd.R_mono HO257.out (fun _ hk => ⟨⟨hk.1.1.1.1.2, ⟨hk.1.1.1.2, ⟨hk.1.1.2, hk.1.2⟩⟩⟩, hk.2⟩)) hg hat)
              have n6_ := Aside0.mk (hb)
              have n7_ := Aside0.mk (ho)
              clear BK209
              clear HO215
              clear HO221
              clear HO227
              clear HO251
              clear HO257
              clear HB
              clear HO254
              have BK209 := n0_
              have HO215 := n1_
              have HO221 := n2_
              have HO227 := n3_
              have HO251 := n4_
              have HO257 := n5_
              have HB := n6_
              have HO260 := n7_
              clear n0_ n1_ n2_ n3_ n4_ n5_ n6_ n7_
              clear ho hb hg hat
              refine hK.out _ _ ⟨(blk_cell BK209.out 0).trans rfl, (blk_cell BK209.out 1).trans rfl, (blk_cell BK209.out 2).trans rfl, (blk_cell BK209.out 3).trans rfl, (blk_cell BK209.out 4).trans rfl, (blk_cell BK209.out 5).trans rfl, (blk_cell BK209.out 6).trans rfl, (blk_cell BK209.out 7).trans rfl, (blk_cell BK209.out 8).trans rfl, (blk_cell BK209.out 9).trans rfl⟩ (fun hHeld => ?_)
              clear hK K
              refine norm_ (a' := ?_) ?_ ?_
              rotate_left
              · show Act.put _ (some 44) _ = _
                simp only [Act.put, List.setIfInBounds_toArray, List.set_cons_zero, List.set_cons_succ, i64_w, i32_w]
                rfl
              refine pure_ (i := 9) (N := some 4) (v := ?_) (a' := ?_) #[true, true, true, true, true, true, true, true, true, true] rfl rfl (any_of HT_.out (by kernel_rfl)) (fun _ _ _ h => h) (Or.inl ⟨by rfl, ?_⟩) ?_ ?_
              rotate_left
              · intro w'
                go_simp
                with_reducible rfl
              rotate_left
              · simp only [Act.put, List.setIfInBounds_toArray, List.set_cons_zero, List.set_cons_succ, i64_w, i32_w]
                rfl
              refine done_ (done_of HT_.out (by kernel_rfl)) ?_
              try go_wp2
              go_ret
              exact ⟨_, by first | rfl | (simp [errW_none, errW_some] <;> rfl) | (simp [*, errW_none, errW_some] <;> rfl), by (with_reducible repeat (first | apply Kd.R_alloc | apply Kd.R_drewN | apply Kd.R_drew)); exact Kd.R_mono HO260.out (fun _ hk => trivial), by repeat (first | (with_reducible first | exact HB.out | apply below_alloc | apply pw_below_drewN | apply below_drew1 | refine below_set ?_ GE209.out) | exact HB.out)⟩
            · rw [if_neg c45] at H
              exact absurd H (by simp)
          · rw [if_neg c43] at H
            exact absurd H (by simp)
      · rw [if_neg c8] at H
        exact absurd H (by simp)
    · rw [if_neg c7] at H
      exact absurd H (by simp)
  · rw [if_neg c5] at H
    exact absurd H (by simp)

end Go.Proofs.YthdfhnnoamlacaaDoor.PFnAnyHeader
