/-
  Texts of the names: the laws' own conditions. Conditions: none.
-/
import Derived.Test.YtbogepbfbplndaaDoorN6
namespace Go.Proofs.YtbogepbfbplndaaDoor.Nm
open Go.RowKit (Below)
open Kz

theorem isSp_lower (b : UInt8) : Lib.isSp (Lib.lowerB b) = Lib.isSp b := by
  have : ∀ n : Fin 256, Lib.isSp (Lib.lowerB (UInt8.ofNat n)) = Lib.isSp (UInt8.ofNat n) := by decide +kernel
  have h := this ⟨b.toNat, b.toNat_lt⟩
  simpa using h
theorem mark_lower (b : UInt8) : isMark (Lib.lowerB b) = isMark b := by
  have : ∀ n : Fin 256, isMark (Lib.lowerB (UInt8.ofNat n)) = isMark (UInt8.ofNat n) := by decide +kernel
  have h := this ⟨b.toNat, b.toNat_lt⟩
  simpa using h
theorem dropWhile_map (l : List UInt8) : (l.map Lib.lowerB).dropWhile Lib.isSp = (l.dropWhile Lib.isSp).map Lib.lowerB := by
  induction l with
  | nil => rfl
  | cons b l ih =>
    rw [List.map_cons, List.dropWhile_cons, List.dropWhile_cons, isSp_lower, ih]
    split <;> rfl
theorem trim_map (l : List UInt8) : Lib.trimSpace (l.map Lib.lowerB) = (Lib.trimSpace l).map Lib.lowerB := by
  rw [Lib.trimSpace, Lib.trimSpace, dropWhile_map, ← List.map_reverse, dropWhile_map, ← List.map_reverse]
/-- The package's way and the reference's are one. -/
theorem norm_small (l : List UInt8) : norm l = Lib.trimSpace (small l) := by
  rw [norm, Lib.toLowerA, ← trim_map, small, List.filter_map, List.filter_filter, List.filter_filter]
  congr 3
  funext b
  show _ = !isMark (Lib.lowerB b)
  rw [mark_lower, isMark]
  cases h1 : b == 46 <;> cases h2 : b == 95 <;> cases h3 : b == 45 <;> simp_all [bne]

/-- What the laws take for a plain text. -/
def isPlain (l : List UInt8) : Bool := decide (l.length ≤ 200) && !(Lib.trimSpace (small l) == [117, 110, 107, 110, 111, 119, 110]) && l.all (fun b => decide (b.toNat ≤ 127))

set_option maxRecDepth 8000 in
set_option maxHeartbeats 1000000 in
theorem plain_is (l : List UInt8) (w : World) (hs : l.length ≤ 2147483647) :
    Calls Tryd.prog 7 #[.string ⟨l.toArray⟩] w fun e w' => e = .returned (.bool (isPlain l)) ∧ Below w.heap.size w w' := by
  have hsz : (⟨l.toArray⟩ : ByteArray).size = l.length := by simp [ByteArray.size]
  go_enter Tryd.func7, Tryd.ntmps7
  by_cases h200 : l.length ≤ 200
  · have q1 : ¬ ((200 : Int) < (l.length : Int)) := by omega
    go_wp2_with fail
    refine (normal_is l w (by omega)).mono ?_
    rintro e w1 ⟨rfl, b1⟩
    have B := Lib.hid b1
    clear b1
    cases hu : (Lib.trimSpace (small l) == [117, 110, 107, 110, 111, 119, 110]) with
    | true =>
      have hf : isPlain l = false := by simp only [isPlain, hu]; simp
      go_wp2
      go_ret
      exact ⟨by rw [hf]; rfl, B.out⟩
    | false =>
      go_wp2_with fail
      go_loop [3] (fun i => ∃ j : Nat, i = .int .i64 (j : Int) ∧ j ≤ l.length ∧ ∀ (k : Nat) (b : UInt8), k < j → l[k]? = some b → b.toNat ≤ 127) (fun i => l.length - (intOf i).toNat)
      case atStart => exact ⟨0, rfl, by omega, fun _ _ h => absurd h (by omega)⟩
      case round =>
        obtain ⟨j, rfl, hj, hall⟩ := hrel
        have H := Lib.hid hall
        clear hall
        by_cases hlt : j < l.length
        · have q1 : (j : Int) < (l.length : Int) := by omega
          obtain ⟨x, hx⟩ : ∃ x : UInt8, (⟨l.toArray⟩ : ByteArray)[j] = x := ⟨_, rfl⟩
          have hx256 := x.toNat_lt
          have hxl : l[j]? = some x := by
            rw [← hx]
            exact Lib.data_getElem? ⟨l.toArray⟩ j hlt
          by_cases hb : x.toNat ≤ 127
          · have q2 : ¬ ((127 : Int) < (x.toNat : Int)) := by omega
            go_wp2
            refine ⟨⟨j + 1, rfl, by omega, fun k b hk hkb => ?_⟩, by simp only [intOf]; omega⟩
            by_cases e : k = j
            · subst e
              rw [hxl] at hkb
              obtain rfl := Option.some.inj hkb
              exact hb
            · exact H.out k b (by omega) hkb
          · have q2 : (127 : Int) < (x.toNat : Int) := by omega
            have hf : isPlain l = false := by
              have : l.all (fun b => decide (b.toNat ≤ 127)) = false := by
                rw [List.all_eq_false]
                exact ⟨x, List.mem_of_getElem? hxl, by simpa using hb⟩
              simp only [isPlain, this, Bool.and_false]
            go_wp2
            go_ret
            exact ⟨rfl, B.out⟩
        · have q1 : ¬ ((j : Int) < (l.length : Int)) := by omega
          have hf : isPlain l = true := by
            have : l.all (fun b => decide (b.toNat ≤ 127)) = true := by
              rw [List.all_eq_true]
              intro b hb
              obtain ⟨k, hk⟩ := List.getElem?_of_mem hb
              simpa using H.out k b (by have := (List.getElem?_eq_some_iff.1 hk).1; omega) hk
            simp only [isPlain, this, hu, decide_eq_true h200]
            rfl
          go_wp2
          go_ret
          exact ⟨rfl, B.out⟩
  · have q1 : (200 : Int) < (l.length : Int) := by omega
    have hf : isPlain l = false := by simp only [isPlain, decide_eq_false h200]; simp
    go_wp2
    go_ret
    exact ⟨by rw [hf]; rfl, Below.refl _ _⟩

def AgreeIs : Option Int → Int → Bool → Prop
  | some k, n, b => n = k ∧ b = true
  | none, _, b => b = false
theorem GotIs.parts {o : Option Int} {e : Ending} (h : GotIs o e) : ∃ n b, e = .returned (.tuple #[.int .i64 n, .bool b]) ∧ AgreeIs o n b := by
  cases o with
  | some k => exact ⟨k, true, h, rfl, rfl⟩
  | none =>
    obtain ⟨k, h⟩ := h
    exact ⟨k, false, h, rfl⟩
set_option maxRecDepth 8000 in
set_option maxHeartbeats 1000000 in
theorem agrees_is (rows : List (Int × List UInt8)) (s T : List UInt8) (hT : Lib.trimSpace (small s) = T) (v : Value) (w : World) (h : NL w v rows) (hl : rows.length ≤ 1000000) (hr : ∀ r ∈ rows, r.2.length ≤ 1000000) (hs : s.length ≤ 1000000) (n : Int) (ok : Bool)
    (hok : AgreeIs (findOf T rows) n ok) :
    Calls Tryd.prog 10 #[v, .string ⟨s.toArray⟩, .int .i64 n, .bool ok] w fun e w' => e = .returned (.bool true) ∧ Below w.heap.size w w' := by
  go_enter Tryd.func10, Tryd.ntmps10
  go_wp2_with fail
  refine (parsed_is rows s T hT v w h hl hr hs).mono ?_
  rintro e w1 ⟨rfl, b1⟩
  cases ho : findOf T rows with
  | some k =>
    rw [ho] at hok
    obtain ⟨rfl, rfl⟩ := hok
    go_wp2
    go_ret
    exact ⟨rfl, b1⟩
  | none =>
    rw [ho] at hok
    subst hok
    go_wp2
    go_ret
    exact ⟨rfl, b1⟩
end Go.Proofs.YtbogepbfbplndaaDoor.Nm
