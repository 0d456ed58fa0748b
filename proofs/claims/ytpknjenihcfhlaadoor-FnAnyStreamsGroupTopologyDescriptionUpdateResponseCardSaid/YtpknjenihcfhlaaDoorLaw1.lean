/-
  What the laws lean on: the version, octets compared. Conditions: none.
-/
import Derived.Test.YtpknjenihcfhlaaDoorMsg2
import Derived.Deep.QuietTactic
namespace Go.Proofs.YtpknjenihcfhlaaDoor
open Go.RowKit
open Kz

/-- Nil slices, by a closed question. -/
def isNil : Option Value → Bool
  | some (.slice none 0 0) => true
  | _ => false
theorem isNil_ok {o : Option Value} (h : isNil o = true) : o = some (.slice none 0 0) := by
  unfold isNil at h
  split at h
  · rfl
  · cases h
theorem nil_all {ht : Bool} {fs : List F} {z : Array Value} {b : Nat} (h : (inisFs ht fs b).all (fun k => isNil z[k]?) = true) : ∀ k ∈ inisFs ht fs b, z[k]? = some (.slice none 0 0) :=
  fun k hk => isNil_ok (List.all_eq_true.1 h k hk)
theorem ini_all {ht : Bool} {fs : List F} {z : Array Value} (h : (inisFs ht fs 0).all (fun k => isNil z[k]?) = true) : iniFs ht fs (fun j => z[j]?) := by
  have := iniFs_cells ht fs 0 (fun j => z[j]?)
  simp only [Nat.zero_add] at this
  exact this.2 (nil_all h)
theorem version_any (w : World) (n most : Int) (h0 : 0 ≤ n) (h1 : n < 256) (hm : 0 ≤ most) (hm2 : most < 32768) :
    Calls Tryd.prog 10 #[.int .u8 n, .int .i64 most] w fun e w' => e = .returned (.int .i64 (n % (most + 1))) ∧ w' = w := by
  have e1 : IntKind.wrap .i64 n = n := by rw [IntKind.wrap_i64]; omega
  have e2 : IntKind.wrap .i64 (most + 1) = most + 1 := by rw [IntKind.wrap_i64]; omega
  have e3 : Int.tmod n (most + 1) = n % (most + 1) := Int.tmod_eq_emod_of_nonneg h0
  have e4 : 0 ≤ n % (most + 1) := Int.emod_nonneg _ (by omega)
  have e5 : n % (most + 1) < most + 1 := Int.emod_lt_of_pos _ (by omega)
  have e6 : IntKind.wrap .i64 (n % (most + 1)) = n % (most + 1) := by rw [IntKind.wrap_i64]; omega
  have hne : ¬ (most + 1 = 0) := by omega
  go_enter Tryd.func10, Tryd.ntmps10
  go_wp2
  go_ret
  exact ⟨rfl, rfl⟩

/-- Octets by their places. -/
theorem bytes_cell {w : World} {S : Nat → Prop} {v : Value} {bs : List UInt8} (h : BytesAt w S v bs) : ∃ p c, v = .slice p bs.length c ∧ (bs ≠ [] → ∃ g o, p = some ⟨g, o, none⟩ ∧ ∀ (i : Nat) (b : UInt8), bs[i]? = some b → w.cell? ⟨g, o + i, none⟩ = some (bv b)) := by
  rcases h with ⟨rfl, rfl⟩ | ⟨g, o, c, rfl, h2, h2', h3, h4, h5⟩
  · exact ⟨_, _, rfl, fun h => absurd rfl h⟩
  · exact ⟨_, _, rfl, fun _ => ⟨g, o, rfl, h5⟩⟩
theorem bv_ne (a b : UInt8) : (a.toNat : Int) = (b.toNat : Int) ↔ a = b := by
  constructor
  · intro h
    exact UInt8.toNat_inj.1 (by omega)
  · rintro rfl; rfl

set_option maxRecDepth 8000 in
set_option maxHeartbeats 1000000 in
theorem Same_any (w : World) (S S' : Nat → Prop) (x y : Value) (a b : List UInt8) (hx : BytesAt w S x a) (hy : BytesAt w S' y b) (ha : a.length < 4611686018427387904) :
    Calls Tryd.prog 11 #[x, y] w fun e w' => e = .returned (.bool (decide (a = b))) ∧ w.grownBy w' none := by
  obtain ⟨p, c, rfl, hp⟩ := bytes_cell hx
  obtain ⟨q, d, rfl, hq⟩ := bytes_cell hy
  clear hx hy
  by_cases hl : a.length = b.length
  · have hli : (a.length : Int) = (b.length : Int) := by omega
    go_enter Tryd.func11, Tryd.ntmps11
    go_wp2
    go_loopw [13] (fun i wr => ∃ j : Nat, i = .int .i64 (j : Int) ∧ j ≤ a.length ∧ a.take j = b.take j ∧ w.grownBy wr none) (fun i _ => a.length - (intOf i).toNat)
    case atStart => exact ⟨0, rfl, Nat.zero_le _, by simp, grownBy_refl _ _⟩
    case round =>
      obtain ⟨j, rfl, hj, htk, hg⟩ := hrel
      by_cases hjl : j < a.length
      · have hji : (j : Int) < (a.length : Int) := by omega
        obtain ⟨g, o, rfl, hpc⟩ := hp (by intro e; rw [e] at hjl; simp at hjl)
        obtain ⟨g', o', rfl, hqc⟩ := hq (by intro e; rw [e] at hl; simp only [List.length_nil] at hl; omega)
        have ea : a[j]? = some (a[j]'hjl) := List.getElem?_eq_getElem hjl
        have eb : b[j]? = some (b[j]'(by omega)) := List.getElem?_eq_getElem (by omega)
        have ca : wr.cell? ⟨g, o + j, none⟩ = some (bv (a[j]'hjl)) := hg.cell (hpc j _ ea) (by simp)
        have cb : wr.cell? ⟨g', o' + j, none⟩ = some (bv (b[j]'(by omega))) := hg.cell (hqc j _ eb) (by simp)
        have hw1 : IntKind.wrap .i64 ((j : Int) + 1) = ((j + 1 : Nat) : Int) := by rw [IntKind.wrap_i64]; omega
        simp only [bv] at ca cb
        generalize hA : a[j]'hjl = xa at ea ca
        generalize hB : b[j]'(by omega) = xb at eb cb
        by_cases hab : xa = xb
        · subst hab
          have hstep : a.take (j + 1) = b.take (j + 1) := by rw [List.take_add_one, List.take_add_one, htk, ea, eb]
          have bg : Box _ := ⟨hg⟩
          have bst : Box _ := ⟨hstep⟩
          clear hp hq hpc hqc ea eb htk hg hstep hA hB
          go_wp2
          go_quiet (fail)
          go_wp2
          go_roundw
          case rel => exact ⟨j + 1, rfl, by omega, bst.get, bg.get.os, bg.get.tape, bg.get.output, bg.get.size, bg.get.block⟩
          case measure => simp only [intOf]; omega
        · have hne : ¬ ((xa.toNat : Int) = (xb.toNat : Int)) := fun e => hab ((bv_ne xa xb).1 e)
          have hab' : a ≠ b := by
            rintro rfl
            rw [ea] at eb
            exact hab (Option.some.inj eb)
          have bg : Box _ := ⟨hg⟩
          clear hp hq hpc hqc ea eb htk hg hA hB
          go_wp2
          go_quiet (fail)
          go_wp2
          go_ret
          exact ⟨by rw [decide_eq_false hab']; rfl, bg.get.os, bg.get.tape, bg.get.output, bg.get.size, bg.get.block⟩
      · have hji : ¬ ((j : Int) < (a.length : Int)) := by omega
        obtain rfl : j = a.length := by omega
        have hab : a = b := by
          rw [List.take_length, hl, List.take_length] at htk
          exact htk
        subst hab
        clear hp hq
        go_wp2
        go_ret
        exact ⟨by simp, hg⟩
  · have hli : ¬ ((a.length : Int) = (b.length : Int)) := by omega
    go_enter Tryd.func11, Tryd.ntmps11
    clear hp hq
    go_wp2
    · go_ret
      exact ⟨by rw [decide_eq_false (fun e => hl (by rw [e]))]; rfl, grownBy_refl _ _⟩
/-- A guarded field: its reading, its writing may lean on the guard. -/
theorem RdV.guardV {tags : Rel (List (Nat × List UInt8))} {E : RE} {v : Int} {flex ht : Bool} {sp off t : Nat} {q : Bool} {f : F} {r c : Code} (hT : Test E v flex t q r) (hq : f.has v = q) (ht0 : f.tag < 0) (hsp : clear [sp] r = true) (h : f.has v = true → RdV tags E v flex ht sp off f c) :
    RdF tags E v flex ht sp off f (r.seq (Code.cond (.tmp t) c Code.skip)) := by
  subst hq
  refine Rd.conv (Rd.guard (z := dfltF f) hT hsp h) id (fun st => ?_) (fun w K cc x hx ho => hx ?_) (fun _ h => h)
  · simp only [ht0, true_and, id]
  · simpa [F.on, ht0] using ho
theorem ApV.guardV {tags : Rel (List (Nat × List UInt8))} {E : WE} {v : Int} {flex ht : Bool} {sp off t : Nat} {q : Bool} {f : F} {r c : Code} (hT : TestW E v flex t q r) (hq : f.has v = q) (ht0 : f.tag < 0) (hsp : clear [sp] r = true) (h : f.has v = true → ApV tags E v flex ht sp off f c) :
    ApF tags E v flex ht sp off f (r.seq (Code.cond (.tmp t) c Code.skip)) := by
  subst hq
  refine Ap.conv (Ap.guard hT hsp h) id (fun w K cc x hx hh => ⟨hx.1 (by simpa [F.on, ht0] using hh), hx.2⟩) (fun w K cc x _ => ?_)
  simp only [ht0, true_and, id]
end Go.Proofs.YtpknjenihcfhlaaDoor
