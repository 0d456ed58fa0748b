/-
  Texts of the names: what is asked of the reference's letters. Conditions: none.
-/
import Derived.Test.YtbogepbfbplndaaDoorN1
import Derived.Lib.SmallJoins
import Derived.Lib.Case
namespace Go.Proofs.YtbogepbfbplndaaDoor.Nm
open Go.RowKit (Below)
open Kz

theorem blank_is (b : UInt8) (w : World) : Calls Tryd.prog 45 #[.int .u8 b.toNat] w fun e w' => e = .returned (.bool (Lib.isSp b)) ∧ w' = w := by
  have h256 := b.toNat_lt
  have e : Lib.isSp b = (decide (b.toNat = 32) || (decide (9 ≤ b.toNat) && decide (b.toNat ≤ 13))) := by
    have q (n : UInt8) : (b == n) = decide (b.toNat = n.toNat) := by
      rw [Bool.eq_iff_iff]
      simp [← UInt8.toNat_inj]
    simp only [Lib.isSp, q]
    rw [Bool.eq_iff_iff]
    simp
    omega
  rw [e]
  generalize b.toNat = n at *
  go_enter Tryd.func45, Tryd.ntmps45
  by_cases h1 : n = 32
  · have q1 : (n : Int) = 32 := by omega
    go_wp2
    go_ret
    exact ⟨by simp [h1], rfl⟩
  · have q1 : ¬ ((n : Int) = 32) := by omega
    by_cases h2 : 9 ≤ n
    · have q2 : (9 : Int) ≤ (n : Int) := by omega
      by_cases h3 : n ≤ 13
      · have q3 : (n : Int) ≤ 13 := by omega
        go_wp2
        go_ret
        exact ⟨by simp [h2, h3], rfl⟩
      · have q3 : ¬ ((n : Int) ≤ 13) := by omega
        go_wp2
        go_ret
        exact ⟨by rw [beq_false_of_ne q1]; simp, rfl⟩
    · have q2 : ¬ ((9 : Int) ≤ (n : Int)) := by omega
      go_wp2
      go_ret
      exact ⟨by rw [beq_false_of_ne q1]; simp, rfl⟩

def isMark (b : UInt8) : Bool := b == 46 || b == 95 || b == 45
def small (l : List UInt8) : List UInt8 := (l.map Lib.lowerB).filter (fun b => !isMark b)
theorem row_new1 {w : World} {z : Value} {b0 : UInt8} {ty : TypeId} (h : z = bv b0) (j : Nat) (b : UInt8) (hj : [b0][j]? = some b) : (w.alloc (.cells #[z] ty)).cell? ⟨w.heap.size, 0 + j, none⟩ = some (bv b) :=
  row_new (out := [b0]) (by rw [h]; rfl) j b hj
theorem small_len (l : List UInt8) : (small l).length ≤ l.length := by
  have := List.length_filter_le (fun b => !isMark b) (l.map Lib.lowerB)
  rw [List.length_map] at this
  exact this
theorem small_step {l : List UInt8} {i : Nat} {x : UInt8} (h : l[i]? = some x) : small (l.take (i + 1)) = small (l.take i) ++ (if isMark (Lib.lowerB x) = true then [] else [Lib.lowerB x]) := by
  rw [small, small, List.take_add_one, h, List.map_append, List.filter_append]
  congr 1
  cases hm : isMark (Lib.lowerB x) <;> simp [hm]
/-- How long a slice is. -/
def sliceLen : Value → Nat
  | .slice _ n _ => n
  | _ => 0
set_option maxRecDepth 8000 in
set_option maxHeartbeats 1000000 in
theorem normal_is (l : List UInt8) (w : World) (hs : l.length ≤ 1000000) :
    Calls Tryd.prog 25 #[.string ⟨l.toArray⟩] w fun e w' => e = .returned (.string ⟨(Lib.trimSpace (small l)).toArray⟩) ∧ Below w.heap.size w w' := by
  have hsz : (⟨l.toArray⟩ : ByteArray).size = l.length := by simp [ByteArray.size]
  go_enter Tryd.func25, Tryd.ntmps25
  go_wp2
  go_loopw [3, 4, 5] (fun v x _ wr => ∃ i : Nat, x = .int .i64 (i : Int) ∧ i ≤ l.length ∧ OwnB wr w.heap.size v (small (l.take i)) ∧ Below w.heap.size w wr) (fun _ x _ _ => l.length - (intOf x).toNat)
  case atStart => exact ⟨0, rfl, by omega, .nil _ _, Below.refl _ _⟩
  case round =>
    obtain ⟨i, rfl, hi, hown, hbel⟩ := hrel
    have H1 := Lib.hid hown
    have H2 := Lib.hid hbel
    clear hown hbel
    by_cases hlt : i < l.length
    · have q1 : (i : Int) < (l.length : Int) := by omega
      obtain ⟨x, hx⟩ : ∃ x : UInt8, (⟨l.toArray⟩ : ByteArray)[i] = x := ⟨_, rfl⟩
      have hx256 := x.toNat_lt
      have hxl : l[i]? = some x := by
        rw [← hx]
        exact Lib.data_getElem? ⟨l.toArray⟩ i hlt
      generalize hn : x.toNat = n at *
      by_cases hU : 65 ≤ n ∧ n ≤ 90
      · have u1 : (65 : Int) ≤ (n : Int) := by omega
        have u2 : (n : Int) ≤ 90 := by omega
        have u3 : IntKind.u8.wrap ((n : Int) + 32) = (n : Int) + 32 := by rw [IntKind.wrap_u8]; omega
        have u4 : ¬ ((n : Int) + 32 = 46) := by omega
        have u5 : ¬ ((n : Int) + 32 = 95) := by omega
        have u6 : ¬ ((n : Int) + 32 = 45) := by omega
        have e1 : Lib.lowerB x = x + 32 := by
          rw [Lib.lowerB, if_pos (by simp [Lib.isUpperB, UInt8.le_iff_toNat_le]; omega)]
        have e2 : (x + 32).toNat = n + 32 := by
          rw [UInt8.toNat_add, hn]
          show (n + 32) % 256 = _
          omega
        have e3 : small (l.take (i + 1)) = small (l.take i) ++ [x + 32] := by
          rw [small_step hxl, e1, if_neg]
          simp [isMark, ← UInt8.toNat_inj, e2]
          omega
        have e4 : bv (x + 32) = .int .u8 ((n : Int) + 32) := by
          rw [bv, e2]
          push_cast
          rfl
        go_wp2_with (at_builtin; refine wpList_append_bytes rfl _ _ rfl w.heap.size _ (small (l.take i)) [x + 32] wr.heap.size 0 1 1 rfl rfl ?_ rfl ?_ ?_ ?_ ?_)
        · exact H1.out.grown fun k hk => alloc_old wr _ k hk
        · exact row_new1 e4.symm
        · simp only [lim, List.length_singleton]
          have := small_len (l.take i)
          simp at this
          omega
        · have := H2.out.size; simp; omega
        · intro v' w' hown hg
          have H5 := Lib.hid hown
          have H6 := Lib.hid hg
          clear hown hg
          go_wp2
          exact ⟨⟨i + 1, rfl, by omega, by rw [e3]; exact H5.out, H2.out.trans (below_alloc H1.out H2.out.size H6.out)⟩, by simp only [intOf]; omega⟩
        · rename_i hh
          exfalso
          simp [u4, u5, u6] at hh
      · have e1 : Lib.lowerB x = x := by
          rw [Lib.lowerB, if_neg (by simp [Lib.isUpperB, UInt8.le_iff_toNat_le]; omega)]
        by_cases hM : isMark x = true
        · have e3 : small (l.take (i + 1)) = small (l.take i) := by
            rw [small_step hxl, e1, if_pos hM, List.append_nil]
          rw [← e3] at H1
          have h3 : n = 46 ∨ n = 95 ∨ n = 45 := by
            simp [isMark, ← UInt8.toNat_inj, hn] at hM
            omega
          rcases h3 with rfl | rfl | rfl
          all_goals
            go_wp2
            exact ⟨⟨i + 1, rfl, by omega, H1.out, H2.out⟩, by simp only [intOf]; omega⟩
        · have e3 : small (l.take (i + 1)) = small (l.take i) ++ [x] := by
            rw [small_step hxl, e1, if_neg hM]
          have h3 : n ≠ 46 ∧ n ≠ 95 ∧ n ≠ 45 := by
            simp [isMark, ← UInt8.toNat_inj, hn] at hM
            omega
          have u4 : ¬ ((n : Int) = 46) := by omega
          have u5 : ¬ ((n : Int) = 95) := by omega
          have u6 : ¬ ((n : Int) = 45) := by omega
          have e4 : bv x = .int .u8 (n : Int) := by rw [bv, hn]
          by_cases hV : 65 ≤ n
          · have u1 : (65 : Int) ≤ (n : Int) := by omega
            have u2 : ¬ ((n : Int) ≤ 90) := by omega
            go_wp2_with (at_builtin; refine wpList_append_bytes rfl _ _ rfl w.heap.size _ (small (l.take i)) [x] wr.heap.size 0 1 1 rfl rfl ?_ rfl ?_ ?_ ?_ ?_)
            · exact H1.out.grown fun k hk => alloc_old wr _ k hk
            · intro j b hj
              cases j with
              | zero =>
                simp only [List.getElem?_cons_zero, Option.some.injEq] at hj
                subst hj
                rw [e4]
                rfl
              | succ j => simp at hj
            · simp only [lim]
              have := small_len (l.take i)
              simp at this
              omega
            · have := H2.out.size; simp; omega
            · intro v' w' hown hg
              have H5 := Lib.hid hown
              have H6 := Lib.hid hg
              clear hown hg
              go_wp2
              exact ⟨⟨i + 1, rfl, by omega, by rw [e3]; exact H5.out, H2.out.trans (below_alloc H1.out H2.out.size H6.out)⟩, by simp only [intOf]; omega⟩
            · rename_i hh
              exfalso
              simp [u4, u5, u6] at hh
          · have u1 : ¬ ((65 : Int) ≤ (n : Int)) := by omega
            go_wp2_with (at_builtin; refine wpList_append_bytes rfl _ _ rfl w.heap.size _ (small (l.take i)) [x] wr.heap.size 0 1 1 rfl rfl ?_ rfl ?_ ?_ ?_ ?_)
            · exact H1.out.grown fun k hk => alloc_old wr _ k hk
            · intro j b hj
              cases j with
              | zero =>
                simp only [List.getElem?_cons_zero, Option.some.injEq] at hj
                subst hj
                rw [e4]
                rfl
              | succ j => simp at hj
            · simp only [lim]
              have := small_len (l.take i)
              simp at this
              omega
            · have := H2.out.size; simp; omega
            · intro v' w' hown hg
              have H5 := Lib.hid hown
              have H6 := Lib.hid hg
              clear hown hg
              go_wp2
              exact ⟨⟨i + 1, rfl, by omega, by rw [e3]; exact H5.out, H2.out.trans (below_alloc H1.out H2.out.size H6.out)⟩, by simp only [intOf]; omega⟩
            · rename_i hh
              exfalso
              simp [u4, u5, u6] at hh
    · have q1 : ¬ ((i : Int) < (l.length : Int)) := by omega
      obtain rfl : i = l.length := by omega
      rw [List.take_length] at H1
      go_wp2
      go_loopw [3] (fun u wx => wx = wr ∧ ∃ bs, BytesAt wr (fun _ => True) u bs ∧ bs.length ≤ 1000000 ∧ bs.dropWhile Lib.isSp = (small l).dropWhile Lib.isSp) (fun u _ => sliceLen u)
      case atStart => exact ⟨rfl, small l, (own_bytes H1.out).mono fun _ _ => trivial, Nat.le_trans (small_len l) hs, rfl⟩
      case round =>
        obtain ⟨rfl, bs, hb, hl, he⟩ := hrel
        have K1 := Lib.hid he
        clear he
        cases bs with
        | nil =>
          obtain ⟨ad, c, rfl⟩ := bytes_len hb
          go_wp2_with fail
          go_loopw [3] (fun u wx => wx = wr ∧ u = .slice ad 0 c) (fun _ _ => 0)
          case atStart => exact ⟨rfl, rfl⟩
          case round =>
            obtain ⟨rfl, rfl⟩ := hrel
            have hc := conv_string (v := .slice ad 0 c) hb 26 9 rfl rfl
            go_wp2
            go_ret
            refine ⟨?_, H2.out⟩
            rw [Lib.trimSpace, ← K1.out]
            rfl
        | cons x r =>
          obtain ⟨g, o, c, rfl, h2, h3, h4, h5, h6⟩ := bytes_some hb
          have h7 := h6 0 x rfl
          rw [Nat.add_zero] at h7
          have hgt : (0 : Int) < ((r.length + 1 : Nat) : Int) := by omega
          have h8 := Lib.hid h6
          have hb8 := Lib.hid hb
          clear h6 hb
          go_wp2_with fail
          refine (blank_is x _).mono ?_
          rintro e w1 ⟨rfl, rfl⟩
          cases hsp : Lib.isSp x with
          | true =>
            go_wp2
            refine ⟨⟨trivial, r, ?_, by simp at hl; omega, ?_⟩, by simp only [sliceLen]; omega⟩
            · have := BytesAt.drop (S := fun _ => True) 1 (by simp) (show r.length + 1 = (x :: r).length by simp) (by simpa using h2) h3 h4 h5 h8.out (if c = 1 then ⟨g, o, none⟩ else ⟨g, o + 1, none⟩) (by split <;> simp [*])
              have e9 : (if c = 1 then some (⟨g, o, none⟩ : Addr) else some ⟨g, o + 1, none⟩) = some (if c = 1 then ⟨g, o, none⟩ else ⟨g, o + 1, none⟩) := by split <;> rfl
              rw [e9]
              exact this
            · rw [← K1.out, List.dropWhile_cons_of_pos hsp]
          | false =>
            have hfs : x :: r = (small l).dropWhile Lib.isSp := by
              rw [← K1.out, List.dropWhile_cons_of_neg (by simp [hsp])]
            have hfs := Lib.hid hfs
            go_wp2_with fail
            go_loopw [3] (fun u wx => wx = w1 ∧ ∃ bs, BytesAt w1 (fun _ => True) u bs ∧ bs.length ≤ 1000000 ∧ bs.reverse.dropWhile Lib.isSp = ((small l).dropWhile Lib.isSp).reverse.dropWhile Lib.isSp) (fun u _ => sliceLen u)
            case atStart => exact ⟨rfl, _, hb8.out, hl, by rw [hfs.out]⟩
            case round =>
              obtain ⟨rfl, bs, hb, hl2, he⟩ := hrel
              have K3 := Lib.hid he
              clear he hsp h8 h7 h2 h3 h4 h5 K1 hb8 hfs hgt
              rcases List.eq_nil_or_concat bs with rfl | ⟨r, x, rfl⟩
              · obtain ⟨ad, c, rfl⟩ := bytes_len hb
                have hc := conv_string (v := .slice ad 0 c) hb 26 9 rfl rfl
                go_wp2
                go_ret
                refine ⟨?_, H2.out⟩
                rw [Lib.trimSpace, ← K3.out]
                rfl
              · rw [List.concat_eq_append] at *
                have hb8 := Lib.hid hb
                rcases hb with ⟨-, h⟩ | ⟨g, o, c, rfl, h2, h3, h4, h5, h6⟩
                · simp at h
                have h7 := h6 r.length x (by simp)
                have h8 := Lib.hid h6
                have hgt : (0 : Int) < ((r.length + 1 : Nat) : Int) := by omega
                rw [List.length_append, List.length_singleton] at *
                clear h6
                go_wp2_with fail
                refine (blank_is x _).mono ?_
                rintro e w1 ⟨rfl, rfl⟩
                cases hsp : Lib.isSp x with
                | true =>
                  go_wp2
                  refine ⟨⟨trivial, r, ?_, by simp at hl2; omega, ?_⟩, by simp only [sliceLen]; omega⟩
                  · exact .inr ⟨g, o, c, rfl, by omega, h3, h4, h5, fun i b hi => h8.out i b (by rw [List.getElem?_append_left (List.getElem?_eq_some_iff.1 hi).1]; exact hi)⟩
                  · rw [← K3.out, List.reverse_append, List.reverse_singleton, List.singleton_append, List.dropWhile_cons_of_pos hsp]
                | false =>
                  have hc := conv_string (v := .slice (some ⟨g, o, none⟩) (r.length + 1) c) hb8.out 26 9 rfl rfl
                  go_wp2
                  go_ret
                  refine ⟨?_, H2.out⟩
                  rw [Lib.trimSpace, ← K3.out, List.reverse_append, List.reverse_singleton, List.singleton_append, List.dropWhile_cons_of_neg (by simp [hsp])]
                  simp [strV]
end Go.Proofs.YtbogepbfbplndaaDoor.Nm
