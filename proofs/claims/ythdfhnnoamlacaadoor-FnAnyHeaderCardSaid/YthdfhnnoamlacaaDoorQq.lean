/-
  Records: a thing of nothing is read. Conditions: none.
-/
import Derived.Test.YthdfhnnoamlacaaDoorQp
namespace Go.Proofs.YthdfhnnoamlacaaDoor.Rec
open Go.Proofs.YthdfhnnoamlacaaDoor
open Go.RowKit (Below wrap64 wrap32)
open Go.Proofs.YthdfhnnoamlacaaDoorW Go.Proofs.YthdfhnnoamlacaaDoorW.PrintWords Go.Proofs.YthdfhnnoamlacaaDoorW.PrintMore Go.Proofs.YthdfhnnoamlacaaDoor.PFnAnyHeader
open Kz

theorem nilC (w : World) : Kd.C (Kd.int .u8) w none ([] : List Int).length [] := ⟨rfl, by decide, fun h => absurd h (by decide)⟩
theorem OldBytes0 (w : World) : Calls Tryd.prog 29 #[.int .i64 0, .agg #[.int .i64 0, .int .i32 0, .int .i32 0, .int .i8 0, .int .i8 0, .int .i64 0, .bool false, .slice none 0 0, .bool false, .slice none 0 0]] w fun e w' => ∃ v, e = .returned v ∧ OwnB w' w.heap.size v (zz 26) ∧ Below w.heap.size w w' := by
  refine (spec_OldBytes.calls 20 0 0 0 0 0 0 0 false none 0 [] false none 0 [] (ns (zz 26)) w (nilC w) (Nat.le_refl _) (nilC w) (Nat.le_refl _) (by kernel_rfl)).mono ?_
  rintro e w' ⟨v, rfl, hr, hb⟩
  exact ⟨v, rfl, own_of_r hr rfl, hb⟩
theorem OldBytes1 (w : World) : Calls Tryd.prog 29 #[.int .i64 1, .agg #[.int .i64 0, .int .i32 0, .int .i32 0, .int .i8 0, .int .i8 0, .int .i64 0, .bool false, .slice none 0 0, .bool false, .slice none 0 0]] w fun e w' => ∃ v, e = .returned v ∧ OwnB w' w.heap.size v (zz 34) ∧ Below w.heap.size w w' := by
  refine (spec_OldBytes.calls 20 1 0 0 0 0 0 0 false none 0 [] false none 0 [] (ns (zz 34)) w (nilC w) (Nat.le_refl _) (nilC w) (Nat.le_refl _) (by kernel_rfl)).mono ?_
  rintro e w' ⟨v, rfl, hr, hb⟩
  exact ⟨v, rfl, own_of_r hr rfl, hb⟩
def bat : List UInt8 := [0, 0, 0, 0, 0, 0, 0, 0, 0, 0, 0, 49, 0, 0, 0, 0, 0, 0, 0, 0, 0, 0, 0, 0, 0, 0, 0, 0, 0, 0, 0, 0, 0, 0, 0, 0, 0, 0, 0, 0, 0, 0, 0, 0, 0, 0, 0, 0, 0, 0, 0, 0, 0, 0, 0, 0, 0, 0, 0, 0, 0]
theorem Whole0 (w : World) : Calls Tryd.prog 36 #[.agg #[.int .i64 0, .int .i32 0, .int .i32 0, .int .i8 0, .int .i32 0, .int .i16 0, .int .i32 0, .int .i64 0, .int .i64 0, .int .i64 0, .int .i16 0, .int .i32 0, .int .i32 0, .slice none 0 0]] w fun e w' =>
    ∃ ad c, e = .returned (.agg #[.int .i64 0, .int .i32 49, .int .i32 0, .int .i8 0, .int .i32 0, .int .i16 0, .int .i32 0, .int .i64 0, .int .i64 0, .int .i64 0, .int .i16 0, .int .i32 0, .int .i32 0, .slice ad 0 c]) ∧ Below w.heap.size w w' := by
  refine (spec_Whole.calls 0 0 0 0 0 0 0 0 0 0 0 0 0 (fun _ => True) (.slice none 0 0) [] 0 49 0 0 0 0 0 0 0 0 0 0 0 [] w w (Below.refl _ _) (Kd.R_nil _ _ _ _ _) (by kernel_rfl)).mono ?_
  rintro e w' ⟨v, rfl, hr, hb, -⟩
  obtain ⟨ad, c, rfl⟩ := bytes_len (own_bytes (own_of_r (bs := []) hr rfl))
  exact ⟨ad, c, rfl, hb⟩
theorem BatchBytes0 (w : World) (ad : Option Addr) (c : Nat) : Calls Tryd.prog 35 #[.agg #[.int .i64 0, .int .i32 49, .int .i32 0, .int .i8 0, .int .i32 0, .int .i16 0, .int .i32 0, .int .i64 0, .int .i64 0, .int .i64 0, .int .i16 0, .int .i32 0, .int .i32 0, .slice ad 0 c]] w fun e w' => ∃ v, e = .returned v ∧ OwnB w' w.heap.size v bat ∧ Below w.heap.size w w' := by
  refine (spec_BatchBytes.calls 20 0 49 0 0 0 0 0 0 0 0 0 0 0 ad c [] (ns bat) w ⟨rfl, by decide, fun h => absurd h (by decide)⟩ (Nat.zero_le _) (by kernel_rfl)).mono ?_
  rintro e w' ⟨v, rfl, hr, hb⟩
  exact ⟨v, rfl, own_of_r hr rfl, hb⟩
set_option maxRecDepth 8000 in
set_option maxHeartbeats 8000000 in
theorem awake : Awake := by
  intro w he
  have HE := Lib.hid he
  have HB0 := Lib.hid (Below.refl w.heap.size w)
  have hp : (pHead [0, 0]).2.isSome = true := by kernel_rfl
  clear he
  obtain ⟨w0, hw0⟩ : ∃ w0, w0 = w := ⟨_, rfl⟩
  rw [← hw0] at HE HB0 ⊢
  clear hw0 w
  have S0 : w0.heap.size ≤ w0.heap.size := Nat.le_refl _
  go_enter Tryd.func16, Tryd.ntmps16
  go_wp2_with fail
  refine (HeaderBytes0 w0).mono ?_
  rintro e w1 ⟨v, rfl, ho, hb⟩
  have HB1 := Lib.hid (HB0.out.trans (hb.lower (m := w0.heap.size) HB0.out.size))
  have S1 : w0.heap.size ≤ w1.heap.size := HB1.out.size
  obtain ⟨ad1, c1, rfl⟩ := bytes_len (own_bytes ho)
  have O1 := Lib.hid (own_bytes ho)
  clear ho hb
  have O := O1
  go_wp2_with fail
  refine (TellHeader_form w1 _ _ [0, 0] O1.out (by decide) (HE.out.kept (below_grown HB1.out none) (by simp))).mono ?_
  rintro e w2 ⟨k, d, b, u, rfl, hu, -, -, hb⟩
  have HB2 := Lib.hid (HB1.out.trans (hb.lower (m := w0.heap.size) HB1.out.size))
  have S2 : w0.heap.size ≤ w2.heap.size := HB2.out.size
  obtain ⟨au, cu, rfl⟩ : ∃ a c, u = .slice a d.length c := bytes_len hu
  rw [hp]
  clear hu hb
  go_wp2_with fail
  refine (StickyBytes0 _).mono ?_
  rintro e w3 ⟨v, rfl, ho, hb⟩
  have HB3 := Lib.hid ((HB2.out.alloc S2 _).trans (hb.lower (m := w0.heap.size) (HB2.out.alloc S2 _).size))
  have S3 : w0.heap.size ≤ w3.heap.size := HB3.out.size
  obtain ⟨ad3, c3, rfl⟩ := bytes_len (own_bytes ho)
  have O3 := Lib.hid (own_bytes ho)
  clear ho hb
  go_wp2_with fail
  refine (tellsticky0 w3 _ _ _ O3.out (HE.out.kept (below_grown HB3.out none) (by simp))).mono ?_
  rintro e w4 ⟨rfl, hb⟩
  have HB4 := Lib.hid (HB3.out.trans (hb.lower (m := w0.heap.size) HB3.out.size))
  have S4 : w0.heap.size ≤ w4.heap.size := HB4.out.size
  clear hb
  go_wp2_with fail
  refine (OldBytes0 _).mono ?_
  rintro e w5 ⟨v, rfl, ho, hb⟩
  have HB5 := Lib.hid ((HB4.out.alloc S4 _).trans (hb.lower (m := w0.heap.size) (HB4.out.alloc S4 _).size))
  have S5 : w0.heap.size ≤ w5.heap.size := HB5.out.size
  obtain ⟨ad5, c5, rfl⟩ := bytes_len (own_bytes ho)
  have O5 := Lib.hid (own_bytes ho)
  clear ho hb
  go_wp2_with fail
  refine (tellv0 w5 _ _ _ O5.out (HE.out.kept (below_grown HB5.out none) (by simp))).mono ?_
  rintro e w6 ⟨b5, e5, k5, b6, e6, k6, rfl, hb⟩
  have HB6 := Lib.hid (HB5.out.trans (hb.lower (m := w0.heap.size) HB5.out.size))
  have S6 : w0.heap.size ≤ w6.heap.size := HB6.out.size
  clear hb
  go_wp2_with fail
  refine (OldBytes1 _).mono ?_
  rintro e w7 ⟨v, rfl, ho, hb⟩
  have HB7 := Lib.hid ((HB6.out.alloc S6 _).trans (hb.lower (m := w0.heap.size) (HB6.out.alloc S6 _).size))
  have S7 : w0.heap.size ≤ w7.heap.size := HB7.out.size
  obtain ⟨ad7, c7, rfl⟩ := bytes_len (own_bytes ho)
  have O7 := Lib.hid (own_bytes ho)
  clear ho hb
  go_wp2_with fail
  refine (tellv1 w7 _ _ _ O7.out (HE.out.kept (below_grown HB7.out none) (by simp))).mono ?_
  rintro e w8 ⟨b5, e5, k5, b6, e6, k6, rfl, hb⟩
  have HB8 := Lib.hid (HB7.out.trans (hb.lower (m := w0.heap.size) HB7.out.size))
  have S8 : w0.heap.size ≤ w8.heap.size := HB8.out.size
  clear hb
  go_wp2_with fail
  refine (Measured0 _).mono ?_
  rintro e w9 ⟨rfl, hb⟩
  have HB9 := Lib.hid ((HB8.out.alloc S8 _).trans (hb.lower (m := w0.heap.size) (HB8.out.alloc S8 _).size))
  have S9 : w0.heap.size ≤ w9.heap.size := HB9.out.size
  clear hb
  go_wp2_with fail
  refine (RecordBytes0 _).mono ?_
  rintro e w10 ⟨v, rfl, ho, hb⟩
  have HB10 := Lib.hid (HB9.out.trans (hb.lower (m := w0.heap.size) HB9.out.size))
  have S10 : w0.heap.size ≤ w10.heap.size := HB10.out.size
  obtain ⟨ad10, c10, rfl⟩ := bytes_len (own_bytes ho)
  have O10 := Lib.hid (own_bytes ho)
  clear ho hb
  go_wp2_with fail
  refine (tellrec w10 _ _ _ O10.out (HE.out.kept (below_grown HB10.out none) (by simp))).mono ?_
  rintro e w11 ⟨b7, e7, k7, b8, e8, k8, rfl, hb⟩
  have HB11 := Lib.hid (HB10.out.trans (hb.lower (m := w0.heap.size) HB10.out.size))
  have S11 : w0.heap.size ≤ w11.heap.size := HB11.out.size
  clear hb
  go_wp2_with fail
  refine (Whole0 _).mono ?_
  rintro e w12 ⟨adw, cw, rfl, hb⟩
  have HB12 := Lib.hid ((HB11.out.alloc S11 _).trans (hb.lower (m := w0.heap.size) (HB11.out.alloc S11 _).size))
  have S12 : w0.heap.size ≤ w12.heap.size := HB12.out.size
  clear hb
  go_wp2_with fail
  refine (BatchBytes0 _ adw cw).mono ?_
  rintro e w13 ⟨v, rfl, ho, hb⟩
  have HB13 := Lib.hid (HB12.out.trans (hb.lower (m := w0.heap.size) HB12.out.size))
  have S13 : w0.heap.size ≤ w13.heap.size := HB13.out.size
  obtain ⟨ad13, c13, rfl⟩ := bytes_len (own_bytes ho)
  have O13 := Lib.hid (own_bytes ho)
  clear ho hb
  go_wp2_with fail
  refine (tellbatch w13 _ _ _ O13.out (HE.out.kept (below_grown HB13.out none) (by simp))).mono ?_
  rintro e w14 ⟨e9, k9, rfl, hb⟩
  have HB14 := Lib.hid (HB13.out.trans (hb.lower (m := w0.heap.size) HB13.out.size))
  have S14 : w0.heap.size ≤ w14.heap.size := HB14.out.size
  clear hb
  go_wp2
  go_ret
  exact ⟨rfl, (HB14.out.alloc S14 _)⟩
end Go.Proofs.YthdfhnnoamlacaaDoor.Rec
