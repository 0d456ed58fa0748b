/-
  Records: any octets as a header, the law's walk, where a thing of nothing is read. Conditions: a thing of nothing is read (Awake).
-/
import Derived.Test.YthdfhnnoamlacaaDoorQg
namespace Go.Proofs.YthdfhnnoamlacaaDoor.Rec
open Go.Proofs.YthdfhnnoamlacaaDoor
open Go.RowKit (Below wrap64 wrap32)
open Kz

theorem TellHeader_form (w : World) (S : Nat → Prop) (v : Value) (bs : List UInt8) (h : BytesAt w S v bs) (hl : bs.length < 4294967296) (he : ErrOk w) : Calls Tryd.prog 6 #[v] w fun e w' =>
    ∃ (k d : List UInt8) (b : Bool) (u : Value), e = .returned (.tuple #[.agg #[.string ⟨k.toArray⟩, .bool b, u], .bool (pHead bs).2.isSome]) ∧ BytesAt w' (fun _ => True) u d ∧ ((pHead bs).2.isSome = true → k = (pHead bs).1.1 ∧ b = (pHead bs).1.2.isNone ∧ d = (pHead bs).1.2.getD []) ∧ d.length ≤ bs.length ∧ Below w.heap.size w w' := by
  refine (TellHeader_any w S v bs h hl he).mono ?_
  rintro e w' ⟨u, h1, h2⟩
  cases hp : (pHead bs).2 with
  | none =>
    rw [hp] at h1
    exact ⟨[], [], false, u, h1.1, .inl ⟨h1.2, rfl⟩, fun h => (by cases h), Nat.zero_le _, h2⟩
  | some r =>
    rw [hp] at h1
    exact ⟨_, _, _, u, h1.1, h1.2, fun _ => ⟨rfl, rfl, rfl⟩, pHead_len bs, h2⟩
set_option maxRecDepth 8000 in
set_option maxHeartbeats 1000000 in
theorem walkHeader (aw : Awake) (w : World) (S : Nat → Prop) (q : Option Addr) (c : Nat) (bs : List UInt8) (hd : BytesAt w S (.slice q bs.length c) bs) (her : ErrOk w) :
    Calls Tryd.prog 3 #[.slice q bs.length c] w fun e w' => e = .returned (.bool true) ∧ Below w.heap.size w w' := by
  have HD := Lib.hid hd
  have HE := Lib.hid her
  clear hd her
  by_cases hl : (bs.length : Int) > 2147483647
  · go_enter Tryd.func3, Tryd.ntmps3
    go_wp2
    go_ret
    exact ⟨rfl, Below.refl _ _⟩
  by_cases hk : (bs.length : Int) > 4096
  · go_enter Tryd.func3, Tryd.ntmps3
    go_wp2
    go_ret
    exact ⟨rfl, Below.refl _ _⟩
  have hl32 : bs.length < 4294967296 := by omega
  have HS := Lib.hid (head_sim bs)
  have HR := Lib.hid (ReadHeader_any w S _ bs HD.out hl32)
  obtain ⟨⟨⟨k, b, d⟩, p, h⟩, hr⟩ : ∃ r, sHead bs (0, 0) = r := ⟨_, rfl⟩
  rw [hr] at HS HR
  clear hr
  go_enter Tryd.func3, Tryd.ntmps3
  go_wp2_with fail
  refine HR.out.mono ?_
  rintro e w1 ⟨u1, rfl, hu1, hb1⟩
  obtain ⟨ad1, c1, rfl⟩ := bytes_len hu1
  have s1 := hb1.size
  have HU1 := Lib.hid hu1
  have HB1 := Lib.hid hb1
  clear hu1 hb1 HR
  unfold strV
  go_wp2_with fail
  generalize hW1 : w1.alloc (.cells #[.string ⟨k.toArray⟩, .bool b, .slice ad1 d.length c1] 26) = W1
  have hb1 : Below w.heap.size w W1 := by rw [← hW1]; exact HB1.out.alloc s1 _
  have hz1 : W1.heap[w1.heap.size]? = some (.cells #[.string ⟨k.toArray⟩, .bool b, .slice ad1 d.length c1] 26 (0, 0)) := by rw [← hW1]; exact Array.getElem?_push_size
  have hu1 : BytesAt W1 S (.slice ad1 d.length c1) d := by rw [← hW1]; exact HU1.out.kept (grown_alloc _ _ none) (by simp)
  have HT := Lib.hid (TellHeader_form W1 S _ bs (HD.out.kept (below_grown hb1 none) (by simp)) hl32 (HE.out.kept (below_grown hb1 none) (by simp)))
  have HB1 := Lib.hid hb1
  have HZ1 := Lib.hid hz1
  have HU1 := Lib.hid hu1
  clear hb1 hz1 hu1 hW1
  refine HT.out.mono ?_
  rintro e w2 ⟨k', d', b', u2, rfl, hu2, hk2, hdl, hb2⟩
  obtain ⟨ad2, c2, rfl⟩ := bytes_len hu2
  have hl1 : w1.heap.size < W1.heap.size := (Array.getElem?_eq_some_iff.1 HZ1.out).1
  have hz2 : w2.heap[w1.heap.size]? = some (.cells #[.string ⟨k.toArray⟩, .bool b, .slice ad1 d.length c1] 26 (0, 0)) := by rw [hb2.block _ hl1]; exact HZ1.out
  have m10 : w2.cell? ⟨w1.heap.size, 0, none⟩ = some (.string ⟨k.toArray⟩) := by rw [cell_of_row w2 _ _ _ _ _ hz2]; rfl
  have m11 : w2.cell? ⟨w1.heap.size, 1, none⟩ = some (.bool b) := by rw [cell_of_row w2 _ _ _ _ _ hz2]; rfl
  have m12 : w2.cell? ⟨w1.heap.size, 2, none⟩ = some (.slice ad1 d.length c1) := by rw [cell_of_row w2 _ _ _ _ _ hz2]; rfl
  have s2 := hb2.size
  have hlt : w1.heap.size < w2.heap.size := by omega
  have HB2 := Lib.hid (HB1.out.trans (hb2.lower (m := w.heap.size) HB1.out.size))
  have HU12 := Lib.hid (HU1.out.kept (below_grown hb2 none) (by simp))
  have HU2 := Lib.hid hu2
  have HK2 := Lib.hid hk2
  clear hb2 hz2 hu2 hk2 HT HU1 HZ1 HB1
  go_wp2_with fail
  generalize hW3 : ((w2.alloc (.cells #[.string ⟨k'.toArray⟩, .bool b', .slice ad2 d'.length c2] 26)).alloc (.cells #[.string ⟨k'.toArray⟩, .bool b', .slice ad2 d'.length c2] 26)).alloc (.cells #[.string ⟨k.toArray⟩, .bool b, .slice ad1 d.length c1] 26) = W3
  have g3 : w2.grownBy W3 none := by rw [← hW3]; exact grownBy_trans (grownBy_trans (grown_alloc _ _ none) (grown_alloc _ _ none)) (grown_alloc _ _ none)
  have z1 : W3.heap[w2.heap.size + 1]? = some (.cells #[.string ⟨k'.toArray⟩, .bool b', .slice ad2 d'.length c2] 26 (0, 0)) := by
    rw [← hW3, (grown_alloc _ _ none).block _ (by rw [size_alloc, size_alloc]; omega) (by simp)]
    have := Array.getElem?_push_size (xs := (w2.alloc (.cells #[.string ⟨k'.toArray⟩, .bool b', .slice ad2 d'.length c2] 26)).heap) (x := Obj.cells #[.string ⟨k'.toArray⟩, .bool b', .slice ad2 d'.length c2] 26 (0, 0))
    rw [size_alloc] at this
    exact this
  have z2 : W3.heap[w2.heap.size + 1 + 1]? = some (.cells #[.string ⟨k.toArray⟩, .bool b, .slice ad1 d.length c1] 26 (0, 0)) := by
    rw [← hW3]
    have := Array.getElem?_push_size (xs := ((w2.alloc (.cells #[.string ⟨k'.toArray⟩, .bool b', .slice ad2 d'.length c2] 26)).alloc (.cells #[.string ⟨k'.toArray⟩, .bool b', .slice ad2 d'.length c2] 26)).heap) (x := Obj.cells #[.string ⟨k.toArray⟩, .bool b, .slice ad1 d.length c1] 26 (0, 0))
    rw [size_alloc, size_alloc] at this
    exact this
  have hb3 := HB2.out.trans (grown_below g3 |>.lower (m := w.heap.size) HB2.out.size)
  have hsm := SameHeaders_one W3 _ _ _ _ k' k d' d b' b ad2 ad1 _ _ c2 c1 z1 (HU2.out.kept g3 (by simp)) z2 (HU12.out.kept g3 (by simp)) (by omega)
  have HB3 := Lib.hid hb3
  have HSM := Lib.hid hsm
  clear hW3 g3 z1 z2 hb3 hsm HU2 HU12 m10 m11 m12
  refine HSM.out.mono ?_
  rintro e w4 ⟨r, rfl, hr, hb4⟩
  have HR := Lib.hid hr
  have HB4 := Lib.hid (HB3.out.trans (hb4.lower (m := w.heap.size) HB3.out.size))
  clear hr hb4 HSM
  have hsim := HS.out.1
  have hj := judged_any aw w4 (HE.out.kept (below_grown HB4.out none) (by simp)) p h bs.length c q (pHead bs).2.isSome r
    (fun hh => by
      rcases hh with hh | hh
      · rw [hsim.short hh]; rfl
      · exact absurd hh hsim.two)
    (fun hh => by
      have hf := hsim.fine hh.1
      have hi : (pHead bs).2.isSome = true := by rw [hf]; rfl
      obtain ⟨e1, e2, e3⟩ := HS.out.2 hh.1
      obtain ⟨f1, f2, f3⟩ := HK2.out hi
      exact ⟨hi, HR.out ⟨f1.trans e1.symm, f2.trans e2.symm, f3.trans e3.symm⟩⟩)
    (by have := hsim.le; simp only at this; omega) hsim.four hl32
  have HJ := Lib.hid hj
  clear hj hsim
  go_wp2_with fail
  refine HJ.out.mono ?_
  rintro e w5 ⟨rfl, hb5⟩
  have HB5 := Lib.hid (HB4.out.trans (hb5.lower (m := w.heap.size) HB4.out.size))
  clear hb5 HJ
  go_wp2
  go_ret
  exact ⟨rfl, HB5.out⟩
end Go.Proofs.YthdfhnnoamlacaaDoor.Rec
