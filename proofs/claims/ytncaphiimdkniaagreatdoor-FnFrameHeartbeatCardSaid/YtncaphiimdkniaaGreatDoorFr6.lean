/-
  A request's frame: read, and framed. Conditions: none.
-/
import Derived.Test.YtncaphiimdkniaaGreatDoorFr5
namespace Go.Proofs.YtncaphiimdkniaaGreatDoor.Frm
open Go.Proofs.YtncaphiimdkniaaGreatDoor
open Go.RowKit (Below)
open Kz

/-- What a new request holds. -/
def init0 : Array Value := setArr #[.int .i16 0, .string ⟨#[]⟩, .int .i32 0, .string ⟨#[]⟩, .pointer none, .map none] 0 HeartbeatRequest.sets_HeartbeatRequest
theorem init_ok (v : Int) : iniM true v HeartbeatRequest.msg.fields (fun j => (init0.setIfInBounds 0 (.int .i16 v))[j]?) := by
  refine ⟨rfl, ?_⟩
  have hnil := nil_all (ht := true) (fs := HeartbeatRequest.msg.fields) (z := init0) (b := 1) (by kernel_rfl)
  have := iniFs_cells true HeartbeatRequest.msg.fields 1 (fun j => (init0.setIfInBounds 0 (.int .i16 v))[j]?)
  refine this.2 fun k hk => ?_
  have hk0 : k.1 ≠ 0 := by
    have := inis_le true HeartbeatRequest.msg.fields 1 k hk
    omega
  rw [Array.getElem?_setIfInBounds_ne (fun e => hk0 e.symm)]
  exact hnil k hk

set_option maxRecDepth 8000 in
set_option maxHeartbeats 2000000 in
theorem impl_is (w : World) (v num : Int) (has : Bool) (s : List UInt8) (id : Option (List UInt8)) (hid : (if has then some s else none) = id) (src : Value) (bs r : List UInt8) (t : T) (hv0 : 0 ≤ v) (hv1 : v < 5) (hsrc : BytesAt w (fun _ => True) src bs) (her : ErrOk w) (hbl : bs.length ≤ 1500000000)
    (hrd : HeartbeatRequest.msg.read v (some bs) = (t, some r)) (hfit : Fit t) (hlen : has = true → s.length ≤ 2147483647) (hl : (write HeartbeatRequest.msg v t).length ≤ 1500000000) :
    Calls Tryz.prog 11 #[.agg #[.bool has, strV s], .int .i32 num, .int .i16 v, src] w fun e w' => ∃ u, e = .returned (.tuple #[u, .bool true]) ∧ OwnB w' w.heap.size u (fixed (rest 12 v num id (write HeartbeatRequest.msg v t)).length 4 ++ rest 12 v num id (write HeartbeatRequest.msg v t)) ∧ Below w.heap.size w w' := by
  have HE := Lib.hid her
  have HS := Lib.hid hsrc
  have HR := Lib.hid hrd
  have HF := Lib.hid hfit
  obtain ⟨ps, cs, rfl⟩ := bytes_len hsrc
  clear hsrc her hrd hfit
  go_enter Tryz.func11, Tryz.ntmps11
  go_wp2_with fail
  obtain ⟨X1, hX1⟩ : ∃ X, w.alloc (.cells #[.bool has, strV s] 23) = X := ⟨_, rfl⟩
  rw [hX1]
  have z1 : X1.heap.size = w.heap.size + 1 := by rw [← hX1, World.size_alloc]
  have B1 : Below w.heap.size w X1 := by rw [← hX1]; exact (Below.refl _ _).alloc (Nat.le_refl _) _
  have i1 : X1.cell? ⟨w.heap.size, 0, none⟩ = some (.bool has) ∧ X1.cell? ⟨w.heap.size, 1, none⟩ = some (strV s) := by
    rw [← hX1]
    simp only [World.cell?, alloc_new]
    exact ⟨rfl, rfl⟩
  clear hX1
  refine (HeartbeatRequest.news.2 X1).mono ?_
  rintro e w2 ⟨rfl, hw2⟩
  have row2 : w2.heap[X1.heap.size]? = some (.cells init0 68 (0, 0)) := by rw [hw2]; exact alloc_new _ _
  have B2 : Below w.heap.size w w2 := by rw [hw2]; exact B1.alloc (by omega) _
  have C2 : Below X1.heap.size X1 w2 := by rw [hw2]; exact (Below.refl _ _).alloc (Nat.le_refl _) _
  rw [z1] at row2
  have i2 : w2.cell? ⟨w.heap.size, 0, none⟩ = some (.bool has) ∧ w2.cell? ⟨w.heap.size, 1, none⟩ = some (strV s) := by
    rw [(bcell C2).1 _ _ (by omega), (bcell C2).1 _ _ (by omega)]
    exact i1
  have s2 : w.heap.size + 1 < w2.heap.size := (Array.getElem?_eq_some_iff.1 row2).1
  have hB2 := Lib.hid B2
  clear hw2 C2 B2 i1 B1
  go_wp2_with fail
  refine (HeartbeatRequest.setsV.2 w2 (w.heap.size + 1) v init0 _ row2 (by decide)).mono ?_
  rintro e w3 ⟨⟨u, rfl⟩, hw3⟩
  have row3 : w3.heap[w.heap.size + 1]? = some (.cells (init0.setIfInBounds 0 (.int .i16 v)) 68 (0, 0)) := by rw [hw3]; exact heap_setCell_row row2
  have B3 : Below w.heap.size w w3 := by rw [hw3]; exact hB2.out.setCell (p := ⟨w.heap.size + 1, 0, none⟩) (by show w.heap.size ≤ w.heap.size + 1; omega) _
  have i3 : w3.cell? ⟨w.heap.size, 0, none⟩ = some (.bool has) ∧ w3.cell? ⟨w.heap.size, 1, none⟩ = some (strV s) := by
    rw [hw3, World.cell?_setCell_other _ _ _ _ (by simp), World.cell?_setCell_other _ _ _ _ (by simp)]
    exact i2
  have s3 : w.heap.size + 1 < w3.heap.size := (Array.getElem?_eq_some_iff.1 row3).1
  have S3 : BytesAt w3 (fun _ => True) (.slice ps bs.length cs) bs := by
    rcases HS.out with h | ⟨g, o, c, e1, e2, e2', e3, e4, e5⟩
    · exact .inl h
    · exact .inr ⟨g, o, c, e1, e2, e2', e3, Nat.lt_of_lt_of_le e4 B3.size, fun i b hi => by rw [(bcell B3).1 _ _ e4]; exact e5 i b hi⟩
  have E3 : ErrOk w3 := by obtain ⟨t, x, h⟩ := HE.out; exact ⟨t, x, by rw [(bcell B3).1 _ _ (World.block_lt_of_cell? w _ h)]; exact h⟩
  have hB3 := Lib.hid B3
  clear hw3 i2 row2 s2 hB2 B3
  go_wp2_with (at_builtin; refine wpList_append_octets rfl _ _ rfl w3.heap.size _ _ [] bs (fun _ => True) rfl rfl (.nil _ _) S3 ?_ (Nat.le_refl _) ?_)
  · simp only [List.length_nil, lim]
    omega
  intro v4 w4 o4 g4
  obtain ⟨p4, n4, m4, rfl⟩ := own_slice o4
  have C4 : Below w3.heap.size w3 w4 := below_grow (OwnB.nil w3 w3.heap.size) (Nat.le_refl _) g4
  have row4 : w4.heap[w.heap.size + 1]? = some (.cells (init0.setIfInBounds 0 (.int .i16 v)) 68 (0, 0)) := by rw [C4.block _ s3]; exact row3
  have i4 : w4.cell? ⟨w.heap.size, 0, none⟩ = some (.bool has) ∧ w4.cell? ⟨w.heap.size, 1, none⟩ = some (strV s) := by
    rw [(bcell C4).1 _ _ (by omega), (bcell C4).1 _ _ (by omega)]
    exact i3
  have E4 : ErrOk w4 := by obtain ⟨t, x, h⟩ := E3; exact ⟨t, x, by rw [(bcell C4).1 _ _ (World.block_lt_of_cell? w3 _ h)]; exact h⟩
  have B4 := up2 hB3.out C4
  have hlow : ∀ g, (Value.slice p4 n4 m4).ownBlock = some g → w3.heap.size ≤ g ∧ g < w4.heap.size := fun g hg => ⟨o4.base g hg, (World.ownsRow.lt o4 g hg).2⟩
  have hread := HeartbeatRequest.reads.2 w4 _ (w.heap.size + 1) v bs p4 n4 m4 _ hv0 row4 (by rw [Array.size_setIfInBounds]; decide) (init_ok v) (own_bytes o4) (fun hB => by have := (hlow _ hB).1; omega) (fun g hg => (hlow g hg).2) E4 (by
    obtain ⟨t, x, h⟩ := HE.out
    have := World.block_lt_of_cell? w _ h
    show w.heap.size + 1 ≠ 1
    have e : (⟨1, 0, none⟩ : Addr).block = 1 := rfl
    omega)
  rw [HR.out] at hread
  have HRd := Lib.hid hread
  have HB4 := Lib.hid B4
  have HI := Lib.hid i4
  have HL := Lib.hid hlow
  have s4 : w.heap.size + 1 < w4.heap.size := (Array.getElem?_eq_some_iff.1 row4).1
  clear hread B4 i4 hlow E3 E4 S3 C4 o4 g4 i3 row3 row4 hB3 s3
  go_wp2_with fail
  refine HeartbeatRequest.readsF.2 w4 _ _ _ ?_
  refine HRd.out.mono ?_
  rintro e w5 ⟨u5, rfl, herr, hg5, hres⟩
  obtain rfl : u5 = .nilIface := by simpa [ErrV] using herr
  refine ⟨_, rfl, ?_⟩
  obtain ⟨cells5, row5, c0, hrep⟩ := hres rfl
  have i5 : w5.cell? ⟨w.heap.size, 0, none⟩ = some (.bool has) ∧ w5.cell? ⟨w.heap.size, 1, none⟩ = some (strV s) := by
    have e := hg5.block w.heap.size (by omega) (by simp)
    exact ⟨by rw [cell_kept e]; exact HI.out.1, by rw [cell_kept e]; exact HI.out.2⟩
  have B5 : Below w.heap.size w w5 := ⟨hg5.os.trans HB4.out.os, hg5.tape.trans HB4.out.tape, hg5.output.trans HB4.out.output, Nat.le_trans HB4.out.size hg5.size, fun k hk => (hg5.block k (by omega) (by simp; omega)).trans (HB4.out.block k hk)⟩
  have s5 : w.heap.size + 1 < w5.heap.size := (Array.getElem?_eq_some_iff.1 row5).1
  have cc : w5.cell? ⟨w.heap.size + 1, 0, none⟩ = some (.int .i16 v) := by rw [cell_of_row w5 _ 0 _ _ _ row5]; exact c0
  have hrep5 : repP TagRep v (HeartbeatRequest.msg.isFlex v) true HeartbeatRequest.msg.fields w5 (fun g => g < w5.heap.size) (fun j => w5.cell? ⟨w.heap.size + 1, 1 + j, none⟩) t := by
    have e : (fun j => w5.cell? ⟨w.heap.size + 1, 1 + j, none⟩) = fun j => cells5[1 + j]? := by funext j; rw [cell_of_row w5 _ (1 + j) _ _ _ row5]
    rw [e]
    exact stable_repP (fun _ => rfl) stable_tagRep _ w5 w5 _ _ _ _ _ (fun _ _ _ => rfl) (Nat.le_refl _) (fun g hg => hg.2) (fun _ _ => rfl) (bnd_repP bnd_tagRep _ w5 _ _ _ hrep)
  have hfr := framed_is w5 (w.heap.size + 1) has s v num t hv0 hv1 hlen cc s5 hrep5 HF.out hl
  rw [hid] at hfr
  have HFr := Lib.hid hfr
  have hB5 := Lib.hid B5
  obtain ⟨i5a, i5b⟩ := i5
  clear hfr hrep hrep5 hres herr hg5 HI HB4 HL HRd s4 row5 c0 cc B5 s5
  go_wp2_with fail
  refine HFr.out.mono ?_
  rintro e w6 ⟨v6, rfl, o6, b6⟩
  have O6 := Lib.hid (o6.lower (b' := w.heap.size) hB5.out.size)
  have B6 := Lib.hid (up2 hB5.out b6)
  clear o6 b6
  go_wp2
  go_ret2
  exact ⟨_, rfl, O6.out, B6.out⟩
end Go.Proofs.YtncaphiimdkniaaGreatDoor.Frm
