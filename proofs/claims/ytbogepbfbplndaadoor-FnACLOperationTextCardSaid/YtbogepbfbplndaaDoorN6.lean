/-
  Texts of the names: parsed of a text, of octets. Conditions: none.
-/
import Derived.Test.YtbogepbfbplndaaDoorN5
namespace Go.Proofs.YtbogepbfbplndaaDoor.Nm
open Go.RowKit (Below)
open Kz

theorem bytes_up {w w' : World} {v : Value} {bs : List UInt8} (h : BytesAt w (fun _ => True) v bs) (hb : Below w.heap.size w w') : BytesAt w' (fun _ => True) v bs := by
  rcases h with h | ⟨g, o, c, h1, h2, h3, h4, h5, h6⟩
  · exact .inl h
  · exact .inr ⟨g, o, c, h1, h2, h3, h4, Nat.lt_of_lt_of_le h5 hb.size, fun i b hi => by rw [(bcell hb).1 _ _ h5]; exact h6 i b hi⟩
/-- What an unmarshalling gives of a parsing. -/
def UnmIs : Option Int → Nat → Ending → World → Prop
  | some k, b, e, w => e = .returned .nilIface ∧ w.cell? ⟨b, 0, none⟩ = some (.int .i8 k)
  | none, _, e, _ => ∃ t x, e = .returned (.iface t x)
theorem findOf_all {p : Int → Prop} {T : List UInt8} : ∀ (l : List (Int × List UInt8)), (∀ r ∈ l, p r.1) → ∀ {k : Int}, findOf T l = some k → p k
  | [], _, _, h => by simp [findOf] at h
  | x :: l, hh, k, h => by
    rw [findOf] at h
    split at h
    · obtain rfl := Option.some.inj h
      exact hh x (by simp)
    · exact findOf_all l (fun r hr => hh r (by simp [hr])) h
/-- What an impl function gives of a parsing. -/
def GotIs : Option Int → Ending → Prop
  | some k, e => e = .returned (.tuple #[.int .i64 k, .bool true])
  | none, e => ∃ k, e = .returned (.tuple #[.int .i64 k, .bool false])

theorem inc_rng (T : List UInt8) (k : Int) (h : findOf T incRows = some k) : -128 ≤ k ∧ k ≤ 127 := by
  have hh : ∀ r ∈ incRows, -128 ≤ r.1 ∧ r.1 ≤ 127 := by decide +kernel
  exact findOf_all (p := fun k => -128 ≤ k ∧ k ≤ 127) incRows hh h
set_option maxRecDepth 8000 in
set_option maxHeartbeats 1000000 in
theorem inc_got (l T : List UInt8) (hT : norm l = T) (w : World) (hs : l.length ≤ 1000000) (hl : Low l) (ht : Tab w) :
    Calls Tryd.prog 8 #[.string ⟨l.toArray⟩] w fun e w' => GotIs (findOf T incRows) e ∧ Below w.heap.size w w' := by
  go_enter Tryd.func8, Tryd.ntmps8
  go_wp2_with fail
  refine (inc_parse l T hT w hs hl ht).mono ?_
  rintro e w1 ⟨h1, b1⟩
  cases ho : findOf T incRows with
  | some k =>
    rw [ho] at h1
    obtain rfl := h1
    obtain ⟨r1, r2⟩ := inc_rng T k ho
    have e2 : IntKind.i64.wrap k = k := by rw [IntKind.wrap_i64]; omega
    go_wp2
    go_ret2
    exact ⟨by rw [ho]; rfl, b1⟩
  | none =>
    rw [ho] at h1
    obtain ⟨t, x, rfl⟩ := h1
    go_wp2
    go_ret2
    exact ⟨by rw [ho]; exact ⟨_, rfl⟩, b1⟩

set_option maxRecDepth 8000 in
set_option maxHeartbeats 1000000 in
theorem inc_unmarshal (l T : List UInt8) (hT : norm l = T) (w : World) (b : Nat) (v : Value) (hb : w.heap[b]? = some (.cells #[.int .i8 0] 58 (0, 0))) (hv : BytesAt w (fun _ => True) v l) (hs : l.length ≤ 1000000) (hl : Low l) (ht : Tab w) :
    Calls Tryd.prog 27 #[.pointer (some ⟨b, 0, none⟩), v] w fun e w' => UnmIs (findOf T incRows) b e w' ∧ Below b w w' := by
  have hc := conv_string hv 26 9 rfl rfl
  have hlt : b < w.heap.size := (Array.getElem?_eq_some_iff.1 hb).1
  have c0 : w.cell? ⟨b, 0, none⟩ = some (.int .i8 0) := by simp [World.cell?, hb]
  have f0 : w.frozen? ⟨b, 0, none⟩ = false := by simp [World.frozen?, hb]
  have H := Lib.hid hv
  clear hv
  go_enter Tryd.func27, Tryd.ntmps27
  go_wp2_with fail
  refine (inc_parse l T hT w hs hl ht).mono ?_
  rintro e w1 ⟨h1, b1⟩
  rw [← (bcell b1).1 _ _ hlt] at c0
  rw [← (bcell b1).2 _ _ hlt] at f0
  have B := Lib.hid b1
  clear b1
  cases ho : findOf T incRows with
  | some k =>
    rw [ho] at h1
    obtain rfl := h1
    go_wp2
    go_ret
    have hu : UnmIs (some k) b (.returned .nilIface) (w1.setCell ⟨b, 0, none⟩ (.int .i8 k)) := ⟨rfl, World.cell?_setCell_same _ _ _ c0⟩
    exact ⟨by rw [ho]; exact hu, ((below_low B.out (Nat.le_of_lt hlt)).setCell (p := ⟨b, 0, none⟩) (Nat.le_refl _) _)⟩
  | none =>
    rw [ho] at h1
    obtain ⟨t, x, rfl⟩ := h1
    go_wp2
    go_ret
    exact ⟨by rw [ho]; exact ⟨_, _, rfl⟩, ((below_low B.out (Nat.le_of_lt hlt)).setCell (p := ⟨b, 0, none⟩) (Nat.le_refl _) _)⟩

set_option maxRecDepth 8000 in
set_option maxHeartbeats 1000000 in
theorem inc_of (l T : List UInt8) (hT : norm l = T) (w : World) (v : Value) (hv : BytesAt w (fun _ => True) v l) (hs : l.length ≤ 1000000) (hl : Low l) (ht : Tab w) :
    Calls Tryd.prog 9 #[v] w fun e w' => GotIs (findOf T incRows) e ∧ Below w.heap.size w w' := by
  have K := Lib.hid hv
  clear hv
  go_enter Tryd.func9, Tryd.ntmps9
  go_wp2_with (at_builtin; refine wpList_append_octets rfl _ _ rfl (w.heap.size + 1) _ _ [] l (fun _ => True) rfl rfl (.nil _ _) (bytes_up K.out ((Below.refl _ _).alloc (Nat.le_refl _) _)) ?_ ?_ ?_)
  · simp only [lim, List.length_nil]
    omega
  · simp
  · intro v1 w1 hown hg
    have hb1 : w1.heap[w.heap.size]? = some (.cells #[.int .i8 0] 58 (0, 0)) := by
      rw [hg.block _ (by simp) (by simp [Value.ownBlock])]
      show (w.heap.push _)[w.heap.size]? = _
      simp
    have B1 : Below w.heap.size w w1 := ((Below.refl _ _).alloc (Nat.le_refl _) _).grown hg (by simp) (by simp [Value.ownBlock])
    have O1 := Lib.hid ((own_bytes hown).mono fun _ _ => trivial)
    have T1 := ht.up B1
    have HB := Lib.hid B1
    clear hown hg B1
    go_wp2_with fail
    refine (inc_unmarshal l T hT _ w.heap.size v1 hb1 O1.out hs hl T1).mono ?_
    rintro e w2 ⟨h1, b2⟩
    have B2 := Lib.hid (HB.out.trans b2)
    clear b2
    cases ho : findOf T incRows with
    | some k =>
      rw [ho] at h1
      obtain ⟨rfl, hc⟩ := h1
      obtain ⟨r1, r2⟩ := inc_rng T k ho
      have e2 : IntKind.i64.wrap k = k := by rw [IntKind.wrap_i64]; omega
      go_wp2
      go_ret2
      exact ⟨by rw [ho]; rfl, B2.out⟩
    | none =>
      rw [ho] at h1
      obtain ⟨t, x, rfl⟩ := h1
      go_wp2
      go_ret2
      exact ⟨by rw [ho]; exact ⟨_, rfl⟩, B2.out⟩

theorem acl_rng (T : List UInt8) (k : Int) (h : findOf T aclRows = some k) : -128 ≤ k ∧ k ≤ 127 := by
  have hh : ∀ r ∈ aclRows, -128 ≤ r.1 ∧ r.1 ≤ 127 := by decide +kernel
  exact findOf_all (p := fun k => -128 ≤ k ∧ k ≤ 127) aclRows hh h
set_option maxRecDepth 8000 in
set_option maxHeartbeats 1000000 in
theorem acl_got (l T : List UInt8) (hT : norm l = T) (w : World) (hs : l.length ≤ 1000000) (hl : Low l) (ht : Tab w) :
    Calls Tryd.prog 16 #[.string ⟨l.toArray⟩] w fun e w' => GotIs (findOf T aclRows) e ∧ Below w.heap.size w w' := by
  go_enter Tryd.func16, Tryd.ntmps16
  go_wp2_with fail
  refine (acl_parse l T hT w hs hl ht).mono ?_
  rintro e w1 ⟨h1, b1⟩
  cases ho : findOf T aclRows with
  | some k =>
    rw [ho] at h1
    obtain rfl := h1
    obtain ⟨r1, r2⟩ := acl_rng T k ho
    have e2 : IntKind.i64.wrap k = k := by rw [IntKind.wrap_i64]; omega
    go_wp2
    go_ret2
    exact ⟨by rw [ho]; rfl, b1⟩
  | none =>
    rw [ho] at h1
    obtain ⟨t, x, rfl⟩ := h1
    go_wp2
    go_ret2
    exact ⟨by rw [ho]; exact ⟨_, rfl⟩, b1⟩

set_option maxRecDepth 8000 in
set_option maxHeartbeats 1000000 in
theorem acl_unmarshal (l T : List UInt8) (hT : norm l = T) (w : World) (b : Nat) (v : Value) (hb : w.heap[b]? = some (.cells #[.int .i8 0] 68 (0, 0))) (hv : BytesAt w (fun _ => True) v l) (hs : l.length ≤ 1000000) (hl : Low l) (ht : Tab w) :
    Calls Tryd.prog 32 #[.pointer (some ⟨b, 0, none⟩), v] w fun e w' => UnmIs (findOf T aclRows) b e w' ∧ Below b w w' := by
  have hc := conv_string hv 26 9 rfl rfl
  have hlt : b < w.heap.size := (Array.getElem?_eq_some_iff.1 hb).1
  have c0 : w.cell? ⟨b, 0, none⟩ = some (.int .i8 0) := by simp [World.cell?, hb]
  have f0 : w.frozen? ⟨b, 0, none⟩ = false := by simp [World.frozen?, hb]
  have H := Lib.hid hv
  clear hv
  go_enter Tryd.func32, Tryd.ntmps32
  go_wp2_with fail
  refine (acl_parse l T hT w hs hl ht).mono ?_
  rintro e w1 ⟨h1, b1⟩
  rw [← (bcell b1).1 _ _ hlt] at c0
  rw [← (bcell b1).2 _ _ hlt] at f0
  have B := Lib.hid b1
  clear b1
  cases ho : findOf T aclRows with
  | some k =>
    rw [ho] at h1
    obtain rfl := h1
    go_wp2
    go_ret
    have hu : UnmIs (some k) b (.returned .nilIface) (w1.setCell ⟨b, 0, none⟩ (.int .i8 k)) := ⟨rfl, World.cell?_setCell_same _ _ _ c0⟩
    exact ⟨by rw [ho]; exact hu, ((below_low B.out (Nat.le_of_lt hlt)).setCell (p := ⟨b, 0, none⟩) (Nat.le_refl _) _)⟩
  | none =>
    rw [ho] at h1
    obtain ⟨t, x, rfl⟩ := h1
    go_wp2
    go_ret
    exact ⟨by rw [ho]; exact ⟨_, _, rfl⟩, ((below_low B.out (Nat.le_of_lt hlt)).setCell (p := ⟨b, 0, none⟩) (Nat.le_refl _) _)⟩

set_option maxRecDepth 8000 in
set_option maxHeartbeats 1000000 in
theorem acl_of (l T : List UInt8) (hT : norm l = T) (w : World) (v : Value) (hv : BytesAt w (fun _ => True) v l) (hs : l.length ≤ 1000000) (hl : Low l) (ht : Tab w) :
    Calls Tryd.prog 17 #[v] w fun e w' => GotIs (findOf T aclRows) e ∧ Below w.heap.size w w' := by
  have K := Lib.hid hv
  clear hv
  go_enter Tryd.func17, Tryd.ntmps17
  go_wp2_with (at_builtin; refine wpList_append_octets rfl _ _ rfl (w.heap.size + 1) _ _ [] l (fun _ => True) rfl rfl (.nil _ _) (bytes_up K.out ((Below.refl _ _).alloc (Nat.le_refl _) _)) ?_ ?_ ?_)
  · simp only [lim, List.length_nil]
    omega
  · simp
  · intro v1 w1 hown hg
    have hb1 : w1.heap[w.heap.size]? = some (.cells #[.int .i8 0] 68 (0, 0)) := by
      rw [hg.block _ (by simp) (by simp [Value.ownBlock])]
      show (w.heap.push _)[w.heap.size]? = _
      simp
    have B1 : Below w.heap.size w w1 := ((Below.refl _ _).alloc (Nat.le_refl _) _).grown hg (by simp) (by simp [Value.ownBlock])
    have O1 := Lib.hid ((own_bytes hown).mono fun _ _ => trivial)
    have T1 := ht.up B1
    have HB := Lib.hid B1
    clear hown hg B1
    go_wp2_with fail
    refine (acl_unmarshal l T hT _ w.heap.size v1 hb1 O1.out hs hl T1).mono ?_
    rintro e w2 ⟨h1, b2⟩
    have B2 := Lib.hid (HB.out.trans b2)
    clear b2
    cases ho : findOf T aclRows with
    | some k =>
      rw [ho] at h1
      obtain ⟨rfl, hc⟩ := h1
      obtain ⟨r1, r2⟩ := acl_rng T k ho
      have e2 : IntKind.i64.wrap k = k := by rw [IntKind.wrap_i64]; omega
      go_wp2
      go_ret2
      exact ⟨by rw [ho]; rfl, B2.out⟩
    | none =>
      rw [ho] at h1
      obtain ⟨t, x, rfl⟩ := h1
      go_wp2
      go_ret2
      exact ⟨by rw [ho]; exact ⟨_, rfl⟩, B2.out⟩
end Go.Proofs.YtbogepbfbplndaaDoor.Nm
