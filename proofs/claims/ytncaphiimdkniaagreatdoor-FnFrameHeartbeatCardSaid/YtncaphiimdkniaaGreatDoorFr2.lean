/-
  Octets that are written over what stands in a row's front. Conditions: none.
-/
import Derived.Test.YtncaphiimdkniaaGreatDoorY5
import Derived.ArgAppend
namespace Go.Proofs.YtncaphiimdkniaaGreatDoor.Frm
open Go.Proofs.YtncaphiimdkniaaGreatDoor
open Go.RowKit (Below)
open Kz

def setAll (c : Array Value) (o : Nat) : List Value → Array Value
  | [] => c
  | v :: r => setAll (c.setIfInBounds o v) (o + 1) r
theorem setAll_size (l : List Value) : ∀ (c : Array Value) (o : Nat), (setAll c o l).size = c.size := by
  induction l with
  | nil => intro c o; rfl
  | cons v r ih => intro c o; rw [setAll, ih]; simp
theorem setAll_get (l : List Value) : ∀ (c : Array Value) (o : Nat), o + l.length ≤ c.size → ∀ j, (setAll c o l)[j]? = if o ≤ j ∧ j < o + l.length then l[j - o]? else c[j]? := by
  induction l with
  | nil =>
    intro c o h j
    rw [setAll, if_neg (by simp only [List.length_nil]; omega)]
  | cons v r ih =>
    intro c o h j
    simp only [List.length_cons] at h ⊢
    rw [setAll, ih _ _ (by simp; omega)]
    by_cases hj : j = o
    · subst hj
      rw [if_neg (by omega), if_pos (by omega)]
      simp [show j < c.size by omega]
    · by_cases h2 : o + 1 ≤ j ∧ j < o + 1 + r.length
      · rw [if_pos h2, if_pos (by omega), show j - o = (j - (o + 1)) + 1 by omega, List.getElem?_cons_succ]
      · rw [if_neg h2, if_neg (by omega), Array.getElem?_setIfInBounds, if_neg (fun e => hj e.symm)]
theorem setCells_row {g : Nat} {T : TypeId} {fr : Nat × Nat} (l : List Value) : ∀ (w : World) (o : Nat) (c : Array Value), w.heap[g]? = some (.cells c T fr) → (w.setCells g o l).heap[g]? = some (.cells (setAll c o l) T fr) := by
  induction l with
  | nil => intro w o c h; exact h
  | cons v r ih =>
    intro w o c h
    rw [World.setCells, setAll]
    exact ih _ _ _ (heap_setCell_row h)
theorem setCells_kept {g : Nat} (l : List Value) : ∀ (w : World) (o : Nat), (w.setCells g o l).heap.size = w.heap.size ∧ (w.setCells g o l).os = w.os ∧ (w.setCells g o l).tape = w.tape ∧ (w.setCells g o l).output = w.output ∧ ∀ k, k ≠ g → (w.setCells g o l).heap[k]? = w.heap[k]? := by
  induction l with
  | nil => intro w o; exact ⟨rfl, rfl, rfl, rfl, fun _ _ => rfl⟩
  | cons v r ih =>
    intro w o
    rw [World.setCells]
    obtain ⟨h1, h2, h3, h4, h5⟩ := ih (w.setCell ⟨g, o, none⟩ v) (o + 1)
    exact ⟨h1.trans (by simp [World.setCell]), h2, h3, h4, fun k hk => (h5 k hk).trans (Below.heap_setCell _ _ _ _ (by show k ≠ g; exact hk))⟩

/-- 'append(x[:0], ..)' where there is room. -/
theorem wpList_append_front {w : World} {ops : Array Oper} {rest : List Oper} {o : Oper} {a : Act} {Q : Exit → Act → World → Prop} (hgd : o.guard = none) (s x : Operand)
    (ho : o.op = .call { callee := .builtin .append, args := #[s, x], argTypes := #[24, 24] }) (base g cap : Nat) (bs out : List UInt8) (g2 off m c : Nat) (hs : a.eval s = .slice (some ⟨g, 0, none⟩) 0 cap) (hx : a.eval x = .slice (some ⟨g2, off, none⟩) m c)
    (hm : m = out.length) (hc : ∀ (j : Nat) b, out[j]? = some b → w.cell? ⟨g2, off + j, none⟩ = some (bv b)) (hown : OwnB w base (.slice (some ⟨g, 0, none⟩) bs.length cap) bs) (hl : out.length ≤ bs.length)
    (hk : ∀ w', OwnB w' base (.slice (some ⟨g, 0, none⟩) bs.length cap) (out ++ bs.drop out.length) → Below base w w' → wpList Tryz.prog ops Q rest (a.put o.dst (.slice (some ⟨g, 0, none⟩) m cap)) w') : wpList Tryz.prog ops Q (o :: rest) a w := by
  subst hm
  have hi : (Tryz.prog.info? 5).map (fun i => (i.zero, i.size, i.bytes)) = some (some (.int .u8 0), 1, 1) := by kernel_rfl
  obtain ⟨i, hi, hz, hsz, hby⟩ := info_parts hi
  obtain ⟨hn, h | ⟨g', cap', cur, e1, e2, e3, e4, e5, e6, e7⟩⟩ := hown
  · simp at h
  simp only [Value.slice.injEq, Option.some.injEq, Addr.mk.injEq, and_true, true_and] at e1
  obtain ⟨rfl, rfl⟩ := e1
  have hrun := run_append_room_cells (P := Tryz.prog) w 24 o.type 5 i Tryz.underlying24 hi g 0 0 cap ⟨g2, off, none⟩ out.length c (out.map bv) (by simp [hsz]) (fun j u hu => by
      rw [List.getElem?_map, Option.map_eq_some_iff] at hu
      obtain ⟨b, hb, rfl⟩ := hu
      rw [Addr.add_mid]
      exact hc j b hb)
    (fun u hu => by
      simp only [List.mem_map] at hu
      obtain ⟨b, -, rfl⟩ := hu
      rfl) (by omega) (fun j hj => by
      rw [cell_of_row w g _ _ _ _ e3]
      simp at hj ⊢
      omega) (fun j hj => by simp [World.frozen?, e3])
  rw [Nat.zero_mul, Nat.add_zero, Nat.zero_add] at hrun
  obtain ⟨k1, k2, k3, k4, k5⟩ := setCells_kept (g := g) (out.map bv) w 0
  refine Lib.wpList_append_run w hgd s x _ _ ho _ _ hs hx _ _ hrun (hk _ ?_ ⟨k2, k3, k4, by omega, fun k hk => k5 k (by omega)⟩)
  refine ⟨by first | (simp; done) | (simp; omega), .inr ⟨g, cap, setAll cur 0 (out.map bv), by simp; omega, e2, setCells_row _ _ _ _ e3, by simp; omega, e5, by rw [setAll_size]; exact e6, ?_⟩⟩
  apply List.ext_getElem?
  intro j
  have e8 : ∀ j, j < bs.length → cur[j]? = (bs.map bv)[j]? := fun j hj => by
    rw [← e7, List.getElem?_take_of_lt (by omega), Array.getElem?_toList]
  by_cases hj : j < bs.length
  · rw [List.getElem?_take_of_lt (by simp; omega), Array.getElem?_toList, setAll_get _ _ _ (by simp; omega)]
    simp only [Nat.zero_le, true_and, Nat.zero_add, List.length_map, Nat.sub_zero, List.map_append, List.getElem?_append]
    split
    · rfl
    · rename_i h
      have e9 : out.length + (j - out.length) = j := by omega
      rw [e8 j hj, List.map_drop, List.getElem?_drop, e9]
  · rw [List.getElem?_eq_none (by simp; omega), List.getElem?_eq_none (by simp; omega)]

set_option maxRecDepth 8000 in
set_option maxHeartbeats 1000000 in
theorem AppendUint32_front (w : World) (base g cap : Nat) (bs : List UInt8) (u : Int) (h : OwnB w base (.slice (some ⟨g, 0, none⟩) bs.length cap) bs) (hb : base ≤ w.heap.size) (h0 : 0 ≤ u) (h1 : u < 4294967296) (hl : 4 ≤ bs.length) :
    Calls Tryz.prog 64 #[.slice (some ⟨g, 0, none⟩) 0 cap, .int .u32 u] w fun e w' => (∃ v', e = .returned v') ∧ OwnB w' base (.slice (some ⟨g, 0, none⟩) bs.length cap) (fixed u 4 ++ bs.drop 4) ∧ Below base w w' := by
  have H := Lib.hid h
  clear h
  go_enter Tryz.func64, Tryz.ntmps64
  go_wp2_with (at_builtin; refine wpList_append_front rfl _ _ rfl base g cap bs (fixed u 4) w.heap.size 0 4 4 rfl rfl rfl ?_ ?_ ?_ ?_)
  · refine row_new ?_
    simp only [fixed, List.map_cons, List.map_nil, bv_byteAt]
    simp
    try omega
  · exact H.out.grown fun k hk => alloc_old w _ k hk
  · simp only [fixed, List.length_cons, List.length_nil]
    omega
  · intro w' hown hbel
    have H1 := Lib.hid hown
    have H2 := Lib.hid ((((Below.refl base w).alloc hb _)).trans hbel)
    clear hown hbel
    go_wp2
    go_ret
    exact ⟨⟨_, rfl⟩, H1.out, H2.out⟩
set_option maxRecDepth 8000 in
set_option maxHeartbeats 1000000 in
theorem AppendInt32_front (w : World) (base g cap : Nat) (bs : List UInt8) (u : Int) (h : OwnB w base (.slice (some ⟨g, 0, none⟩) bs.length cap) bs) (hb : base ≤ w.heap.size) (hl : 4 ≤ bs.length) :
    Calls Tryz.prog 55 #[.slice (some ⟨g, 0, none⟩) 0 cap, .int .i32 u] w fun e w' => (∃ v', e = .returned v') ∧ OwnB w' base (.slice (some ⟨g, 0, none⟩) bs.length cap) (fixed u 4 ++ bs.drop 4) ∧ Below base w w' := by
  have H := Lib.hid h
  clear h
  go_enter Tryz.func55, Tryz.ntmps55
  go_wp2_with fail
  refine (AppendUint32_front w base g cap bs (u % 4294967296) H.out hb (by omega) (by omega) hl).mono ?_
  rintro e w' ⟨⟨v', rfl⟩, hown, hbel⟩
  rw [fixed_AppendInt32] at hown
  have H1 := Lib.hid hown
  have H2 := Lib.hid hbel
  clear hown hbel
  go_wp2
  go_ret
  exact ⟨⟨v', rfl⟩, H1.out, H2.out⟩
end Go.Proofs.YtncaphiimdkniaaGreatDoor.Frm
