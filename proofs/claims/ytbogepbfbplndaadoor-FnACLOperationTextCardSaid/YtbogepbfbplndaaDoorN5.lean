/-
  Texts of the names: written and read as octets. Conditions: none.
-/
import Derived.Test.YtbogepbfbplndaaDoorN4
namespace Go.Proofs.YtbogepbfbplndaaDoor.Nm
open Go.RowKit (Below)
open Kz

set_option maxRecDepth 8000 in
set_option maxHeartbeats 4000000 in
theorem acl_string (k : Int) (t : List UInt8) (h : (k, t) ∈ aclRows) (w : World) :
    Calls Tryd.prog 30 #[.int .i8 k] w fun e w' => e = .returned (.string ⟨t.toArray⟩) ∧ w' = w := by
  simp only [aclRows, List.mem_cons, Prod.mk.injEq, List.not_mem_nil, or_false] at h
  rcases h with ⟨rfl, rfl⟩ | ⟨rfl, rfl⟩ | ⟨rfl, rfl⟩ | ⟨rfl, rfl⟩ | ⟨rfl, rfl⟩ | ⟨rfl, rfl⟩ | ⟨rfl, rfl⟩ | ⟨rfl, rfl⟩ | ⟨rfl, rfl⟩ | ⟨rfl, rfl⟩ | ⟨rfl, rfl⟩ | ⟨rfl, rfl⟩ | ⟨rfl, rfl⟩ | ⟨rfl, rfl⟩
  all_goals
    go_enter Tryd.func30, Tryd.ntmps30
    go_wp2
    go_ret
    exact ⟨rfl, rfl⟩
theorem bytes_new (w : World) (t : List UInt8) (h : t.length ≤ 1000000) :
    (convert 9 26 (.string ⟨t.toArray⟩)).run Tryd.prog w = .ok (.slice (some ⟨w.heap.size, 0, none⟩) t.length (grownCap w t.length 0 5)) (Lib.bytesWorld w 5 ⟨t.toArray⟩)
      ∧ BytesAt (Lib.bytesWorld w 5 ⟨t.toArray⟩) (fun _ => True) (.slice (some ⟨w.heap.size, 0, none⟩) t.length (grownCap w t.length 0 5)) t ∧ Below w.heap.size w (Lib.bytesWorld w 5 ⟨t.toArray⟩) := by
  have hsz : (⟨t.toArray⟩ : ByteArray).size = t.length := by simp [ByteArray.size]
  refine ⟨?_, ?_, Go.Joins.below_bytesWorld _ _ _ _ (Nat.le_refl _)⟩
  · have := Lib.run_convert_string_bytes (P := Tryd.prog) w 9 26 5 ⟨t.toArray⟩ Tryd.underlying9 Tryd.underlying26 Tryd.underlying5
    rw [hsz] at this
    exact this
  · refine .inr ⟨w.heap.size, 0, _, rfl, ?_, ?_, trivial, ?_, fun i b hi => ?_⟩
    · exact Go.grownCap_ge _ _ _ _
    · exact Go.grownCap_le_maxLen _ _ _ _ (by simp only [maxLen]; omega)
    · rw [Lib.bytesWorld_size]; omega
    · have hlt : i < t.length := (List.getElem?_eq_some_iff.1 hi).1
      rw [Nat.zero_add, Lib.bytesWorld_cell _ _ _ _ (by rw [hsz]; exact hlt)]
      simp [bv, List.getD, hi]

set_option maxRecDepth 8000 in
set_option maxHeartbeats 1000000 in
theorem acl_marshal (k : Int) (t : List UInt8) (h : (k, t) ∈ aclRows) (hs : t.length ≤ 1000000) (w : World) :
    Calls Tryd.prog 29 #[.int .i8 k] w fun e w' => ∃ v, e = .returned (.tuple #[v, .nilIface]) ∧ BytesAt w' (fun _ => True) v t ∧ Below w.heap.size w w' := by
  obtain ⟨c1, c2, c3⟩ := bytes_new w t hs
  go_enter Tryd.func29, Tryd.ntmps29
  go_wp2_with fail
  refine (acl_string k t h w).mono ?_
  rintro e w1 ⟨rfl, rfl⟩
  have K := Lib.hid c2
  have K2 := Lib.hid c3
  clear c2 c3
  go_wp2
  go_ret2
  exact ⟨_, rfl, K.out, K2.out⟩

theorem step_copy {ops : Array Oper} {o : Oper} {a : Act} {w : World} {K : Act → World → Prop} {Q : Exit → Act → World → Prop} {E : Prop} (hgd : o.guard = none) (s x : Operand)
    (ho : o.op = .call { callee := .builtin .append, args := #[s, x], argTypes := #[26, 26] }) (v : Value) (bs : List UInt8) (S : Nat → Prop) (hs : a.eval s = .slice none 0 0) (hx : a.eval x = v) (h : BytesAt w S v bs) (hne : bs ≠ []) (hl : bs.length ≤ 1000000)
    (hK : ∀ v' w', OwnB w' w.heap.size v' bs → w.grownBy w' none → K (a.put o.dst v') w') : if Region.wanted o (yielded ops a.tmps) = true then Oper.wp Tryd.prog o a w K Q else E := by
  have hw : Region.wanted o (yielded ops a.tmps) = true := by simp [Region.wanted, hgd]
  rw [if_pos hw]
  rcases h with ⟨-, h⟩ | ⟨g, off, c, rfl, -, -, -, -, hc⟩
  · exact absurd h hne
  obtain ⟨v', w', hrun, h2, h3⟩ := append_own (ty := o.type) (ad := ⟨g, off, none⟩) (c := c) (OwnB.nil w w.heap.size) rfl (fun j b hj => by rw [Addr.add_mid]; exact hc j b hj) (by simp only [lim, List.length_nil]; omega) (Nat.le_refl _)
  unfold Oper.wp
  simp [execOp, ho, resolve, invoke, builtin, hs, hx, hrun, Result.andThen]
  exact hK v' w' h2 h3

set_option maxRecDepth 8000 in
set_option maxHeartbeats 1000000 in
theorem acl_text (k : Int) (t : List UInt8) (h : (k, t) ∈ aclRows) (hs : t.length ≤ 1000000) (w : World) :
    Calls Tryd.prog 14 #[.int .i8 k] w fun e w' => ∃ v, e = .returned (.tuple #[v, .bool true]) ∧ BytesAt w' (fun _ => True) v t ∧ Below w.heap.size w w' := by
  go_enter Tryd.func14, Tryd.ntmps14
  go_wp2_with fail
  refine (acl_marshal k t h hs w).mono ?_
  rintro e w1 ⟨v, rfl, hb, b1⟩
  have K := Lib.hid hb
  have K1 := Lib.hid b1
  clear hb b1
  go_wp2_with fail
  obtain ⟨ad, c, rfl⟩ := bytes_len K.out
  have hne : t ≠ [] := by
    rintro rfl
    revert h
    simp [aclRows]
  go_region_law (refine step_copy rfl (.const (.slice none 0 0)) (.tmp 11) rfl _ t (fun _ => True) rfl rfl K.out hne hs ?_; intro v' w' hown hg; have M1 := Lib.hid hown; have M2 := Lib.hid hg; clear hown hg)
  go_wp2
  go_ret2
  refine ⟨_, rfl, (own_bytes M1.out).mono fun _ _ => trivial, ?_⟩
  have M3 := below_grow (OwnB.nil w1.drew w1.heap.size) (Nat.le_refl _) M2.out
  exact up K1.out ⟨M3.os, M3.tape, M3.output, M3.size, M3.block⟩

set_option maxRecDepth 8000 in
set_option maxHeartbeats 1000000 in
theorem acl_str (k : Int) (t : List UInt8) (h : (k, t) ∈ aclRows) (w : World) :
    Calls Tryd.prog 15 #[.int .i8 k] w fun e w' => e = .returned (.string ⟨t.toArray⟩) ∧ w' = w := by
  go_enter Tryd.func15, Tryd.ntmps15
  go_wp2_with fail
  refine (acl_string k t h w).mono ?_
  rintro e w1 ⟨rfl, rfl⟩
  go_wp2
  go_ret
  exact ⟨rfl, rfl⟩
end Go.Proofs.YtbogepbfbplndaaDoor.Nm
