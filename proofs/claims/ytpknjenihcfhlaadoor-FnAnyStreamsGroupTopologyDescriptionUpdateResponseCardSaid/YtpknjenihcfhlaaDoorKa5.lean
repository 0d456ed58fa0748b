/-
  kbin, writing: texts, octets, lengths. Conditions: none.
-/
import Derived.Test.YtpknjenihcfhlaaDoorKa4
import Derived.Test.YtpknjenihcfhlaaDoorRd1
import Derived.Test.YtpknjenihcfhlaaDoorOps3
import Derived.Lib.AppendStr
import Derived.Laws.AppendOwnNone
namespace Go.Proofs.YtpknjenihcfhlaaDoor
open Go.RowKit (Below)
open Kz

theorem strCells_bv (s : List UInt8) : Lib.strCells ⟨s.toArray⟩ = s.map bv := by
  simp [Lib.strCells, bv]
theorem wpList_append_text {w : World} {ops : Array Oper} {rest : List Oper} {o : Oper} {a : Act} {Q : Exit → Act → World → Prop} (hgd : o.guard = none) (s x : Operand)
    (ho : o.op = .call { callee := .builtin .append, args := #[s, x], argTypes := #[22, 9] }) (base : Nat) (v : Value) (bs out : List UInt8) (hs : a.eval s = v) (hx : a.eval x = strV out) (h : OwnB w base v bs)
    (hl : bs.length + out.length ≤ lim) (hb : base ≤ w.heap.size) (hk : ∀ v' w', OwnB w' base v' (bs ++ out) → w.grownBy w' v.ownBlock → wpList Tryd.prog ops Q rest (a.put o.dst v') w') : wpList Tryd.prog ops Q (o :: rest) a w := by
  have hi : (Tryd.prog.info? 5).map (fun i => (i.zero, i.size, i.bytes)) = some (some (.int .u8 0), 1, 1) := by kernel_rfl
  obtain ⟨i, hi, hz, hsz, hby⟩ := info_parts hi
  simp only [lim] at hl
  have e : (⟨out.toArray⟩ : ByteArray).size = out.length := by simp [ByteArray.size]
  have hm1 : bs.length + (⟨out.toArray⟩ : ByteArray).size ≤ maxLen := by rw [e]; simp only [maxLen]; omega
  have hm2 : bs.length + (⟨out.toArray⟩ : ByteArray).size ≤ 140737488355328 := by rw [e]; omega
  refine Lib.wpList_append_own_string w hgd s x _ _ ho base 5 i Tryd.underlying22 Tryd.underlying9 hi hz hsz hby v bs.length (bs.map bv) hs h ⟨out.toArray⟩ hx hm1 hm2 hb ?_
  intro v' w' h2 h3 _
  refine hk v' w' ?_ h3
  unfold OwnB
  rw [List.length_append, List.map_append, ← strCells_bv, ← e]
  exact h2
theorem wpList_append_octets {w : World} {ops : Array Oper} {rest : List Oper} {o : Oper} {a : Act} {Q : Exit → Act → World → Prop} (hgd : o.guard = none) (s x : Operand)
    (ho : o.op = .call { callee := .builtin .append, args := #[s, x], argTypes := #[22, 22] }) (base : Nat) (v u : Value) (bs out : List UInt8) (K : Nat → Prop) (hs : a.eval s = v) (hx : a.eval x = u) (h : OwnB w base v bs) (hu : BytesAt w K u out)
    (hl : bs.length + out.length ≤ lim) (hb : base ≤ w.heap.size) (hk : ∀ v' w', OwnB w' base v' (bs ++ out) → w.grownBy w' v.ownBlock → wpList Tryd.prog ops Q rest (a.put o.dst v') w') : wpList Tryd.prog ops Q (o :: rest) a w := by
  rcases hu with ⟨rfl, rfl⟩ | ⟨g, off, c, rfl, -, -, -, -, hc⟩
  · have hi : (Tryd.prog.info? 5).map (fun i => (i.zero, i.size, i.bytes)) = some (some (.int .u8 0), 1, 1) := by kernel_rfl
    obtain ⟨i, hi, hz, hsz, hby⟩ := info_parts hi
    exact wpList_append_own_none hgd s x _ ho base 5 i 1 Tryd.underlying22 hi v _ _ hs h hx (hk v w (by rw [List.append_nil]; exact h) (grownBy_refl _ _))
  · exact wpList_append_bytes hgd s x ho base v bs out g off _ c hs hx h rfl hc hl hb hk
theorem below_grow {w w' : World} {base : Nat} {v : Value} {bs : List UInt8} (h : OwnB w base v bs) (hbase : base ≤ w.heap.size) (hg : w.grownBy w' v.ownBlock) : Below base w w' :=
  below_own h (fun _ _ => rfl) rfl rfl rfl (Nat.le_refl _) hbase hg
theorem below_size {w w' : World} {B : Nat} (h : Below B w w') (hb : B ≤ w.heap.size) : B ≤ w'.heap.size := Nat.le_trans hb h.size
/-- How long what is written may get, with what is counted ahead. -/
def lim2 : Nat := 1000000000000

theorem wrap_i16 (n : Int) : IntKind.i16.wrap n = (n + 32768) % 65536 - 32768 := by
  simp [IntKind.wrap, IntKind.bits, IntKind.signed]
  split <;> omega
theorem BytesAt.below {w w' : World} {K : Nat → Prop} {x : Value} {s : List UInt8} {B : Nat} (h : BytesAt w K x s) (hb : Below B w w') (hK : ∀ g, K g → g < B) : BytesAt w' K x s :=
  stable_bytes (fun _ hg _ => hb.block _ (hK _ hg)) hb.size (fun _ hg => hg) h

theorem AppendString_any (w : World) (base : Nat) (v : Value) (bs : List UInt8) (s : List UInt8) (h : OwnB w base v bs) (hb : base ≤ w.heap.size) (hs : s.length < 32768) (hl : bs.length + (fixed (s.length : Int) 2 ++ s).length ≤ lim2) :
    Calls Tryd.prog 48 #[v, strV s] w fun e w' => ∃ v', e = .returned v' ∧ OwnB w' base v' (bs ++ (fixed (s.length : Int) 2 ++ s)) ∧ Below base w w' := by
  rw [List.length_append] at hl
  have hl5 : bs.length + 2 ≤ lim := by simp only [lim, lim2] at hl ⊢; omega
  have hl6 : (bs ++ fixed (s.length : Int) 2).length + s.length ≤ lim := by rw [List.length_append]; simp only [lim, lim2] at hl ⊢; omega
  obtain ⟨fn, hfn, hbo, hnn⟩ := hasBody_ok (P := Tryd.prog) (f := 50) (by kernel_rfl)
  refine enter2 (res := 4) Tryd.func48 rfl (by rw [Tryd.ntmps48]; decide) (by kernel_rfl) fun a hsz hd s0 s1 => ?_
  have hN := hsz.trans Tryd.ntmps48
  refine wp_seq (reg_const (by omega) fun a1 u1 _ => ?_)
  have N1 := u1.size.trans hN
  have q0 : sl a1 0 = v := (u1.same 0 (by decide)).trans s0
  have q1 : sl a1 1 = strV s := (u1.same 1 (by decide)).trans s1
  refine wp_seq (reg_len_call hfn hbo hnn (k' := .i16) (u := (s.length : Int)) (m := (s.length : Int)) Tryd.underlying3 Tryd.underlying29 (by rw [wrap_i16]; omega) (by rw [N1]; rfl) (by rfl) (fun ρ hρ => exec_len_str Tryd.underlying9 (by rw [hρ, q1]) (by simp [ByteArray.size])) ?_)
  rw [q0]
  refine Calls.mono (AppendInt16_any w base v bs (s.length : Int) h hb hl5) ?_
  rintro e w1 ⟨w1v, rfl, hown, hbel⟩
  refine ⟨w1v, rfl, fun a2 u2 q2 => ?_⟩
  have N2 := u2.size.trans N1
  have q3 : sl a2 1 = strV s := (u2.same 1 (by decide)).trans q1
  refine wp_seq (reg_append2 (by rw [N2]; rfl) (by rfl) fun ops rest a3 hx1 hy1 hk => ?_)
  refine wpList_append_text rfl _ _ rfl base w1v (bs ++ fixed (s.length : Int) 2) s (by rw [eval_tmp, hx1, q2]) (by rw [eval_tmp, hy1, q3]) hown hl6 (below_size hbel hb) fun v' w' ho hg => hk v' w' fun a' u' s' => ?_
  refine wp_ret ⟨rfl, u'.defers.trans (u2.defers.trans (u1.defers.trans hd)), v', by rw [s'], by rw [← List.append_assoc]; exact ho, hbel.trans (below_grow hown (below_size hbel hb) hg)⟩
theorem AppendCompactString_any (w : World) (base : Nat) (v : Value) (bs : List UInt8) (s : List UInt8) (h : OwnB w base v bs) (hb : base ≤ w.heap.size) (hs : s.length < 4294967295) (hl : bs.length + (uv (s.length + 1) ++ s).length ≤ lim2) :
    Calls Tryd.prog 47 #[v, strV s] w fun e w' => ∃ v', e = .returned v' ∧ OwnB w' base v' (bs ++ (uv (s.length + 1) ++ s)) ∧ Below base w w' := by
  rw [List.length_append] at hl
  have hl5 : bs.length + 5 ≤ lim := by simp only [lim, lim2] at hl ⊢; omega
  have hl6 : (bs ++ uv (s.length + 1)).length + s.length ≤ lim := by rw [List.length_append]; simp only [lim, lim2] at hl ⊢; omega
  obtain ⟨fn, hfn, hbo, hnn⟩ := hasBody_ok (P := Tryd.prog) (f := 51) (by kernel_rfl)
  refine enter2 (res := 4) Tryd.func47 rfl (by rw [Tryd.ntmps47]; decide) (by kernel_rfl) fun a hsz hd s0 s1 => ?_
  have hN := hsz.trans Tryd.ntmps47
  refine wp_seq (reg_const (by omega) fun a1 u1 _ => ?_)
  have N1 := u1.size.trans hN
  have q0 : sl a1 0 = v := (u1.same 0 (by decide)).trans s0
  have q1 : sl a1 1 = strV s := (u1.same 1 (by decide)).trans s1
  refine wp_seq (reg_len1_call hfn hbo hnn (k' := .u32) (u := (s.length : Int)) (m := (s.length : Int)) (m2 := ((s.length + 1 : Nat) : Int)) Tryd.underlying3 Tryd.underlying56 (by rw [IntKind.wrap_u32]; omega) (by rw [IntKind.wrap_u32]; omega) (by rw [N1]; rfl) (by rfl) (fun ρ hρ => exec_len_str Tryd.underlying9 (by rw [hρ, q1]) (by simp [ByteArray.size])) ?_)
  rw [q0]
  refine Calls.mono (AppendUvarint_any w base v bs (s.length + 1) h hb (by omega) hl5) ?_
  rintro e w1 ⟨w1v, rfl, hown, hbel⟩
  refine ⟨w1v, rfl, fun a2 u2 q2 => ?_⟩
  have N2 := u2.size.trans N1
  have q3 : sl a2 1 = strV s := (u2.same 1 (by decide)).trans q1
  refine wp_seq (reg_append2 (by rw [N2]; rfl) (by rfl) fun ops rest a3 hx1 hy1 hk => ?_)
  refine wpList_append_text rfl _ _ rfl base w1v (bs ++ uv (s.length + 1)) s (by rw [eval_tmp, hx1, q2]) (by rw [eval_tmp, hy1, q3]) hown hl6 (below_size hbel hb) fun v' w' ho hg => hk v' w' fun a' u' s' => ?_
  refine wp_ret ⟨rfl, u'.defers.trans (u2.defers.trans (u1.defers.trans hd)), v', by rw [s'], by rw [← List.append_assoc]; exact ho, hbel.trans (below_grow hown (below_size hbel hb) hg)⟩
end Go.Proofs.YtpknjenihcfhlaaDoor
