/-
  Lists, read: the whole code of a list. Conditions: none.
-/
import Derived.Test.YtpknjenihcfhlaaDoorRd4
namespace Go.Proofs.YtpknjenihcfhlaaDoor
open Go.RowKit (Below)
open Kz

/-! ## Steps -/
def SLoad (N sp off d : Nat) (c : Code) : Prop := ∀ (a : Act) (w : World) (Q : Exit → Act → World → Prop) (b o : Nat) (u : Value), a.tmps.size = N → sl a sp = .pointer (some ⟨b, o, none⟩) → w.cell? ⟨b, o + off, none⟩ = some u →
  (∀ a', Upd a a' (writes c) → sl a' d = u → Q .normal a' w) → c.wp Tryd.prog Q a w
def SCopy (N x d : Nat) (c : Code) : Prop := ∀ (a : Act) (w : World) (Q : Exit → Act → World → Prop), a.tmps.size = N → (∀ a', Upd a a' (writes c) → sl a' d = sl a x → Q .normal a' w) → c.wp Tryd.prog Q a w
def SConst (N d : Nat) (u : Value) (c : Code) : Prop := ∀ (a : Act) (w : World) (Q : Exit → Act → World → Prop), a.tmps.size = N → (∀ a', Upd a a' (writes c) → sl a' d = u → Q .normal a' w) → c.wp Tryd.prog Q a w
def SStore (N sp off d : Nat) (c : Code) : Prop := ∀ (a : Act) (w : World) (Q : Exit → Act → World → Prop) (b o : Nat) (u : Value), a.tmps.size = N → sl a sp = .pointer (some ⟨b, o, none⟩) → (sl a d).oneCell' = true → w.cell? ⟨b, o + off, none⟩ = some u →
  w.frozen? ⟨b, o + off, none⟩ = false → (∀ a', Upd a a' (writes c) → Q .normal a' (w.setCell ⟨b, o + off, none⟩ (sl a d))) → c.wp Tryd.prog Q a w
def SSlice0 (N x : Nat) (c : Code) : Prop := ∀ (a : Act) (w : World) (Q : Exit → Act → World → Prop) (p : Option Addr) (n m : Nat), a.tmps.size = N → sl a x = .slice p n m → (∀ a', Upd a a' (writes c) → sl a' x = .slice p 0 m → Q .normal a' w) → c.wp Tryd.prog Q a w
def SPos (N x t : Nat) (c : Code) : Prop := ∀ (a : Act) (w : World) (Q : Exit → Act → World → Prop) (l : Int), a.tmps.size = N → sl a x = .int .i32 l → (∀ a', Upd a a' (writes c) → sl a' t = .bool (decide (0 < l)) → Q .normal a' w) → c.wp Tryd.prog Q a w
def SApp (N x l : Nat) (z : Array Value) (c : Code) : Prop := ∀ (a : Act) (w : World) (Q : Exit → Act → World → Prop) (n : Nat), a.tmps.size = N → sl a x = .slice none 0 0 → sl a l = .int .i32 (n : Int) → 0 < n → n ≤ 2147483647 →
  (∀ a' w' m arr Ty, Upd a a' (writes c) → sl a' x = .slice (some ⟨w.heap.size, 0, none⟩) n m → w'.heap = w.heap.push (.cells arr Ty (0, 0)) → w'.os = w.os → w'.tape = w.tape → w'.output = w.output → n * z.size ≤ arr.size →
    (∀ i j, i < n → j < z.size → arr[i * z.size + j]? = z[j]?) → Q .normal a' w') → c.wp Tryd.prog Q a w
def SNotOk (E : RE) (t : Nat) (c : Code) : Prop := ∀ (a : Act) (w : World) (Q : Exit → Act → World → Prop) (S : Nat → Prop) (rb : Nat) (st : St), a.tmps.size = E.N → sl a E.rs = .pointer (some ⟨rb, 0, none⟩) → RdIs w S rb st →
  (∀ a', Upd a a' (writes c) → sl a' t = .bool (!st.isSome) → Q .normal a' w) → c.wp Tryd.prog Q a w
def SFail (E : RE) (c : Code) : Prop := ∀ (a : Act) (w : World) (Q : Exit → Act → World → Prop) (S : Nat → Prop) (rb : Nat) (st : St), a.tmps.size = E.N → sl a E.rs = .pointer (some ⟨rb, 0, none⟩) → RdIs w S rb st → ErrOk w →
  (∀ a', Upd a a' (writes c) → ErrV st (sl a' E.res) → Q .normal a' w) → c.wp Tryd.prog Q a w

theorem sload {id N sp d t1 t2 t3 t4 T k off ty : Nat} {ty1 ty2 ty3 ty4 ty5 : TypeId} {p1 p2 p3 p4 p5 : String} {e1 e2 e3 e4 e5 : Array Edge} (hf : offOf Tryd.prog T k = some off) (hl : plainTy Tryd.prog ty = true) (hn : [t1, t2, t3, t4, d].all (· < N) = true) :
    SLoad N sp off d (Code.region id #[⟨some t1, .move (.tmp sp), ty1, p1, e1, none⟩, ⟨some t2, .nilCheck (.tmp t1), ty2, p2, e2, none⟩, ⟨some t3, .fieldAddr T (.tmp t2) k, ty3, p3, e3, none⟩, ⟨some t4, .load ty (.tmp t3), ty4, p4, e4, none⟩,
      ⟨some d, .assign (.tmp t4), ty5, p5, e5, none⟩] false) := by
  intro a w Q b o u hN hsp hc hq
  simp only [List.all_cons, List.all_nil, Bool.and_true, Bool.and_eq_true, decide_eq_true_eq] at hn
  exact reg_loadField (fieldOff_ok hf) (load1_ok hl) (by omega) (by omega) (by omega) (by omega) (by omega) hsp hc hq
theorem scopy {id N x t d : Nat} {ty1 ty2 : TypeId} {p1 p2 : String} {e1 e2 : Array Edge} (hn : [t, d].all (· < N) = true) : SCopy N x d (Code.region id #[⟨some t, .move (.tmp x), ty1, p1, e1, none⟩, ⟨some d, .assign (.tmp t), ty2, p2, e2, none⟩] false) := by
  intro a w Q hN hq
  simp only [List.all_cons, List.all_nil, Bool.and_true, Bool.and_eq_true, decide_eq_true_eq] at hn
  exact reg_copy (by omega) (by omega) hq
theorem sconst {id N d : Nat} {u : Value} {ty1 : TypeId} {p1 : String} {e1 : Array Edge} (hn : [d].all (· < N) = true) : SConst N d u (Code.region id #[⟨some d, .assign (.const u), ty1, p1, e1, none⟩] false) := by
  intro a w Q hN hq
  simp only [List.all_cons, List.all_nil, Bool.and_true, decide_eq_true_eq] at hn
  exact reg_const (by omega) hq
theorem sstore {id N sp off d t1 t2 t3 t4 T k ty : Nat} {ty1 ty2 ty3 ty4 ty5 : TypeId} {p1 p2 p3 p4 p5 : String} {e1 e2 e3 e4 e5 : Array Edge} (hf : offOf Tryd.prog T k = some off) (hty : sizeIs Tryd.prog ty 1 = true) (hn : [t1, t2, t3, t4].all (· < N) = true)
    (hd : decide (t1 ≠ t2 ∧ t1 ≠ d ∧ t2 ≠ t3 ∧ t2 ≠ t4) = true) :
    SStore N sp off d (Code.region id #[⟨some t1, .move (.tmp sp), ty1, p1, e1, none⟩, ⟨some t2, .move (.tmp d), ty2, p2, e2, none⟩, ⟨some t3, .nilCheck (.tmp t1), ty3, p3, e3, none⟩,
      ⟨some t4, .fieldAddr T (.tmp t3) k, ty4, p4, e4, none⟩, ⟨none, .store ty (.tmp t4) (.tmp t2), ty5, p5, e5, none⟩] false) := by
  intro a w Q b o u hN hsp ho hc hfz hq
  simp only [List.all_cons, List.all_nil, Bool.and_true, Bool.and_eq_true, decide_eq_true_eq] at hn hd
  obtain ⟨d1, d2, d3, d4⟩ := hd
  exact reg_storeField (fieldOff_ok hf) (store1_ok hty ho) (by omega) (by omega) (by omega) (by omega) d1 d2 d3 d4 hsp rfl hc hfz hq
/-- A slice's type. -/
def sliceOf (P : Program) (T : Nat) : Option Nat := match P.underlying T with | some (.slice e) => some e | _ => none
theorem sliceOf_ok {P : Program} {T e : Nat} (h : sliceOf P T = some e) : P.underlying T = some (.slice e) := by
  unfold sliceOf at h
  split at h
  · rename_i e' he; cases h; exact he
  · cases h
theorem sizeIs_ok {P : Program} {e n : Nat} (h : sizeIs P e n = true) : ∃ i, P.info? e = some i ∧ i.size = n := by
  unfold sizeIs at h
  split at h
  · rename_i i hi; exact ⟨i, hi, by simpa using h⟩
  · cases h
theorem sslice0 {id N x t1 t2 T e sz : Nat} {ty1 ty2 ty3 : TypeId} {p1 p2 p3 : String} {e1 e2 e3 : Array Edge} (hT : sliceOf Tryd.prog T = some e) (hs : sizeIs Tryd.prog e sz = true) (hn : [t1, t2, x].all (· < N) = true) :
    SSlice0 N x (Code.region id #[⟨some t1, .move (.tmp x), ty1, p1, e1, none⟩, ⟨some t2, .slice T (.tmp t1) none (some (.const (.int .i64 0))) none, ty2, p2, e2, none⟩, ⟨some x, .assign (.tmp t2), ty3, p3, e3, none⟩] false) := by
  intro a w Q p n m hN hx hq
  obtain ⟨i, hi, -⟩ := sizeIs_ok hs
  simp only [List.all_cons, List.all_nil, Bool.and_true, Bool.and_eq_true, decide_eq_true_eq] at hn
  exact reg_slice0 (slice0_of (sliceOf_ok hT) hi) (by omega) (by omega) (by omega) hx hq
theorem spos {id N x t1 t2 : Nat} {T T' ty1 ty2 : TypeId} {p1 p2 : String} {e1 e2 : Array Edge} (hn : [t1, t2].all (· < N) = true) :
    SPos N x t2 (Code.region id #[⟨some t1, .move (.tmp x), ty1, p1, e1, none⟩, ⟨some t2, .binOp .gtr T (.tmp t1) (.const (.int .i32 0)) T', ty2, p2, e2, none⟩] false) := by
  intro a w Q l hN hx hq
  simp only [List.all_cons, List.all_nil, Bool.and_true, Bool.and_eq_true, decide_eq_true_eq] at hn
  exact reg_cmp (r := decide (0 < l)) (by omega) (by omega) (fun y z => eqGuard_gtr ..) (by rw [hx]; exact binOp_gtr ..) hq
/-- An element's zero, and its sizes. -/
def zeroIs (P : Program) (e : Nat) : Option (Array Value) := match P.info? e with
  | some i => (match i.zero with | some z => if i.size = z.cells.size ∧ i.bytes ≤ 131072 ∧ 0 < i.size then some z.cells else none | none => none)
  | none => none
theorem zeroIs_ok {P : Program} {e : Nat} {z : Array Value} (h : zeroIs P e = some z) : ∃ i zv, P.info? e = some i ∧ i.zero = some zv ∧ zv.cells = z ∧ i.size = z.size ∧ i.bytes ≤ 131072 ∧ 0 < i.size := by
  unfold zeroIs at h
  split at h
  · rename_i i hi
    split at h
    · rename_i zv hz
      split at h
      · rename_i hc
        cases h
        exact ⟨i, zv, hi, hz, rfl, hc.1, hc.2.1, hc.2.2⟩
      · cases h
    · cases h
  · cases h
theorem zeroCells_at {z : Array Value} {n i j : Nat} {rest : Array Value} (hi : i < n) (hj : j < z.size) : (Builtin.zeroCells z n ++ rest)[i * z.size + j]? = z[j]? := by
  have h1 : i * z.size + j < n * z.size := by
    have : i * z.size + z.size ≤ n * z.size := by rw [← Nat.succ_mul]; exact Nat.mul_le_mul_right _ hi
    omega
  rw [Array.getElem?_append_left (by simpa [Builtin.zeroCells] using h1)]
  simp only [Builtin.zeroCells, Array.getElem?_map, Array.getElem?_range, h1, if_true, Option.map_some]
  rw [Nat.mul_comm, Nat.mul_add_mod, Nat.mod_eq_of_lt hj]
  simp [hj]
theorem sapp {id N x l t1 t2 t3 T Tn e : Nat} {z : Array Value} {ty1 ty2 ty3 ty4 : TypeId} {p1 p2 p3 p4 : String} {e1 e2 e3 e4 : Array Edge} (hT : sliceOf Tryd.prog T = some e) (hTn : Tryd.prog.underlying Tn = some (.int .i32))
    (hz : zeroIs Tryd.prog e = some z) (hn : [t1, t2, t3, x].all (· < N) = true) (hd : decide (t1 ≠ t2 ∧ t1 ≠ l) = true) :
    SApp N x l z (Code.region id #[⟨some t1, .move (.tmp x), ty1, p1, e1, none⟩, ⟨some t2, .move (.tmp l), ty2, p2, e2, none⟩, ⟨some t3, .call { callee := .builtin .append, args := #[.tmp t1, .tmp t2], argTypes := #[T, Tn] }, ty3, p3, e3, none⟩,
      ⟨some x, .assign (.tmp t3), ty4, p4, e4, none⟩] false) := by
  intro a w Q n hN hx hl h0 h31 hq
  obtain ⟨i, zv, hi, hzv, hzc, hsz, hby, hpos⟩ := zeroIs_ok hz
  simp only [List.all_cons, List.all_nil, Bool.and_true, Bool.and_eq_true, decide_eq_true_eq] at hn hd
  have h48 : n * i.bytes ≤ 281474976710656 := Nat.le_trans (Nat.mul_le_mul h31 hby) (by decide)
  have hr := Lib.run_append_nil_zeros (P := Tryd.prog) w T Tn ty3 e i zv .i32 .i32 (sliceOf_ok hT) hTn hi hzv n h0 hpos (by omega) h48
  refine reg_append0 (by omega) (by omega) (by omega) (by omega) hd.1 hd.2 (by rw [hx, hl]; exact hr) fun a' hu hs => ?_
  refine hq a' _ _ _ e hu hs rfl rfl rfl rfl ?_ ?_
  · rw [hzc]; simp [Builtin.zeroCells]
  · intro i j hi hj; rw [hzc]; exact zeroCells_at hi hj
theorem snotok {E : RE} {id t f d1 : Nat} {tys : Array TypeId} {T ty1 ty2 : TypeId} {p1 p2 : String} {e1 e2 : Array Edge} (hf : f = 88) (hn : [d1, t].all (· < E.N) = true) :
    SNotOk E t (Code.region id #[⟨some d1, .call { callee := .value (.func f), args := #[.tmp E.rs], argTypes := tys }, ty1, p1, e1, none⟩, ⟨some t, .unOp .not T (.tmp d1), ty2, p2, e2, none⟩] false) := by
  intro a w Q S rb st hN hrs hr hq
  subst hf
  simp only [List.all_cons, List.all_nil, Bool.and_true, Bool.and_eq_true, decide_eq_true_eq] at hn
  obtain ⟨fn, hfn, hb, hnn⟩ := hasBody_ok (P := Tryd.prog) (f := 88) (by kernel_rfl)
  refine reg_not hfn hb hnn (by omega) (by omega) ?_
  rw [hrs]
  refine Calls.mono (Ok_any w S rb st hr) ?_
  rintro e w' ⟨rfl, rfl⟩
  exact ⟨_, rfl, hq⟩
theorem sfail {E : RE} {id f d1 : Nat} {tys : Array TypeId} {ty1 ty2 : TypeId} {p1 p2 : String} {e1 e2 : Array Edge} (hf : f = 74) (hn : [d1, E.res].all (· < E.N) = true) :
    SFail E (Code.region id #[⟨some d1, .call { callee := .value (.func f), args := #[.tmp E.rs], argTypes := tys }, ty1, p1, e1, none⟩, ⟨some E.res, .assign (.tmp d1), ty2, p2, e2, none⟩] false) := by
  intro a w Q S rb st hN hrs hr he hq
  subst hf
  simp only [List.all_cons, List.all_nil, Bool.and_true, Bool.and_eq_true, decide_eq_true_eq] at hn
  obtain ⟨fn, hfn, hb, hnn⟩ := hasBody_ok (P := Tryd.prog) (f := 74) (by kernel_rfl)
  refine reg_call1 hfn hb hnn (by omega) (by omega) ?_
  rw [hrs]
  refine Calls.mono (Complete_any w S rb st hr he) ?_
  rintro e w' ⟨u, rfl, hv, rfl⟩
  exact ⟨u, rfl, fun a' hu hs => hq a' hu (by rw [hs]; exact hv)⟩
end Go.Proofs.YtpknjenihcfhlaaDoor
