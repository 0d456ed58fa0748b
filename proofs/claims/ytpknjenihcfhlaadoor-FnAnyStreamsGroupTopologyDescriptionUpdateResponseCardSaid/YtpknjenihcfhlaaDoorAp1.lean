/-
  Code that writes: pieces one behind the other, under a condition; a value's octets. Conditions: none.
-/
import Derived.Test.YtpknjenihcfhlaaDoorRd9
import Derived.Test.YtpknjenihcfhlaaDoorKa6
namespace Go.Proofs.YtpknjenihcfhlaaDoor
open Go.RowKit (Below)
open Kz

/-- The slots of a function that writes: how many, what is written to, the version, whether it is flexible. -/
structure WE where
  N : Nat
  ds : Nat
  vs : Nat
  fs : Option Nat
def WE.slots (E : WE) : List Nat := E.vs :: E.fs.toList

structure FrW (E : WE) (v : Int) (flex : Bool) (a : Act) : Prop where
  size : a.tmps.size = E.N
  defers : a.defers = []
  vs : sl a E.vs = .int .i16 v
  fs : ∀ t, E.fs = some t → sl a t = .bool flex
theorem FrW.upd {E : WE} {v : Int} {flex : Bool} {a a' : Act} {W : List Nat} (h : FrW E v flex a) (hu : Upd a a' W) (hc : ∀ t ∈ E.slots, t ∉ W) : FrW E v flex a' where
  size := hu.size.trans h.size
  defers := hu.defers.trans h.defers
  vs := (hu.same _ (hc _ (by simp [WE.slots]))).trans h.vs
  fs := fun t ht => (hu.same _ (hc _ (by simp [WE.slots, ht]))).trans (h.fs t ht)

/-- Behind a code that writes. -/
def PostA (E : WE) (W : List Nat) (base : Nat) (bs : List UInt8) (a : Act) (w : World) : Exit → Act → World → Prop
  | .normal, a', w' => Upd a a' W ∧ Below base w w' ∧ OwnB w' base (sl a' E.ds) bs
  | _, _, _ => False
/-- What holds ahead of it. -/
structure PreA (E : WE) (v : Int) (flex : Bool) (base : Nat) (K : Nat → Prop) (bs : List UInt8) (a : Act) (w : World) : Prop where
  fr : FrW E v flex a
  le : base ≤ w.heap.size
  kb : ∀ g, K g → g < base
  own : OwnB w base (sl a E.ds) bs
/-- A code that writes a value that lies in a struct. -/
def Ap {α : Type} (E : WE) (v : Int) (flex : Bool) (sp off : Nat) (wrt : α → List UInt8) (R : Rel α) (c : Code) : Prop :=
  ∀ (base : Nat) (K : Nat → Prop) (bs : List UInt8) (a : Act) (w : World) (cb co : Nat) (x : α), PreA E v flex base K bs a w → sl a sp = .pointer (some ⟨cb, co, none⟩) → cb < base → R w K (fun j => w.cell? ⟨cb, co + off + j, none⟩) x →
    bs.length + (wrt x).length ≤ lim2 → c.wp Tryd.prog (PostA E (writes c) base (bs ++ wrt x) a w) a w
/-- A code that writes a value that a slot holds. -/
def Av {α : Type} (E : WE) (v : Int) (flex : Bool) (d : Nat) (wrt : α → List UInt8) (Arg : World → (Nat → Prop) → Value → α → Prop) (c : Code) : Prop :=
  ∀ (base : Nat) (K : Nat → Prop) (bs : List UInt8) (a : Act) (w : World) (x : α), PreA E v flex base K bs a w → Arg w K (sl a d) x → bs.length + (wrt x).length ≤ lim2 → c.wp Tryd.prog (PostA E (writes c) base (bs ++ wrt x) a w) a w
/-- A function that writes. -/
def Writes {α : Type} (f : Nat) (wrt : α → List UInt8) (Arg : World → (Nat → Prop) → Value → α → Prop) : Prop :=
  hasBody Tryd.prog f = true ∧ ∀ (base : Nat) (K : Nat → Prop) (bs : List UInt8) (w : World) (v u : Value) (x : α), OwnB w base v bs → base ≤ w.heap.size → (∀ g, K g → g < base) → Arg w K u x → bs.length + (wrt x).length ≤ lim2 →
    Calls Tryd.prog f #[v, u] w fun e w' => ∃ v', e = .returned v' ∧ OwnB w' base v' (bs ++ wrt x) ∧ Below base w w'

theorem below_cell {w w' : World} {B g i : Nat} (h : Below B w w') (hg : g < B) : w'.cell? ⟨g, i, none⟩ = w.cell? ⟨g, i, none⟩ := cell_kept (h.block g hg)

section
variable {E : WE} {v : Int} {flex : Bool}

theorem PreA.next {base : Nat} {K : Nat → Prop} {bs bs' : List UInt8} {a a' : Act} {w w' : World} {W : List Nat} (h : PreA E v flex base K bs a w) (hu : Upd a a' W) (hc : ∀ t ∈ E.slots, t ∉ W) (hb : Below base w w') (ho : OwnB w' base (sl a' E.ds) bs') : PreA E v flex base K bs' a' w' :=
  ⟨h.fr.upd hu hc, below_size hb h.le, h.kb, ho⟩
theorem PostA.mono {W W' : List Nat} {base : Nat} {bs : List UInt8} {a : Act} {w : World} (h : ∀ t ∈ W, t ∈ W') (e : Exit) (a' : Act) (w' : World) (hq : PostA E W base bs a w e a' w') : PostA E W' base bs a w e a' w' := by
  cases e with
  | normal => exact ⟨hq.1.mono h, hq.2⟩
  | _ => exact hq
/-- Behind another step. -/
theorem PostA.after {W W1 W2 : List Nat} {base : Nat} {bs : List UInt8} {a a1 : Act} {w w1 : World} (hu : Upd a a1 W1) (hb : Below base w w1) (h1 : ∀ t ∈ W1, t ∈ W) (h2 : ∀ t ∈ W2, t ∈ W) (e : Exit) (a' : Act) (w' : World) (hq : PostA E W2 base bs a1 w1 e a' w') : PostA E W base bs a w e a' w' := by
  cases e with
  | normal => exact ⟨(hu.mono h1).trans (hq.1.mono h2), hb.trans hq.2.1, hq.2.2⟩
  | _ => exact hq

theorem Ap.conv {α β : Type} {sp off : Nat} {wrt : α → List UInt8} {wrt' : β → List UInt8} {R : Rel α} {R' : Rel β} {c : Code} (h : Ap E v flex sp off wrt R c) (k : β → α) (hR : ∀ w K cc x, R' w K cc x → R w K cc (k x)) (hw : ∀ w K cc x, R' w K cc x → wrt' x = wrt (k x)) : Ap E v flex sp off wrt' R' c := by
  intro base K bs a w cb co x hp hsp hcb hr hl
  rw [hw _ _ _ _ hr] at hl ⊢
  exact h base K bs a w cb co (k x) hp hsp hcb (hR _ _ _ _ hr) hl

/-- Two pieces, of neighbouring cells. -/
theorem Ap.seq {α β : Type} {sp off n1 n2 : Nat} {w1 : α → List UInt8} {w2 : β → List UInt8} {R1 : Rel α} {R2 : Rel β} {c1 c2 : Code} (h1 : Ap E v flex sp off w1 R1 c1) (h2 : Ap E v flex sp (off + n1) w2 R2 c2) (hcl : clear (sp :: E.slots) c1 = true) (hst : Stable n2 R2) :
    Ap E v flex sp off (fun x : α × β => w1 x.1 ++ w2 x.2) (fun w K c x => R1 w K c x.1 ∧ R2 w K (fun j => c (n1 + j)) x.2) (c1.seq c2) := by
  intro base K bs a w cb co x hp hsp hcb hr hl
  have hcl' := clear_iff hcl
  rw [List.length_append] at hl
  refine wp_seq (wp_mono (h1 base K bs a w cb co x.1 hp hsp hcb hr.1 (by omega)) ?_)
  intro e a1 w1' hq
  cases e with
  | normal =>
    obtain ⟨hu, hb, ho⟩ := hq
    have hsp1 : sl a1 sp = .pointer (some ⟨cb, co, none⟩) := (hu.same _ (hcl' _ (by simp))).trans hsp
    have hr2 : R2 w1' K (fun j => w1'.cell? ⟨cb, co + (off + n1) + j, none⟩) x.2 := by
      refine hst w w1' K K _ _ _ (fun g hg _ => hb.block g (hp.kb g hg)) hb.size (fun g hg => hg) (fun j _ => ?_) hr.2
      rw [below_cell hb hcb, show co + (off + n1) + j = co + off + (n1 + j) by omega]
    refine wp_mono (h2 base K _ a1 w1' cb co x.2 (hp.next hu (fun t ht => hcl' t (List.mem_cons_of_mem _ ht)) hb ho) hsp1 hcb hr2 (by rw [List.length_append]; omega)) ?_
    intro e a2 w2' hq2
    have := PostA.after (W := writes (c1.seq c2)) hu hb (fun t ht => List.mem_append_left _ ht) (fun t ht => List.mem_append_right _ ht) e a2 w2' hq2
    rw [List.append_assoc] at this
    exact this
  | _ => exact hq.elim

/-- A test. -/
def TestW (E : WE) (v : Int) (flex : Bool) (t : Nat) (q : Bool) (r : Code) : Prop :=
  clear (E.ds :: E.slots) r = true ∧ ∀ (a : Act) (w : World) (Q : Exit → Act → World → Prop), FrW E v flex a → (∀ a', Upd a a' (writes r) → sl a' t = .bool q → Q .normal a' w) → r.wp Tryd.prog Q a w
/-- A piece that is run if a test says so. -/
theorem Ap.guard {α : Type} {sp off t : Nat} {q : Bool} {wrt : α → List UInt8} {R : Rel α} {r c : Code} (hT : TestW E v flex t q r) (hsp : clear [sp] r = true) (h : q = true → Ap E v flex sp off wrt R c) :
    Ap E v flex sp off (fun x => if q then wrt x else []) (fun w K cc x => q = true → R w K cc x) (r.seq (Code.cond (.tmp t) c Code.skip)) := by
  intro base K bs a w cb co x hp hspv hcb hr hl
  have hcl := clear_iff hT.1
  have hsp' := clear_iff hsp
  refine wp_seq (hT.2 a w _ hp.fr fun a1 hu hs => ?_)
  have hp1 : PreA E v flex base K bs a1 w := hp.next hu (fun t ht => hcl t (List.mem_cons_of_mem _ ht)) (Below.refl _ _) (by rw [hu.same _ (hcl _ (by simp))]; exact hp.own)
  cases q with
  | true =>
    refine wp_cond_true (by rw [eval_tmp, hs]) (wp_mono (h rfl base K bs a1 w cb co x hp1 ((hu.same _ (hsp' _ (by simp))).trans hspv) hcb (hr rfl) (by simpa using hl)) ?_)
    intro e a2 w2 hq
    exact PostA.after hu (Below.refl _ _) (fun t ht => by simp only [writes, List.mem_append]; exact .inl ht) (fun t ht => by simp only [writes, List.mem_append]; exact .inr (.inl ht)) e a2 w2 hq
  | false =>
    refine wp_cond_false (by rw [eval_tmp, hs]) (wp_skip ?_)
    refine ⟨hu.mono (fun t ht => by simp only [writes, List.mem_append]; exact .inl ht), Below.refl _ _, ?_⟩
    simpa using hp1.own

/-- 'v := s.F', and what is written of it. -/
theorem Ap.load {α : Type} {sp off d : Nat} {wrt : α → List UInt8} {Arg : World → (Nat → Prop) → Value → α → Prop} {c1 c : Code} (h1 : SLoad E.N sp off d c1) (h : Av E v flex d wrt Arg c) (hcl : clear (E.ds :: E.slots) c1 = true) :
    Ap E v flex sp off wrt (fun w K cc x => ∃ u, cc 0 = some u ∧ Arg w K u x) (c1.seq c) := by
  intro base K bs a w cb co x hp hsp hcb ⟨u, hu0, hr⟩ hl
  have hcl' := clear_iff hcl
  refine wp_seq (h1 a w _ cb co u hp.fr.size hsp hu0 fun a1 hu hs => ?_)
  have hp1 : PreA E v flex base K bs a1 w := hp.next hu (fun t ht => hcl' t (List.mem_cons_of_mem _ ht)) (Below.refl _ _) (by rw [hu.same _ (hcl' _ (by simp))]; exact hp.own)
  refine wp_mono (h base K bs a1 w x hp1 (by rw [hs]; exact hr) hl) ?_
  intro e a2 w2 hq
  exact PostA.after hu (Below.refl _ _) (fun t ht => List.mem_append_left _ ht) (fun t ht => List.mem_append_right _ ht) e a2 w2 hq

/-- 'dst = f(dst, x)'. -/
theorem Av.call {α : Type} {id f d t1 t2 t3 : Nat} {tys : Array TypeId} {ty1 ty2 ty3 ty4 : TypeId} {p1 p2 p3 p4 : String} {e1 e2 e3 e4 : Array Edge} {wrt : α → List UInt8} {Arg : World → (Nat → Prop) → Value → α → Prop} (hf : Writes f wrt Arg) (hn : [t1, t2, t3, E.ds].all (· < E.N) = true)
    (hd : decide (t1 ≠ t2 ∧ t1 ≠ d) = true) :
    Av E v flex d wrt Arg (Code.region id #[⟨some t1, .move (.tmp E.ds), ty1, p1, e1, none⟩, ⟨some t2, .move (.tmp d), ty2, p2, e2, none⟩, ⟨some t3, .call { callee := .value (.func f), args := #[.tmp t1, .tmp t2], argTypes := tys }, ty3, p3, e3, none⟩, ⟨some E.ds, .assign (.tmp t3), ty4, p4, e4, none⟩] false) := by
  intro base K bs a w x hp hr hl
  have hsz := hp.fr.size
  simp only [List.all_cons, List.all_nil, Bool.and_true, Bool.and_eq_true, decide_eq_true_eq] at hn hd
  obtain ⟨fn, hfn, hb, hnn⟩ := hasBody_ok hf.1
  refine wp_region_lit (st_move (st_move (st_call2 hfn hb hnn ?_)))
  rw [eval_tmp, sl_put_other _ _ _ _ (fun e => hd.1 e.symm), sl_put_self _ _ _ (by omega), eval_tmp, eval_tmp, sl_put_self _ _ _ (by rw [put_size]; omega), eval_tmp, sl_put_other _ _ _ _ hd.2]
  refine Calls.mono (hf.2 base K bs w _ _ x hp.own hp.le hp.kb hr hl) ?_
  rintro e w' ⟨v', rfl, ho, hbel⟩
  refine ⟨v', rfl, st_assign (wpList_nil ⟨((((Upd.refl a _).put t1 _ (by simp [writes])).put t2 _ (by simp [writes])).put t3 _ (by simp [writes])).put E.ds _ (by simp [writes]), hbel, ?_⟩)⟩
  rw [sl_put_self _ _ _ (by simp only [put_size]; omega), eval_tmp, sl_put_self _ _ _ (by simp only [put_size]; omega)]
  exact ho
/-- 'if isFlexible { .. } else { .. }'. -/
theorem Av.flexG {α : Type} {id t fs d : Nat} {ty : TypeId} {p : String} {eg : Array Edge} {A B : Code} {Arg : World → (Nat → Prop) → Value → α → Prop} (gt : Bool → α → List UInt8) (hfs : E.fs = some fs) (ht : decide (t < E.N) = true) (hnt : (d :: E.ds :: E.slots).contains t = false)
    (hA : Av E v flex d (gt true) Arg A) (hB : Av E v flex d (gt false) Arg B) :
    Av E v flex d (gt flex) Arg ((Code.region id #[⟨some t, .move (.tmp fs), ty, p, eg, none⟩] false).seq (Code.cond (.tmp t) A B)) := by
  intro base K bs a w x hp hr hl
  have hnt' : ∀ s ∈ d :: E.ds :: E.slots, s ∉ [t] := by
    intro s hs
    simp only [List.mem_singleton]
    rintro rfl
    rw [List.contains_eq_mem, decide_eq_false_iff_not] at hnt
    exact hnt hs
  refine wp_seq (reg_move (by rw [hp.fr.size]; exact of_decide_eq_true ht) fun a1 hu hs => ?_)
  have hp1 : PreA E v flex base K bs a1 w := hp.next hu (fun t ht => hnt' t (by simp [ht])) (Below.refl _ _) (by rw [hu.same _ (hnt' _ (by simp))]; exact hp.own)
  have hb : a1.eval (.tmp t) = .bool flex := by rw [eval_tmp, hs, hp.fr.fs _ hfs]
  have hr1 : Arg w K (sl a1 d) x := by rw [hu.same _ (hnt' _ (by simp))]; exact hr
  cases flex with
  | true =>
    refine wp_cond_true hb (wp_mono (hA base K bs a1 w x hp1 hr1 hl) ?_)
    intro e a2 w2 hq
    exact PostA.after hu (Below.refl _ _) (fun t ht => by simp only [writes, List.mem_append]; exact .inl (by simpa [writes] using ht)) (fun t ht => by simp only [writes, List.mem_append]; exact .inr (.inl ht)) e a2 w2 hq
  | false =>
    refine wp_cond_false hb (wp_mono (hB base K bs a1 w x hp1 hr1 hl) ?_)
    intro e a2 w2 hq
    exact PostA.after hu (Below.refl _ _) (fun t ht => by simp only [writes, List.mem_append]; exact .inl (by simpa [writes] using ht)) (fun t ht => by simp only [writes, List.mem_append]; exact .inr (.inr ht)) e a2 w2 hq
end
end Go.Proofs.YtpknjenihcfhlaaDoor
