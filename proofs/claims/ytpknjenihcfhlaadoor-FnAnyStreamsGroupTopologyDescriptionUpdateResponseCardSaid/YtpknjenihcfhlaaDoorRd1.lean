/-
  Code that reads a value into a variable, and puts it into a field; code under a condition. Conditions: none.
-/
import Derived.Test.YtpknjenihcfhlaaDoorRep
namespace Go.Proofs.YtpknjenihcfhlaaDoor
open Go.RowKit (Below)
open Kz

/-! ## Facts of the type table, each a closed question -/
def offOf (P : Program) (T k : Nat) : Option Nat :=
  match P.underlying T with
  | some (.struct fs) => match fs[k]? with
    | some f => match P.info? f.type with
      | some i => if i.size ≠ 0 then some f.offset else none
      | none => none
    | none => none
  | _ => none
theorem fieldOff_ok {P : Program} {T k off : Nat} (h : offOf P T k = some off) : FieldOff P T k off := by
  unfold offOf at h
  split at h
  · rename_i fs h1
    split at h
    · rename_i f h2
      split at h
      · rename_i i h3
        split at h
        · rename_i h4
          exact fieldOff_of h1 h2 (Option.some.inj h) h3 h4
        · cases h
      · cases h
    · cases h
  · cases h
def sizeIs (P : Program) (T n : Nat) : Bool := match P.info? T with | some i => i.size == n | none => false
theorem store1_ok {P : Program} {ty : Nat} {v : Value} (h : sizeIs P ty 1 = true) (hv : v.oneCell' = true) : Store1 P ty v := by
  unfold sizeIs at h
  split at h
  · rename_i i hi; exact store1_of hi (by simpa using h) hv
  · cases h
def plainTy (P : Program) (T : Nat) : Bool := match P.underlying T with | some d => !d.isRow | none => false
theorem load1_ok {P : Program} {ty : Nat} (h : plainTy P ty = true) : Load1 P ty := by
  unfold plainTy at h
  split at h
  · rename_i d hd; exact load1_of hd (by simpa using h)
  · cases h
/-- A function with a body. -/
def hasBody (P : Program) (f : Nat) : Bool := match P.funcs[f]? with | some fn => fn.body.isSome && !(fn.name == "runtime.NumGoroutine") | none => false
theorem hasBody_ok {P : Program} {f : Nat} (h : hasBody P f = true) : ∃ fn, P.funcs[f]? = some fn ∧ fn.body.isSome = true ∧ (fn.name == "runtime.NumGoroutine") = false := by
  unfold hasBody at h
  split at h
  · rename_i fn hf
    simp only [Bool.and_eq_true, Bool.not_eq_true'] at h
    exact ⟨fn, hf, h.1, h.2⟩
  · cases h

/-- A function of the reader. -/
def Reads {α : Type} (f : Nat) (sem : St → α × St) (Ret : World → (Nat → Prop) → Value → α → Prop) : Prop :=
  hasBody Tryd.prog f = true ∧ ∀ (w : World) (S : Nat → Prop) (rb : Nat) (st : St), RdIs w S rb st → ErrOk w → Calls Tryd.prog f #[.pointer (some ⟨rb, 0, none⟩)] w fun e w' =>
    ∃ v, e = .returned v ∧ v.oneCell' = true ∧ RdIs w' S rb (sem st).2 ∧ w.grownBy w' (some rb) ∧ Ret w' (fun g => S g ∨ w.heap.size ≤ g) v (sem st).1
/-- What was said of a value stays. -/
def StableV {α : Type} (Ret : World → (Nat → Prop) → Value → α → Prop) : Prop :=
  ∀ (w w' : World) (K K' : Nat → Prop) (v : Value) (x : α), (∀ g, K g → g < w.heap.size → w'.heap[g]? = w.heap[g]?) → w.heap.size ≤ w'.heap.size → (∀ g, K g → K' g) → Ret w K v x → Ret w' K' v x

/-- Behind a code that leaves a value in a slot. -/
def PostV {α : Type} (W : List Nat) (d : Nat) (g : St → α × St) (Ret : World → (Nat → Prop) → Value → α → Prop) (rb : Nat) (S : Nat → Prop) (st : St) (a : Act) (w : World) : Exit → Act → World → Prop
  | .normal, a', w' => Upd a a' W ∧ RdIs w' S rb (g st).2 ∧ w.grownBy w' (some rb) ∧ (sl a' d).oneCell' = true ∧ Ret w' (fun g => S g ∨ w.heap.size ≤ g) (sl a' d) (g st).1
  | _, _, _ => False
/-- A code that leaves a value in a slot. -/
def Rv {α : Type} (E : RE) (v : Int) (flex : Bool) (d : Nat) (g : St → α × St) (Ret : World → (Nat → Prop) → Value → α → Prop) (c : Code) : Prop :=
  ∀ rb S st a w, Fr E rb v flex a → RdIs w S rb st → ErrOk w → c.wp Tryd.prog (PostV (writes c) d g Ret rb S st a w) a w

section
variable {α : Type} {E : RE} {v : Int} {flex : Bool}

theorem PostV.mono {W W' : List Nat} {d : Nat} {g : St → α × St} {Ret : World → (Nat → Prop) → Value → α → Prop} {rb : Nat} {S : Nat → Prop} {st : St} {a : Act} {w : World} (h : ∀ t ∈ W, t ∈ W') (e : Exit) (a' : Act) (w' : World)
    (hq : PostV W d g Ret rb S st a w e a' w') : PostV W' d g Ret rb S st a w e a' w' := by
  cases e with
  | normal => exact ⟨hq.1.mono h, hq.2⟩
  | _ => exact hq

/-- 'd := b.F()'. -/
theorem Rv.call1 {id f d1 d : Nat} {tys : Array TypeId} {t1 t2 : TypeId} {p1 p2 : String} {e1 e2 : Array Edge} {g : St → α × St} {Ret : World → (Nat → Prop) → Value → α → Prop} (hf : Reads f g Ret) (h1 : d1 < E.N) (h2 : d < E.N) :
    Rv E v flex d g Ret (Code.region id #[⟨some d1, .call { callee := .value (.func f), args := #[.tmp E.rs], argTypes := tys }, t1, p1, e1, none⟩, ⟨some d, .assign (.tmp d1), t2, p2, e2, none⟩] false) := by
  intro rb S st a w hfr hr he
  obtain ⟨fn, hfn, hb, hn⟩ := hasBody_ok hf.1
  refine reg_call1 hfn hb hn (by rw [hfr.size]; exact h1) (by rw [hfr.size]; exact h2) ?_
  rw [hfr.rs]
  refine Calls.mono (hf.2 w S rb st hr he) ?_
  rintro e w' ⟨x, rfl, ho, hr', hg, hret⟩
  exact ⟨x, rfl, fun a' hu hd => ⟨hu, hr', hg, by rw [hd]; exact ho, by rw [hd]; exact hret⟩⟩

/-- 'if isFlexible { .. } else { .. }'. -/
theorem Rv.ifFlex {id t fs d : Nat} {ty : TypeId} {p : String} {eg : Array Edge} {A B : Code} {g : St → α × St} {Ret : World → (Nat → Prop) → Value → α → Prop} (hfs : E.fs = some fs) (ht : t < E.N) (hnt : t ∉ E.slots)
    (hA : flex = true → Rv E v flex d g Ret A) (hB : flex = false → Rv E v flex d g Ret B) :
    Rv E v flex d g Ret ((Code.region id #[⟨some t, .move (.tmp fs), ty, p, eg, none⟩] false).seq (Code.cond (.tmp t) A B)) := by
  intro rb S st a w hfr hr he
  refine wp_seq (reg_move (by rw [hfr.size]; exact ht) fun a' hu hs => ?_)
  have hfr' := hfr.upd hu (fun x hx => by simp only [List.mem_singleton]; rintro rfl; exact hnt hx)
  have hb : a'.eval (.tmp t) = .bool flex := by rw [eval_tmp, hs, hfr.fs _ hfs]
  have hup : ∀ (C : Code) (hC : ∀ x ∈ writes C, x ∈ writes A ∨ x ∈ writes B), ∀ e a2 w2, PostV (writes C) d g Ret rb S st a' w e a2 w2 →
      PostV (writes ((Code.region id #[⟨some t, .move (.tmp fs), ty, p, eg, none⟩] false).seq (Code.cond (.tmp t) A B))) d g Ret rb S st a w e a2 w2 := by
    intro C hC e a2 w2 hq
    cases e with
    | normal =>
      refine ⟨(hu.mono ?_).trans (hq.1.mono ?_), hq.2⟩
      · intro x hx; simp only [List.mem_singleton] at hx; subst hx; simp [writes]
      · intro x hx; simp only [writes, List.mem_append]; exact .inr (hC x hx)
    | _ => exact hq
  cases flex with
  | true => exact wp_cond_true hb (wp_mono (hA rfl rb S st a' w hfr' hr he) (hup A fun x hx => .inl hx))
  | false => exact wp_cond_false hb (wp_mono (hB rfl rb S st a' w hfr' hr he) (hup B fun x hx => .inr hx))
/-- 'if unsafe { .. } else { .. }': not unsafe. -/
theorem Rv.ifUnsafe {id t d : Nat} {ty : TypeId} {p : String} {eg : Array Edge} {A B : Code} {g : St → α × St} {Ret : World → (Nat → Prop) → Value → α → Prop} (ht : t < E.N) (hnt : t ∉ E.slots) (hB : Rv E v flex d g Ret B) :
    Rv E v flex d g Ret ((Code.region id #[⟨some t, .move (.tmp E.us), ty, p, eg, none⟩] false).seq (Code.cond (.tmp t) A B)) := by
  intro rb S st a w hfr hr he
  refine wp_seq (reg_move (by rw [hfr.size]; exact ht) fun a' hu hs => ?_)
  have hfr' := hfr.upd hu (fun x hx => by simp only [List.mem_singleton]; rintro rfl; exact hnt hx)
  have hb : a'.eval (.tmp t) = .bool false := by rw [eval_tmp, hs, hfr.us]
  refine wp_cond_false hb (wp_mono (hB rb S st a' w hfr' hr he) fun e a2 w2 hq => ?_)
  cases e with
  | normal =>
    refine ⟨(hu.mono ?_).trans (hq.1.mono ?_), hq.2⟩
    · intro x hx; simp only [List.mem_singleton] at hx; subst hx; simp [writes]
    · intro x hx; simp only [writes, List.mem_append]; exact .inr (.inr hx)
  | _ => exact hq

/-- A region that writes slots alone, ahead of a code that reads. -/
theorem Rd.before {sp off n : Nat} {ini : (Nat → Option Value) → Prop} {g : St → α × St} {R : World → (Nat → Prop) → (Nat → Option Value) → α → Prop} {r c : Code} (hcl : clear (sp :: E.slots) r = true)
    (hr : ∀ a w Q, a.tmps.size = E.N → (∀ a', Upd a a' (writes r) → Q .normal a' w) → r.wp Tryd.prog Q a w) (h : Rd E v flex sp off n ini g R c) : Rd E v flex sp off n ini g R (r.seq c) := by
  intro rb S st cb co cells T a w hp
  have hcl' := clear_iff hcl
  refine wp_seq (hr a w _ hp.fr.size fun a' hu => ?_)
  refine wp_mono (h rb S st cb co cells T a' w { hp with fr := hp.fr.upd hu (fun t ht => hcl' t (List.mem_cons_of_mem _ ht)), ptr := (hu.same _ (hcl' _ (by simp))).trans hp.ptr }) ?_
  intro e a2 w2 hq
  cases e with
  | normal => exact ⟨(hu.mono (fun t ht => List.mem_append_left _ ht)).trans (hq.1.mono (fun t ht => List.mem_append_right _ ht)), hq.2⟩
  | _ => exact hq

/-- A value is put into a field. -/
theorem Rd.store {id sp off d t1 t2 t3 t4 T k ty : Nat} {ty1 ty2 ty3 ty4 ty5 : TypeId} {p1 p2 p3 p4 p5 : String} {e1 e2 e3 e4 e5 : Array Edge} {c : Code} {ini : (Nat → Option Value) → Prop} {g : St → α × St}
    {Ret : World → (Nat → Prop) → Value → α → Prop} (h : Rv E v flex d g Ret c) (hst : StableV Ret) (hcl : clear (sp :: E.slots) c = true) (hf : offOf Tryd.prog T k = some off) (hty : sizeIs Tryd.prog ty 1 = true) (hn : [t1, t2, t3, t4].all (· < E.N) = true)
    (hd : decide (t1 ≠ t2 ∧ t1 ≠ d ∧ t2 ≠ t3 ∧ t2 ≠ t4) = true) :
    Rd E v flex sp off 1 ini g (fun w K c x => ∃ u, c 0 = some u ∧ Ret w K u x) (c.seq (Code.region id #[⟨some t1, .move (.tmp sp), ty1, p1, e1, none⟩, ⟨some t2, .move (.tmp d), ty2, p2, e2, none⟩, ⟨some t3, .nilCheck (.tmp t1), ty3, p3, e3, none⟩,
      ⟨some t4, .fieldAddr T (.tmp t3) k, ty4, p4, e4, none⟩, ⟨none, .store ty (.tmp t4) (.tmp t2), ty5, p5, e5, none⟩] false)) := by
  intro rb S st cb co cells Ty a w hp
  have hcl' := clear_iff hcl
  simp only [List.all_cons, List.all_nil, Bool.and_true, Bool.and_eq_true, decide_eq_true_eq] at hn hd
  obtain ⟨n1, n2, n3, n4⟩ := hn
  obtain ⟨d1, d2, d3, d4⟩ := hd
  refine wp_seq (wp_mono (h rb S st a w hp.fr hp.rd hp.err) ?_)
  intro e a1 w1 hq
  cases e with
  | normal =>
    obtain ⟨hu, hr, hg, ho, hret⟩ := hq
    have hsz : a1.tmps.size = E.N := hu.size.trans hp.fr.size
    have hrow1 : w1.heap[cb]? = some (.cells cells Ty (0, 0)) := by rw [hg.block cb (Array.getElem?_eq_some_iff.1 hp.row).1 (fun e => hp.ne (Option.some.inj e))]; exact hp.row
    have hfit := hp.fit
    have hlt : co + off < cells.size := by omega
    have hcell : w1.cell? ⟨cb, co + off, none⟩ = some cells[co + off] := by rw [cell_of_row w1 cb (co + off) _ _ _ hrow1]; simp [hlt]
    have hfz : w1.frozen? ⟨cb, co + off, none⟩ = false := by simp [World.frozen?, hrow1]
    refine reg_storeField (fieldOff_ok hf) (store1_ok hty ho) (by omega) (by omega) (by omega) (by omega) d1 d2 d3 d4 ((hu.same _ (hcl' _ (by simp))).trans hp.ptr) rfl hcell hfz fun a' hu' => ?_
    have hmd : Md w1 (w1.setCell ⟨cb, co + off, none⟩ (sl a1 d)) rb cb (co + off) 1 := Md.of_set _ (by omega)
    refine ⟨(hu.mono ?_).trans (hu'.mono ?_), hr.kept (row := some cb) ⟨rfl, rfl, rfl, by simp [World.setCell], fun k _ hk => Below.heap_setCell _ _ _ _ (fun e => hk (by rw [e]))⟩ (fun g hg e => hp.src (by rw [← Option.some.inj e]; exact hg)) (fun e => hp.ne (Option.some.inj e).symm),
      (Md.of_grown hg hp.ne (co + off) 1).trans hmd (by omega) (by omega), cells.setIfInBounds (co + off) (sl a1 d), heap_setCell_row hrow1, ?_⟩
    · intro x hx; simp only [writes, List.mem_append]; exact .inl hx
    · intro x hx; simp only [writes, List.mem_append]; right; simpa [writes] using hx
    · refine ⟨sl a1 d, by simp [hlt], hst w1 _ _ _ _ _ (fun g hg hlt => ?_) (by simp [World.setCell]) (fun g hg => hg) hret⟩
      refine Below.heap_setCell _ _ _ _ ?_
      rintro rfl
      rcases hg with hg | hg
      · exact hp.src hg
      · have := (Array.getElem?_eq_some_iff.1 hp.row).1; omega
  | _ => exact hq.elim
end
end Go.Proofs.YtpknjenihcfhlaaDoor
