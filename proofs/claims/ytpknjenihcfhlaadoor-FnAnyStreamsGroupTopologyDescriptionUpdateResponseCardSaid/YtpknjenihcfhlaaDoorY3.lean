/-
  Messages that are read. Conditions: none.
-/
import Derived.Test.YtpknjenihcfhlaaDoorY2
import Derived.Maps.Own
import Derived.Maps.OwnSet
import Derived.Carry
/-
  Code that reads a value into a variable, and puts it into a field; code under a condition. Conditions: none.
-/
namespace Go.Proofs.YtpknjenihcfhlaaDoor
open Go.RowKit (Below)
open Kz

/-! ## Facts of the type table, each a closed question -/
def offOf (P : Program) (T k : Nat) : Option Nat :=
  match P.underlying T with
  | some (.struct fs) => match fs[k]? with
    | some f => match P.info? f.type with
      | some i => if i.size ≠ 0 then some f.offset else none
      | none => none
    | none => none
  | _ => none
theorem fieldOff_ok {P : Program} {T k off : Nat} (h : offOf P T k = some off) : FieldOff P T k off := by
  unfold offOf at h
  split at h
  · rename_i fs h1
    split at h
    · rename_i f h2
      split at h
      · rename_i i h3
        split at h
        · rename_i h4
          exact fieldOff_of h1 h2 (Option.some.inj h) h3 h4
        · cases h
      · cases h
    · cases h
  · cases h
def sizeIs (P : Program) (T n : Nat) : Bool := match P.info? T with | some i => i.size == n | none => false
theorem store1_ok {P : Program} {ty : Nat} {v : Value} (h : sizeIs P ty 1 = true) (hv : v.oneCell' = true) : Store1 P ty v := by
  unfold sizeIs at h
  split at h
  · rename_i i hi; exact store1_of hi (by simpa using h) hv
  · cases h
def plainTy (P : Program) (T : Nat) : Bool := match P.underlying T with | some d => !d.isRow | none => false
theorem load1_ok {P : Program} {ty : Nat} (h : plainTy P ty = true) : Load1 P ty := by
  unfold plainTy at h
  split at h
  · rename_i d hd; exact load1_of hd (by simpa using h)
  · cases h
/-- A function with a body. -/
def hasBody (P : Program) (f : Nat) : Bool := match P.funcs[f]? with | some fn => fn.body.isSome && !(fn.name == "runtime.NumGoroutine") | none => false
theorem hasBody_ok {P : Program} {f : Nat} (h : hasBody P f = true) : ∃ fn, P.funcs[f]? = some fn ∧ fn.body.isSome = true ∧ (fn.name == "runtime.NumGoroutine") = false := by
  unfold hasBody at h
  split at h
  · rename_i fn hf
    simp only [Bool.and_eq_true, Bool.not_eq_true'] at h
    exact ⟨fn, hf, h.1, h.2⟩
  · cases h

/-- A function of the reader. -/
def Reads {α : Type} (f : Nat) (sem : St → α × St) (Ret : World → (Nat → Prop) → Value → α → Prop) : Prop :=
  hasBody Tryd.prog f = true ∧ ∀ (w : World) (S : Nat → Prop) (rb : Nat) (st : St), RdIs w S rb st → ErrOk w → Calls Tryd.prog f #[.pointer (some ⟨rb, 0, none⟩)] w fun e w' =>
    ∃ v, e = .returned v ∧ v.oneCell' = true ∧ RdIs w' S rb (sem st).2 ∧ w.grownBy w' (some rb) ∧ Ret w' (fun g => S g ∨ w.heap.size ≤ g) v (sem st).1
/-- What was said of a value stays. -/
def StableV {α : Type} (Ret : World → (Nat → Prop) → Value → α → Prop) : Prop :=
  ∀ (w w' : World) (K K' : Nat → Prop) (v : Value) (x : α), (∀ g, K g → g < w.heap.size → w'.heap[g]? = w.heap[g]?) → w.heap.size ≤ w'.heap.size → (∀ g, K g → K' g) → Ret w K v x → Ret w' K' v x

/-- Behind a code that leaves a value in a slot. -/
def PostV {α : Type} (W : List Nat) (d : Nat) (g : St → α × St) (Ret : World → (Nat → Prop) → Value → α → Prop) (rb : Nat) (S : Nat → Prop) (st : St) (a : Act) (w : World) : Exit → Act → World → Prop
  | .normal, a', w' => Upd a a' W ∧ RdIs w' S rb (g st).2 ∧ w.grownBy w' (some rb) ∧ (sl a' d).oneCell' = true ∧ Ret w' (fun g => S g ∨ w.heap.size ≤ g) (sl a' d) (g st).1
  | _, _, _ => False
/-- A code that leaves a value in a slot. -/
def Rv {α : Type} (E : RE) (v : Int) (flex : Bool) (d : Nat) (g : St → α × St) (Ret : World → (Nat → Prop) → Value → α → Prop) (c : Code) : Prop :=
  ∀ rb S st a w, Fr E rb v flex a → RdIs w S rb st → ErrOk w → c.wp Tryd.prog (PostV (writes c) d g Ret rb S st a w) a w

section
variable {α : Type} {E : RE} {v : Int} {flex : Bool}

theorem PostV.mono {W W' : List Nat} {d : Nat} {g : St → α × St} {Ret : World → (Nat → Prop) → Value → α → Prop} {rb : Nat} {S : Nat → Prop} {st : St} {a : Act} {w : World} (h : ∀ t ∈ W, t ∈ W') (e : Exit) (a' : Act) (w' : World)
    (hq : PostV W d g Ret rb S st a w e a' w') : PostV W' d g Ret rb S st a w e a' w' := by
  cases e with
  | normal => exact ⟨hq.1.mono h, hq.2⟩
  | _ => exact hq

/-- 'd := b.F()'. -/
theorem Rv.call1 {id f d1 d : Nat} {tys : Array TypeId} {t1 t2 : TypeId} {p1 p2 : String} {e1 e2 : Array Edge} {g : St → α × St} {Ret : World → (Nat → Prop) → Value → α → Prop} (hf : Reads f g Ret) (h1 : d1 < E.N) (h2 : d < E.N) :
    Rv E v flex d g Ret (Code.region id #[⟨some d1, .call { callee := .value (.func f), args := #[.tmp E.rs], argTypes := tys }, t1, p1, e1, none⟩, ⟨some d, .assign (.tmp d1), t2, p2, e2, none⟩] false) := by
  intro rb S st a w hfr hr he
  obtain ⟨fn, hfn, hb, hn⟩ := hasBody_ok hf.1
  refine reg_call1 hfn hb hn (by rw [hfr.size]; exact h1) (by rw [hfr.size]; exact h2) ?_
  rw [hfr.rs]
  refine Calls.mono (hf.2 w S rb st hr he) ?_
  rintro e w' ⟨x, rfl, ho, hr', hg, hret⟩
  exact ⟨x, rfl, fun a' hu hd => ⟨hu, hr', hg, by rw [hd]; exact ho, by rw [hd]; exact hret⟩⟩

/-- 'if isFlexible { .. } else { .. }'. -/
theorem Rv.ifFlex {id t fs d : Nat} {ty : TypeId} {p : String} {eg : Array Edge} {A B : Code} {g : St → α × St} {Ret : World → (Nat → Prop) → Value → α → Prop} (hfs : E.fs = some fs) (ht : t < E.N) (hnt : t ∉ E.slots)
    (hA : flex = true → Rv E v flex d g Ret A) (hB : flex = false → Rv E v flex d g Ret B) :
    Rv E v flex d g Ret ((Code.region id #[⟨some t, .move (.tmp fs), ty, p, eg, none⟩] false).seq (Code.cond (.tmp t) A B)) := by
  intro rb S st a w hfr hr he
  refine wp_seq (reg_move (by rw [hfr.size]; exact ht) fun a' hu hs => ?_)
  have hfr' := hfr.upd hu (fun x hx => by simp only [List.mem_singleton]; rintro rfl; exact hnt hx)
  have hb : a'.eval (.tmp t) = .bool flex := by rw [eval_tmp, hs, hfr.fs _ hfs]
  have hup : ∀ (C : Code) (hC : ∀ x ∈ writes C, x ∈ writes A ∨ x ∈ writes B), ∀ e a2 w2, PostV (writes C) d g Ret rb S st a' w e a2 w2 →
      PostV (writes ((Code.region id #[⟨some t, .move (.tmp fs), ty, p, eg, none⟩] false).seq (Code.cond (.tmp t) A B))) d g Ret rb S st a w e a2 w2 := by
    intro C hC e a2 w2 hq
    cases e with
    | normal =>
      refine ⟨(hu.mono ?_).trans (hq.1.mono ?_), hq.2⟩
      · intro x hx; simp only [List.mem_singleton] at hx; subst hx; simp [writes]
      · intro x hx; simp only [writes, List.mem_append]; exact .inr (hC x hx)
    | _ => exact hq
  cases flex with
  | true => exact wp_cond_true hb (wp_mono (hA rfl rb S st a' w hfr' hr he) (hup A fun x hx => .inl hx))
  | false => exact wp_cond_false hb (wp_mono (hB rfl rb S st a' w hfr' hr he) (hup B fun x hx => .inr hx))
/-- 'if unsafe { .. } else { .. }': not unsafe. -/
theorem Rv.ifUnsafe {id t d : Nat} {ty : TypeId} {p : String} {eg : Array Edge} {A B : Code} {g : St → α × St} {Ret : World → (Nat → Prop) → Value → α → Prop} (ht : t < E.N) (hnt : t ∉ E.slots) (hB : Rv E v flex d g Ret B) :
    Rv E v flex d g Ret ((Code.region id #[⟨some t, .move (.tmp E.us), ty, p, eg, none⟩] false).seq (Code.cond (.tmp t) A B)) := by
  intro rb S st a w hfr hr he
  refine wp_seq (reg_move (by rw [hfr.size]; exact ht) fun a' hu hs => ?_)
  have hfr' := hfr.upd hu (fun x hx => by simp only [List.mem_singleton]; rintro rfl; exact hnt hx)
  have hb : a'.eval (.tmp t) = .bool false := by rw [eval_tmp, hs, hfr.us]
  refine wp_cond_false hb (wp_mono (hB rb S st a' w hfr' hr he) fun e a2 w2 hq => ?_)
  cases e with
  | normal =>
    refine ⟨(hu.mono ?_).trans (hq.1.mono ?_), hq.2⟩
    · intro x hx; simp only [List.mem_singleton] at hx; subst hx; simp [writes]
    · intro x hx; simp only [writes, List.mem_append]; exact .inr (.inr hx)
  | _ => exact hq

/-- A region that writes slots alone, ahead of a code that reads. -/
theorem Rd.before {sp off n : Nat} {ini : (Nat → Option Value) → Prop} {g : St → α × St} {R : World → (Nat → Prop) → (Nat → Option Value) → α → Prop} {r c : Code} (hcl : clear (sp :: E.slots) r = true)
    (hr : ∀ a w Q, a.tmps.size = E.N → (∀ a', Upd a a' (writes r) → Q .normal a' w) → r.wp Tryd.prog Q a w) (h : Rd E v flex sp off n ini g R c) : Rd E v flex sp off n ini g R (r.seq c) := by
  intro rb S st cb co cells T a w hp
  have hcl' := clear_iff hcl
  refine wp_seq (hr a w _ hp.fr.size fun a' hu => ?_)
  refine wp_mono (h rb S st cb co cells T a' w { hp with fr := hp.fr.upd hu (fun t ht => hcl' t (List.mem_cons_of_mem _ ht)), ptr := (hu.same _ (hcl' _ (by simp))).trans hp.ptr }) ?_
  intro e a2 w2 hq
  cases e with
  | normal => exact ⟨(hu.mono (fun t ht => List.mem_append_left _ ht)).trans (hq.1.mono (fun t ht => List.mem_append_right _ ht)), hq.2⟩
  | _ => exact hq

/-- A value is put into a field. -/
theorem Rd.store {id sp off d t1 t2 t3 t4 T k ty : Nat} {ty1 ty2 ty3 ty4 ty5 : TypeId} {p1 p2 p3 p4 p5 : String} {e1 e2 e3 e4 e5 : Array Edge} {c : Code} {ini : (Nat → Option Value) → Prop} {g : St → α × St}
    {Ret : World → (Nat → Prop) → Value → α → Prop} (h : Rv E v flex d g Ret c) (hst : StableV Ret) (hcl : clear (sp :: E.slots) c = true) (hf : offOf Tryd.prog T k = some off) (hty : sizeIs Tryd.prog ty 1 = true) (hn : [t1, t2, t3, t4].all (· < E.N) = true)
    (hd : decide (t1 ≠ t2 ∧ t1 ≠ d ∧ t2 ≠ t3 ∧ t2 ≠ t4) = true) :
    Rd E v flex sp off 1 ini g (fun w K c x => ∃ u, c 0 = some u ∧ Ret w K u x) (c.seq (Code.region id #[⟨some t1, .move (.tmp sp), ty1, p1, e1, none⟩, ⟨some t2, .move (.tmp d), ty2, p2, e2, none⟩, ⟨some t3, .nilCheck (.tmp t1), ty3, p3, e3, none⟩,
      ⟨some t4, .fieldAddr T (.tmp t3) k, ty4, p4, e4, none⟩, ⟨none, .store ty (.tmp t4) (.tmp t2), ty5, p5, e5, none⟩] false)) := by
  intro rb S st cb co cells Ty a w hp
  have hcl' := clear_iff hcl
  simp only [List.all_cons, List.all_nil, Bool.and_true, Bool.and_eq_true, decide_eq_true_eq] at hn hd
  obtain ⟨n1, n2, n3, n4⟩ := hn
  obtain ⟨d1, d2, d3, d4⟩ := hd
  refine wp_seq (wp_mono (h rb S st a w hp.fr hp.rd hp.err) ?_)
  intro e a1 w1 hq
  cases e with
  | normal =>
    obtain ⟨hu, hr, hg, ho, hret⟩ := hq
    have hsz : a1.tmps.size = E.N := hu.size.trans hp.fr.size
    have hrow1 : w1.heap[cb]? = some (.cells cells Ty (0, 0)) := by rw [hg.block cb (Array.getElem?_eq_some_iff.1 hp.row).1 (fun e => hp.ne (Option.some.inj e))]; exact hp.row
    have hfit := hp.fit
    have hlt : co + off < cells.size := by omega
    have hcell : w1.cell? ⟨cb, co + off, none⟩ = some cells[co + off] := by rw [cell_of_row w1 cb (co + off) _ _ _ hrow1]; simp [hlt]
    have hfz : w1.frozen? ⟨cb, co + off, none⟩ = false := by simp [World.frozen?, hrow1]
    refine reg_storeField (fieldOff_ok hf) (store1_ok hty ho) (by omega) (by omega) (by omega) (by omega) d1 d2 d3 d4 ((hu.same _ (hcl' _ (by simp))).trans hp.ptr) rfl hcell hfz fun a' hu' => ?_
    have hmd : Md w1 (w1.setCell ⟨cb, co + off, none⟩ (sl a1 d)) rb cb (co + off) 1 := Md.of_set _ (by omega)
    refine ⟨(hu.mono ?_).trans (hu'.mono ?_), hr.kept (row := some cb) ⟨rfl, rfl, rfl, by simp [World.setCell], fun k _ hk => Below.heap_setCell _ _ _ _ (fun e => hk (by rw [e]))⟩ (fun g hg e => hp.src (by rw [← Option.some.inj e]; exact hg)) (fun e => hp.ne (Option.some.inj e).symm),
      (Md.of_grown hg hp.ne (co + off) 1).trans hmd (by omega) (by omega), cells.setIfInBounds (co + off) (sl a1 d), heap_setCell_row hrow1, ?_⟩
    · intro x hx; simp only [writes, List.mem_append]; exact .inl hx
    · intro x hx; simp only [writes, List.mem_append]; right; simpa [writes] using hx
    · refine ⟨sl a1 d, by simp [hlt], hst w1 _ _ _ _ _ (fun g hg hlt => ?_) (by simp [World.setCell]) (fun g hg => hg) hret⟩
      refine Below.heap_setCell _ _ _ _ ?_
      rintro rfl
      rcases hg with hg | hg
      · exact hp.src hg
      · have := (Array.getElem?_eq_some_iff.1 hp.row).1; omega
  | _ => exact hq.elim
end
end Go.Proofs.YtpknjenihcfhlaaDoor
/-
  Code under a condition; a field, the fields of a part, its tags. Conditions: none.
-/
namespace Go.Proofs.YtpknjenihcfhlaaDoor
open Go.RowKit (Below)
open Kz

section
variable {E : RE} {v : Int} {flex : Bool}

theorem Rd.conv {α β : Type} {sp off n : Nat} {ini ini' : (Nat → Option Value) → Prop} {g : St → α × St} {g' : St → β × St} {R : Rel α} {R' : Rel β} {c : Code} (h : Rd E v flex sp off n ini g R c)
    (k : α → β) (hg : ∀ st, g' st = (k (g st).1, (g st).2)) (hR : ∀ w K cc x, R w K cc x → R' w K cc (k x)) (hini : ∀ cc, ini' cc → ini cc) : Rd E v flex sp off n ini' g' R' c := by
  intro rb S st cb co cells T a w hp
  refine wp_mono (h rb S st cb co cells T a w { hp with ini := hini _ hp.ini }) ?_
  intro e a2 w2 hq
  cases e with
  | normal =>
    obtain ⟨hu, hr, hm, cells', hrow, hret⟩ := hq
    refine ⟨hu, by rw [hg]; exact hr, hm, cells', hrow, ?_⟩
    rw [hg]
    exact hR _ _ _ _ hret
  | ret =>
    obtain ⟨hn, h2⟩ := hq
    exact ⟨by rw [hg]; exact hn, h2⟩
  | exit id => exact hq
  | goto l => exact hq
  | panic ch => exact hq
  | outgrown => exact hq

/-- A test: it leaves its answer in a slot. -/
def Test (E : RE) (v : Int) (flex : Bool) (t : Nat) (q : Bool) (r : Code) : Prop :=
  clear E.slots r = true ∧ ∀ (rb : Nat) (a : Act) (w : World) (Q : Exit → Act → World → Prop), Fr E rb v flex a → (∀ a', Upd a a' (writes r) → sl a' t = .bool q → Q .normal a' w) → r.wp Tryd.prog Q a w

theorem test_geq {id t1 t2 : Nat} {k : Int} {T T' ty1 ty2 : TypeId} {p1 p2 : String} {e1 e2 : Array Edge} (hn : decide (t1 < E.N ∧ t2 < E.N) = true) (hcl : [t1, t2].all (fun t => !E.slots.contains t) = true) :
    Test E v flex t2 (decide (k ≤ v)) (Code.region id #[⟨some t1, .move (.tmp E.vs), ty1, p1, e1, none⟩, ⟨some t2, .binOp .geq T (.tmp t1) (.const (.int .i16 k)) T', ty2, p2, e2, none⟩] false) := by
  refine ⟨?_, fun rb a w Q hf hq => ?_⟩
  · simp only [List.all_cons, List.all_nil, Bool.and_true, Bool.and_eq_true, Bool.not_eq_true', List.contains_eq_mem, decide_eq_false_iff_not] at hcl
    simp only [clear, writes, List.all_eq_true, List.filterMap_cons, List.filterMap_nil, List.contains_eq_mem, List.mem_cons, List.not_mem_nil, or_false, Bool.not_eq_true', decide_eq_false_iff_not]
    rintro t ht (rfl | rfl)
    · exact hcl.1 ht
    · exact hcl.2 ht
  · simp only [decide_eq_true_eq] at hn
    exact reg_cmp (r := decide (k ≤ v)) (by rw [hf.size]; exact hn.1) (by rw [hf.size]; exact hn.2) (fun y z => eqGuard_geq ..) (by rw [hf.vs]; exact binOp_geq ..) hq
theorem test_leq {id t1 t2 : Nat} {k : Int} {T T' ty1 ty2 : TypeId} {p1 p2 : String} {e1 e2 : Array Edge} (hn : decide (t1 < E.N ∧ t2 < E.N) = true) (hcl : [t1, t2].all (fun t => !E.slots.contains t) = true) :
    Test E v flex t2 (decide (v ≤ k)) (Code.region id #[⟨some t1, .move (.tmp E.vs), ty1, p1, e1, none⟩, ⟨some t2, .binOp .leq T (.tmp t1) (.const (.int .i16 k)) T', ty2, p2, e2, none⟩] false) := by
  refine ⟨?_, fun rb a w Q hf hq => ?_⟩
  · simp only [List.all_cons, List.all_nil, Bool.and_true, Bool.and_eq_true, Bool.not_eq_true', List.contains_eq_mem, decide_eq_false_iff_not] at hcl
    simp only [clear, writes, List.all_eq_true, List.filterMap_cons, List.filterMap_nil, List.contains_eq_mem, List.mem_cons, List.not_mem_nil, or_false, Bool.not_eq_true', decide_eq_false_iff_not]
    rintro t ht (rfl | rfl)
    · exact hcl.1 ht
    · exact hcl.2 ht
  · simp only [decide_eq_true_eq] at hn
    exact reg_cmp (r := decide (v ≤ k)) (by rw [hf.size]; exact hn.1) (by rw [hf.size]; exact hn.2) (fun y z => eqGuard_leq ..) (by rw [hf.vs]; exact binOp_leq ..) hq
theorem test_lss {id t1 t2 : Nat} {k : Int} {T T' ty1 ty2 : TypeId} {p1 p2 : String} {e1 e2 : Array Edge} (hn : decide (t1 < E.N ∧ t2 < E.N) = true) (hcl : [t1, t2].all (fun t => !E.slots.contains t) = true) :
    Test E v flex t2 (decide (v < k)) (Code.region id #[⟨some t1, .move (.tmp E.vs), ty1, p1, e1, none⟩, ⟨some t2, .binOp .lss T (.tmp t1) (.const (.int .i16 k)) T', ty2, p2, e2, none⟩] false) := by
  refine ⟨?_, fun rb a w Q hf hq => ?_⟩
  · simp only [List.all_cons, List.all_nil, Bool.and_true, Bool.and_eq_true, Bool.not_eq_true', List.contains_eq_mem, decide_eq_false_iff_not] at hcl
    simp only [clear, writes, List.all_eq_true, List.filterMap_cons, List.filterMap_nil, List.contains_eq_mem, List.mem_cons, List.not_mem_nil, or_false, Bool.not_eq_true', decide_eq_false_iff_not]
    rintro t ht (rfl | rfl)
    · exact hcl.1 ht
    · exact hcl.2 ht
  · simp only [decide_eq_true_eq] at hn
    exact reg_cmp (r := decide (v < k)) (by rw [hf.size]; exact hn.1) (by rw [hf.size]; exact hn.2) (fun y z => eqGuard_lss ..) (by rw [hf.vs]; exact binOp_lss ..) hq
theorem test_range {id t1 t2 t3 t4 t5 t6 : Nat} {lo hi : Int} {T1 T1' T2 T2' ty1 ty2 ty3 ty4 ty5 ty6 : TypeId} {p1 p2 p3 p4 p5 p6 : String} {e1 e2 e3 e4 e5 e6 : Array Edge}
    (hn : [t1, t2, t3, t4, t5, t6].all (· < E.N) = true) (hcl : [t1, t2, t3, t4, t5, t6].all (fun t => !E.slots.contains t) = true) (hd : decide ([E.vs, t1, t2, t3, t4, t5, t6].Nodup) = true) :
    Test E v flex t6 (decide (lo ≤ v) && decide (v ≤ hi)) (Code.region id #[⟨some t1, .move (.tmp E.vs), ty1, p1, e1, none⟩, ⟨some t2, .binOp .geq T1 (.tmp t1) (.const (.int .i16 lo)) T1', ty2, p2, e2, none⟩, ⟨some t3, .move (.tmp t2), ty3, p3, e3, none⟩,
      ⟨some t4, .move (.tmp E.vs), ty4, p4, e4, some (2, true)⟩, ⟨some t5, .binOp .leq T2 (.tmp t4) (.const (.int .i16 hi)) T2', ty5, p5, e5, some (2, true)⟩, ⟨some t6, .pick (.tmp t3) (.tmp t5) (.const (.bool false)), ty6, p6, e6, none⟩] false) := by
  refine ⟨?_, fun rb a w Q hf hq => ?_⟩
  · simp only [List.all_cons, List.all_nil, Bool.and_true, Bool.and_eq_true, Bool.not_eq_true', List.contains_eq_mem, decide_eq_false_iff_not] at hcl
    obtain ⟨c1, c2, c3, c4, c5, c6⟩ := hcl
    simp only [clear, writes, List.all_eq_true, List.filterMap_cons, List.filterMap_nil, List.contains_eq_mem, List.mem_cons, List.not_mem_nil, or_false, Bool.not_eq_true', decide_eq_false_iff_not]
    rintro t ht (rfl | rfl | rfl | rfl | rfl | rfl)
    · exact c1 ht
    · exact c2 ht
    · exact c3 ht
    · exact c4 ht
    · exact c5 ht
    · exact c6 ht
  · simp only [List.all_cons, List.all_nil, Bool.and_true, Bool.and_eq_true, decide_eq_true_eq] at hn
    obtain ⟨n1, n2, n3, n4, n5, n6⟩ := hn
    have hsz := hf.size
    exact reg_range (by omega) (by omega) (by omega) (by omega) (by omega) (by omega) (of_decide_eq_true hd) hf.vs hq
theorem test_flex {id t fs : Nat} {ty1 : TypeId} {p1 : String} {e1 : Array Edge} (hfs : E.fs = some fs) (hn : decide (t < E.N) = true) (hcl : [t].all (fun t => !E.slots.contains t) = true) :
    Test E v flex t flex (Code.region id #[⟨some t, .move (.tmp fs), ty1, p1, e1, none⟩] false) := by
  refine ⟨?_, fun rb a w Q hf hq => ?_⟩
  · simp only [List.all_cons, List.all_nil, Bool.and_true, Bool.not_eq_true', List.contains_eq_mem, decide_eq_false_iff_not] at hcl
    simp only [clear, writes, List.all_eq_true, List.filterMap_cons, List.filterMap_nil, List.contains_eq_mem, List.mem_cons, List.not_mem_nil, or_false, Bool.not_eq_true', decide_eq_false_iff_not]
    rintro t ht rfl
    exact hcl ht
  · exact reg_move (by rw [hf.size]; exact of_decide_eq_true hn) fun a' hu hs => hq a' hu (by rw [hs, hf.fs _ hfs])

/-- A piece that is run if a test says so. -/
theorem Rd.guard {α : Type} {sp off n t : Nat} {q : Bool} {ini : (Nat → Option Value) → Prop} {g : St → α × St} {z : α} {R : Rel α} {r c : Code} (hT : Test E v flex t q r) (hsp : clear [sp] r = true) (h : q = true → Rd E v flex sp off n ini g R c) :
    Rd E v flex sp off n ini (fun st => if q then g st else (z, st)) (fun w K cc x => q = true → R w K cc x) (r.seq (Code.cond (.tmp t) c Code.skip)) := by
  intro rb S st cb co cells T a w hp
  have hcl := clear_iff hT.1
  have hsp' := clear_iff hsp
  refine wp_seq (hT.2 rb a w _ hp.fr fun a' hu hs => ?_)
  have hfr := hp.fr.upd hu hcl
  cases q with
  | true =>
    refine wp_cond_true (by rw [eval_tmp, hs]) (wp_mono (h rfl rb S st cb co cells T a' w { hp with fr := hfr, ptr := (hu.same _ (hsp' _ (by simp))).trans hp.ptr }) ?_)
    intro e a2 w2 hq
    cases e with
    | normal =>
      obtain ⟨hu2, hr, hm, cells', hrow, hret⟩ := hq
      exact ⟨(hu.mono (fun t ht => by simp only [writes, List.mem_append]; exact .inl ht)).trans (hu2.mono (fun t ht => by simp only [writes, List.mem_append]; exact .inr (.inl ht))), hr, hm, cells', hrow, fun _ => hret⟩
    | ret => exact hq
    | exit id => exact hq
    | goto l => exact hq
    | panic ch => exact hq
    | outgrown => exact hq
  | false =>
    refine wp_cond_false (by rw [eval_tmp, hs]) (wp_skip ?_)
    exact ⟨hu.mono (fun t ht => by simp only [writes, List.mem_append]; exact .inl ht), hp.rd, Md.refl _ _ _ _ _, cells, hp.row, fun h => by cases h⟩
end

/-! ## A field, the fields of a part -/
section
variable (tags : Rel (List (Nat × List UInt8))) (E : RE) (v : Int) (flex ht : Bool)

/-- The code that reads a field that is there. -/
def RdV (sp off : Nat) (f : F) (c : Code) : Prop := Rd E v flex sp off (cellsF ht f) (iniF ht f) (rd v flex f) (repF tags v flex ht f) c
/-- The code of a field, there or not. -/
def RdF (sp off : Nat) (f : F) (c : Code) : Prop := Rd E v flex sp off (cellsF ht f) (iniF ht f) (fun st => if f.tag < 0 ∧ f.has v = true then rd v flex f st else (dfltF f, st)) (fun w K cc t => f.on v flex = true → repF tags v flex ht f w K cc t) c
/-- The code of fields. -/
def RdFs (sp off : Nat) (fs : List F) (c : Code) : Prop := Rd E v flex sp off (cellsFs ht fs) (iniFs ht fs) (plainR v fs (rds v flex fs) (dfltOf fs)) (plainRep v flex ht fs (repFs tags v flex ht fs)) c

/-- Unknown tags, as they are read. -/
def utag (x : List (Nat × List UInt8) × St) : List (Nat × List UInt8) × St :=
  (setTag (rdV x.2).1 (rdSpan (rdV (rdV x.2).2).1 (rdV (rdV x.2).2).2).1 x.1, (rdSpan (rdV (rdV x.2).2).1 (rdV (rdV x.2).2).2).2)
def utags : Nat → List (Nat × List UInt8) × St → List (Nat × List UInt8) × St
  | 0, x => x
  | k + 1, x => utags k (utag x)
def rdTags (st : St) : List (Nat × List UInt8) × St := utags (rdV st).1 ([], (rdV st).2)
/-- The code of fields, and of the tags behind them. -/
def RdTl (sp off : Nat) (fs : List F) (c : Code) : Prop :=
  Rd E v flex sp off (cellsP ht fs) (iniFs ht fs) (fun st => (((plainR v fs (rds v flex fs) (dfltOf fs) st).1, (if flex then rdTags (plainR v fs (rds v flex fs) (dfltOf fs) st).2 else ([], (plainR v fs (rds v flex fs) (dfltOf fs) st).2)).1),
      (if flex then rdTags (plainR v fs (rds v flex fs) (dfltOf fs) st).2 else ([], (plainR v fs (rds v flex fs) (dfltOf fs) st).2)).2))
    (fun w K cc x => plainRep v flex ht fs (repFs tags v flex ht fs) w K cc x.1 ∧ (flex = true → tags w K (fun j => cc (cellsFs ht fs + j)) x.2)) c
/-- The code of a part. -/
def RdP (sp off : Nat) (fs : List F) (c : Code) : Prop := Rd E v flex sp off (cellsP ht fs) (iniFs ht fs) (rdPart v flex fs) (repP tags v flex ht fs) c
end

section
variable {tags : Rel (List (Nat × List UInt8))} {E : RE} {v : Int} {flex ht : Bool}

theorem strict_valR' (kind : Nat) (part : St → T × St) (may flex : Bool) (hp : Strict part) : Strict (valR kind part may flex) := strict_valR kind part may flex hp
theorem strict_fieldR (v : Int) (flex : Bool) (f : F) (part : St → T × St) (hp : Strict part) : Strict (fieldR v flex f part) := by
  unfold fieldR
  split
  · exact strict_listR flex _ _
  · split
    · show (let (p, s) := rdI 1 none; if p ≠ -1 ∧ s.isSome then part s else (Tnull, s)).2 = none
      rfl
    · exact strict_valR _ _ _ _ hp
theorem strict_plain' (v : Int) : ∀ (fs : List F) (gs : List (St → T × St)) (ds : List T), (∀ g ∈ gs, Strict g) → Strict (plainR v fs gs ds)
  | [], [], _, _ => rfl
  | [], _ :: _, _, _ => rfl
  | _ :: _, [], _, _ => rfl
  | f :: fs, g :: gs, ds, h => by
    have ih := strict_plain' v fs gs ds.tail (fun g hg => h g (List.mem_cons_of_mem _ hg))
    show (plainR v (f :: fs) (g :: gs) ds none).2 = none
    simp only [plainR]
    split
    · have h1 : (g none).2 = none := h g (by simp)
      rw [h1]; exact ih
    · exact ih
theorem utags_none : ∀ (n : Nat) (u : List (Nat × List UInt8)), (utags n (u, none)).2 = none
  | 0, _ => rfl
  | n + 1, _ => utags_none n _
theorem strict_rdTags : Strict rdTags := utags_none _ _

mutual
theorem strict_rd (v : Int) (flex : Bool) : ∀ f : F, Strict (rd v flex f)
  | .mk kind frm to null tag dflt of sub => by
    simp only [rd]
    refine strict_fieldR _ _ _ _ ?_
    have h1 := strict_plain' v sub (rds v flex sub) (dfltOf sub) (strict_rds v flex sub)
    show (asmR v flex sub (rds v flex sub) (dfltOf sub) none).2 = none
    simp only [asmR]
    rw [h1]
    split
    · have e : (rdV none).2 = none := rfl
      simp only [e]
      exact strict_tagsR sub (rds v flex sub) (rdV none).1 (plainR v sub (rds v flex sub) (dfltOf sub) none).1 []
    · rfl
theorem strict_rds (v : Int) (flex : Bool) : ∀ fs : List F, ∀ g ∈ rds v flex fs, Strict g
  | [], _, h => by cases h
  | f :: fs, g, h => by
    simp only [rds, List.mem_cons] at h
    rcases h with rfl | h
    · exact strict_rd v flex f
    · exact strict_rds v flex fs g h
end
theorem strict_plainF (v : Int) (flex : Bool) (fs : List F) (ds : List T) : Strict (plainR v fs (rds v flex fs) ds) := strict_plain' v fs _ ds (strict_rds v flex fs)

theorem RdV.always {sp off : Nat} {f : F} {c : Code} (h : RdV tags E v flex ht sp off f c) (hq : decide (f.tag < 0) && f.has v = true) : RdF tags E v flex ht sp off f c := by
  simp only [Bool.and_eq_true, decide_eq_true_eq] at hq
  exact Rd.conv h id (fun st => by rw [if_pos hq]; rfl) (fun w K cc x hx _ => hx) (fun _ h => h)
theorem RdV.guard {sp off t : Nat} {q : Bool} {f : F} {r c : Code} (hT : Test E v flex t q r) (hq : f.has v = q) (ht0 : f.tag < 0) (hsp : clear [sp] r = true) (h : RdV tags E v flex ht sp off f c) :
    RdF tags E v flex ht sp off f (r.seq (Code.cond (.tmp t) c Code.skip)) := by
  subst hq
  refine Rd.conv (Rd.guard (z := dfltF f) hT hsp (fun _ => h)) id (fun st => ?_) (fun w K cc x hx ho => hx ?_) (fun _ h => h)
  · simp only [ht0, true_and, id]
  · simpa [F.on, ht0] using ho

theorem RdFs.one {sp off : Nat} {f : F} {c : Code} (h : RdF tags E v flex ht sp off f c) : RdFs tags E v flex ht sp off [f] c := by
  have e : cellsFs ht [f] = cellsF ht f := rfl
  unfold RdFs
  rw [e]
  refine Rd.conv h (fun x => [x]) (fun st => ?_) (fun w K cc x hx => ⟨x, [], rfl, hx, rfl⟩) (fun _ h => h.1)
  simp only [rds, dfltOf, plainR, List.headD_cons]
theorem RdFs.cons (htg : flex = true → ht = true) (hT : Stable 1 tags) {sp off : Nat} {f : F} {fs : List F} {c1 c2 : Code} (h1 : RdF tags E v flex ht sp off f c1) (hcl : clear (sp :: E.slots) c1 = true) (h2 : RdFs tags E v flex ht sp (off + cellsF ht f) fs c2) :
    RdFs tags E v flex ht sp off (f :: fs) (c1.seq c2) := by
  have h := Rd.seq h1 h2 hcl (fun w w' K K' c c' x hk hs hK hc hx ho => stable_repF htg hT f w w' K K' c c' x hk hs hK hc (hx ho)) (stable_plainF htg hT fs) (strict_plainF v flex fs _) (ini_locFs ht fs) List.cons
  refine Rd.conv h id (fun st => ?_) (fun w K cc x hx => ?_) (fun _ h => h)
  · simp only [rds, dfltOf, plainR, List.headD_cons, List.tail_cons, id]
  · obtain ⟨y, z, rfl, h1, h2⟩ := hx
    exact ⟨y, z, rfl, h1, h2⟩
theorem RdTl.cons (htg : flex = true → ht = true) (hT : Stable 1 tags) {sp off : Nat} {f : F} {fs : List F} {c1 c2 : Code} (h1 : RdF tags E v flex ht sp off f c1) (hcl : clear (sp :: E.slots) c1 = true) (h2 : RdTl tags E v flex ht sp (off + cellsF ht f) fs c2) :
    RdTl tags E v flex ht sp off (f :: fs) (c1.seq c2) := by
  have hst2 : Stable (cellsP ht fs) (fun w K cc (x : List T × List (Nat × List UInt8)) => plainRep v flex ht fs (repFs tags v flex ht fs) w K cc x.1 ∧ (flex = true → tags w K (fun j => cc (cellsFs ht fs + j)) x.2)) := by
    intro w w' K K' c c' x hk hs hK hc hx
    refine ⟨stable_plainF htg hT fs w w' K K' c c' x.1 hk hs hK (fun j hj => hc j (by simp only [cellsP]; omega)) hx.1, fun hf => hT w w' K K' _ _ _ hk hs hK (fun j hj => hc _ ?_) (hx.2 hf)⟩
    simp only [cellsP, htg hf, Bool.toNat_true]; omega
  have hs2 : Strict (fun st => (((plainR v fs (rds v flex fs) (dfltOf fs) st).1, (if flex then rdTags (plainR v fs (rds v flex fs) (dfltOf fs) st).2 else ([], (plainR v fs (rds v flex fs) (dfltOf fs) st).2)).1),
      (if flex then rdTags (plainR v fs (rds v flex fs) (dfltOf fs) st).2 else ([], (plainR v fs (rds v flex fs) (dfltOf fs) st).2)).2)) := by
    have h1 := strict_plainF v flex fs (dfltOf fs)
    unfold Strict at h1 ⊢
    simp only [h1]
    split
    · exact strict_rdTags
    · rfl
  have hloc : ∀ c c' : Nat → Option Value, (∀ j, j < cellsP ht fs → c' j = c j) → iniFs ht fs c → iniFs ht fs c' := fun c c' hc => ini_locFs ht fs c c' (fun j hj => hc j (by simp only [cellsP]; omega))
  have h := Rd.seq h1 h2 hcl (fun w w' K K' c c' x hk hs hK hc hx ho => stable_repF htg hT f w w' K K' c c' x hk hs hK hc (hx ho)) hst2 hs2 hloc (fun x y => (x :: y.1, y.2))
  have e : cellsP ht (f :: fs) = cellsF ht f + cellsP ht fs := by simp only [cellsP, cellsFs]; omega
  unfold RdTl
  rw [e]
  refine Rd.conv h id (fun st => ?_) (fun w K cc x hx => ?_) (fun _ h => h)
  · simp only [rds, dfltOf, plainR, List.headD_cons, List.tail_cons, id]
  · obtain ⟨y, z, rfl, h1, h2, h3⟩ := hx
    refine ⟨⟨y, z.1, rfl, h1, h2⟩, fun hf => ?_⟩
    have := h3 hf
    simp only [cellsFs]
    simp only [Nat.add_assoc]
    exact this
end
end Go.Proofs.YtpknjenihcfhlaaDoor
/-
  The reader's functions, in one form; fields of numbers, texts, octets. Conditions: none.
-/
namespace Go.Proofs.YtpknjenihcfhlaaDoor
open Go.RowKit (Below)
open Kz

def IsInt (k : IntKind) (_ : World) (_ : Nat → Prop) (u : Value) (x : Int) : Prop := u = .int k x
theorem stable_isInt (k : IntKind) : StableV (IsInt k) := fun _ _ _ _ _ _ _ _ _ h => h
def IsNat (k : IntKind) (_ : World) (_ : Nat → Prop) (u : Value) (x : Nat) : Prop := u = .int k x
theorem stable_isNat (k : IntKind) : StableV (IsNat k) := fun _ _ _ _ _ _ _ _ _ h => h
def IsStr (_ : World) (_ : Nat → Prop) (u : Value) (x : T) : Prop := u = strV x.s ∧ x.null = false
theorem stable_isStr : StableV IsStr := fun _ _ _ _ _ _ _ _ _ h => h
def IsBool (_ : World) (_ : Nat → Prop) (u : Value) (x : Nat) : Prop := u = .bool (x != 0)
theorem stable_isBool : StableV IsBool := fun _ _ _ _ _ _ _ _ _ h => h
theorem stable_nstr : StableV NstrV := fun w w' K K' v x hk hs hK h => by
  rcases h with h | ⟨h0, g, h1, h2, h3, h4⟩
  · exact .inl h
  · exact .inr ⟨h0, g, h1, hK g h2, Nat.lt_of_lt_of_le h3 hs, by rw [cell_kept (hk g h2 h3)]; exact h4⟩
def IsBytes (w : World) (K : Nat → Prop) (u : Value) (x : T) : Prop := BytesAt w K u x.s ∧ x.null = false
theorem stable_isBytes : StableV IsBytes := fun _ _ _ _ _ _ hk hs hK h => ⟨stable_bytes hk hs hK h.1, h.2⟩

theorem rd_Int16 : Reads 78 (rdI 2) (IsInt .i16) := ⟨by kernel_rfl, fun w S rb st h _ => Calls.mono (Int16_any w S rb st h) fun e w' ⟨h1, h2, h3⟩ => ⟨_, h1, rfl, h2, h3, rfl⟩⟩
theorem rd_Int32 : Reads 77 (rdI 4) (IsInt .i32) := ⟨by kernel_rfl, fun w S rb st h _ => Calls.mono (Int32_any w S rb st h) fun e w' ⟨h1, h2, h3⟩ => ⟨_, h1, rfl, h2, h3, rfl⟩⟩
theorem rd_Int64 : Reads 94 (rdI 8) (IsInt .i64) := ⟨by kernel_rfl, fun w S rb st h _ => Calls.mono (Int64_any w S rb st h) fun e w' ⟨h1, h2, h3⟩ => ⟨_, h1, rfl, h2, h3, rfl⟩⟩
theorem text_null (flex : Bool) (k : Nat) (st : St) : (rdText flex false k st).1.null = false := by
  simp [rdText, Ts]
theorem octets_null (flex : Bool) (st : St) : (rdOctets flex st).1.null = false := by
  simp only [rdOctets]
  split <;> rfl
theorem rd_String : Reads 93 (rdText false false 2) IsStr := ⟨by kernel_rfl, fun w S rb st h _ => Calls.mono (String_any w S rb st h) fun e w' ⟨h1, h2, h3⟩ => ⟨_, h1, rfl, h2, h3, rfl, text_null _ _ _⟩⟩
theorem rd_CompactString : Reads 92 (rdText true false 2) IsStr := ⟨by kernel_rfl, fun w S rb st h _ => Calls.mono (CompactString_any w S rb st h) fun e w' ⟨h1, h2, h3⟩ => ⟨_, h1, rfl, h2, h3, rfl, text_null _ _ _⟩⟩
theorem nstr_one {w : World} {K : Nat → Prop} {v : Value} {t : T} (h : NstrV w K v t) : v.oneCell' = true := by
  rcases h with ⟨-, rfl⟩ | ⟨-, g, rfl, -⟩ <;> rfl
theorem nstr_mono {w : World} {K K' : Nat → Prop} {v : Value} {t : T} (h : NstrV w K v t) (hK : ∀ g, K g → K' g) : NstrV w K' v t := stable_nstr w w K K' v t (fun _ _ _ => rfl) (Nat.le_refl _) hK h
theorem rd_NullableString : Reads 82 (rdText false true 2) NstrV := ⟨by kernel_rfl, fun w S rb st h _ => Calls.mono (NullableString_any w S rb st h) fun e w' ⟨v, h1, h4, h2, h3⟩ => ⟨v, h1, nstr_one h4, h2, h3, nstr_mono h4 fun g hg => .inr hg⟩⟩
theorem rd_CompactNullableString : Reads 80 (rdText true true 2) NstrV := ⟨by kernel_rfl, fun w S rb st h _ => Calls.mono (CompactNullableString_any w S rb st h) fun e w' ⟨v, h1, h4, h2, h3⟩ => ⟨v, h1, nstr_one h4, h2, h3, nstr_mono h4 fun g hg => .inr hg⟩⟩
theorem bytes_one {w : World} {K : Nat → Prop} {v : Value} {bs : List UInt8} (h : BytesAt w K v bs) : v.oneCell' = true := by
  rcases h with ⟨rfl, -⟩ | ⟨g, o, c, rfl, -⟩ <;> rfl

section
variable {tags : Rel (List (Nat × List UInt8))} {E : RE} {v : Int} {flex ht : Bool}

/-- A code that leaves a value, of a field of one cell, ahead of its store: what is asked of it. -/
def FV (E : RE) (v : Int) (flex : Bool) (f : F) (d : Nat) (c : Code) : Prop :=
  ∃ (α : Type) (g : St → α × St) (Ret : World → (Nat → Prop) → Value → α → Prop) (k : α → T), Rv E v flex d g Ret c ∧ StableV Ret ∧ (∀ st, rd v flex f st = (k (g st).1, (g st).2)) ∧
    ∀ (tags : Rel (List (Nat × List UInt8))) (ht : Bool) w K cc x u, cc 0 = some u → Ret w K u x → repF tags v flex ht f w K cc (k x)

theorem FV.int {k frm to null tag dflt of sub d} {c : Code} (hk : k = 1 ∨ k = 2 ∨ k = 3 ∨ k = 4) (h : Rv E v flex d (rdI (width k)) (IsInt (ikOf k)) c) : FV E v flex (.mk k frm to null tag dflt of sub) d c :=
  ⟨Int, rdI (width k), IsInt (ikOf k), Tn, h, stable_isInt _, fun st => by rcases hk with rfl | rfl | rfl | rfl <;> rfl,
    fun tags ht w K cc x u hc hu => by
      rcases hk with rfl | rfl | rfl | rfl <;> (simp [repF, fieldRep, valRep, Tn]; rw [hc, hu])⟩
theorem rdU2_lt (st : St) : (rdU 2 st).1 < 65536 := by
  cases st with
  | none => decide
  | some bs =>
    simp only [rdU, rdN]
    split
    · rename_i h
      have h1 := beNat_lt (bs.take 2)
      have h2 : (bs.take 2).length = 2 := by rw [List.length_take]; omega
      rw [h2] at h1
      simpa using h1
    · show (0 : Nat) < 65536
      decide
theorem FV.uint {frm to null tag dflt of sub d} {c : Code} (h : Rv E v flex d (rdU 2) (IsNat .u16) c) : FV E v flex (.mk 5 frm to null tag dflt of sub) d c :=
  ⟨Nat, rdU 2, fun w K u x => IsNat .u16 w K u x ∧ x < 65536, fun n => Tn n, fun rb S st a w h1 h2 h3 => wp_mono (h rb S st a w h1 h2 h3) (fun e a' w' hq => by
      cases e with
      | normal => exact ⟨hq.1, hq.2.1, hq.2.2.1, hq.2.2.2.1, hq.2.2.2.2, rdU2_lt st⟩
      | _ => exact hq), fun _ _ _ _ _ _ _ _ _ h => h, fun st => rfl,
    fun tags ht w K cc x u hc hu => by simp [repF, fieldRep, valRep, Tn]; rw [hc, hu.1]; exact ⟨rfl, by have := hu.2; omega⟩⟩
theorem FV.bool {frm to null tag dflt of sub d} {c : Code} (h : Rv E v flex d (rdU 1) IsBool c) : FV E v flex (.mk 0 frm to null tag dflt of sub) d c :=
  ⟨Nat, rdU 1, IsBool, fun n => Tn (if n = 0 then 0 else 1), h, stable_isBool, fun st => rfl,
    fun tags ht w K cc x u hc hu => by
      simp [repF, fieldRep, valRep, Tn]; rw [hc, hu]
      by_cases hx : x = 0 <;> simp [hx]⟩
theorem FV.text {frm to tag dflt of sub d} {c : Code} (h : Rv E v flex d (rdText flex false 2) IsStr c) : FV E v flex (.mk 8 frm to (-1) tag dflt of sub) d c :=
  ⟨T, rdText flex false 2, IsStr, id, h, stable_isStr, fun st => by simp [rd, fieldR, valR, F.may],
    fun tags ht w K cc x u hc hu => by simp [repF, fieldRep, valRep]; rw [hc, hu.1]; exact ⟨rfl, hu.2⟩⟩
theorem FV.ntext {frm to null tag dflt of sub d} {c : Code} (hn : 0 ≤ null) (hv : null ≤ v) (h : Rv E v flex d (rdText flex true 2) NstrV c) (hs : ∀ st, (rdText flex true 2 st).1.null = true → (rdText flex true 2 st).1.s = []) : FV E v flex (.mk 8 frm to null tag dflt of sub) d c :=
  ⟨T, rdText flex true 2, fun w K u x => NstrV w K u x ∧ (x.null = true → x.s = []), id, fun rb S st a w h1 h2 h3 => wp_mono (h rb S st a w h1 h2 h3) (fun e a' w' hq => by
      cases e with
      | normal => exact ⟨hq.1, hq.2.1, hq.2.2.1, hq.2.2.2.1, hq.2.2.2.2, hs st⟩
      | _ => exact hq), fun w w' K K' u x hk hs hK h => ⟨stable_nstr w w' K K' u x hk hs hK h.1, h.2⟩, fun st => by simp [rd, fieldR, valR, F.may, hn, hv],
    fun tags ht w K cc x u hc hu => by
      simp [repF, fieldRep, valRep, hn]; rw [hc]
      obtain ⟨hu, hx⟩ := hu
      rcases hu with ⟨h0, rfl⟩ | ⟨h0, g, rfl, h1, h2, h3⟩
      · rw [if_pos h0]; exact ⟨rfl, hx h0⟩
      · rw [if_neg (by simp [h0])]; exact ⟨g, 0, rfl, h1, h2, h3⟩⟩
theorem FV.bytes {frm to tag dflt of sub d} {c : Code} (h : Rv E v flex d (rdOctets flex) IsBytes c) : FV E v flex (.mk 9 frm to (-1) tag dflt of sub) d c :=
  ⟨T, rdOctets flex, IsBytes, id, h, stable_isBytes, fun st => by simp [rd, fieldR, valR, F.may],
    fun tags ht w K cc x u hc hu => by simp [repF, fieldRep, valRep]; exact ⟨u, hc, hu.1, hu.2⟩⟩
theorem ntext_null (flex : Bool) (k : Nat) (st : St) : (rdText flex true k st).1.null = true → (rdText flex true k st).1.s = [] := by
  simp only [rdText, true_and]
  split
  · intro _; rfl
  · intro h; cases h

/-- A value of one cell is put into its field. -/
theorem RdV.of {id sp off d t1 t2 t3 t4 T k ty : Nat} {ty1 ty2 ty3 ty4 ty5 : TypeId} {p1 p2 p3 p4 p5 : String} {e1 e2 e3 e4 e5 : Array Edge} {f : F} {c : Code} (h : FV E v flex f d c) (hone : cellsF ht f = 1) (hcl : clear (sp :: E.slots) c = true)
    (hf : offOf Tryd.prog T k = some off) (hty : sizeIs Tryd.prog ty 1 = true) (hn : [t1, t2, t3, t4].all (· < E.N) = true) (hd : decide (t1 ≠ t2 ∧ t1 ≠ d ∧ t2 ≠ t3 ∧ t2 ≠ t4) = true) :
    RdV tags E v flex ht sp off f (c.seq (Code.region id #[⟨some t1, .move (.tmp sp), ty1, p1, e1, none⟩, ⟨some t2, .move (.tmp d), ty2, p2, e2, none⟩, ⟨some t3, .nilCheck (.tmp t1), ty3, p3, e3, none⟩,
      ⟨some t4, .fieldAddr T (.tmp t3) k, ty4, p4, e4, none⟩, ⟨none, .store ty (.tmp t4) (.tmp t2), ty5, p5, e5, none⟩] false)) := by
  obtain ⟨α, g, Ret, kk, h1, h2, h3, h4⟩ := h
  unfold RdV
  rw [hone]
  exact Rd.conv (Rd.store (ini := fun _ => True) h1 h2 hcl hf hty hn hd) kk h3 (fun w K cc x ⟨u, hc, hu⟩ => h4 _ _ _ _ _ _ _ hc hu) (fun _ _ => trivial)

/-- A text's variable is first empty. -/
theorem RdV.empty {sp off id d : Nat} {u : Value} {ty : TypeId} {p : String} {e : Array Edge} {f : F} {c : Code} (hd : d < E.N) (hcl : clear (sp :: E.slots) (Code.region id #[⟨some d, .assign (.const u), ty, p, e, none⟩] false) = true) (h : RdV tags E v flex ht sp off f c) :
    RdV tags E v flex ht sp off f ((Code.region id #[⟨some d, .assign (.const u), ty, p, e, none⟩] false).seq c) :=
  Rd.before hcl (fun a w Q ha hq => reg_const (by rw [ha]; exact hd) fun a' hu _ => hq a' hu) h
end
end Go.Proofs.YtpknjenihcfhlaaDoor
/-
  Lists, read: the loop over the elements. Conditions: none.
-/
namespace Go.Proofs.YtpknjenihcfhlaaDoor
open Go.RowKit (Below)
open Kz

/-- A list's element: the code that fills number i. -/
def ElB (E : RE) (v : Int) (flex : Bool) (da di sz : Nat) (g : St → T × St) (R : Rel T) (ini : Cells → Prop) (c : Code) : Prop :=
  ∀ (rb : Nat) (S : Nat → Prop) (st : St) (G o n m i : Nat) (cells : Array Value) (Ty : TypeId) (a : Act) (w : World), Fr E rb v flex a → RdIs w S rb st → ErrOk w → rb ≠ 1 → G ≠ 1 →
    G ≠ rb → ¬ S G → (∀ g, S g → g < w.heap.size) → sl a da = .slice (some ⟨G, o, none⟩) n m → sl a di = .int .i32 (i : Int) → i < n → w.heap[G]? = some (.cells cells Ty (0, 0)) → o + i * sz + sz ≤ cells.size → ini (fun j => cells[o + i * sz + j]?) →
    c.wp Tryd.prog (Post E 0 sz (writes c) g R rb S st G (o + i * sz) Ty a w) a w

/-- The loop of a list. -/
abbrev loopC (id i1 i2 di dl t1 t2 t3 u1 u2 : Nat) (T T' T2 T2' ty1 ty2 ty3 ty4 ty5 ty6 : TypeId) (p1 p2 p3 p4 p5 p6 : String) (e1 e2 e3 e4 e5 e6 : Array Edge) (body : Code) : Code :=
  Code.block id (Code.loop (((Code.region i1 #[⟨some t1, .move (.tmp di), ty1, p1, e1, none⟩, ⟨some t2, .move (.tmp dl), ty2, p2, e2, none⟩, ⟨some t3, .binOp .lss T (.tmp t1) (.tmp t2) T', ty3, p3, e3, none⟩] false).seq (Code.cond (.tmp t3) Code.skip (Code.exit id))).seq
    (body.seq (Code.region i2 #[⟨some u1, .move (.tmp di), ty4, p4, e4, none⟩, ⟨some u2, .binOp .add T2 (.tmp u1) (.const (.int .i32 1)) T2', ty5, p5, e5, none⟩, ⟨some di, .assign (.tmp u2), ty6, p6, e6, none⟩] false))))

theorem wp_inBlock {P : Program} {id : Nat} {c : Code} {Q : Exit → Act → World → Prop} {a : Act} {w : World} (h : c.wp P Q a w) (hx : ∀ a w, ¬ Q (.exit id) a w) : (Code.block id c).wp P Q a w := by
  refine wp_block (wp_mono h ?_)
  intro e a w hq
  cases e with
  | exit id' =>
    by_cases he : id' = id
    · subst he; exact absurd hq (hx _ _)
    · simp only [Exit.inBlock, if_neg he]; exact hq
  | _ => exact hq

theorem rdMany_split {g : St → T × St} {n i : Nat} {st sti : St} {ts : List T} (hi : i < n) (h : rdMany g n st = (ts ++ (rdMany g (n - i) sti).1, (rdMany g (n - i) sti).2)) :
    rdMany g n st = ((ts ++ [(g sti).1]) ++ (rdMany g (n - (i + 1)) (g sti).2).1, (rdMany g (n - (i + 1)) (g sti).2).2) := by
  obtain ⟨k, hk⟩ : ∃ k, n - i = k + 1 := ⟨n - i - 1, by omega⟩
  have hk2 : n - (i + 1) = k := by omega
  rw [hk2, h, hk]
  simp only [rdMany, List.append_assoc, List.singleton_append]

theorem rdMany_len (g : St → T × St) : ∀ (n : Nat) (st : St), (rdMany g n st).1.length = n
  | 0, _ => rfl
  | n + 1, st => by simp only [rdMany, List.length_cons]; rw [rdMany_len g n]

section
variable {E : RE} {v : Int} {flex : Bool}

theorem loop_list {id i1 i2 da di dl t1 t2 t3 u1 u2 sz : Nat} {T' TT T2 T2' ty1 ty2 ty3 ty4 ty5 ty6 : TypeId} {p1 p2 p3 p4 p5 p6 : String} {e1 e2 e3 e4 e5 e6 : Array Edge} {body : Code} {g : St → T × St} {R : Rel T} {ini : Cells → Prop}
    (hE : ElB E v flex da di sz g R ini body) (hs : Strict g) (hst : Stable sz R) (hb : clear (da :: dl :: di :: E.slots) body = true) (hn : [t1, t2, t3, u1, u2, di].all (· < E.N) = true) (hd : decide (t1 ≠ t2 ∧ t1 ≠ dl) = true)
    (hcl : [t1, t2, t3, u1, u2].all (fun t => !(da :: dl :: di :: E.slots).contains t) = true) (hdi : di ∉ da :: dl :: E.slots)
    {rb : Nat} {S : Nat → Prop} {st : St} {G o n m : Nat} {cells : Array Value} {Ty : TypeId} {a0 : Act} {w0 : World} (hfr : Fr E rb v flex a0) (hrd : RdIs w0 S rb st) (her : ErrOk w0) (hr1 : rb ≠ 1) (hG1 : G ≠ 1)
    (hG : G ≠ rb) (hSG : ¬ S G) (hold : ∀ g, S g → g < w0.heap.size) (hda : sl a0 da = .slice (some ⟨G, o, none⟩) n m) (hdl : sl a0 dl = .int .i32 (n : Int)) (hdi0 : sl a0 di = .int .i32 0) (hn31 : n ≤ 2147483647) (hrow : w0.heap[G]? = some (.cells cells Ty (0, 0))) (hfit : o + n * sz ≤ cells.size)
    (hini : ∀ i, i < n → ini (fun j => cells[o + i * sz + j]?)) (hloc : ∀ c c' : Cells, (∀ j, j < sz → c' j = c j) → ini c → ini c') {Q : Exit → Act → World → Prop}
    (hq : ∀ a' w', Upd a0 a' (writes (loopC id i1 i2 di dl t1 t2 t3 u1 u2 T' TT T2 T2' ty1 ty2 ty3 ty4 ty5 ty6 p1 p2 p3 p4 p5 p6 e1 e2 e3 e4 e5 e6 body)) → RdIs w' S rb (rdMany g n st).2 → Md w0 w' rb G o (n * sz) →
      (∀ (k : Nat) x, (rdMany g n st).1[k]? = some x → R w' (fun g => S g ∨ w0.heap.size ≤ g) (fun j => w'.cell? ⟨G, o + k * sz + j, none⟩) x) → Q .normal a' w')
    (hret : ∀ a' w', (rdMany g n st).2 = none → a'.tmps.size = E.N → a'.defers = [] → (∃ t x, sl a' E.res = .iface t x) → Md w0 w' rb G o (n * sz) → Q .ret a' w') :
    (loopC id i1 i2 di dl t1 t2 t3 u1 u2 T' TT T2 T2' ty1 ty2 ty3 ty4 ty5 ty6 p1 p2 p3 p4 p5 p6 e1 e2 e3 e4 e5 e6 body).wp Tryd.prog Q a0 w0 := by
  have hGlt : G < w0.heap.size := (Array.getElem?_eq_some_iff.1 hrow).1
  simp only [List.all_cons, List.all_nil, Bool.and_true, Bool.and_eq_true, decide_eq_true_eq] at hn hd
  obtain ⟨n1, n2, n3, n4, n5, n6⟩ := hn
  have hbc := clear_iff hb
  have hcl' : ∀ t ∈ da :: dl :: di :: E.slots, t ∉ [t1, t2, t3, u1, u2] := by
    intro t ht hx
    have := List.all_eq_true.1 hcl t hx
    simp only [Bool.not_eq_true', List.contains_eq_mem, decide_eq_false_iff_not] at this
    exact this ht
  have hup : ∀ {a a' : Act} {W : List Nat}, Upd a a' W → (∀ t ∈ W, t ∈ [t1, t2, t3, u1, u2] ∨ t = di ∨ t ∈ writes body) → ∀ t ∈ da :: dl :: E.slots, sl a' t = sl a t := by
    intro a a' W hu hW t ht
    refine hu.same t fun hx => ?_
    have ht' : t ∈ da :: dl :: di :: E.slots := by
      simp only [List.mem_cons] at ht ⊢
      rcases ht with h | h | h
      · exact .inl h
      · exact .inr (.inl h)
      · exact .inr (.inr (.inr h))
    rcases hW t hx with h | h | h
    · exact hcl' t ht' h
    · exact hdi (h ▸ ht)
    · exact hbc t ht' h
  let W := writes (loopC id i1 i2 di dl t1 t2 t3 u1 u2 T' TT T2 T2' ty1 ty2 ty3 ty4 ty5 ty6 p1 p2 p3 p4 p5 p6 e1 e2 e3 e4 e5 e6 body)
  have hW : ∀ t, t ∈ W ↔ (t = t1 ∨ t = t2 ∨ t = t3) ∨ t ∈ writes body ∨ (t = u1 ∨ t = u2 ∨ t = di) := by
    intro t; simp [W, writes, or_assoc]
  refine wp_block ?_
  refine wp_loop (I := fun a w => ∃ (i : Nat) (ts : List T) (sti : St), i ≤ n ∧ ts.length = i ∧ Upd a0 a W ∧ sl a di = .int .i32 (i : Int) ∧ RdIs w S rb sti ∧ Md w0 w rb G o (i * sz) ∧
      rdMany g n st = (ts ++ (rdMany g (n - i) sti).1, (rdMany g (n - i) sti).2) ∧ ∀ (k : Nat) x, ts[k]? = some x → R w (fun g => S g ∨ w0.heap.size ≤ g) (fun j => w.cell? ⟨G, o + k * sz + j, none⟩) x)
    (μ := fun a _ => match sl a di with | .int _ i => n - i.toNat | _ => 0)
    ⟨0, [], st, Nat.zero_le _, rfl, Upd.refl _ _, hdi0, hrd, by simpa using Md.refl w0 rb G o 0, by simp, by simp⟩ ?_
  rintro a w ⟨i, ts, sti, hi, hlen, hu, hdi', hrd', hm, hsp, hR⟩
  have hsz : a.tmps.size = E.N := hu.size.trans hfr.size
  have hkeep : ∀ t ∈ da :: dl :: E.slots, sl a t = sl a0 t := hup hu (fun t ht => by
    rcases (hW t).1 ht with (rfl | rfl | rfl) | h | (rfl | rfl | rfl)
    · exact .inl (by simp)
    · exact .inl (by simp)
    · exact .inl (by simp)
    · exact .inr (.inr h)
    · exact .inl (by simp)
    · exact .inl (by simp)
    · exact .inr (.inl rfl))
  have hfr1 : Fr E rb v flex a := {
    size := hsz
    defers := hu.defers.trans hfr.defers
    rs := (hkeep _ (by simp [RE.slots])).trans hfr.rs
    vs := (hkeep _ (by simp [RE.slots])).trans hfr.vs
    us := (hkeep _ (by simp [RE.slots])).trans hfr.us
    fs := fun t ht => (hkeep _ (by simp [RE.slots, ht])).trans (hfr.fs t ht) }
  refine wp_seq (wp_seq (reg_cmp2 (r := decide (i < n)) (by omega) (by omega) (by omega) hd.1 hd.2 (fun x y => eqGuard_lss ..) ?_ fun a1 hu1 hs1 => ?_))
  · rw [hdi', hkeep dl (by simp), hdl, binOp_lss]
    simp
  have hst1 : ∀ t ∈ da :: dl :: di :: E.slots, sl a1 t = sl a t := fun t ht => hu1.same t (fun hx => hcl' t ht (by
    simp only [List.mem_cons, List.not_mem_nil, or_false] at hx ⊢
    rcases hx with h | h | h <;> simp [h]))
  have hfr1' : Fr E rb v flex a1 := hfr1.upd hu1 (fun t ht hx => hcl' t (by simp [ht]) (by
    simp only [List.mem_cons, List.not_mem_nil, or_false] at hx ⊢
    rcases hx with h | h | h <;> simp [h]))
  by_cases hin : i < n
  · refine wp_cond_true (by rw [eval_tmp, hs1]; simp [hin]) (wp_skip ?_)
    have hrowi : ∃ cells', w.heap[G]? = some (.cells cells' Ty (0, 0)) ∧ cells'.size = cells.size ∧ ∀ j, (j < o ∨ o + i * sz ≤ j) → cells'[j]? = cells[j]? := hm.row cells Ty hrow
    obtain ⟨cells', hrow', hcs, hsame⟩ := hrowi
    have hmul : i * sz + sz ≤ n * sz := by rw [← Nat.succ_mul]; exact Nat.mul_le_mul_right _ hin
    refine wp_seq (wp_mono (hE rb S sti G o n m i cells' Ty a1 w hfr1' hrd' (her.md hm hr1 hG1) hr1 hG1 hG hSG (fun g hg => Nat.lt_of_lt_of_le (hold g hg) hm.size) ((hst1 da (by simp)).trans ((hkeep da (by simp)).trans hda)) ((hst1 di (by simp)).trans hdi') hin hrow' (by omega)
      (hloc (fun j => cells[o + i * sz + j]?) _ (fun j _ => hsame _ (.inr (by omega))) (hini i hin))) ?_)
    intro e a2 w2 hq2
    cases e with
    | normal =>
      obtain ⟨hu2, hr2, hm2, cells2, hrow2, hR2⟩ := hq2
      have hd2 : sl a2 di = .int .i32 (i : Int) := (hu2.same _ (hbc di (by simp))).trans ((hst1 di (by simp)).trans hdi')
      refine reg_incr (by rw [hu2.size, hu1.size]; omega) (by rw [hu2.size, hu1.size]; omega) (by rw [hu2.size, hu1.size]; omega) (j := i) (by omega) hd2 fun a3 hu3 hs3 => ?_
      have hm' : Md w0 w2 rb G o ((i + 1) * sz) := by
        have e1 : (i + 1) * sz = i * sz + sz := Nat.succ_mul _ _
        exact hm.trans hm2 (by omega) (by omega)
      refine ⟨⟨i + 1, ts ++ [(g sti).1], (g sti).2, hin, by simp [hlen], ?_, hs3, hr2, hm', rdMany_split hin hsp, ?_⟩, ?_⟩
      · refine ((hu.trans (hu1.mono ?_)).trans (hu2.mono ?_)).trans (hu3.mono ?_)
        · intro t ht; rw [hW]; simp only [List.mem_cons, List.not_mem_nil, or_false] at ht; exact .inl ht
        · intro t ht; rw [hW]; exact .inr (.inl ht)
        · intro t ht; rw [hW]; simp only [List.mem_cons, List.not_mem_nil, or_false] at ht; exact .inr (.inr ht)
      · intro k x hk
        rcases Nat.lt_or_ge k i with hki | hki
        · rw [List.getElem?_append_left (by omega)] at hk
          refine hst w w2 _ _ _ _ x (fun g' hg' hlt => ?_) hm2.size (fun _ h => h) (fun j hj => ?_) (hR k x hk)
          · refine hm2.block g' hlt ?_ ?_
            · rintro rfl
              rcases hg' with h | h
              · exact hrd.1 h
              · exact absurd hrd.lt (by omega)
            · rintro rfl
              rcases hg' with h | h
              · exact hSG h
              · omega
          · obtain ⟨c2, hc2, -, hsame2⟩ := hm2.row cells' Ty hrow'
            rw [cell_of_row w2 G _ _ _ _ hc2, cell_of_row w G _ _ _ _ hrow']
            have : k * sz + sz ≤ i * sz := by rw [← Nat.succ_mul]; exact Nat.mul_le_mul_right _ hki
            exact hsame2 _ (.inl (by omega))
        · rw [List.getElem?_append_right (by omega), hlen] at hk
          have hk0 : k - i = 0 := by
            rcases Nat.eq_zero_or_pos (k - i) with h | h
            · exact h
            · rw [List.getElem?_eq_none (by simp; omega)] at hk; cases hk
          have hki' : k = i := by omega
          subst hki'
          rw [hk0] at hk
          simp only [List.getElem?_cons_zero, Option.some.injEq] at hk
          subst hk
          refine hst w2 w2 _ _ _ _ _ (fun _ _ _ => rfl) (Nat.le_refl _) (fun g' h => h.imp (fun h => h) (fun h => Nat.le_trans hm.size h)) (fun j hj => ?_) hR2
          rw [cell_of_row w2 G _ _ _ _ hrow2]
          rfl
      · rw [hs3, hdi']
        simp only [Int.toNat_natCast]
        omega
    | ret =>
      obtain ⟨hn2, hs2, hd2, hv2, hm2⟩ := hq2
      refine hret a2 w2 ?_ hs2 hd2 hv2 (hm.trans hm2 (by constructor <;> omega) (by omega))
      rw [rdMany_split hin hsp, hn2]
      exact strict_rdMany g hs _
    | exit id => exact hq2.elim
    | goto l => exact hq2.elim
    | panic ch => exact hq2.elim
    | outgrown => exact hq2.elim
  · refine wp_cond_false (by rw [eval_tmp, hs1]; simp [hin]) (wp_exit ?_)
    simp only [Exit.then, Exit.inBlock, if_pos]
    have hin' : i = n := by omega
    subst hin'
    simp only [Nat.sub_self, rdMany, List.append_nil] at hsp
    refine hq a1 w ((hu.trans (hu1.mono ?_))) (by rw [hsp]; exact hrd') hm (by rw [hsp]; exact hR)
    intro t ht; rw [hW]; simp only [List.mem_cons, List.not_mem_nil, or_false] at ht; exact .inl ht
end
end Go.Proofs.YtpknjenihcfhlaaDoor
/-
  Lists, read: the whole code of a list. Conditions: none.
-/
namespace Go.Proofs.YtpknjenihcfhlaaDoor
open Go.RowKit (Below)
open Kz

/-! ## Steps -/
def SLoad (N sp off d : Nat) (c : Code) : Prop := ∀ (a : Act) (w : World) (Q : Exit → Act → World → Prop) (b o : Nat) (u : Value), a.tmps.size = N → sl a sp = .pointer (some ⟨b, o, none⟩) → w.cell? ⟨b, o + off, none⟩ = some u →
  (∀ a', Upd a a' (writes c) → sl a' d = u → Q .normal a' w) → c.wp Tryd.prog Q a w
def SCopy (N x d : Nat) (c : Code) : Prop := ∀ (a : Act) (w : World) (Q : Exit → Act → World → Prop), a.tmps.size = N → (∀ a', Upd a a' (writes c) → sl a' d = sl a x → Q .normal a' w) → c.wp Tryd.prog Q a w
def SConst (N d : Nat) (u : Value) (c : Code) : Prop := ∀ (a : Act) (w : World) (Q : Exit → Act → World → Prop), a.tmps.size = N → (∀ a', Upd a a' (writes c) → sl a' d = u → Q .normal a' w) → c.wp Tryd.prog Q a w
def SStore (N sp off d : Nat) (c : Code) : Prop := ∀ (a : Act) (w : World) (Q : Exit → Act → World → Prop) (b o : Nat) (u : Value), a.tmps.size = N → sl a sp = .pointer (some ⟨b, o, none⟩) → (sl a d).oneCell' = true → w.cell? ⟨b, o + off, none⟩ = some u →
  w.frozen? ⟨b, o + off, none⟩ = false → (∀ a', Upd a a' (writes c) → Q .normal a' (w.setCell ⟨b, o + off, none⟩ (sl a d))) → c.wp Tryd.prog Q a w
def SSlice0 (N x : Nat) (c : Code) : Prop := ∀ (a : Act) (w : World) (Q : Exit → Act → World → Prop) (p : Option Addr) (n m : Nat), a.tmps.size = N → sl a x = .slice p n m → (∀ a', Upd a a' (writes c) → sl a' x = .slice p 0 m → Q .normal a' w) → c.wp Tryd.prog Q a w
def SPos (N x t : Nat) (c : Code) : Prop := ∀ (a : Act) (w : World) (Q : Exit → Act → World → Prop) (l : Int), a.tmps.size = N → sl a x = .int .i32 l → (∀ a', Upd a a' (writes c) → sl a' t = .bool (decide (0 < l)) → Q .normal a' w) → c.wp Tryd.prog Q a w
def SApp (N x l : Nat) (z : Array Value) (c : Code) : Prop := ∀ (a : Act) (w : World) (Q : Exit → Act → World → Prop) (n : Nat), a.tmps.size = N → sl a x = .slice none 0 0 → sl a l = .int .i32 (n : Int) → 0 < n → n ≤ 2147483647 →
  (∀ a' w' m arr Ty, Upd a a' (writes c) → sl a' x = .slice (some ⟨w.heap.size, 0, none⟩) n m → w'.heap = w.heap.push (.cells arr Ty (0, 0)) → w'.os = w.os → w'.tape = w.tape → w'.output = w.output → n * z.size ≤ arr.size →
    (∀ i j, i < n → j < z.size → arr[i * z.size + j]? = z[j]?) → Q .normal a' w') → c.wp Tryd.prog Q a w
def SNotOk (E : RE) (t : Nat) (c : Code) : Prop := ∀ (a : Act) (w : World) (Q : Exit → Act → World → Prop) (S : Nat → Prop) (rb : Nat) (st : St), a.tmps.size = E.N → sl a E.rs = .pointer (some ⟨rb, 0, none⟩) → RdIs w S rb st →
  (∀ a', Upd a a' (writes c) → sl a' t = .bool (!st.isSome) → Q .normal a' w) → c.wp Tryd.prog Q a w
def SFail (E : RE) (c : Code) : Prop := ∀ (a : Act) (w : World) (Q : Exit → Act → World → Prop) (S : Nat → Prop) (rb : Nat) (st : St), a.tmps.size = E.N → sl a E.rs = .pointer (some ⟨rb, 0, none⟩) → RdIs w S rb st → ErrOk w →
  (∀ a', Upd a a' (writes c) → ErrV st (sl a' E.res) → Q .normal a' w) → c.wp Tryd.prog Q a w

theorem sload {id N sp d t1 t2 t3 t4 T k off ty : Nat} {ty1 ty2 ty3 ty4 ty5 : TypeId} {p1 p2 p3 p4 p5 : String} {e1 e2 e3 e4 e5 : Array Edge} (hf : offOf Tryd.prog T k = some off) (hl : plainTy Tryd.prog ty = true) (hn : [t1, t2, t3, t4, d].all (· < N) = true) :
    SLoad N sp off d (Code.region id #[⟨some t1, .move (.tmp sp), ty1, p1, e1, none⟩, ⟨some t2, .nilCheck (.tmp t1), ty2, p2, e2, none⟩, ⟨some t3, .fieldAddr T (.tmp t2) k, ty3, p3, e3, none⟩, ⟨some t4, .load ty (.tmp t3), ty4, p4, e4, none⟩,
      ⟨some d, .assign (.tmp t4), ty5, p5, e5, none⟩] false) := by
  intro a w Q b o u hN hsp hc hq
  simp only [List.all_cons, List.all_nil, Bool.and_true, Bool.and_eq_true, decide_eq_true_eq] at hn
  exact reg_loadField (fieldOff_ok hf) (load1_ok hl) (by omega) (by omega) (by omega) (by omega) (by omega) hsp hc hq
theorem scopy {id N x t d : Nat} {ty1 ty2 : TypeId} {p1 p2 : String} {e1 e2 : Array Edge} (hn : [t, d].all (· < N) = true) : SCopy N x d (Code.region id #[⟨some t, .move (.tmp x), ty1, p1, e1, none⟩, ⟨some d, .assign (.tmp t), ty2, p2, e2, none⟩] false) := by
  intro a w Q hN hq
  simp only [List.all_cons, List.all_nil, Bool.and_true, Bool.and_eq_true, decide_eq_true_eq] at hn
  exact reg_copy (by omega) (by omega) hq
theorem sconst {id N d : Nat} {u : Value} {ty1 : TypeId} {p1 : String} {e1 : Array Edge} (hn : [d].all (· < N) = true) : SConst N d u (Code.region id #[⟨some d, .assign (.const u), ty1, p1, e1, none⟩] false) := by
  intro a w Q hN hq
  simp only [List.all_cons, List.all_nil, Bool.and_true, decide_eq_true_eq] at hn
  exact reg_const (by omega) hq
theorem sstore {id N sp off d t1 t2 t3 t4 T k ty : Nat} {ty1 ty2 ty3 ty4 ty5 : TypeId} {p1 p2 p3 p4 p5 : String} {e1 e2 e3 e4 e5 : Array Edge} (hf : offOf Tryd.prog T k = some off) (hty : sizeIs Tryd.prog ty 1 = true) (hn : [t1, t2, t3, t4].all (· < N) = true)
    (hd : decide (t1 ≠ t2 ∧ t1 ≠ d ∧ t2 ≠ t3 ∧ t2 ≠ t4) = true) :
    SStore N sp off d (Code.region id #[⟨some t1, .move (.tmp sp), ty1, p1, e1, none⟩, ⟨some t2, .move (.tmp d), ty2, p2, e2, none⟩, ⟨some t3, .nilCheck (.tmp t1), ty3, p3, e3, none⟩,
      ⟨some t4, .fieldAddr T (.tmp t3) k, ty4, p4, e4, none⟩, ⟨none, .store ty (.tmp t4) (.tmp t2), ty5, p5, e5, none⟩] false) := by
  intro a w Q b o u hN hsp ho hc hfz hq
  simp only [List.all_cons, List.all_nil, Bool.and_true, Bool.and_eq_true, decide_eq_true_eq] at hn hd
  obtain ⟨d1, d2, d3, d4⟩ := hd
  exact reg_storeField (fieldOff_ok hf) (store1_ok hty ho) (by omega) (by omega) (by omega) (by omega) d1 d2 d3 d4 hsp rfl hc hfz hq
/-- A slice's type. -/
def sliceOf (P : Program) (T : Nat) : Option Nat := match P.underlying T with | some (.slice e) => some e | _ => none
theorem sliceOf_ok {P : Program} {T e : Nat} (h : sliceOf P T = some e) : P.underlying T = some (.slice e) := by
  unfold sliceOf at h
  split at h
  · rename_i e' he; cases h; exact he
  · cases h
theorem sizeIs_ok {P : Program} {e n : Nat} (h : sizeIs P e n = true) : ∃ i, P.info? e = some i ∧ i.size = n := by
  unfold sizeIs at h
  split at h
  · rename_i i hi; exact ⟨i, hi, by simpa using h⟩
  · cases h
theorem sslice0 {id N x t1 t2 T e sz : Nat} {ty1 ty2 ty3 : TypeId} {p1 p2 p3 : String} {e1 e2 e3 : Array Edge} (hT : sliceOf Tryd.prog T = some e) (hs : sizeIs Tryd.prog e sz = true) (hn : [t1, t2, x].all (· < N) = true) :
    SSlice0 N x (Code.region id #[⟨some t1, .move (.tmp x), ty1, p1, e1, none⟩, ⟨some t2, .slice T (.tmp t1) none (some (.const (.int .i64 0))) none, ty2, p2, e2, none⟩, ⟨some x, .assign (.tmp t2), ty3, p3, e3, none⟩] false) := by
  intro a w Q p n m hN hx hq
  obtain ⟨i, hi, -⟩ := sizeIs_ok hs
  simp only [List.all_cons, List.all_nil, Bool.and_true, Bool.and_eq_true, decide_eq_true_eq] at hn
  exact reg_slice0 (slice0_of (sliceOf_ok hT) hi) (by omega) (by omega) (by omega) hx hq
theorem spos {id N x t1 t2 : Nat} {T T' ty1 ty2 : TypeId} {p1 p2 : String} {e1 e2 : Array Edge} (hn : [t1, t2].all (· < N) = true) :
    SPos N x t2 (Code.region id #[⟨some t1, .move (.tmp x), ty1, p1, e1, none⟩, ⟨some t2, .binOp .gtr T (.tmp t1) (.const (.int .i32 0)) T', ty2, p2, e2, none⟩] false) := by
  intro a w Q l hN hx hq
  simp only [List.all_cons, List.all_nil, Bool.and_true, Bool.and_eq_true, decide_eq_true_eq] at hn
  exact reg_cmp (r := decide (0 < l)) (by omega) (by omega) (fun y z => eqGuard_gtr ..) (by rw [hx]; exact binOp_gtr ..) hq
/-- An element's zero, and its sizes. -/
def zeroIs (P : Program) (e : Nat) : Option (Array Value) := match P.info? e with
  | some i => (match i.zero with | some z => if i.size = z.cells.size ∧ i.bytes ≤ 131072 ∧ 0 < i.size then some z.cells else none | none => none)
  | none => none
theorem zeroIs_ok {P : Program} {e : Nat} {z : Array Value} (h : zeroIs P e = some z) : ∃ i zv, P.info? e = some i ∧ i.zero = some zv ∧ zv.cells = z ∧ i.size = z.size ∧ i.bytes ≤ 131072 ∧ 0 < i.size := by
  unfold zeroIs at h
  split at h
  · rename_i i hi
    split at h
    · rename_i zv hz
      split at h
      · rename_i hc
        cases h
        exact ⟨i, zv, hi, hz, rfl, hc.1, hc.2.1, hc.2.2⟩
      · cases h
    · cases h
  · cases h
theorem zeroCells_at {z : Array Value} {n i j : Nat} {rest : Array Value} (hi : i < n) (hj : j < z.size) : (Builtin.zeroCells z n ++ rest)[i * z.size + j]? = z[j]? := by
  have h1 : i * z.size + j < n * z.size := by
    have : i * z.size + z.size ≤ n * z.size := by rw [← Nat.succ_mul]; exact Nat.mul_le_mul_right _ hi
    omega
  rw [Array.getElem?_append_left (by simpa [Builtin.zeroCells] using h1)]
  simp only [Builtin.zeroCells, Array.getElem?_map, Array.getElem?_range, h1, if_true, Option.map_some]
  rw [Nat.mul_comm, Nat.mul_add_mod, Nat.mod_eq_of_lt hj]
  simp [hj]
theorem sapp {id N x l t1 t2 t3 T Tn e : Nat} {z : Array Value} {ty1 ty2 ty3 ty4 : TypeId} {p1 p2 p3 p4 : String} {e1 e2 e3 e4 : Array Edge} (hT : sliceOf Tryd.prog T = some e) (hTn : Tryd.prog.underlying Tn = some (.int .i32))
    (hz : zeroIs Tryd.prog e = some z) (hn : [t1, t2, t3, x].all (· < N) = true) (hd : decide (t1 ≠ t2 ∧ t1 ≠ l) = true) :
    SApp N x l z (Code.region id #[⟨some t1, .move (.tmp x), ty1, p1, e1, none⟩, ⟨some t2, .move (.tmp l), ty2, p2, e2, none⟩, ⟨some t3, .call { callee := .builtin .append, args := #[.tmp t1, .tmp t2], argTypes := #[T, Tn] }, ty3, p3, e3, none⟩,
      ⟨some x, .assign (.tmp t3), ty4, p4, e4, none⟩] false) := by
  intro a w Q n hN hx hl h0 h31 hq
  obtain ⟨i, zv, hi, hzv, hzc, hsz, hby, hpos⟩ := zeroIs_ok hz
  simp only [List.all_cons, List.all_nil, Bool.and_true, Bool.and_eq_true, decide_eq_true_eq] at hn hd
  have h48 : n * i.bytes ≤ 281474976710656 := Nat.le_trans (Nat.mul_le_mul h31 hby) (by decide)
  have hr := Lib.run_append_nil_zeros (P := Tryd.prog) w T Tn ty3 e i zv .i32 .i32 (sliceOf_ok hT) hTn hi hzv n h0 hpos (by omega) h48
  refine reg_append0 (by omega) (by omega) (by omega) (by omega) hd.1 hd.2 (by rw [hx, hl]; exact hr) fun a' hu hs => ?_
  refine hq a' _ _ _ e hu hs rfl rfl rfl rfl ?_ ?_
  · rw [hzc]; simp [Builtin.zeroCells]
  · intro i j hi hj; rw [hzc]; exact zeroCells_at hi hj
theorem snotok {E : RE} {id t f d1 : Nat} {tys : Array TypeId} {T ty1 ty2 : TypeId} {p1 p2 : String} {e1 e2 : Array Edge} (hf : f = 98) (hn : [d1, t].all (· < E.N) = true) :
    SNotOk E t (Code.region id #[⟨some d1, .call { callee := .value (.func f), args := #[.tmp E.rs], argTypes := tys }, ty1, p1, e1, none⟩, ⟨some t, .unOp .not T (.tmp d1), ty2, p2, e2, none⟩] false) := by
  intro a w Q S rb st hN hrs hr hq
  subst hf
  simp only [List.all_cons, List.all_nil, Bool.and_true, Bool.and_eq_true, decide_eq_true_eq] at hn
  obtain ⟨fn, hfn, hb, hnn⟩ := hasBody_ok (P := Tryd.prog) (f := 98) (by kernel_rfl)
  refine reg_not hfn hb hnn (by omega) (by omega) ?_
  rw [hrs]
  refine Calls.mono (Ok_any w S rb st hr) ?_
  rintro e w' ⟨rfl, rfl⟩
  exact ⟨_, rfl, hq⟩
theorem sfail {E : RE} {id f d1 : Nat} {tys : Array TypeId} {ty1 ty2 : TypeId} {p1 p2 : String} {e1 e2 : Array Edge} (hf : f = 84) (hn : [d1, E.res].all (· < E.N) = true) :
    SFail E (Code.region id #[⟨some d1, .call { callee := .value (.func f), args := #[.tmp E.rs], argTypes := tys }, ty1, p1, e1, none⟩, ⟨some E.res, .assign (.tmp d1), ty2, p2, e2, none⟩] false) := by
  intro a w Q S rb st hN hrs hr he hq
  subst hf
  simp only [List.all_cons, List.all_nil, Bool.and_true, Bool.and_eq_true, decide_eq_true_eq] at hn
  obtain ⟨fn, hfn, hb, hnn⟩ := hasBody_ok (P := Tryd.prog) (f := 84) (by kernel_rfl)
  refine reg_call1 hfn hb hnn (by omega) (by omega) ?_
  rw [hrs]
  refine Calls.mono (Complete_any w S rb st hr he) ?_
  rintro e w' ⟨u, rfl, hv, rfl⟩
  exact ⟨u, rfl, fun a' hu hs => hq a' hu (by rw [hs]; exact hv)⟩
end Go.Proofs.YtpknjenihcfhlaaDoor
/-
  Lists, read: the whole code of a list; its elements. Conditions: none.
-/
namespace Go.Proofs.YtpknjenihcfhlaaDoor
open Go.RowKit (Below)
open Kz

section
variable {tags : Rel (List (Nat × List UInt8))} {E : RE} {v : Int} {flex ht : Bool}

/-- A loop over the elements. -/
def SLoop (E : RE) (v : Int) (flex : Bool) (da di dl sz : Nat) (g : St → T × St) (R : Rel T) (ini : Cells → Prop) (c : Code) : Prop :=
  ∀ (rb : Nat) (S : Nat → Prop) (st : St) (n : Nat) (a0 : Act) (w0 : World), Fr E rb v flex a0 → RdIs w0 S rb st → ErrOk w0 → rb ≠ 1 → (∀ g, S g → g < w0.heap.size) → sl a0 di = .int .i32 0 → n ≤ 2147483647 →
    (∀ (G o m : Nat) (cells : Array Value) (Ty : TypeId) (Q : Exit → Act → World → Prop), sl a0 dl = .int .i32 (n : Int) → G ≠ 1 → G ≠ rb → ¬ S G → sl a0 da = .slice (some ⟨G, o, none⟩) n m →
      w0.heap[G]? = some (.cells cells Ty (0, 0)) → o + n * sz ≤ cells.size → (∀ i, i < n → ini (fun j => cells[o + i * sz + j]?)) →
      (∀ a' w', Upd a0 a' (writes c) → RdIs w' S rb (rdMany g n st).2 → Md w0 w' rb G o (n * sz) →
        (∀ (k : Nat) x, (rdMany g n st).1[k]? = some x → R w' (fun g => S g ∨ w0.heap.size ≤ g) (fun j => w'.cell? ⟨G, o + k * sz + j, none⟩) x) → Q .normal a' w') →
      (∀ a' w', (rdMany g n st).2 = none → a'.tmps.size = E.N → a'.defers = [] → (∃ t x, sl a' E.res = .iface t x) → Md w0 w' rb G o (n * sz) → Q .ret a' w') →
      c.wp Tryd.prog Q a0 w0) ∧
    ∀ (l : Int) (Q : Exit → Act → World → Prop), sl a0 dl = .int .i32 l → l ≤ 0 → (∀ a', Upd a0 a' (writes c) → Q .normal a' w0) → c.wp Tryd.prog Q a0 w0

theorem sloop {id i1 i2 da di dl t1 t2 t3 u1 u2 sz : Nat} {T' TT T2 T2' ty1 ty2 ty3 ty4 ty5 ty6 : TypeId} {p1 p2 p3 p4 p5 p6 : String} {e1 e2 e3 e4 e5 e6 : Array Edge} {body : Code} {g : St → T × St} {R : Rel T} {ini : Cells → Prop}
    (hE : ElB E v flex da di sz g R ini body) (hs : Strict g) (hst : Stable sz R) (hloc : ∀ c c' : Cells, (∀ j, j < sz → c' j = c j) → ini c → ini c')
    (hb : clear (da :: dl :: di :: E.slots) body = true) (hn : [t1, t2, t3, u1, u2, di].all (· < E.N) = true) (hd : decide (t1 ≠ t2 ∧ t1 ≠ dl) = true)
    (hcl : [t1, t2, t3, u1, u2].all (fun t => !(da :: dl :: di :: E.slots).contains t) = true) (hdi : (da :: dl :: E.slots).contains di = false) :
    SLoop E v flex da di dl sz g R ini (loopC id i1 i2 di dl t1 t2 t3 u1 u2 T' TT T2 T2' ty1 ty2 ty3 ty4 ty5 ty6 p1 p2 p3 p4 p5 p6 e1 e2 e3 e4 e5 e6 body) := by
  have hdi' : di ∉ da :: dl :: E.slots := by simpa [List.contains_eq_mem] using hdi
  refine fun rb S st n a0 w0 hfr hrd her hr1 hold hdi0 hn31 => ⟨fun G o m cells Ty Q hdl hG1 hG hSG hda hrow hfit hini hq hret => loop_list hE hs hst hb hn hd hcl hdi' hfr hrd her hr1 hG1 hG hSG hold hda hdl hdi0 hn31 hrow hfit hini hloc hq hret,
    fun l Q hdl hl hq => ?_⟩
  simp only [List.all_cons, List.all_nil, Bool.and_true, Bool.and_eq_true, decide_eq_true_eq] at hn hd
  have hsz := hfr.size
  refine wp_block (wp_loop (I := fun a w => a = a0 ∧ w = w0) (μ := fun _ _ => 0) ⟨rfl, rfl⟩ ?_)
  rintro a w ⟨rfl, rfl⟩
  refine wp_seq (wp_seq (reg_cmp2 (r := false) (by omega) (by omega) (by omega) hd.1 hd.2 (fun x y => eqGuard_lss ..) ?_ fun a1 hu1 hs1 => ?_))
  · rw [hdi0, hdl, binOp_lss]
    have : ¬ (0 < l) := by omega
    simp [this]
  · refine wp_cond_false (by rw [eval_tmp, hs1]) (wp_exit ?_)
    simp only [Exit.then, Exit.inBlock, if_pos]
    exact hq a1 (hu1.mono (fun t ht => by simp only [List.mem_cons, List.not_mem_nil, or_false] at ht; rcases ht with rfl | rfl | rfl <;> simp [writes]))

theorem mem_writes_seq {a b : Code} {t : Nat} : t ∈ writes (a.seq b) ↔ t ∈ writes a ∨ t ∈ writes b := by simp [writes]
theorem writes_cond {x : Operand} {a b : Code} : writes (Code.cond x a b) = writes a ++ writes b := rfl
theorem clear_seq {l : List Nat} {a b : Code} : clear l (a.seq b) = true ↔ clear l a = true ∧ clear l b = true := by
  simp only [clear, List.all_eq_true, Bool.not_eq_true', List.contains_eq_mem, decide_eq_false_iff_not, mem_writes_seq, not_or]
  exact ⟨fun h => ⟨fun t ht => (h t ht).1, fun t ht => (h t ht).2⟩, fun h t ht => ⟨h.1 t ht, h.2 t ht⟩⟩
theorem clear_cond {l : List Nat} {x : Operand} {a b : Code} : clear l (Code.cond x a b) = true ↔ clear l a = true ∧ clear l b = true := by
  simp only [clear, List.all_eq_true, Bool.not_eq_true', List.contains_eq_mem, decide_eq_false_iff_not, writes, List.mem_append, not_or]
  exact ⟨fun h => ⟨fun t ht => (h t ht).1, fun t ht => (h t ht).2⟩, fun h t ht => ⟨h.1 t ht, h.2 t ht⟩⟩
theorem upd_of {a a' : Act} {c : Code} {l : List Nat} (hu : Upd a a' (writes c)) (hc : clear l c = true) : ∀ t ∈ l, sl a' t = sl a t := fun t ht => hu.same t (clear_iff hc t ht)

theorem rdLen_le (flex : Bool) (st : St) : (rdLen flex st).1 ≤ 2147483647 := by
  have h0 : (rdLen0 flex st).1 ≤ 2147483647 := by
    unfold rdLen0
    split
    · simp only [wrap32]; omega
    · exact (rdI4_b st).2
  unfold rdLen
  cases h : (rdLen0 flex st).2 with
  | none => exact h0
  | some bs =>
    simp only [chkLen]
    split
    · simp
    · exact h0

/-- The element's part of a list. -/
abbrev elR (tags : Rel (List (Nat × List UInt8))) (v : Int) (flex ht : Bool) (of : Nat) (sub : List F) : Rel T := valRep false of (repP tags v flex ht sub)
abbrev elG (v : Int) (flex : Bool) (of : Nat) (sub : List F) : St → T × St := valR of (rdPart v flex sub) false flex
def elIni (ht : Bool) (of : Nat) (sub : List F) (c : Cells) : Prop := of = 10 → iniFs ht sub c
theorem elIni_loc (ht : Bool) (of : Nat) (sub : List F) : ∀ c c' : Cells, (∀ j, j < valCells of (cellsP ht sub) → c' j = c j) → elIni ht of sub c → elIni ht of sub c' := by
  intro c c' hc h h10
  refine ini_locFs ht sub c c' (fun j hj => hc j ?_) (h h10)
  subst h10
  simp only [valCells, cellsP]
  simp
  omega
theorem elG_strict (v : Int) (flex : Bool) (of : Nat) (sub : List F) : Strict (elG v flex of sub) := by
  refine strict_valR _ _ _ _ ?_
  have h := strict_rd v flex (.mk 10 0 0 (-1) 0 0 0 sub)
  have e : rd v flex (.mk 10 0 0 (-1) 0 0 0 sub) = rdPart v flex sub := by
    funext st
    simp [rd, fieldR, valR, rdPart]
  rw [e] at h
  exact h
theorem elR_stable (htg : flex = true → ht = true) (hT : Stable 1 tags) (of : Nat) (sub : List F) : Stable (valCells of (cellsP ht sub)) (elR tags v flex ht of sub) := by
  have := stable_val (ptr := false) (kind := of) (stable_repP htg hT (v := v) sub)
  simpa [fieldCells] using this

/-- A list that may not be null. -/
theorem RdV.list (htg : flex = true → ht = true) (hT : Stable 1 tags) {sp off d0 da dl di tN tP of : Nat} {frm to null tag dflt : Int} {sub : List F} {z : Array Value} {c1 c2 c3 cL cN cF c6 cP cA c0 cLoop c9 c10 : Code} (hnull : null < 0)
    (h1 : SLoad E.N sp off d0 c1) (h2 : SCopy E.N d0 da c2) (h3 : SConst E.N dl (.int .i32 0) c3) (hL : Rv E v flex dl (rdLen flex) (IsInt .i32) cL) (hN : SNotOk E tN cN) (hF : SFail E cF) (h6 : SSlice0 E.N da c6) (hP : SPos E.N dl tP cP)
    (hA : SApp E.N da dl z cA) (h0 : SConst E.N di (.int .i32 0) c0) (hl : SLoop E v flex da di dl (valCells of (cellsP ht sub)) (elG v flex of sub) (elR tags v flex ht of sub) (elIni ht of sub) cLoop) (h9 : SCopy E.N da d0 c9) (h10 : SStore E.N sp off d0 c10)
    (hz : z.size = valCells of (cellsP ht sub)) (hini : elIni ht of sub (fun j => z[j]?))
    (hcl : clear (sp :: E.slots) (c1.seq (c2.seq (c3.seq (cL.seq (cN.seq (c6.seq (cP.seq (cA.seq (c0.seq (cLoop.seq c9)))))))))) = true)
    (hca : clear [da] (c3.seq (cL.seq (cN.seq (cP.seq (c0.seq cLoop))))) = true) (hcd : clear [dl] (cN.seq (c6.seq (cP.seq (cA.seq c0)))) = true) :
    RdV tags E v flex ht sp off (.mk 11 frm to null tag dflt of sub)
      (c1.seq (c2.seq (c3.seq (cL.seq ((cN.seq (Code.cond (.tmp tN) (cF.seq Code.ret) Code.skip)).seq (c6.seq ((cP.seq (Code.cond (.tmp tP) cA Code.skip)).seq ((c0.seq cLoop).seq (c9.seq c10))))))))) := by
  intro rb S st cb co cells Ty a w hp
  simp only [clear_seq] at hcl hca hcd
  obtain ⟨k1, k2, k3, kL, kN, k6, kP, kA, k0, kl, k9⟩ := hcl
  obtain ⟨a3, aL, aN, aP, a0, al⟩ := hca
  obtain ⟨dN, d6, dP, dA, d0'⟩ := hcd
  have hfit := hp.fit
  simp only [cellsF, fieldCells, valCells] at hfit
  simp at hfit
  have hini0 : cells[co + off]? = some (.slice none 0 0) := by have := hp.ini; simp only [iniF] at this; exact this.1 trivial
  have hcell : ∀ {w' : World}, w'.heap[cb]? = some (.cells cells Ty (0, 0)) → w'.cell? ⟨cb, co + off, none⟩ = some (.slice none 0 0) := fun h => by rw [cell_of_row _ cb _ _ _ _ h]; exact hini0
  refine wp_seq (h1 a w _ cb co _ hp.fr.size hp.ptr (hcell hp.row) fun a1 u1 s1 => ?_)
  refine wp_seq (h2 a1 w _ (u1.size.trans hp.fr.size) fun a2 u2 s2 => ?_)
  refine wp_seq (h3 a2 w _ (u2.size.trans (u1.size.trans hp.fr.size)) fun a3' u3 s3 => ?_)
  have f1 := hp.fr.upd u1 (fun t ht => clear_iff k1 t (List.mem_cons_of_mem _ ht))
  have f2 := f1.upd u2 (fun t ht => clear_iff k2 t (List.mem_cons_of_mem _ ht))
  have f3 := f2.upd u3 (fun t ht => clear_iff k3 t (List.mem_cons_of_mem _ ht))
  have hsp3 : sl a3' sp = .pointer (some ⟨cb, co, none⟩) := by rw [upd_of u3 k3 sp (by simp), upd_of u2 k2 sp (by simp), upd_of u1 k1 sp (by simp)]; exact hp.ptr
  have hda3 : sl a3' da = .slice none 0 0 := by rw [upd_of u3 a3 da (by simp), s2, s1]
  refine wp_seq (wp_mono (hL rb S st a3' w f3 hp.rd hp.err) ?_)
  intro e a4 w4 hq4
  cases e with
  | normal => ?_
  | _ => exact hq4.elim
  obtain ⟨u4, r4, g4, -, hlen⟩ := hq4
  simp only [IsInt] at hlen
  have f4 := f3.upd u4 (fun t ht => clear_iff kL t (List.mem_cons_of_mem _ ht))
  have hsp4 : sl a4 sp = .pointer (some ⟨cb, co, none⟩) := by rw [upd_of u4 kL sp (by simp)]; exact hsp3
  have hda4 : sl a4 da = .slice none 0 0 := by rw [upd_of u4 aL da (by simp)]; exact hda3
  have he4 : ErrOk w4 := hp.err.kept g4 (fun e => hp.rbe (Option.some.inj e))
  refine wp_seq (wp_seq (hN a4 w4 _ S rb _ f4.size f4.rs r4 fun a5 u5 s5 => ?_))
  have f5 := f4.upd u5 (fun t ht => clear_iff kN t (List.mem_cons_of_mem _ ht))
  have hmd4 : Md w w4 rb cb (co + off) (cellsF ht (.mk 11 frm to null tag dflt of sub)) := Md.of_grown g4 hp.ne _ _
  have hrow4 : w4.heap[cb]? = some (.cells cells Ty (0, 0)) := by rw [g4.block cb (Array.getElem?_eq_some_iff.1 hp.row).1 (fun e => hp.ne (Option.some.inj e))]; exact hp.row
  have hgst : rd v flex (.mk 11 frm to null tag dflt of sub) st = listR false (elG v flex of sub) (rdLen flex st) := by
    have : ¬ (0 ≤ null) := by omega
    simp [rd, fieldR, F.may, this]
    rfl
  cases hok : (rdLen flex st).2 with
  | none =>
    rw [hok] at s5 r4
    refine wp_cond_true (by rw [eval_tmp, s5]; rfl) (wp_seq (hF a5 w4 _ S rb none f5.size f5.rs r4 he4 fun a6 u6 s6 => wp_ret ?_))
    have hv : ∃ t x, sl a6 E.res = .iface t x := by simpa [ErrV] using s6
    refine ⟨?_, u6.size.trans f5.size, u6.defers.trans f5.defers, hv, hmd4⟩
    rw [hgst]
    simp [listR, hok]
  | some bs => ?_
  rw [hok] at s5 r4
  refine wp_cond_false (by rw [eval_tmp, s5]; rfl) (wp_skip ?_)
  have hl5 : sl a5 dl = .int .i32 (rdLen flex st).1 := by rw [upd_of u5 dN dl (by simp)]; exact hlen
  have hda5 : sl a5 da = .slice none 0 0 := by rw [upd_of u5 aN da (by simp)]; exact hda4
  refine wp_seq (h6 a5 w4 _ _ _ _ f5.size hda5 fun a6 u6 s6 => ?_)
  have f6 := f5.upd u6 (fun t ht => clear_iff k6 t (List.mem_cons_of_mem _ ht))
  have hl6 : sl a6 dl = .int .i32 (rdLen flex st).1 := by rw [upd_of u6 d6 dl (by simp)]; exact hl5
  refine wp_seq (wp_seq (hP a6 w4 _ _ f6.size hl6 fun a7 u7 s7 => ?_))
  have f7 := f6.upd u7 (fun t ht => clear_iff kP t (List.mem_cons_of_mem _ ht))
  have hl7 : sl a7 dl = .int .i32 (rdLen flex st).1 := by rw [upd_of u7 dP dl (by simp)]; exact hl6
  have hda7 : sl a7 da = .slice none 0 0 := by rw [upd_of u7 aP da (by simp)]; exact s6
  have hsp7 : sl a7 sp = .pointer (some ⟨cb, co, none⟩) := by rw [upd_of u7 kP sp (by simp), upd_of u6 k6 sp (by simp), upd_of u5 kN sp (by simp)]; exact hsp4
  have hlt := rdLen_le flex st
  generalize hr : (rdLen flex st).1 = r at *
  -- what holds behind the list's loop
  have hend : ∀ (a8 : Act) (w8 : World) (ts : List T) (st' : St), Fr E rb v flex a8 → sl a8 sp = .pointer (some ⟨cb, co, none⟩) → Upd a a8 (writes (c1.seq (c2.seq (c3.seq (cL.seq ((cN.seq (Code.cond (.tmp tN) (cF.seq Code.ret) Code.skip)).seq (c6.seq ((cP.seq (Code.cond (.tmp tP) cA Code.skip)).seq ((c0.seq cLoop).seq (c9.seq c10)))))))))) →
      RdIs w8 S rb st' → w.grownBy w8 (some rb) → w8.heap[cb]? = some (.cells cells Ty (0, 0)) → rd v flex (.mk 11 frm to null tag dflt of sub) st = (Tl ts, st') → (sl a8 da).oneCell' = true →
      (∀ c : Cells, c 0 = some (sl a8 da) → repF tags v flex ht (.mk 11 frm to null tag dflt of sub) w8 (fun g => S g ∨ w.heap.size ≤ g) c (Tl ts)) →
      (c9.seq c10).wp Tryd.prog (Post E off (cellsF ht (.mk 11 frm to null tag dflt of sub)) (writes (c1.seq (c2.seq (c3.seq (cL.seq ((cN.seq (Code.cond (.tmp tN) (cF.seq Code.ret) Code.skip)).seq (c6.seq ((cP.seq (Code.cond (.tmp tP) cA Code.skip)).seq ((c0.seq cLoop).seq (c9.seq c10)))))))))) (rd v flex (.mk 11 frm to null tag dflt of sub)) (repF tags v flex ht (.mk 11 frm to null tag dflt of sub)) rb S st cb co Ty a w) a8 w8 := by
    intro a8 w8 ts st' f8 hsp8 hu8 r8 g8 hrow8 hrd8 hone hrep
    refine wp_seq (h9 a8 w8 _ f8.size fun a9 u9 s9 => ?_)
    have f9 := f8.upd u9 (fun t ht => clear_iff k9 t (List.mem_cons_of_mem _ ht))
    have hc0 : (co + off) < cells.size := by omega
    refine h10 a9 w8 _ cb co _ f9.size (by rw [upd_of u9 k9 sp (by simp)]; exact hsp8) (by rw [s9]; exact hone) (hcell hrow8) (by simp [World.frozen?, hrow8]) fun a10 u10 => ?_
    have hmd : Md w8 (w8.setCell ⟨cb, co + off, none⟩ (sl a9 d0)) rb cb (co + off) (cellsF ht (.mk 11 frm to null tag dflt of sub)) := Md.of_set _ (by simp [cellsF, fieldCells, valCells])
    refine ⟨(hu8.trans (u9.mono ?_)).trans (u10.mono ?_), ?_, (Md.of_grown g8 hp.ne (co + off) (cellsF ht (.mk 11 frm to null tag dflt of sub))).trans hmd (by omega) (by omega), cells.setIfInBounds (co + off) (sl a9 d0), heap_setCell_row hrow8, ?_⟩
    · intro t ht; simp only [mem_writes_seq, ht]; simp
    · intro t ht; simp only [mem_writes_seq, ht]; simp
    · rw [hrd8]
      exact r8.kept (row := some cb) ⟨rfl, rfl, rfl, by simp [World.setCell], fun k _ hk => Below.heap_setCell _ _ _ _ (fun e => hk (by rw [e]))⟩ (fun g hg e => hp.src (by rw [← Option.some.inj e]; exact hg)) (fun e => hp.ne (Option.some.inj e).symm)
    · rw [hrd8]
      refine stable_repF htg hT (.mk 11 frm to null tag dflt of sub) w8 _ _ _ (fun j => (cells.setIfInBounds (co + off) (sl a9 d0))[co + off + j]?) _ _ (fun g hg hlt => ?_) (by simp [World.setCell]) (fun g hg => hg) (fun j hj => rfl) (hrep _ ?_)
      · refine Below.heap_setCell _ _ _ _ ?_
        rintro rfl
        rcases hg with hg | hg
        · exact hp.src hg
        · have := (Array.getElem?_eq_some_iff.1 hp.row).1; omega
      · rw [← s9]; simp [hc0]
  have hu7 : Upd a a7 (writes (c1.seq (c2.seq (c3.seq (cL.seq ((cN.seq (Code.cond (.tmp tN) (cF.seq Code.ret) Code.skip)).seq (c6.seq ((cP.seq (Code.cond (.tmp tP) cA Code.skip)).seq ((c0.seq cLoop).seq (c9.seq c10)))))))))) := by
    refine ((((((u1.mono ?_).trans (u2.mono ?_)).trans (u3.mono ?_)).trans (u4.mono ?_)).trans (u5.mono ?_)).trans (u6.mono ?_)).trans (u7.mono ?_) <;> (intro t ht; simp only [mem_writes_seq, ht]; simp)
  by_cases hpos : 0 < r
  · refine wp_cond_true (by rw [eval_tmp, s7]; simp [hpos]) ?_
    obtain ⟨n, rfl⟩ : ∃ n : Nat, r = n := ⟨r.toNat, by omega⟩
    refine hA a7 w4 _ n f7.size hda7 hl7 (by omega) (by omega) fun a8 w8 m arr Te u8 s8 hh8 ho8 ht8 hp8 hsz8 hat8 => ?_
    have f8 := f7.upd u8 (fun t ht => clear_iff kA t (List.mem_cons_of_mem _ ht))
    have hl8 : sl a8 dl = .int .i32 (n : Int) := by rw [upd_of u8 dA dl (by simp)]; exact hl7
    have hG8 : w8.heap[w4.heap.size]? = some (.cells arr Te (0, 0)) := by rw [hh8]; simp
    have hold : ∀ k, k < w4.heap.size → w8.heap[k]? = w4.heap[k]? := fun k hk => by rw [hh8, Array.getElem?_push]; simp; omega
    have hsz84 : w8.heap.size = w4.heap.size + 1 := by rw [hh8]; simp
    have hg48 : w4.grownBy w8 (some rb) := ⟨ho8, ht8, hp8, by omega, fun k hk _ => hold k hk⟩
    have r8 : RdIs w8 S rb (some bs) := r4.kept (row := none) ⟨ho8, ht8, hp8, by omega, fun k hk _ => hold k hk⟩ (fun g _ e => by cases e) (fun e => by cases e)
    have he8 : ErrOk w8 := he4.kept (row := none) ⟨ho8, ht8, hp8, by omega, fun k hk _ => hold k hk⟩ (fun e => by cases e)
    refine wp_seq (wp_seq (h0 a8 w8 _ f8.size fun a9 u9 s9 => ?_))
    have f9 := f8.upd u9 (fun t ht => clear_iff k0 t (List.mem_cons_of_mem _ ht))
    have hold8 : ∀ g, S g → g < w4.heap.size := fun g hg => Nat.lt_of_lt_of_le (hp.old g hg) g4.size
    obtain ⟨hloop, -⟩ := hl rb S (some bs) n a9 w8 f9 r8 he8 hp.rbe (fun g hg => by have := hold8 g hg; omega) s9 (by omega)
    have hne4 : w4.heap.size ≠ 1 := by
      obtain ⟨t, x, hx⟩ := he4
      have : 1 < w4.heap.size := World.block_lt_of_cell? w4 _ hx
      omega
    have hcb : cb < w4.heap.size := (Array.getElem?_eq_some_iff.1 hrow4).1
    have hrdg : rd v flex (.mk 11 frm to null tag dflt of sub) st = (Tl (rdMany (elG v flex of sub) n (some bs)).1, (rdMany (elG v flex of sub) n (some bs)).2) := by
      rw [hgst]
      simp only [listR, hok, hr, Int.toNat_natCast]
      rfl
    refine hloop w4.heap.size 0 m arr Te _ (by rw [upd_of u9 d0' dl (by simp)]; exact hl8) hne4 ?_ ?_ (by rw [upd_of u9 a0 da (by simp)]; exact s8) hG8 (by rw [← hz]; omega) ?_ ?_ ?_
    · exact fun e => absurd r4.lt (by omega)
    · exact fun hS => absurd (hold8 _ hS) (by omega)
    · intro i hi
      refine elIni_loc ht of sub _ _ (fun j hj => ?_) hini
      rw [← hz] at hj ⊢
      rw [Nat.zero_add]
      exact hat8 i j hi hj
    · intro a10 w10 u10 r10 m10 hR10
      have f10 := f9.upd u10 (fun t ht => clear_iff kl t (List.mem_cons_of_mem _ ht))
      have hsp10 : sl a10 sp = .pointer (some ⟨cb, co, none⟩) := by rw [upd_of u10 kl sp (by simp), upd_of u9 k0 sp (by simp), upd_of u8 kA sp (by simp)]; exact hsp7
      have hda10 : sl a10 da = .slice (some ⟨w4.heap.size, 0, none⟩) n m := by rw [upd_of u10 al da (by simp), upd_of u9 a0 da (by simp)]; exact s8
      have hg410 : w4.grownBy w10 (some rb) := ⟨m10.os.trans ho8, m10.tape.trans ht8, m10.output.trans hp8, Nat.le_trans hg48.size m10.size, fun k hk hr => (m10.block k (by omega) (fun e => hr (by rw [e])) (by omega)).trans (hold k hk)⟩
      refine hend a10 w10 _ _ f10 hsp10 ?_ r10 (grownBy_trans g4 hg410) ?_ hrdg (by rw [hda10]; rfl) ?_
      · refine ((hu7.trans (u8.mono ?_)).trans (u9.mono ?_)).trans (u10.mono ?_) <;> (intro t ht; simp only [mem_writes_seq, writes_cond, List.mem_append, ht]; simp)
      · rw [hg410.block cb hcb (fun e => hp.ne (Option.some.inj e))]; exact hrow4
      · intro c hc
        simp only [repF, fieldRep, if_pos, listRep]
        rw [if_neg (by have : ¬ (0 ≤ null) := by omega
                       simp [this])]
        refine ⟨fun _ => rfl, .inr ⟨w4.heap.size, 0, m, ?_, .inr g4.size, by have := m10.size; omega, fun k x hx => ?_⟩⟩
        · rw [hc, hda10]; simp [Tl, rdMany_len]
        · have := hR10 k x hx
          exact elR_stable htg hT of sub w10 w10 _ _ _ _ x (fun _ _ _ => rfl) (Nat.le_refl _) (fun g hg => hg.imp (fun h => h) (fun h => by have := g4.size; omega)) (fun _ _ => rfl) this
    · intro a10 w10 hn10 hs10 hd10 hv10 m10
      refine ⟨by rw [hrdg]; exact hn10, hs10, hd10, hv10, ?_⟩
      have hg410 : w4.grownBy w10 (some rb) := ⟨m10.os.trans ho8, m10.tape.trans ht8, m10.output.trans hp8, Nat.le_trans hg48.size m10.size, fun k hk hr => (m10.block k (by omega) (fun e => hr (by rw [e])) (by omega)).trans (hold k hk)⟩
      exact Md.of_grown (grownBy_trans g4 hg410) hp.ne _ _
  · refine wp_cond_false (by rw [eval_tmp, s7]; simp [hpos]) (wp_skip ?_)
    refine wp_seq (wp_seq (h0 a7 w4 _ f7.size fun a9 u9 s9 => ?_))
    have f9 := f7.upd u9 (fun t ht => clear_iff k0 t (List.mem_cons_of_mem _ ht))
    obtain ⟨-, hloop⟩ := hl rb S (some bs) 0 a9 w4 f9 r4 he4 hp.rbe (fun g hg => Nat.lt_of_lt_of_le (hp.old g hg) g4.size) s9 (by omega)
    refine hloop r _ (by rw [upd_of u9 d0' dl (by simp)]; exact hl7) (by omega) fun a10 u10 => ?_
    have f10 := f9.upd u10 (fun t ht => clear_iff kl t (List.mem_cons_of_mem _ ht))
    have hsp10 : sl a10 sp = .pointer (some ⟨cb, co, none⟩) := by rw [upd_of u10 kl sp (by simp), upd_of u9 k0 sp (by simp)]; exact hsp7
    have hda10 : sl a10 da = .slice none 0 0 := by rw [upd_of u10 al da (by simp), upd_of u9 a0 da (by simp)]; exact hda7
    refine hend a10 w4 [] (some bs) f10 hsp10 ?_ r4 g4 hrow4 ?_ (by rw [hda10]; rfl) ?_
    · refine (hu7.trans (u9.mono ?_)).trans (u10.mono ?_) <;> (intro t ht; simp only [mem_writes_seq, ht]; simp)
    · rw [hgst]
      have : r.toNat = 0 := by omega
      simp [listR, hok, hr, this, rdMany]
    · intro c hc
      simp only [repF, fieldRep, if_pos, listRep]
      rw [if_neg (by have : ¬ (0 ≤ null) := by omega
                     simp [this])]
      exact ⟨fun _ => rfl, .inl ⟨by have : ¬ (0 ≤ null) := by omega
                                    simp [this], by rw [hc, hda10], rfl⟩⟩
end
end Go.Proofs.YtpknjenihcfhlaaDoor
/-
  Elements of lists; tags; the end of a function that reads. Conditions: none.
-/
namespace Go.Proofs.YtpknjenihcfhlaaDoor
open Go.RowKit (Below)
open Kz

section
variable {tags : Rel (List (Nat × List UInt8))} {E : RE} {v : Int} {flex ht : Bool}

/-- 'Default' of a part: it sets cells of the part alone, and lets nil lists nil. -/
def DefOk (f sz : Nat) (ini : Cells → Prop) : Prop :=
  hasBody Tryd.prog f = true ∧ ∀ (w : World) (G p : Nat) (cells : Array Value) (Ty : TypeId), w.heap[G]? = some (.cells cells Ty (0, 0)) → p + sz ≤ cells.size → ini (fun j => cells[p + j]?) →
    Calls Tryd.prog f #[.pointer (some ⟨G, p, none⟩)] w fun e w' => (∃ u, e = .returned u) ∧ w.grownBy w' (some G) ∧ ∃ cells', w'.heap[G]? = some (.cells cells' Ty (0, 0)) ∧ cells'.size = cells.size ∧ (∀ i, (i < p ∨ p + sz ≤ i) → cells'[i]? = cells[i]?) ∧ ini (fun j => cells'[p + j]?)

def SIndex (N x i d sz : Nat) (c : Code) : Prop := ∀ (a : Act) (w : World) (Q : Exit → Act → World → Prop) (g o n m j : Nat), a.tmps.size = N → sl a x = .slice (some ⟨g, o, none⟩) n m → sl a i = .int .i32 (j : Int) → j < n →
  (∀ a', Upd a a' (writes c) → sl a' d = .pointer (some ⟨g, o + j * sz, none⟩) → Q .normal a' w) → c.wp Tryd.prog Q a w
def SDefault (N x sz : Nat) (ini : Cells → Prop) (c : Code) : Prop := ∀ (a : Act) (w : World) (Q : Exit → Act → World → Prop) (G p : Nat) (cells : Array Value) (Ty : TypeId), a.tmps.size = N → sl a x = .pointer (some ⟨G, p, none⟩) →
  w.heap[G]? = some (.cells cells Ty (0, 0)) → p + sz ≤ cells.size → ini (fun j => cells[p + j]?) →
  (∀ a' w' cells', Upd a a' (writes c) → w.grownBy w' (some G) → w'.heap[G]? = some (.cells cells' Ty (0, 0)) → cells'.size = cells.size → (∀ i, (i < p ∨ p + sz ≤ i) → cells'[i]? = cells[i]?) → ini (fun j => cells'[p + j]?) → Q .normal a' w') → c.wp Tryd.prog Q a w
def SStoreIdx (N x i y sz : Nat) (c : Code) : Prop := ∀ (a : Act) (w : World) (Q : Exit → Act → World → Prop) (g o n m j : Nat) (u : Value), a.tmps.size = N → sl a x = .slice (some ⟨g, o, none⟩) n m → sl a i = .int .i32 (j : Int) → j < n → (sl a y).oneCell' = true →
  w.cell? ⟨g, o + j * sz, none⟩ = some u → w.frozen? ⟨g, o + j * sz, none⟩ = false → (∀ a', Upd a a' (writes c) → Q .normal a' (w.setCell ⟨g, o + j * sz, none⟩ (sl a y))) → c.wp Tryd.prog Q a w

theorem sindex {id N x i d t1 t2 t3 T e sz : Nat} {ty1 ty2 ty3 ty4 : TypeId} {p1 p2 p3 p4 : String} {e1 e2 e3 e4 : Array Edge} (hT : sliceOf Tryd.prog T = some e) (hs : sizeIs Tryd.prog e sz = true) (hn : [t1, t2, t3, d].all (· < N) = true) (hd : decide (t1 ≠ t2 ∧ t1 ≠ i) = true) :
    SIndex N x i d sz (Code.region id #[⟨some t1, .move (.tmp x), ty1, p1, e1, none⟩, ⟨some t2, .move (.tmp i), ty2, p2, e2, none⟩, ⟨some t3, .indexAddr T (.tmp t1) (.tmp t2), ty3, p3, e3, none⟩, ⟨some d, .assign (.tmp t3), ty4, p4, e4, none⟩] false) := by
  intro a w Q g o n m j hN hx hi hj hq
  obtain ⟨i', hi', hs'⟩ := sizeIs_ok hs
  simp only [List.all_cons, List.all_nil, Bool.and_true, Bool.and_eq_true, decide_eq_true_eq] at hn hd
  exact reg_index (indexOff_of (sliceOf_ok hT) hi' hs') (by omega) (by omega) (by omega) (by omega) hd.1 hd.2 hx hi hj hq
theorem sdefault {id N x f d1 d2 sz : Nat} {ini : Cells → Prop} {tys : Array TypeId} {ty1 ty2 : TypeId} {p1 p2 : String} {e1 e2 : Array Edge} (hf : DefOk f sz ini) (hn : [d1].all (· < N) = true) :
    SDefault N x sz ini (Code.region id #[⟨some d1, .move (.tmp x), ty1, p1, e1, none⟩, ⟨some d2, .call { callee := .value (.func f), args := #[.tmp d1], argTypes := tys }, ty2, p2, e2, none⟩] false) := by
  intro a w Q G p cells Ty hN hx hrow hfit hini hq
  simp only [List.all_cons, List.all_nil, Bool.and_true, decide_eq_true_eq] at hn
  obtain ⟨fn, hfn, hb, hnn⟩ := hasBody_ok hf.1
  refine reg_callp hfn hb hnn (by omega) ?_
  rw [hx]
  refine Calls.mono (hf.2 w G p cells Ty hrow hfit hini) ?_
  rintro e w' ⟨hv, hg, cells', h1, h2, h3, h4⟩
  exact ⟨hv, fun a' hu => hq a' w' cells' hu hg h1 h2 h3 h4⟩
theorem sstoreIdx {id N x i y t1 t2 t3 t4 T e sz ty : Nat} {ty1 ty2 ty3 ty4 ty5 : TypeId} {p1 p2 p3 p4 p5 : String} {e1 e2 e3 e4 e5 : Array Edge} (hT : sliceOf Tryd.prog T = some e) (hs : sizeIs Tryd.prog e sz = true) (hty : sizeIs Tryd.prog ty 1 = true)
    (hn : [t1, t2, t3, t4].all (· < N) = true) (hd : decide ([y, i, t1, t2, t3, t4].Nodup) = true) :
    SStoreIdx N x i y sz (Code.region id #[⟨some t1, .move (.tmp x), ty1, p1, e1, none⟩, ⟨some t2, .move (.tmp i), ty2, p2, e2, none⟩, ⟨some t3, .move (.tmp y), ty3, p3, e3, none⟩, ⟨some t4, .indexAddr T (.tmp t1) (.tmp t2), ty4, p4, e4, none⟩,
      ⟨none, .store ty (.tmp t4) (.tmp t3), ty5, p5, e5, none⟩] false) := by
  intro a w Q g o n m j u hN hx hi hj ho hc hfz hq
  obtain ⟨i', hi', hs'⟩ := sizeIs_ok hs
  simp only [List.all_cons, List.all_nil, Bool.and_true, Bool.and_eq_true, decide_eq_true_eq] at hn
  exact reg_storeIdx (indexOff_of (sliceOf_ok hT) hi' hs') (store1_ok hty ho) (by omega) (by omega) (by omega) (by omega) (of_decide_eq_true hd) hx hi hj rfl hc hfz hq

/-- A block about an element's code. -/
theorem ElB.block {da di sz id : Nat} {g : St → T × St} {R : Rel T} {ini : Cells → Prop} {c : Code} (h : ElB E v flex da di sz g R ini c) : ElB E v flex da di sz g R ini (Code.block id c) :=
  fun rb S st G o n m i cells Ty a w hfr hrd her hr1 hG1 hG hSG hold hda hdi hin hrow hfit hini => wp_inBlock (h rb S st G o n m i cells Ty a w hfr hrd her hr1 hG1 hG hSG hold hda hdi hin hrow hfit hini) (fun _ _ hq => hq)
/-- A part of a list. -/
theorem ElB.struct (htg : flex = true → ht = true) (hT : Stable 1 tags) {da di d s sz : Nat} {sub : List F} {c1 c2 c3 c : Code} (h1 : SIndex E.N da di d sz c1) (h2 : SDefault E.N d sz (iniFs ht sub) c2) (h3 : SCopy E.N d s c3) (h : RdP tags E v flex ht s 0 sub c) (hsz : sz = cellsP ht sub)
    (hcl : clear E.slots (c1.seq (c2.seq c3)) = true) (hd : clear [d] c2 = true) :
    ElB E v flex da di sz (elG v flex 10 sub) (elR tags v flex ht 10 sub) (elIni ht 10 sub) (c1.seq (c2.seq (c3.seq c))) := by
  intro rb S st G o n m i cells Ty a w hfr hrd her hr1 hG1 hG hSG hold hda hdi hin hrow hfit hini
  simp only [clear_seq] at hcl
  obtain ⟨k1, k2, k3⟩ := hcl
  refine wp_seq (h1 a w _ G o n m i hfr.size hda hdi hin fun a1 u1 s1 => ?_)
  have f1 := hfr.upd u1 (clear_iff k1)
  refine wp_seq (h2 a1 w _ G _ cells Ty f1.size s1 hrow hfit (hini rfl) fun a2 w2 cells2 u2 g2 row2 sz2 same2 ini2 => ?_)
  have f2 := f1.upd u2 (clear_iff k2)
  refine wp_seq (h3 a2 w2 _ f2.size fun a3 u3 s3 => ?_)
  have f3 := f2.upd u3 (clear_iff k3)
  have hrd2 : RdIs w2 S rb st := hrd.kept g2 (fun g hg e => hSG (by rw [← Option.some.inj e]; exact hg)) (fun e => hG (Option.some.inj e).symm)
  have her2 : ErrOk w2 := her.kept g2 (fun e => hG1 (Option.some.inj e))
  have hmd2 : Md w w2 rb G (o + i * sz) sz := ⟨g2.os, g2.tape, g2.output, g2.size, fun k hk _ hc => g2.block k hk (fun e => hc (Option.some.inj e)), fun cs T hw => by
    rw [hrow] at hw
    cases hw
    exact ⟨cells2, row2, sz2, same2⟩⟩
  have e10 : elG v flex 10 sub = rdPart v flex sub := by funext st; simp [elG, valR]
  have r10 : elR tags v flex ht 10 sub = repP tags v flex ht sub := by funext w K c t; simp [elR, valRep]
  refine wp_mono (h rb S st G (o + i * sz) cells2 Ty a3 w2 { fr := f3, ptr := by rw [s3, upd_of u2 hd d (by simp), s1], rd := hrd2, err := her2, rbe := hr1, cbe := hG1, ne := hG, src := hSG, old := fun g hg => Nat.lt_of_lt_of_le (hold g hg) g2.size, row := row2, fit := by rw [sz2, ← hsz]; omega, ini := ini2 }) ?_
  intro e a4 w4 hq
  cases e with
  | normal =>
    obtain ⟨u4, r4, m4, cells4, row4, rep4⟩ := hq
    rw [← hsz] at m4
    refine ⟨((u1.mono ?_).trans (u2.mono ?_)).trans ((u3.mono ?_).trans (u4.mono ?_)), by rw [e10]; exact r4, hmd2.trans m4 (by omega) (by omega), cells4, row4, ?_⟩
    · intro t ht; simp only [writes, List.mem_append]; exact .inl ht
    · intro t ht; simp only [writes, List.mem_append]; exact .inr (.inl ht)
    · intro t ht; simp only [writes, List.mem_append]; exact .inr (.inr (.inl ht))
    · intro t ht; simp only [writes, List.mem_append]; exact .inr (.inr (.inr ht))
    · rw [r10, e10]
      exact stable_repP htg hT sub w4 w4 _ _ _ _ _ (fun _ _ _ => rfl) (Nat.le_refl _) (fun g hg => hg.imp (fun h => h) (fun h => Nat.le_trans g2.size h)) (fun j _ => rfl) rep4
  | ret =>
    obtain ⟨n4, s4, d4, v4, m4⟩ := hq
    rw [← hsz] at m4
    exact ⟨by rw [e10]; exact n4, s4, d4, v4, hmd2.trans m4 (by omega) (by omega)⟩
  | exit id => exact hq
  | goto l => exact hq
  | panic ch => exact hq
  | outgrown => exact hq

/-- A number, a text of a list. -/
theorem ElB.prim {da di d of : Nat} {sub : List F} {c cs : Code} (h : FV E v flex (.mk of 0 0 (-1) 0 0 0 sub) d c) (hof : decide (of ≠ 7 ∧ of ≠ 10 ∧ of ≠ 11) = true) (h2 : SStoreIdx E.N da di d 1 cs) (hcl : clear (da :: di :: E.slots) c = true) :
    ElB E v flex da di 1 (elG v flex of sub) (elR tags v flex ht of sub) (elIni ht of sub) (c.seq cs) := by
  intro rb S st G o n m i cells Ty a w hfr hrd her hr1 hG1 hG hSG hold hda hdi hin hrow hfit hini
  simp only [decide_eq_true_eq] at hof
  obtain ⟨o7, o10, o11⟩ := hof
  obtain ⟨α, g, Ret, k, hv, hst, hg, hrep⟩ := h
  have hkc := clear_iff hcl
  refine wp_seq (wp_mono (hv rb S st a w hfr hrd her) ?_)
  intro e a1 w1 hq
  cases e with
  | normal => ?_
  | _ => exact hq.elim
  obtain ⟨u1, r1, g1, one1, ret1⟩ := hq
  have hGlt : G < w.heap.size := (Array.getElem?_eq_some_iff.1 hrow).1
  have row1 : w1.heap[G]? = some (.cells cells Ty (0, 0)) := by rw [g1.block G hGlt (fun e => hG (Option.some.inj e))]; exact hrow
  have hlt : o + i * 1 < cells.size := by omega
  have hce : w1.cell? ⟨G, o + i * 1, none⟩ = some cells[o + i * 1] := by rw [cell_of_row w1 G _ _ _ _ row1]; exact Array.getElem?_eq_getElem hlt
  refine h2 a1 w1 _ G o n m i _ (u1.size.trans hfr.size) ((u1.same _ (hkc _ (by simp))).trans hda) ((u1.same _ (hkc _ (by simp))).trans hdi) hin one1 hce (by simp [World.frozen?, row1]) fun a2 u2 => ?_
  have eG : elG v flex of sub = rd v flex (.mk of 0 0 (-1) 0 0 0 sub) := by
    funext st; simp [elG, rd, fieldR, o11, F.may]; rfl
  have eR : elR tags v flex ht of sub = repF tags v flex ht (.mk of 0 0 (-1) 0 0 0 sub) := by
    funext w K c t; simp [elR, repF, fieldRep, o11, repP]
  refine ⟨(u1.mono ?_).trans (u2.mono ?_), ?_, (Md.of_grown g1 hG (o + i * 1) 1).trans (Md.of_set (lo := o + i * 1) (n := 1) _ (by omega)) (by omega) (by omega), cells.setIfInBounds (o + i * 1) (sl a1 d), heap_setCell_row row1, ?_⟩
  · intro t ht; simp only [writes, List.mem_append]; exact .inl ht
  · intro t ht; simp only [writes, List.mem_append]; exact .inr ht
  · rw [eG, hg]
    exact r1.kept (row := some G) ⟨rfl, rfl, rfl, by simp [World.setCell], fun k _ hk => Below.heap_setCell _ _ _ _ (fun e => hk (by rw [e]))⟩ (fun g hg e => hSG (by rw [← Option.some.inj e]; exact hg)) (fun e => hG (Option.some.inj e).symm)
  · rw [eG, eR, hg]
    refine hrep _ _ _ _ _ _ (sl a1 d) (by show (cells.setIfInBounds (o + i * 1) (sl a1 d))[o + i * 1]? = _; rw [Array.getElem?_setIfInBounds, if_pos rfl, if_pos hlt]) (hst w1 _ _ _ _ _ (fun g hg hl => ?_) (by simp [World.setCell]) (fun g hg => hg) ret1)
    refine Below.heap_setCell _ _ _ _ ?_
    rintro rfl
    rcases hg with hg | hg
    · exact hSG hg
    · omega
theorem ElB.empty {da di d of sz : Nat} {u : Value} {i1 : Nat} {ty : TypeId} {p : String} {eg : Array Edge} {sub : List F} {c : Code} (hd : d < E.N) (hcl : clear (da :: di :: E.slots) (Code.region i1 #[⟨some d, .assign (.const u), ty, p, eg, none⟩] false) = true)
    (h : ElB E v flex da di sz (elG v flex of sub) (elR tags v flex ht of sub) (elIni ht of sub) c) :
    ElB E v flex da di sz (elG v flex of sub) (elR tags v flex ht of sub) (elIni ht of sub) ((Code.region i1 #[⟨some d, .assign (.const u), ty, p, eg, none⟩] false).seq c) := by
  intro rb S st G o n m i cells Ty a w hfr hrd her hr1 hG1 hG hSG hold hda hdi hin hrow hfit hini
  have hk := clear_iff hcl
  refine wp_seq (reg_const (by rw [hfr.size]; exact hd) fun a1 u1 _ => ?_)
  refine wp_mono (h rb S st G o n m i cells Ty a1 w (hfr.upd u1 (fun t ht => hk t (List.mem_cons_of_mem _ (List.mem_cons_of_mem _ ht)))) hrd her hr1 hG1 hG hSG hold ((u1.same _ (hk _ (by simp))).trans hda) ((u1.same _ (hk _ (by simp))).trans hdi) hin hrow hfit hini) ?_
  intro e a2 w2 hq
  cases e with
  | normal => exact ⟨(u1.mono (fun t ht => List.mem_append_left _ ht)).trans (hq.1.mono (fun t ht => List.mem_append_right _ ht)), hq.2⟩
  | ret => exact hq
  | exit id => exact hq
  | goto l => exact hq
  | panic ch => exact hq
  | outgrown => exact hq
end
end Go.Proofs.YtpknjenihcfhlaaDoor
/-
  Unknown tags in memory; setting one; reading them. Conditions: none.
-/
namespace Go.Proofs.YtpknjenihcfhlaaDoor
open Go.RowKit (Below)
open Kz

/-- A value as it is. -/
def heldR (v : Value) : Option (DataW Value × List MemPlace) := some (.held v, [])
abbrev tagDs (l : List (Nat × Value)) : List (Lit × DataW Value) := l.map fun x => (Lit.int .u32 (x.1 : Int), DataW.held x.2)
/-- Keys that rise. -/
def Rising : List (Nat × Value) → Prop := List.Pairwise (fun x y => x.1 < y.1)
def putV (k : Nat) (v : Value) : List (Nat × Value) → List (Nat × Value)
  | [] => [(k, v)]
  | (j, w) :: r => if j < k then (j, w) :: putV k v r else if j = k then (k, v) :: r else (k, v) :: (j, w) :: r

theorem putV_keys (k : Nat) (v : Value) : ∀ (l : List (Nat × Value)) (x : Nat × Value), x ∈ putV k v l → x = (k, v) ∨ x ∈ l
  | [], x, h => by simp [putV] at h; exact .inl h
  | (j, w) :: r, x, h => by
    simp only [putV] at h
    split at h
    · simp only [List.mem_cons] at h ⊢
      rcases h with h | h
      · exact .inr (.inl h)
      · exact (putV_keys k v r x h).imp id .inr
    · split at h
      · simp only [List.mem_cons] at h ⊢
        rcases h with h | h
        · exact .inl h
        · exact .inr (.inr h)
      · simp only [List.mem_cons] at h ⊢
        exact h
theorem putV_rising (k : Nat) (v : Value) : ∀ (l : List (Nat × Value)), Rising l → Rising (putV k v l)
  | [], _ => by simp [putV, Rising]
  | (j, w) :: r, h => by
    obtain ⟨h1, h2⟩ := List.pairwise_cons.1 h
    simp only [putV]
    split
    · rename_i hj
      refine List.pairwise_cons.2 ⟨fun x hx => ?_, putV_rising k v r h2⟩
      rcases putV_keys k v r x hx with rfl | hx
      · exact hj
      · exact h1 x hx
    · split
      · rename_i hj hk
        subst hk
        exact List.pairwise_cons.2 ⟨h1, h2⟩
      · rename_i hj hk
        refine List.pairwise_cons.2 ⟨fun x hx => ?_, h⟩
        simp only [List.mem_cons] at hx
        rcases hx with rfl | hx
        · show k < j; omega
        · have : j < x.1 := h1 x hx
          show k < x.1
          omega
theorem same_int (a b : Nat) : (Lit.int .u32 (a : Int)).sameKey (Lit.int .u32 (b : Int)) = decide (a = b) := by
  simp [Lit.sameKey]
  by_cases h : a = b
  · simp [h]
  · have : ¬ ((a : Int) = b) := by omega
    simp [h, this]
theorem before_int (a b : Nat) : (Lit.int .u32 (a : Int)).before (Lit.int .u32 (b : Int)) = decide (a < b) := by
  simp [Lit.before]
theorem filter_above (k : Nat) : ∀ (l : List (Nat × Value)), (∀ x ∈ l, k < x.1) → (tagDs l).filter (fun p => !p.1.sameKey (Lit.int .u32 (k : Int))) = tagDs l := by
  intro l h
  rw [List.filter_eq_self]
  intro p hp
  simp only [tagDs, List.mem_map] at hp
  obtain ⟨x, hx, rfl⟩ := hp
  have := h x hx
  simp only [same_int, Bool.not_eq_true', decide_eq_false_iff_not]
  omega
/-- What is set in a map is set in its reading. -/
theorem put_tags (k : Nat) (v : Value) : ∀ (l : List (Nat × Value)), Rising l → DataW.insert (Lit.int .u32 (k : Int), DataW.held v) ((tagDs l).filter fun p => !p.1.sameKey (Lit.int .u32 (k : Int))) = tagDs (putV k v l)
  | [], _ => rfl
  | (j, w) :: r, h => by
    obtain ⟨h1, h2⟩ := List.pairwise_cons.1 h
    have ih := put_tags k v r h2
    simp only [tagDs, List.map_cons, List.filter_cons, same_int, putV] at ih ⊢
    by_cases hjk : j = k
    · subst hjk
      have hf := filter_above j r (fun x hx => h1 x hx)
      simp only [tagDs] at hf
      simp only [decide_true, Bool.not_true, Bool.false_eq_true, if_false, Nat.lt_irrefl, if_true, hf, List.map_cons]
      cases r with
      | nil => rfl
      | cons y r' =>
        have : j < y.1 := h1 y (by simp)
        simp only [List.map_cons, DataW.insert, before_int, this, decide_true, if_true]
    · simp only [hjk, decide_false, Bool.not_false, if_true]
      by_cases hlt : j < k
      · have : ¬ k < j := by omega
        simp only [DataW.insert, before_int, this, decide_false, Bool.false_eq_true, if_false, hlt, if_true, List.map_cons, ih]
      · have hkj : k < j := by omega
        have hf := filter_above k r (fun x hx => by have := h1 x hx; show k < x.1; exact Nat.lt_trans hkj this)
        simp only [tagDs] at hf
        simp only [DataW.insert, before_int, hkj, decide_true, if_true, hlt, if_false, List.map_cons, hf]

/-- A variable of tags. -/
def TagSt (w : World) (base tb n : Nat) (l : List (Nat × Value)) : Prop :=
  base ≤ tb ∧ Rising l ∧ ∃ r, w.heap[tb]? = some (.cells #[.map r] 51 (0, 0)) ∧
    match r with
    | none => l = []
    | some b => base ≤ b ∧ b ≠ tb ∧ w.ownsMap Tryd.prog 59 heldR b n (.map (tagDs l))

theorem keyed32 : Maps.Keyed Tryd.prog 59 := Maps.int_keyed Tryd.underlying59
theorem TagSt.rows {w : World} {base tb n : Nat} {l : List (Nat × Value)} (h : TagSt w base tb n l) : ∃ r, w.cell? ⟨tb, 0, none⟩ = some (.map r) ∧ w.frozen? ⟨tb, 0, none⟩ = false := by
  obtain ⟨-, -, r, hr, -⟩ := h
  exact ⟨r, by rw [cell_of_row w tb 0 _ _ _ hr]; rfl, by simp [World.frozen?, hr]⟩

theorem key_ok {k : Nat} (hk : k < 4294967296) : keyOf Tryd.prog 59 (.int .u32 (k : Int)) = some (Lit.int .u32 (k : Int)) :=
  Maps.keyOf_int_mk Tryd.underlying59 (by simp [Lit.wf, IntKind.min, IntKind.max, IntKind.bits, IntKind.signed]; omega)

theorem MapKept_old (w : World) (o : Obj) (g : Nat) (h : g < w.heap.size) : (w.alloc o).heap[g]? = w.heap[g]? := by
  simp only [World.alloc, Array.getElem?_push]
  rw [if_neg (by omega)]
/-- A fact that the walk is not to look at. -/
structure Box (p : Prop) : Prop where
  get : p

set_option maxRecDepth 8000 in
set_option maxHeartbeats 400000 in
theorem Set_any (w : World) (base tb n k : Nat) (l : List (Nat × Value)) (v : Value) (h : TagSt w base tb n l) (hk : k < 4294967296) (hn : n < maxLen) (hbase : base ≤ w.heap.size) :
    Calls Tryd.prog 107 #[.pointer (some ⟨tb, 0, none⟩), .int .u32 (k : Int), v] w fun e w' => e = .returned (.tuple #[]) ∧ TagSt w' base tb (n + 1) (putV k v l) ∧ Below base w w' := by
  obtain ⟨hb, hl, r, hr, hm⟩ := h
  have hlt : tb < w.heap.size := (Array.getElem?_eq_some_iff.1 hr).1
  have c0 : w.cell? ⟨tb, 0, none⟩ = some (.map r) := by rw [cell_of_row w tb 0 _ _ _ hr]; rfl
  have f0 : w.frozen? ⟨tb, 0, none⟩ = false := by simp [World.frozen?, hr]
  have bkey : Box (keyOf Tryd.prog 59 (.int .u32 (k : Int)) = some (Lit.int .u32 (k : Int))) := ⟨key_ok hk⟩
  have bn : Box (n < maxLen) := ⟨hn⟩
  have qT : ∀ (w : World) (r : Option Nat), (binOp .eql 49 (.map r) (.map none)).run Tryd.prog w = .ok (.bool r.isNone) w := fun w r => run_eql_map_nil w _ _ _ r Tryd.underlying49
  have hmm := @RowKit.run_makeMap Tryd.prog
  have bhr : Box (w.heap[tb]? = some (.cells #[.map r] 51 (0, 0))) := ⟨hr⟩
  clear hn hk hr
  cases r with
  | none =>
    subst hm
    go_enter Tryd.func107, Tryd.ntmps107
    go_wp2_with (at_mapUpdate; refine wpList_mapUpdate_own _ rfl _ _ _ 49 rfl 59 22 keyed32 Tryd.underlying49 heldR w.heap.size n (.map (tagDs [])) rfl ?_ bn.get _ _ _ rfl rfl bkey.get _ [] rfl ?_)
    · exact (World.ownsMap_made (w.setCell ⟨tb, 0, none⟩ (.map (some w.heap.size))) Tryd.prog 59 heldR).mono (Nat.zero_le _) |> fun h => by simpa using h
    · intro w1 hown1 hgrow1
      refine ⟨rfl, .tuple #[], results_none (by kernel_rfl) _ _ _, rfl, ⟨hb, by simp [putV, Rising], some w.heap.size, ?_, hbase, by omega, hown1⟩, ?_⟩
      · rw [hgrow1.block tb (by simp; omega) (by simp; omega), MapKept_old _ _ _ (by simpa using hlt)]
        exact heap_setCell_row bhr.get
      · refine ⟨hgrow1.os, hgrow1.tape, hgrow1.output, by have := hgrow1.size; simp at this; omega, fun g hg => ?_⟩
        rw [hgrow1.block g (by simp; omega) (by simp; omega), MapKept_old _ _ _ (by simp; omega)]
        exact Below.heap_setCell _ _ _ _ (fun e => by have e : g = tb := e; omega)
  | some b =>
    obtain ⟨hb1, hb2, hown⟩ := hm
    have bown : Box (w.ownsMap Tryd.prog 59 heldR b n (.map (tagDs l))) := ⟨hown⟩
    clear hown
    go_enter Tryd.func107, Tryd.ntmps107
    go_wp2_with (at_mapUpdate; refine wpList_mapUpdate_own _ rfl _ _ _ 49 rfl 59 22 keyed32 Tryd.underlying49 heldR b n _ rfl bown.get bn.get _ v _ rfl rfl bkey.get _ [] rfl ?_; intro w1 hown1 hgrow1)
    refine ⟨rfl, .tuple #[], results_none (by kernel_rfl) _ _ _, rfl, ⟨hb, putV_rising k v l hl, some b, ?_, hb1, hb2, ?_⟩, ?_⟩
    · rw [hgrow1.block tb hlt (fun e => hb2 (Option.some.inj e).symm)]; exact bhr.get
    · have e : (DataW.map (tagDs l)).put (Lit.int .u32 (k : Int)) (DataW.held v) = DataW.map (tagDs (putV k v l)) := congrArg DataW.map (put_tags k v l hl)
      rw [← e]; exact hown1
    · exact ⟨hgrow1.os, hgrow1.tape, hgrow1.output, hgrow1.size, fun g hg => hgrow1.block g (by omega) (fun e => by have := Option.some.inj e; omega)⟩
end Go.Proofs.YtpknjenihcfhlaaDoor
/-
  Unknown tags, read. Conditions: none.
-/
namespace Go.Proofs.YtpknjenihcfhlaaDoor
open Go.RowKit (Below)
open Kz

/-- Tags and what they hold. -/
def TagsAt (w : World) (S : Nat → Prop) : List (Nat × Value) → List (Nat × List UInt8) → Prop
  | [], [] => True
  | (k, v) :: l, (j, b) :: u => k = j ∧ BytesAt w S v b ∧ TagsAt w S l u
  | _, _ => False
theorem tagsAt_put {w : World} {S : Nat → Prop} (k : Nat) {v : Value} {b : List UInt8} (hv : BytesAt w S v b) : ∀ (l : List (Nat × Value)) (u : List (Nat × List UInt8)), TagsAt w S l u → TagsAt w S (putV k v l) (setTag k b u)
  | [], [], _ => ⟨rfl, hv, trivial⟩
  | [], _ :: _, h => h.elim
  | _ :: _, [], h => h.elim
  | (j, x) :: l, (j', y) :: u, h => by
    obtain ⟨rfl, h2, h3⟩ := h
    simp only [putV, setTag]
    split
    · exact ⟨rfl, h2, tagsAt_put k hv l u h3⟩
    · split
      · exact ⟨rfl, hv, h3⟩
      · exact ⟨rfl, hv, rfl, h2, h3⟩
theorem tagsAt_kept {w w' : World} {K K' : Nat → Prop} (hk : ∀ g, K g → g < w.heap.size → w'.heap[g]? = w.heap[g]?) (hs : w.heap.size ≤ w'.heap.size) (hK : ∀ g, K g → K' g) : ∀ (l : List (Nat × Value)) (u : List (Nat × List UInt8)), TagsAt w K l u → TagsAt w' K' l u
  | [], [], _ => trivial
  | [], _ :: _, h => h.elim
  | _ :: _, [], h => h.elim
  | (_, _) :: l, (_, _) :: u, h => ⟨h.1, stable_bytes hk hs hK h.2.1, tagsAt_kept hk hs hK l u h.2.2⟩

/-- Unknown tags in a cell. -/
def TagRep : Rel (List (Nat × List UInt8)) := fun w K c u =>
  ∃ r, c 0 = some (.map r) ∧ match r with
    | none => u = []
    | some b => K b ∧ ∃ l n, Rising l ∧ w.ownsMap Tryd.prog 59 heldR b n (.map (tagDs l)) ∧ n ≤ 4294967296 ∧ TagsAt w K l u
theorem ownsMap_block {w w' : World} {b n : Nat} {D : DataW Value} (h : w.ownsMap Tryd.prog 59 heldR b n D) (hb : w'.heap[b]? = w.heap[b]?) : w'.ownsMap Tryd.prog 59 heldR b n D := by
  obtain ⟨es, clock, h1, h2⟩ := h
  exact ⟨es, clock, hb.trans h1, h2⟩
theorem stable_tagRep : Stable 1 TagRep := by
  intro w w' K K' c c' u hk hs hK hc h
  obtain ⟨r, h1, h2⟩ := h
  refine ⟨r, (hc 0 (by omega)).trans h1, ?_⟩
  cases r with
  | none => exact h2
  | some b =>
    obtain ⟨hb, l, n, h3, h4, h5, h6⟩ := h2
    exact ⟨hK b hb, l, n, h3, ownsMap_block h4 (hk b hb h4.lt), h5, tagsAt_kept hk hs hK l u h6⟩

theorem TagSt.kept {w w' : World} {base tb n : Nat} {l : List (Nat × Value)} {rb : Nat} (h : TagSt w base tb n l) (hg : w.grownBy w' (some rb)) (hrb : rb < base) : TagSt w' base tb n l := by
  obtain ⟨hb, hl, r, hr, hm⟩ := h
  refine ⟨hb, hl, r, ?_, ?_⟩
  · rw [hg.block tb (Array.getElem?_eq_some_iff.1 hr).1 (fun e => by have := Option.some.inj e; omega)]; exact hr
  · cases r with
    | none => exact hm
    | some b => exact ⟨hm.1, hm.2.1, ownsMap_block hm.2.2 (hg.block b hm.2.2.lt (fun e => by have := Option.some.inj e; omega))⟩

theorem alloc_new (w : World) (o : Obj) : (w.alloc o).heap[w.heap.size]? = some o := by
  show (w.heap.push o)[w.heap.size]? = _
  simp
theorem RdIs.below {w w' : World} {S : Nat → Prop} {rb B : Nat} {st : St} (h : RdIs w S rb st) (hb : Below B w w') (hS : ∀ g, S g → g < B) (hrb : rb < B) : RdIs w' S rb st := by
  obtain ⟨h0, h⟩ := h
  refine ⟨h0, ?_⟩
  cases st with
  | none => show w'.heap[rb]? = _; rw [hb.block rb hrb]; exact h
  | some bs =>
    obtain ⟨v, hv, hbs⟩ := h
    exact ⟨v, by rw [hb.block rb hrb]; exact hv, stable_bytes (fun g hg _ => hb.block g (hS g hg)) hb.size (fun g hg => hg) hbs⟩
theorem results_cell1 {fn : Func} {p : Tmp} {ty : TypeId} (h : fn.results = #[.cell p ty]) (tmps : Array Value) (P : Program) (w : World) :
    (results fn tmps).run P w = ((asAddr (tmps.getD p undef)).run P w).andThen fun a w₁ => (loadVar ty a).run P w₁ := by
  simp only [results, h]
  simp [Sem.run_bind, Result.andThen]
/-- The number that a slot holds. -/
def cntOf (a : Act) : Nat := match (a.tmps[4]? : Option Value) with | some (Value.int _ n) => n.toNat | _ => 0
/-- What holds at each round of the tags' loop. -/
structure TagLoop (w0 : World) (S : Nat → Prop) (rb : Nat) (st0 : St) (w : World) (num : Nat) : Prop where
  ex : ∃ (st : St) (l : List (Nat × Value)) (u : List (Nat × List UInt8)) (n : Nat), RdIs w S rb st ∧ TagSt w (w0.heap.size + 1) (w0.heap.size + 1) n l ∧ TagsAt w S l u ∧ n + num < 4294967296 ∧ utags num (u, st) = rdTags st0
  grown : w0.grownBy w (some rb)
  zero : w.heap[w0.heap.size]? = some (.cells #[.map none] 51 (0, 0))

set_option maxRecDepth 8000 in
set_option maxHeartbeats 1000000 in
theorem rd_tags : hasBody Tryd.prog 83 = true ∧ ∀ (w : World) (S : Nat → Prop) (rb : Nat) (st : St), RdIs w S rb st → (∀ g, S g → g < w.heap.size) → Calls Tryd.prog 83 #[.pointer (some ⟨rb, 0, none⟩)] w fun e w' =>
    ∃ r, e = .returned (.agg #[.map r]) ∧ RdIs w' S rb (rdTags st).2 ∧ w.grownBy w' (some rb) ∧ TagRep w' (fun g => S g ∨ w.heap.size ≤ g) (fun _ => some (.map r)) (rdTags st).1 := by
  refine ⟨by kernel_rfl, fun w S rb st h hold => ?_⟩
  go_enter Tryd.func83, Tryd.ntmps83
  have hlt := h.lt
  have H := Lib.hid h
  have HO := Lib.hid hold
  clear h hold
  go_wp2_with fail
  generalize hW1 : (w.alloc (Obj.cells #[Value.map none] 51)).alloc (Obj.cells #[Value.map none] 51) = W1
  have hsz1 : W1.heap.size = w.heap.size + 2 := by rw [← hW1]; simp
  have hg1 : w.grownBy W1 (some rb) := by
    rw [← hW1]
    exact ⟨rfl, rfl, rfl, by simp; omega, fun k hk _ => by rw [MapKept_old _ _ _ (by simp; omega), MapKept_old _ _ _ hk]⟩
  have hR1 : RdIs W1 S rb st := by
    refine H.out.kept (row := none) ?_ (fun g _ e => by cases e) (fun e => by cases e)
    rw [← hW1]
    exact ⟨rfl, rfl, rfl, by simp; omega, fun k hk _ => by rw [MapKept_old _ _ _ (by simp; omega), MapKept_old _ _ _ hk]⟩
  have hz1 : W1.heap[w.heap.size]? = some (.cells #[.map none] 51 (0, 0)) := by
    rw [← hW1, MapKept_old _ _ _ (by simp)]; exact alloc_new _ _
  have hz2 : W1.heap[w.heap.size + 1]? = some (.cells #[.map none] 51 (0, 0)) := by
    rw [← hW1]; have := alloc_new (w.alloc (Obj.cells #[Value.map none] 51)) (Obj.cells #[Value.map none] 51); simpa only [World.size_alloc] using this
  have HG1 := Lib.hid hg1
  have HZ1 := Lib.hid hz1
  have HZ2 := Lib.hid hz2
  clear hW1 hg1 hz1 hz2
  refine (RUvarint_any W1 S rb st hR1).mono ?_
  rintro e W2 ⟨rfl, hR2, hg2⟩
  have HR2 := Lib.hid hR2
  have HG2 := Lib.hid hg2
  have hb := rdV_bounds st
  obtain ⟨num0, hnum0⟩ : ∃ n, n = (rdV st).1 := ⟨_, rfl⟩
  rw [← hnum0] at hb ⊢
  have HN := Lib.hid hnum0
  clear hnum0 hR2 hg2 hR1
  go_wp2_with fail
  have hL0 : TagLoop w S rb st W2 num0 := ⟨⟨(rdV st).2, [], [], 0, HR2.out, ⟨by omega, List.Pairwise.nil, none, ?_, rfl⟩, trivial, by omega, by rw [HN.out]; rfl⟩, grownBy_trans HG1.out HG2.out, ?_⟩
  rotate_left
  · rw [HG2.out.block _ (by omega) (fun e => by have := Option.some.inj e; omega)]; exact HZ2.out
  · rw [HG2.out.block _ (by omega) (fun e => by have := Option.some.inj e; omega)]; exact HZ1.out
  have HL0 := Lib.hid hL0
  clear hL0 HG1 HG2 HZ1 HZ2 HR2 HN
  refine wp_loop (I := fun a w' => ∃ (num : Nat) (x5 x6 x9 x10 x11 x12 x13 x14 x15 x16 x17 x18 x19 x20 x21 x22 : Value), a = ⟨#[.pointer (some ⟨rb, 0, none⟩), undef, .pointer (some ⟨w.heap.size, 0, none⟩), .pointer (some ⟨w.heap.size + 1, 0, none⟩), .int .u32 (num : Int), x5, x6,
      .pointer (some ⟨rb, 0, none⟩), .int .u32 (num0 : Int), x9, x10, x11, x12, x13, x14, x15, x16, x17, x18, x19, x20, x21, x22, undef], []⟩ ∧ RowKit.Hid (TagLoop w S rb st w' num))
    (μ := fun a _ => cntOf a) ⟨num0, _, _, _, _, _, _, _, _, _, _, _, _, _, _, _, _, rfl, HL0⟩ ?_
  rintro a w' ⟨num, x5, x6, x9, x10, x11, x12, x13, x14, x15, x16, x17, x18, x19, x20, x21, x22, rfl, HL⟩
  clear HL0
  by_cases hz : num = 0
  · subst hz
    obtain ⟨⟨sti, l, u, n, hr, ht, hta, hnn, heq⟩, hgr, hzr⟩ := HL.out
    obtain ⟨hb1, hl, r, hrow, hm⟩ := ht
    have c1 : w'.cell? ⟨w.heap.size + 1, 0, none⟩ = some (.map r) := by rw [cell_of_row w' _ 0 _ _ _ hrow]; rfl
    have c0 : w'.cell? ⟨w.heap.size, 0, none⟩ = some (.map none) := by rw [cell_of_row w' _ 0 _ _ _ hzr]; rfl
    have f0 : w'.frozen? ⟨w.heap.size, 0, none⟩ = false := by simp [World.frozen?, hzr]
    have k1 := Lib.hid hr
    have k2 := Lib.hid hl
    have k3 := Lib.hid hrow
    have k4 := Lib.hid hm
    have k5 := Lib.hid hta
    have k6 := Lib.hid heq
    have k7 := Lib.hid hgr
    have k8 := Lib.hid hzr
    clear hr hl hrow hm hta heq hgr hzr HL
    go_wp2
    have cw : (w'.setCell ⟨w.heap.size, 0, none⟩ (.map r)).cell? ⟨w.heap.size, 0, none⟩ = some (.map r) := by rw [cell_of_row _ _ 0 _ _ _ (heap_setCell_row k8.out)]; rfl
    refine ⟨rfl, .agg #[.map r], ?_, r, rfl, ?_, ?_, r, rfl, ?_⟩
    · rw [results_cell1 (p := 2) (ty := 51) (by kernel_rfl) _ _ _]
      show (loadVar 51 ⟨w.heap.size, 0, none⟩).run Tryd.prog _ = _
      exact run_loadVar_mid _ _ _ _ [.map r] _ (fun j v hj => by
        cases j with
        | zero => simp only [List.getElem?_cons_zero, Option.some.injEq] at hj; subst hj; exact cw
        | succ j => cases hj) Tryd.underlying51 rfl (by kernel_rfl)
    · have : (rdTags st).2 = sti := by rw [← k6.out]; rfl
      rw [this]
      exact k1.out.kept (row := some w.heap.size) ⟨rfl, rfl, rfl, by simp [World.setCell], fun k _ hk => Below.heap_setCell _ _ _ _ (fun e => hk (by rw [e]))⟩ (fun g hg e => by have := HO.out g hg; have := Option.some.inj e; omega) (fun e => by have := Option.some.inj e; omega)
    · refine ⟨k7.out.os, k7.out.tape, k7.out.output, by simpa [World.setCell] using k7.out.size, fun k hk hr => ?_⟩
      rw [← k7.out.block k hk hr]
      exact Below.heap_setCell _ _ _ _ (fun e => by have e : k = w.heap.size := e; omega)
    · have hu : (rdTags st).1 = u := by rw [← k6.out]; rfl
      rw [hu]
      have hm := k4.out
      cases r with
      | none =>
        subst hm
        have hta := k5.out
        cases u with
        | nil => rfl
        | cons x u => exact hta.elim
      | some b =>
        obtain ⟨m1, m2, m3⟩ := hm
        have hbne : b ≠ w.heap.size := by omega
        refine ⟨.inr (by omega), l, n, k2.out, ownsMap_block m3 (Below.heap_setCell _ _ _ _ hbne), by omega, tagsAt_kept (fun g hg _ => Below.heap_setCell _ _ _ _ (fun e => ?_)) (by simp [World.setCell]) (fun g hg => .inl hg) l u k5.out⟩
        have e : g = w.heap.size := e
        have := HO.out g hg
        omega
  · have hz' : (0 : Int) < num := by omega
    obtain ⟨⟨sti, l, u, n, hr, ht, hta, hnn, heq⟩, hgr, hzr⟩ := HL.out
    have k2 := Lib.hid ht
    have k5 := Lib.hid hta
    have k6 := Lib.hid heq
    have k7 := Lib.hid hgr
    have k8 := Lib.hid hzr
    have k1 := Lib.hid hr
    clear hr ht hta heq hgr hzr HL
    go_wp2_with fail
    refine (RUvarint_any w' S rb sti k1.out).mono ?_
    rintro e w3 ⟨rfl, h3, g3⟩
    have H3 := Lib.hid h3
    have G3 := Lib.hid g3
    clear h3 g3
    go_wp2_with fail
    refine (RUvarint_any w3 S rb _ H3.out).mono ?_
    rintro e w4 ⟨rfl, h4, g4⟩
    have H4 := Lib.hid h4
    have G4 := Lib.hid g4
    have b4 := rdV_bounds (rdV sti).2
    clear h4 g4
    go_wp2_with fail
    refine (Span_any w4 S rb _ _ H4.out (by omega) (by omega)).mono ?_
    rintro e w5 ⟨v, rfl, hv, h5, g5⟩
    have H5 := Lib.hid h5
    have G5 := Lib.hid g5
    have HV := Lib.hid hv
    clear h5 g5 hv
    go_wp2_with fail
    have hg5 : w'.grownBy w5 (some rb) := grownBy_trans (grownBy_trans G3.out G4.out) G5.out
    have ht5 := k2.out.kept hg5 (by omega)
    refine (Set_any w5 (w.heap.size + 1) (w.heap.size + 1) n (rdV sti).1 l v ht5 (rdV_bounds sti) ?_ ?_).mono ?_
    · unfold maxLen; omega
    · obtain ⟨-, -, r, hrow, -⟩ := ht5
      exact Nat.le_of_lt (Array.getElem?_eq_some_iff.1 hrow).1
    rintro e w6 ⟨rfl, ht6, hb6⟩
    have H6 := Lib.hid ht6
    have B6 := Lib.hid hb6
    have G := Lib.hid hg5
    clear ht6 hb6 hg5 ht5
    have hn1 : ((num : Int) - 1) = ((num - 1 : Nat) : Int) := by omega
    have hw1 : IntKind.u32.wrap (((num - 1 : Nat) : Int)) = ((num - 1 : Nat) : Int) := by rw [IntKind.wrap_u32]; omega
    go_wp2_with fail
    refine ⟨⟨num - 1, _, _, _, _, _, _, _, _, _, _, _, _, _, _, _, _, rfl, Lib.hid ⟨⟨(rdSpan (rdV (rdV sti).2).1 (rdV (rdV sti).2).2).2, putV (rdV sti).1 v l, setTag (rdV sti).1 (rdSpan (rdV (rdV sti).2).1 (rdV (rdV sti).2).2).1 u, n + 1, ?_, H6.out, ?_, by omega, ?_⟩, ?_, ?_⟩⟩, ?_⟩
    · exact H5.out.below B6.out (fun g hg => by have := HO.out g hg; omega) (by omega)
    · refine tagsAt_put _ (stable_bytes (fun g hg _ => B6.out.block g (by have := HO.out g hg; omega)) B6.out.size (fun g hg => hg) HV.out) l u (tagsAt_kept (fun g hg hl => ?_) (Nat.le_trans G.out.size B6.out.size) (fun g hg => hg) l u k5.out)
      rw [B6.out.block g (by have := HO.out g hg; omega), G.out.block g hl (fun e => H.out.1 (by rw [← Option.some.inj e]; exact hg))]
    · rw [← k6.out]
      obtain ⟨m, rfl⟩ : ∃ m, num = m + 1 := ⟨num - 1, by omega⟩
      rfl
    · refine ⟨B6.out.os.trans (G.out.os.trans k7.out.os), B6.out.tape.trans (G.out.tape.trans k7.out.tape), B6.out.output.trans (G.out.output.trans k7.out.output), Nat.le_trans k7.out.size (Nat.le_trans G.out.size B6.out.size), fun k hk hr => ?_⟩
      exact (B6.out.block k (by omega)).trans ((G.out.block k (Nat.lt_of_lt_of_le hk k7.out.size) hr).trans (k7.out.block k hk hr))
    · rw [B6.out.block _ (by omega), G.out.block _ (Array.getElem?_eq_some_iff.1 k8.out).1 (fun e => by have := Option.some.inj e; omega)]
      exact k8.out
    · simp [cntOf]; omega
end Go.Proofs.YtpknjenihcfhlaaDoor
/-
  The tags of a part; the end of a function that reads. Conditions: none.
-/
namespace Go.Proofs.YtpknjenihcfhlaaDoor
open Go.RowKit (Below)
open Kz

section
variable {E : RE} {v : Int} {flex ht : Bool}

/-- 's.UnknownTags = internalReadTags(&b)'. -/
theorem reg_tags {id sp f t1 t2 t3 t4 T k off ty : Nat} {tys : Array TypeId} {ty1 ty2 ty3 ty4 ty5 : TypeId} {p1 p2 p3 p4 p5 : String} {e1 e2 e3 e4 e5 : Array Edge} (hf : f = 83) (hty : ty = 51) (hoff : offOf Tryd.prog T k = some off)
    (hn : [t1, t2, t3, t4].all (· < E.N) = true) (hd : decide (t1 ≠ t2 ∧ t1 ≠ E.rs ∧ t2 ≠ t3 ∧ t2 ≠ t4) = true) {a : Act} {w : World} {Q : Exit → Act → World → Prop} {S : Nat → Prop} {rb b o : Nat} {st : St} {cells : Array Value} {Ty : TypeId}
    (hN : a.tmps.size = E.N) (hrs : sl a E.rs = .pointer (some ⟨rb, 0, none⟩)) (hsp : sl a sp = .pointer (some ⟨b, o, none⟩)) (hr : RdIs w S rb st) (hold : ∀ g, S g → g < w.heap.size) (hrow : w.heap[b]? = some (.cells cells Ty (0, 0))) (hfit : o + off < cells.size) (hne : b ≠ rb)
    (hq : ∀ a' w1 r, Upd a a' [t1, t2, t3, t4] → RdIs w1 S rb (rdTags st).2 → w.grownBy w1 (some rb) → TagRep w1 (fun g => S g ∨ w.heap.size ≤ g) (fun _ => some (.map r)) (rdTags st).1 → Q .normal a' (w1.setCell ⟨b, o + off, none⟩ (.map r))) :
    (Code.region id #[⟨some t1, .move (.tmp sp), ty1, p1, e1, none⟩, ⟨some t2, .call { callee := .value (.func f), args := #[.tmp E.rs], argTypes := tys }, ty2, p2, e2, none⟩, ⟨some t3, .nilCheck (.tmp t1), ty3, p3, e3, none⟩,
      ⟨some t4, .fieldAddr T (.tmp t3) k, ty4, p4, e4, none⟩, ⟨none, .store ty (.tmp t4) (.tmp t2), ty5, p5, e5, none⟩] false).wp Tryd.prog Q a w := by
  subst hf; subst hty
  simp only [List.all_cons, List.all_nil, Bool.and_true, Bool.and_eq_true, decide_eq_true_eq] at hn hd
  obtain ⟨d1, d2, d3, d4⟩ := hd
  obtain ⟨fn, hfn, hb, hnn⟩ := hasBody_ok rd_tags.1
  refine wp_region_lit (st_move (st_call1 hfn hb hnn ?_))
  rw [eval_tmp, sl_put_other _ _ _ _ d2, hrs]
  refine Calls.mono (rd_tags.2 w S rb st hr hold) ?_
  rintro e w1 ⟨r, rfl, hr1, hg1, ht1⟩
  refine ⟨_, rfl, st_nil (p := ⟨b, o, none⟩) ?_ (st_field (b := b) (o := o) (fieldOff_ok hoff) ?_ ?_)⟩
  · rw [eval_tmp, sl_put_other _ _ _ _ (fun e => d1 e.symm), sl_put_self _ _ _ (by omega), eval_tmp, hsp]
  · rw [eval_tmp, sl_put_self _ _ _ (by simp only [put_size]; omega)]
  have hrow1 : w1.heap[b]? = some (.cells cells Ty (0, 0)) := by rw [hg1.block b (Array.getElem?_eq_some_iff.1 hrow).1 (fun e => hne (Option.some.inj e))]; exact hrow
  refine wpList_store_mid rfl 51 _ _ rfl b (o + off) #[.map r] ?_ ?_ ?_ (by kernel_rfl) (by simp [Value.oneCell']) (wpList_nil ?_)
  · rw [eval_tmp, sl_put_self _ _ _ (by simp only [put_size]; omega)]
  · rw [eval_tmp, sl_put_other _ _ _ _ (fun e => d4 e.symm), sl_put_other _ _ _ _ (fun e => d3 e.symm), sl_put_self _ _ _ (by simp only [put_size]; omega)]
  · intro j hj
    have hj0 : j = 0 := by simp at hj; exact hj
    subst hj0
    exact ⟨by rw [cell_of_row w1 b _ _ _ _ hrow1]; simp; exact hfit, by simp [World.frozen?, hrow1]⟩
  · exact hq _ w1 r ((((Upd.refl a _).put t1 _ (by simp)).put t2 _ (by simp)).put t3 _ (by simp) |>.put t4 _ (by simp)) hr1 hg1 ht1

/-- The tags of a part, behind its fields. -/
theorem RdTl.tags {id i0 sp off tf fs f t1 t2 t3 t4 T k ty : Nat} {tys : Array TypeId} {ty0 ty1 ty2 ty3 ty4 ty5 : TypeId} {p0 p1 p2 p3 p4 p5 : String} {e0 e1 e2 e3 e4 e5 : Array Edge} (hht : ht = true) (hfs : E.fs = some fs) (hf : f = 83) (hty : ty = 51)
    (hoff : offOf Tryd.prog T k = some off) (hn : [t1, t2, t3, t4, tf].all (· < E.N) = true) (hd : decide (t1 ≠ t2 ∧ t1 ≠ E.rs ∧ t2 ≠ t3 ∧ t2 ≠ t4 ∧ tf ≠ sp) = true) (hcl : [tf].all (fun t => !E.slots.contains t) = true) :
    RdTl TagRep E v flex ht sp off [] ((Code.region i0 #[⟨some tf, .move (.tmp fs), ty0, p0, e0, none⟩] false).seq (Code.cond (.tmp tf) (Code.region id #[⟨some t1, .move (.tmp sp), ty1, p1, e1, none⟩, ⟨some t2, .call { callee := .value (.func f), args := #[.tmp E.rs], argTypes := tys }, ty2, p2, e2, none⟩, ⟨some t3, .nilCheck (.tmp t1), ty3, p3, e3, none⟩,
      ⟨some t4, .fieldAddr T (.tmp t3) k, ty4, p4, e4, none⟩, ⟨none, .store ty (.tmp t4) (.tmp t2), ty5, p5, e5, none⟩] false) Code.skip)) := by
  subst hht
  simp only [decide_eq_true_eq] at hd
  obtain ⟨d1, d2, d3, d4, d5⟩ := hd
  have hn' : [t1, t2, t3, t4].all (· < E.N) = true := by simp only [List.all_cons, List.all_nil, Bool.and_true, Bool.and_eq_true] at hn ⊢; exact ⟨hn.1, hn.2.1, hn.2.2.1, hn.2.2.2.1⟩
  have hnf : tf < E.N := by simp only [List.all_cons, List.all_nil, Bool.and_true, Bool.and_eq_true, decide_eq_true_eq] at hn; exact hn.2.2.2.2
  have hT := test_flex (E := E) (v := v) (flex := flex) (id := i0) (ty1 := ty0) (p1 := p0) (e1 := e0) hfs (decide_eq_true hnf) hcl
  intro rb S st cb co cells Ty a w hp
  refine wp_seq (hT.2 rb a w _ hp.fr fun a1 u1 s1 => ?_)
  have f1 := hp.fr.upd u1 (clear_iff hT.1)
  have hsp1 : sl a1 sp = .pointer (some ⟨cb, co, none⟩) := (u1.same sp (by simp [writes]; exact fun e => d5 e.symm)).trans hp.ptr
  have hfit : co + off < cells.size := by have := hp.fit; simp only [cellsP, cellsFs] at this; simp at this; omega
  cases flex with
  | false =>
    refine wp_cond_false (by rw [eval_tmp, s1]) (wp_skip ?_)
    refine ⟨u1.mono (fun t ht => by simp only [writes, List.mem_append]; exact .inl ht), hp.rd, Md.refl _ _ _ _ _, cells, hp.row, rfl, fun h => by cases h⟩
  | true =>
    refine wp_cond_true (by rw [eval_tmp, s1]) ?_
    refine reg_tags hf hty hoff hn' (decide_eq_true ⟨d1, d2, d3, d4⟩) f1.size f1.rs hsp1 hp.rd hp.old hp.row hfit hp.ne fun a2 w1 r u2 r2 g2 t2 => ?_
    have hrow1 : w1.heap[cb]? = some (.cells cells Ty (0, 0)) := by rw [g2.block cb (Array.getElem?_eq_some_iff.1 hp.row).1 (fun e => hp.ne (Option.some.inj e))]; exact hp.row
    refine ⟨(u1.mono ?_).trans (u2.mono ?_), ?_, (Md.of_grown g2 hp.ne (co + off) (cellsP true [])).trans (Md.of_set (lo := co + off) (n := cellsP true []) _ (by simp [cellsP, cellsFs])) (by omega) (by omega), cells.setIfInBounds (co + off) (.map r), heap_setCell_row hrow1, rfl, fun _ => ?_⟩
    · intro t ht; simp only [writes, List.mem_append]; exact .inl ht
    · intro t ht; simp only [writes, List.mem_append]; exact .inr (.inl (by simpa [writes] using ht))
    · exact r2.kept (row := some cb) ⟨rfl, rfl, rfl, by simp [World.setCell], fun k _ hk => Below.heap_setCell _ _ _ _ (fun e => hk (by rw [e]))⟩ (fun g hg e => hp.src (by rw [← Option.some.inj e]; exact hg)) (fun e => hp.ne (Option.some.inj e).symm)
    · refine stable_tagRep w1 _ _ _ (fun _ => some (.map r)) _ _ (fun g hg hlt => ?_) (by simp [World.setCell]) (fun g hg => hg) (fun j hj => ?_) t2
      · refine Below.heap_setCell _ _ _ _ ?_
        rintro rfl
        rcases hg with hg | hg
        · exact hp.src hg
        · have := (Array.getElem?_eq_some_iff.1 hp.row).1; omega
      · have hj0 : j = 0 := by omega
        subst hj0
        show (cells.setIfInBounds (co + off) (.map r))[co + off]? = _
        simp [hfit]
/-- A part without tags. -/
theorem RdTl.plain {tags : Rel (List (Nat × List UInt8))} {sp off : Nat} {fs : List F} {c : Code} (hht : ht = false) (hfl : flex = false) (h : RdFs tags E v flex ht sp off fs c) : RdTl tags E v flex ht sp off fs c := by
  subst hht; subst hfl
  have e : cellsP false fs = cellsFs false fs := rfl
  unfold RdTl
  rw [e]
  exact Rd.conv h (fun x => (x, [])) (fun st => by simp) (fun w K cc x hx => ⟨hx, fun h => by cases h⟩) (fun _ h => h)
/-- Has a list of fields tags of its own? -/
def noTag (fs : List F) : Bool := fs.all fun f => decide (f.tag < 0)
theorem findTag_none {fs : List F} (h : noTag fs = true) (key : Nat) : ∀ (gs : List (St → T × St)), findTag key fs gs = none := by
  induction fs with
  | nil => intro gs; cases gs <;> rfl
  | cons f fs ih =>
    intro gs
    simp only [noTag, List.all_cons, Bool.and_eq_true, decide_eq_true_eq] at h
    cases gs with
    | nil => rfl
    | cons g gs =>
      simp only [findTag]
      rw [if_neg (by omega), ih h.2 gs]
      rfl
theorem tagsR_utags {fs : List F} (h : noTag fs = true) (gs : List (St → T × St)) : ∀ (n : Nat) (ts : List T) (u : List (Nat × List UInt8)) (st : St), tagsR fs gs n (ts, u, st) = (ts, (utags n (u, st)).1, (utags n (u, st)).2)
  | 0, _, _, _ => rfl
  | n + 1, ts, u, st => by
    have e : tagR fs gs (ts, u, st) = (ts, (utag (u, st)).1, (utag (u, st)).2) := by
      simp only [tagR, findTag_none h, utag]
    simp only [tagsR, utags]
    rw [e, tagsR_utags h gs n]
theorem RdTl.part {tags : Rel (List (Nat × List UInt8))} {sp off : Nat} {fs : List F} {c : Code} (hno : noTag fs = true) (h : RdTl tags E v flex ht sp off fs c) : RdP tags E v flex ht sp off fs c := by
  refine Rd.conv h (fun x => ⟨0, [], false, x.1, x.2⟩) (fun st => ?_) (fun w K cc x hx => hx) (fun _ h => h)
  simp only [rdPart, asmR]
  cases flex with
  | true => simp only [if_true, tagsR_utags hno, rdTags]
  | false => simp
end

/-! ## The end of a function -/
/-- Behind a function that reads. -/
def PostE {α : Type} (E : RE) (off n : Nat) (g : St → α × St) (R : Rel α) (rb : Nat) (S : Nat → Prop) (st : St) (cb co : Nat) (T : TypeId) (w : World) : Exit → Act → World → Prop
  | .ret, a', w' => a'.tmps.size = E.N ∧ a'.defers = [] ∧ Md w w' rb cb (co + off) n ∧ ErrV (g st).2 (sl a' E.res) ∧ ((g st).2.isSome = true → ∃ cells', w'.heap[cb]? = some (.cells cells' T (0, 0)) ∧ R w' (fun g => S g ∨ w.heap.size ≤ g) (fun j => cells'[co + off + j]?) (g st).1)
  | _, _, _ => False
def RdE {α : Type} (E : RE) (v : Int) (flex : Bool) (sp off n : Nat) (ini : Cells → Prop) (g : St → α × St) (R : Rel α) (c : Code) : Prop :=
  ∀ rb S st cb co cells T a w, Pre E v flex sp off n ini rb S st cb co cells T a w → c.wp Tryd.prog (PostE E off n g R rb S st cb co T w) a w

section
variable {E : RE} {v : Int} {flex ht : Bool}
theorem RdE.conv {α β : Type} {sp off n : Nat} {ini ini' : Cells → Prop} {g : St → α × St} {g' : St → β × St} {R : Rel α} {R' : Rel β} {c : Code} (h : RdE E v flex sp off n ini g R c)
    (k : α → β) (hg : ∀ st, g' st = (k (g st).1, (g st).2)) (hR : ∀ w K cc x, R w K cc x → R' w K cc (k x)) (hini : ∀ cc, ini' cc → ini cc) : RdE E v flex sp off n ini' g' R' c := by
  intro rb S st cb co cells T a w hp
  refine wp_mono (h rb S st cb co cells T a w { hp with ini := hini _ hp.ini }) ?_
  intro e a2 w2 hq
  cases e with
  | ret =>
    obtain ⟨h1, h2, h3, h4, h5⟩ := hq
    refine ⟨h1, h2, h3, by rw [hg]; exact h4, fun hs => ?_⟩
    rw [hg] at hs ⊢
    obtain ⟨cells', hrow, hret⟩ := h5 hs
    exact ⟨cells', hrow, hR _ _ _ _ hret⟩
  | _ => exact hq.elim
/-- The last piece, and the function's end. -/
theorem RdE.last {α : Type} {sp off n : Nat} {ini : Cells → Prop} {g : St → α × St} {R : Rel α} {c cF : Code} (h : Rd E v flex sp off n ini g R c) (hF : SFail E cF) (hcl : clear E.slots c = true) : RdE E v flex sp off n ini g R (c.seq (cF.seq Code.ret)) := by
  intro rb S st cb co cells T a w hp
  refine wp_seq (wp_mono (h rb S st cb co cells T a w hp) ?_)
  intro e a1 w1 hq
  cases e with
  | normal =>
    obtain ⟨hu, hr, hm, cells', hrow, hret⟩ := hq
    have f1 := hp.fr.upd hu (clear_iff hcl)
    refine wp_seq (hF a1 w1 _ S rb _ f1.size f1.rs hr (hp.err.md hm hp.rbe hp.cbe) fun a2 u2 hv => wp_ret ?_)
    exact ⟨u2.size.trans f1.size, u2.defers.trans f1.defers, hm, hv, fun _ => ⟨cells', hrow, hret⟩⟩
  | ret =>
    obtain ⟨hn, hs2, hd2, hv2, hm2⟩ := hq
    refine ⟨hs2, hd2, hm2, by rw [hn]; simpa [ErrV] using hv2, fun h => by rw [hn] at h; cases h⟩
  | _ => exact hq.elim
/-- A piece ahead of the rest of the function. -/
theorem RdE.seq {α β γ : Type} {sp off n1 n2 : Nat} {ini1 ini2 : Cells → Prop} {g1 : St → α × St} {g2 : St → β × St} {R1 : Rel α} {R2 : Rel β} {c1 c2 : Code} (h1 : Rd E v flex sp off n1 ini1 g1 R1 c1) (h2 : RdE E v flex sp (off + n1) n2 ini2 g2 R2 c2)
    (hcl : clear (sp :: E.slots) c1 = true) (hst : Stable n1 R1) (hst2 : Stable n2 R2) (hs : Strict g2) (hloc : ∀ c c' : Cells, (∀ j, j < n2 → c' j = c j) → ini2 c → ini2 c') (f : α → β → γ) :
    RdE E v flex sp off (n1 + n2) (fun c => ini1 c ∧ ini2 (fun j => c (n1 + j))) (fun st => (f (g1 st).1 (g2 (g1 st).2).1, (g2 (g1 st).2).2))
      (fun w K c x => ∃ y z, x = f y z ∧ R1 w K c y ∧ R2 w K (fun j => c (n1 + j)) z) (c1.seq c2) := by
  intro rb S st cb co cells T a w hp
  refine wp_seq (wp_mono (h1 rb S st cb co cells T a w { hp with fit := by have := hp.fit; omega, ini := hp.ini.1 }) ?_)
  have hcl' := clear_iff hcl
  intro e a1 w1 hq
  cases e with
  | normal =>
    obtain ⟨hu, hr, hm, cells1, hrow, hR⟩ := hq
    obtain ⟨cells1', hrow', hsz, hsame⟩ := hm.row cells T hp.row
    obtain ⟨rfl, -⟩ : cells1' = cells1 ∧ T = T := by
      rw [hrow] at hrow'
      simp only [Option.some.injEq, Obj.cells.injEq] at hrow'
      exact ⟨hrow'.1.symm, rfl⟩
    have hfit := hp.fit
    have hp2 : Pre E v flex sp (off + n1) n2 ini2 rb S (g1 st).2 cb co cells1' T a1 w1 := {
      fr := hp.fr.upd hu (fun t ht => hcl' t (List.mem_cons_of_mem _ ht))
      ptr := (hu.same _ (hcl' _ (by simp))).trans hp.ptr
      rd := hr
      err := hp.err.md hm hp.rbe hp.cbe
      rbe := hp.rbe
      cbe := hp.cbe
      ne := hp.ne
      src := hp.src
      old := fun g hg => Nat.lt_of_lt_of_le (hp.old g hg) hm.size
      row := hrow
      fit := by omega
      ini := by
        refine hloc (fun j => cells[co + off + (n1 + j)]?) _ (fun j hj => ?_) hp.ini.2
        show cells1'[co + (off + n1) + j]? = cells[co + off + (n1 + j)]?
        rw [hsame _ (.inr (by omega))]
        congr 1; omega }
    refine wp_mono (h2 rb S (g1 st).2 cb co cells1' T a1 w1 hp2) ?_
    intro e a2 w2 hq2
    cases e with
    | ret =>
      obtain ⟨hs2, hd2, hm2, hv2, hR2⟩ := hq2
      refine ⟨hs2, hd2, hm.trans hm2 (by omega) (by omega), hv2, fun hsome => ?_⟩
      obtain ⟨cells2, hrow2, hR2⟩ := hR2 hsome
      obtain ⟨cells2', hrow2', hsz2, hsame2⟩ := hm2.row cells1' T hrow
      obtain ⟨rfl, -⟩ : cells2' = cells2 ∧ T = T := by
        rw [hrow2] at hrow2'
        simp only [Option.some.injEq, Obj.cells.injEq] at hrow2'
        exact ⟨hrow2'.1.symm, rfl⟩
      refine ⟨cells2', hrow2, _, _, rfl, ?_, ?_⟩
      · refine hst w1 w2 _ _ _ _ _ (fun g hg hlt => ?_) hm2.size (fun g hg => hg) (fun j hj => ?_) hR
        · refine hm2.block g hlt ?_ ?_
          · rintro rfl
            rcases hg with hg | hg
            · exact hp.rd.1 hg
            · exact absurd hp.rd.lt (by omega)
          · rintro rfl
            rcases hg with hg | hg
            · exact hp.src hg
            · have := (Array.getElem?_eq_some_iff.1 hp.row).1; omega
        · exact hsame2 _ (.inl (by omega))
      · refine hst2 w2 w2 _ _ _ _ _ (fun _ _ _ => rfl) (Nat.le_refl _) (fun g hg => hg.imp (fun h => h) (fun h => Nat.le_trans hm.size h)) (fun j _ => ?_) hR2
        show cells2'[co + off + (n1 + j)]? = cells2'[co + (off + n1) + j]?
        congr 1; omega
    | _ => exact hq2.elim
  | ret =>
    obtain ⟨hn, hs2, hd2, hv2, hm2⟩ := hq
    have hn2 : (g2 (g1 st).2).2 = none := by rw [hn]; exact hs
    refine ⟨hs2, hd2, hm2.mono (by omega), ?_, fun h => ?_⟩
    · show ErrV (g2 (g1 st).2).2 _
      rw [hn2]; simpa [ErrV] using hv2
    · have : (g2 (g1 st).2).2.isSome = true := h
      rw [hn2] at this; cases this
  | _ => exact hq.elim
end
end Go.Proofs.YtpknjenihcfhlaaDoor
/-
  A whole function that reads. Conditions: none.
-/
namespace Go.Proofs.YtpknjenihcfhlaaDoor
open Go.RowKit (Below)
open Kz

section
variable (tags : Rel (List (Nat × List UInt8))) (E : RE) (v : Int) (flex ht : Bool)
/-- The code of fields, of the tags behind them, and the function's end. -/
def RdTE (sp off : Nat) (fs : List F) (c : Code) : Prop :=
  RdE E v flex sp off (cellsP ht fs) (iniFs ht fs) (fun st => (((plainR v fs (rds v flex fs) (dfltOf fs) st).1, (if flex then rdTags (plainR v fs (rds v flex fs) (dfltOf fs) st).2 else ([], (plainR v fs (rds v flex fs) (dfltOf fs) st).2)).1),
      (if flex then rdTags (plainR v fs (rds v flex fs) (dfltOf fs) st).2 else ([], (plainR v fs (rds v flex fs) (dfltOf fs) st).2)).2))
    (fun w K cc x => plainRep v flex ht fs (repFs tags v flex ht fs) w K cc x.1 ∧ (flex = true → tags w K (fun j => cc (cellsFs ht fs + j)) x.2)) c
/-- The code of a part, and the function's end. -/
def RdPE (sp off : Nat) (fs : List F) (c : Code) : Prop := RdE E v flex sp off (cellsP ht fs) (iniFs ht fs) (rdPart v flex fs) (repP tags v flex ht fs) c
end

section
variable {tags : Rel (List (Nat × List UInt8))} {E : RE} {v : Int} {flex ht : Bool}

theorem RdTE.last {sp off : Nat} {fs : List F} {c cF : Code} (h : RdTl tags E v flex ht sp off fs c) (hF : SFail E cF) (hcl : clear E.slots c = true) : RdTE tags E v flex ht sp off fs (c.seq (cF.seq Code.ret)) := RdE.last h hF hcl
theorem RdTE.nil {sp off : Nat} {cF : Code} (hht : ht = false) (hfl : flex = false) (hF : SFail E cF) : RdTE tags E v flex ht sp off [] (cF.seq Code.ret) := by
  subst hht; subst hfl
  intro rb S st cb co cells T a w hp
  refine wp_seq (hF a w _ S rb _ hp.fr.size hp.fr.rs hp.rd hp.err fun a2 u2 hv => wp_ret ?_)
  exact ⟨u2.size.trans hp.fr.size, u2.defers.trans hp.fr.defers, Md.refl _ _ _ _ _, hv, fun _ => ⟨cells, hp.row, rfl, fun h => by cases h⟩⟩
theorem RdTE.cons (htg : flex = true → ht = true) (hT : Stable 1 tags) {sp off : Nat} {f : F} {fs : List F} {c1 c2 : Code} (h1 : RdF tags E v flex ht sp off f c1) (hcl : clear (sp :: E.slots) c1 = true) (h2 : RdTE tags E v flex ht sp (off + cellsF ht f) fs c2) :
    RdTE tags E v flex ht sp off (f :: fs) (c1.seq c2) := by
  have hst2 : Stable (cellsP ht fs) (fun w K cc (x : List T × List (Nat × List UInt8)) => plainRep v flex ht fs (repFs tags v flex ht fs) w K cc x.1 ∧ (flex = true → tags w K (fun j => cc (cellsFs ht fs + j)) x.2)) := by
    intro w w' K K' c c' x hk hs hK hc hx
    refine ⟨stable_plainF htg hT fs w w' K K' c c' x.1 hk hs hK (fun j hj => hc j (by simp only [cellsP]; omega)) hx.1, fun hf => hT w w' K K' _ _ _ hk hs hK (fun j hj => hc _ ?_) (hx.2 hf)⟩
    simp only [cellsP, htg hf, Bool.toNat_true]; omega
  have hs2 : Strict (fun st => (((plainR v fs (rds v flex fs) (dfltOf fs) st).1, (if flex then rdTags (plainR v fs (rds v flex fs) (dfltOf fs) st).2 else ([], (plainR v fs (rds v flex fs) (dfltOf fs) st).2)).1),
      (if flex then rdTags (plainR v fs (rds v flex fs) (dfltOf fs) st).2 else ([], (plainR v fs (rds v flex fs) (dfltOf fs) st).2)).2)) := by
    have h1 := strict_plainF v flex fs (dfltOf fs)
    unfold Strict at h1 ⊢
    simp only [h1]
    split
    · exact strict_rdTags
    · rfl
  have hloc : ∀ c c' : Cells, (∀ j, j < cellsP ht fs → c' j = c j) → iniFs ht fs c → iniFs ht fs c' := fun c c' hc => ini_locFs ht fs c c' (fun j hj => hc j (by simp only [cellsP]; omega))
  have h := RdE.seq h1 h2 hcl (fun w w' K K' c c' x hk hs hK hc hx ho => stable_repF htg hT f w w' K K' c c' x hk hs hK hc (hx ho)) hst2 hs2 hloc (fun x y => (x :: y.1, y.2))
  have e : cellsP ht (f :: fs) = cellsF ht f + cellsP ht fs := by simp only [cellsP, cellsFs]; omega
  unfold RdTE
  rw [e]
  refine RdE.conv h id (fun st => ?_) (fun w K cc x hx => ?_) (fun _ h => h)
  · simp only [rds, dfltOf, plainR, List.headD_cons, List.tail_cons, id]
  · obtain ⟨y, z, rfl, h1, h2, h3⟩ := hx
    refine ⟨⟨y, z.1, rfl, h1, h2⟩, fun hf => ?_⟩
    have := h3 hf
    simp only [cellsFs]
    simp only [Nat.add_assoc]
    exact this
theorem RdTE.part {sp off : Nat} {fs : List F} {c : Code} (hno : noTag fs = true) (h : RdTE tags E v flex ht sp off fs c) : RdPE tags E v flex ht sp off fs c := by
  refine RdE.conv h (fun x => ⟨0, [], false, x.1, x.2⟩) (fun st => ?_) (fun w K cc x hx => hx) (fun _ h => h)
  simp only [rdPart, asmR]
  cases flex with
  | true => simp only [if_true, tagsR_utags hno, rdTags]
  | false => simp
end

/-! ## The head of a function -/
def SReader (N src rs : Nat) (c : Code) : Prop := ∀ (a : Act) (w : World) (Q : Exit → Act → World → Prop) (p : Option Addr) (n m : Nat), a.tmps.size = N → sl a src = .slice p n m →
  (∀ a' w', Upd a a' (writes c) → sl a' rs = .pointer (some ⟨w.heap.size, 0, none⟩) → w'.heap = w.heap.push (.cells #[.slice p n m, .bool false] 85 (0, 0)) → w'.os = w.os → w'.tape = w.tape → w'.output = w.output → Q .normal a' w') → c.wp Tryd.prog Q a w
def SMove (N : Nat) (c : Code) : Prop := ∀ (a : Act) (w : World) (Q : Exit → Act → World → Prop), a.tmps.size = N → (∀ a', Upd a a' (writes c) → Q .normal a' w) → c.wp Tryd.prog Q a w
def SCmpV (N x d : Nat) (k : Int) (c : Code) : Prop := ∀ (a : Act) (w : World) (Q : Exit → Act → World → Prop) (v : Int), a.tmps.size = N → sl a x = .int .i16 v → (∀ a', Upd a a' (writes c) → sl a' d = .bool (decide (k ≤ v)) → Q .normal a' w) → c.wp Tryd.prog Q a w

theorem smove {id N t x : Nat} {ty : TypeId} {p : String} {e : Array Edge} (hn : [t].all (· < N) = true) : SMove N (Code.region id #[⟨some t, .move (.tmp x), ty, p, e, none⟩] false) := by
  intro a w Q hN hq
  simp only [List.all_cons, List.all_nil, Bool.and_true, decide_eq_true_eq] at hn
  exact reg_move (by omega) fun a' hu _ => hq a' hu
theorem scmpV {id N x t1 t2 d : Nat} {k : Int} {T T' ty1 ty2 ty3 : TypeId} {p1 p2 p3 : String} {e1 e2 e3 : Array Edge} (hn : [t1, t2, d].all (· < N) = true) :
    SCmpV N x d k (Code.region id #[⟨some t1, .move (.tmp x), ty1, p1, e1, none⟩, ⟨some t2, .binOp .geq T (.tmp t1) (.const (.int .i16 k)) T', ty2, p2, e2, none⟩, ⟨some d, .assign (.tmp t2), ty3, p3, e3, none⟩] false) := by
  intro a w Q v hN hx hq
  simp only [List.all_cons, List.all_nil, Bool.and_true, Bool.and_eq_true, decide_eq_true_eq] at hn
  exact reg_cmp_to (r := decide (k ≤ v)) (by omega) (by omega) (by omega) (fun y z => eqGuard_geq ..) (by rw [hx]; exact binOp_geq ..) hq

theorem build_reader (w : World) (p : Option Addr) (n m : Nat) : (Instr.build 85 #[(0, .slice p n m)]).run Tryd.prog w = .ok (.agg #[.slice p n m, .bool false]) w := by
  kernel_rfl
theorem alloc_reader (w : World) : (Instr.alloc 85 true (.tuple #[])).run Tryd.prog w = .ok (.pointer (some ⟨w.heap.size, 0, none⟩)) (w.alloc (.cells #[.slice none 0 0, .bool false] 85)) := by
  kernel_rfl
theorem sreader {id N src t1 t2 rs ty : Nat} {ty1 ty2 ty3 ty4 : TypeId} {p1 p2 p3 p4 : String} {e1 e2 e3 e4 : Array Edge} (hty : ty = 85) (hn : [t1, t2, rs].all (· < N) = true) (hd : decide (rs ≠ t2) = true) :
    SReader N src rs (Code.region id #[⟨some t1, .move (.tmp src), ty1, p1, e1, none⟩, ⟨some t2, .build ty #[(0, .tmp t1)], ty2, p2, e2, none⟩, ⟨some rs, .alloc ty, ty3, p3, e3, none⟩, ⟨none, .store ty (.tmp rs) (.tmp t2), ty4, p4, e4, none⟩] false) := by
  intro a w Q p n m hN hsrc hq
  subst hty
  simp only [List.all_cons, List.all_nil, Bool.and_true, Bool.and_eq_true, decide_eq_true_eq] at hn hd
  refine wp_region_lit (st_move (st_val (v := .agg #[.slice p n m, .bool false]) (w' := w) ?_ (st_val (v := .pointer (some ⟨w.heap.size, 0, none⟩)) (w' := w.alloc (.cells #[.slice none 0 0, .bool false] 85)) ?_ ?_)))
  · have : (a.put (some t1) (a.eval (.tmp src))).eval (.tmp t1) = .slice p n m := by rw [eval_tmp, sl_put_self _ _ _ (by omega), eval_tmp, hsrc]
    simp only [execOp, List.map_toArray, List.map_cons, List.map_nil, this, Sem.run_bind, build_reader, Result.andThen_ok, Sem.run_pure]
  · simp only [execOp, Sem.run_bind, alloc_reader, Result.andThen_ok, Sem.run_pure]
  · have hnew : (w.alloc (.cells #[.slice none 0 0, .bool false] 85)).heap[w.heap.size]? = some (.cells #[.slice none 0 0, .bool false] 85 (0, 0)) := alloc_new _ _
    refine wpList_store_mid rfl 85 _ _ rfl w.heap.size 0 #[.slice p n m, .bool false] ?_ ?_ ?_ (by kernel_rfl) (by simp [Value.oneCell']) (wpList_nil ?_)
    · rw [eval_tmp, sl_put_self _ _ _ (by simp only [put_size]; omega)]
    · rw [eval_tmp, sl_put_other _ _ _ _ hd, sl_put_self _ _ _ (by simp only [put_size]; omega)]
    · intro j hj
      simp at hj
      refine ⟨?_, by simp only [World.frozen?, hnew]; simp⟩
      rw [cell_of_row _ _ _ _ _ _ hnew]
      simp
      omega
    · refine hq _ _ (((Upd.refl a _).put t1 _ (by simp [writes])).put t2 _ (by simp [writes]) |>.put rs _ (by simp [writes])) ?_ ?_ rfl rfl rfl
      · rw [put_none, sl_put_self _ _ _ (by simp only [put_size]; omega)]
      · apply Array.ext_getElem?
        intro i
        simp only [World.setCells]
        by_cases hi : i = w.heap.size
        · subst hi
          rw [heap_setCell_row (heap_setCell_row hnew)]
          simp
        · rw [Below.heap_setCell _ _ _ _ hi, Below.heap_setCell _ _ _ _ hi]
          simp only [World.alloc, Array.getElem?_push, if_neg hi]

/-- 'Default' of the whole struct. -/
def iniM (ht : Bool) (v : Int) (fs : List F) (c : Cells) : Prop := c 0 = some (.int .i16 v) ∧ iniFs ht fs (fun j => c (1 + j))

/-- A function that reads a message. -/
def ReadsMsg (tags : Rel (List (Nat × List UInt8))) (f : Nat) (m : M) (ht : Bool) (T : TypeId) : Prop :=
  hasBody Tryd.prog f = true ∧ ∀ (w : World) (S : Nat → Prop) (B : Nat) (v : Int) (bs : List UInt8) (p : Option Addr) (n k : Nat) (cells : Array Value), 0 ≤ v → w.heap[B]? = some (.cells cells T (0, 0)) → 1 + cellsP ht m.fields ≤ cells.size → iniM ht v m.fields (fun j => cells[j]?) →
    BytesAt w S (.slice p n k) bs → ¬ S B → (∀ g, S g → g < w.heap.size) → ErrOk w → B ≠ 1 → Calls Tryd.prog f #[.pointer (some ⟨B, 0, none⟩), .slice p n k, .bool false] w fun e w' =>
      ∃ u, e = .returned u ∧ ErrV (m.read v (some bs)).2 u ∧ w.grownBy w' (some B) ∧ ((m.read v (some bs)).2.isSome = true → ∃ cells', w'.heap[B]? = some (.cells cells' T (0, 0)) ∧ cells'[0]? = some (.int .i16 v) ∧
        repP tags v (m.isFlex v) ht m.fields w' (fun g => S g ∨ w.heap.size ≤ g) (fun j => cells'[1 + j]?) (m.read v (some bs)).1)

section
variable {tags : Rel (List (Nat × List UInt8))} {m : M} {ht : Bool}
/-- What lies ahead of the fields' code. -/
theorem read_start {E : RE} {p0 p1 p2 p3 p4 rest : Code} (hN : 3 ≤ E.N) (h0 : SConst E.N E.res .nilIface p0) (h1 : ∀ v, SDefault E.N 0 (1 + cellsP ht m.fields) (iniM ht v m.fields) p1) (h2 : SReader E.N 1 E.rs p2) (h3 : SLoad E.N 0 0 E.vs p3) (h4 : SMove E.N p4)
    (hcl : clear [0, 1, 2] (p0.seq (p1.seq (p2.seq (p3.seq p4)))) = true) (hcr : clear [E.rs] (p3.seq p4) = true) (hcv : clear [E.vs] p4 = true)
    (w : World) (S : Nat → Prop) (B : Nat) (v : Int) (bs : List UInt8) (p : Option Addr) (n k : Nat) (cells : Array Value) (T : TypeId) (hrow : w.heap[B]? = some (.cells cells T (0, 0))) (hfit : 1 + cellsP ht m.fields ≤ cells.size) (hini : iniM ht v m.fields (fun j => cells[j]?))
    (hbs : BytesAt w S (.slice p n k) bs) (hSB : ¬ S B) (hold : ∀ g, S g → g < w.heap.size) (her : ErrOk w) (hB : B ≠ 1) (Q : Exit → Act → World → Prop)
    (hq : ∀ (a : Act) (w1 : World) (cells1 : Array Value), a.tmps.size = E.N → a.defers = [] → sl a E.rs = .pointer (some ⟨w1.heap.size - 1, 0, none⟩) → sl a E.vs = .int .i16 v → sl a 2 = .bool false → sl a 0 = .pointer (some ⟨B, 0, none⟩) → RdIs w1 S (w1.heap.size - 1) (some bs) → ErrOk w1 →
      w.heap.size < w1.heap.size → w.grownBy w1 (some B) → w1.heap[B]? = some (.cells cells1 T (0, 0)) → cells1.size = cells.size → iniM ht v m.fields (fun j => cells1[j]?) → rest.wp Tryd.prog Q a w1) :
    (p0.seq (p1.seq (p2.seq (p3.seq (p4.seq rest))))).wp Tryd.prog Q ⟨#[.pointer (some ⟨B, 0, none⟩), .slice p n k, .bool false] ++ Array.replicate (E.N - 3) undef, []⟩ w := by
  simp only [clear_seq] at hcl hcr
  obtain ⟨k0, k1, k2, k3, k4⟩ := hcl
  generalize ha : (⟨#[.pointer (some ⟨B, 0, none⟩), .slice p n k, .bool false] ++ Array.replicate (E.N - 3) undef, []⟩ : Act) = a
  have hsz : a.tmps.size = E.N := by subst ha; simp; omega
  have hd : a.defers = [] := by subst ha; rfl
  have s0 : sl a 0 = .pointer (some ⟨B, 0, none⟩) := by subst ha; simp [sl, Array.getD_eq_getD_getElem?, Array.getElem?_append]
  have s1 : sl a 1 = .slice p n k := by subst ha; simp [sl, Array.getD_eq_getD_getElem?, Array.getElem?_append]
  have s2 : sl a 2 = .bool false := by subst ha; simp [sl, Array.getD_eq_getD_getElem?, Array.getElem?_append]
  clear ha
  have hBlt : B < w.heap.size := (Array.getElem?_eq_some_iff.1 hrow).1
  refine wp_seq (h0 a w _ hsz fun a1 u1 _ => ?_)
  refine wp_seq (h1 v a1 w _ B 0 cells T (u1.size.trans hsz) (by rw [upd_of u1 k0 0 (by simp)]; exact s0) hrow (by omega) (by simpa using hini) fun a2 w2 cells2 u2 g2 row2 sz2 same2 ini2 => ?_)
  refine wp_seq (h2 a2 w2 _ p n k (u2.size.trans (u1.size.trans hsz)) (by rw [upd_of u2 k1 1 (by simp), upd_of u1 k0 1 (by simp)]; exact s1) fun a3 w3 u3 s3 hh3 ho3 ht3 hp3 => ?_)
  have hsz3 : w3.heap.size = w2.heap.size + 1 := by rw [hh3]; simp
  have hold3 : ∀ g, g < w2.heap.size → w3.heap[g]? = w2.heap[g]? := fun g hg => by rw [hh3, Array.getElem?_push]; simp; omega
  have hnew3 : w3.heap[w2.heap.size]? = some (.cells #[.slice p n k, .bool false] 85 (0, 0)) := by rw [hh3]; simp
  have g3 : w2.grownBy w3 none := ⟨ho3, ht3, hp3, by omega, fun g hg _ => hold3 g hg⟩
  have hB2 : B < w2.heap.size := Nat.lt_of_lt_of_le hBlt g2.size
  have row3 : w3.heap[B]? = some (.cells cells2 T (0, 0)) := by rw [hold3 B hB2]; exact row2
  have c3 : w3.cell? ⟨B, 0 + 0, none⟩ = some (.int .i16 v) := by rw [cell_of_row w3 B _ _ _ _ row3]; simpa using ini2.1
  have hrd3 : RdIs w3 S w2.heap.size (some bs) := by
    refine ⟨fun h => by have := hold _ h; have := g2.size; omega, .slice p n k, hnew3, ?_⟩
    refine stable_bytes (fun g hg hlt => ?_) (by have := g2.size; omega) (fun g hg => hg) hbs
    rw [hold3 g (Nat.lt_of_lt_of_le hlt g2.size), g2.block g hlt (fun e => hSB (by rw [← Option.some.inj e]; exact hg))]
  have her3 : ErrOk w3 := (her.kept g2 (fun e => hB (Option.some.inj e))).kept g3 (fun e => by cases e)
  refine wp_seq (h3 a3 w3 _ B 0 _ (u3.size.trans (u2.size.trans (u1.size.trans hsz))) (by rw [upd_of u3 k2 0 (by simp), upd_of u2 k1 0 (by simp), upd_of u1 k0 0 (by simp)]; exact s0) c3 fun a4 u4 s4 => ?_)
  refine wp_seq (h4 a4 w3 _ (u4.size.trans (u3.size.trans (u2.size.trans (u1.size.trans hsz)))) fun a5 u5 => ?_)
  have e1 : w3.heap.size - 1 = w2.heap.size := by omega
  refine hq a5 w3 cells2 (u5.size.trans (u4.size.trans (u3.size.trans (u2.size.trans (u1.size.trans hsz))))) (u5.defers.trans (u4.defers.trans (u3.defers.trans (u2.defers.trans (u1.defers.trans hd))))) ?_ ?_ ?_ ?_ (by rw [e1]; exact hrd3) her3 (by have := g2.size; omega)
    (World.grownBy.andThen g2 g3 (fun j e => by cases e)) row3 sz2 (by simpa using ini2)
  · rw [upd_of u5 hcr.2 E.rs (by simp), upd_of u4 hcr.1 E.rs (by simp), s3, e1]
  · rw [upd_of u5 hcv E.vs (by simp), s4]
  · rw [upd_of u5 k4 2 (by simp), upd_of u4 k3 2 (by simp), upd_of u3 k2 2 (by simp), upd_of u2 k1 2 (by simp), upd_of u1 k0 2 (by simp)]; exact s2
  · rw [upd_of u5 k4 0 (by simp), upd_of u4 k3 0 (by simp), upd_of u3 k2 0 (by simp), upd_of u2 k1 0 (by simp), upd_of u1 k0 0 (by simp)]; exact s0

theorem read_end {E : RE} {c body : Code} {f : Nat} {fn : Func} {s : Nat} {flex : Bool} {v : Int} (hf : Tryd.prog.funcs[f]? = some fn) (hb : fn.body = some c) (hnt : fn.ntmps = E.N) (hres : fn.results = #[.tmp E.res])
    {w : World} {S : Nat → Prop} {B : Nat} {bs : List UInt8} {p : Option Addr} {n k : Nat} {cells : Array Value} {T : TypeId} (hrow : w.heap[B]? = some (.cells cells T (0, 0))) (hfit : 1 + cellsP ht m.fields ≤ cells.size) (hSB : ¬ S B)
    (hold : ∀ g, S g → g < w.heap.size) (hB : B ≠ 1) (hfl : flex = m.isFlex v) (hbody : RdPE tags E v flex ht s 1 m.fields body) (hst : Stable (cellsP ht m.fields) (repP tags v flex ht m.fields))
    (hrun : ∀ (Q : Exit → Act → World → Prop), (∀ (a : Act) (w1 : World) (cells1 : Array Value), Fr E (w1.heap.size - 1) v flex a → sl a s = .pointer (some ⟨B, 0, none⟩) → RdIs w1 S (w1.heap.size - 1) (some bs) → ErrOk w1 → w.heap.size < w1.heap.size → w.grownBy w1 (some B) →
      w1.heap[B]? = some (.cells cells1 T (0, 0)) → cells1.size = cells.size → iniM ht v m.fields (fun j => cells1[j]?) → body.wp Tryd.prog Q a w1) → c.wp Tryd.prog Q ⟨#[.pointer (some ⟨B, 0, none⟩), .slice p n k, .bool false] ++ Array.replicate (E.N - 3) undef, []⟩ w) :
    Calls Tryd.prog f #[.pointer (some ⟨B, 0, none⟩), .slice p n k, .bool false] w fun e w' =>
      ∃ u, e = .returned u ∧ ErrV (m.read v (some bs)).2 u ∧ w.grownBy w' (some B) ∧ ((m.read v (some bs)).2.isSome = true → ∃ cells', w'.heap[B]? = some (.cells cells' T (0, 0)) ∧ cells'[0]? = some (.int .i16 v) ∧
        repP tags v (m.isFlex v) ht m.fields w' (fun g => S g ∨ w.heap.size ≤ g) (fun j => cells'[1 + j]?) (m.read v (some bs)).1) := by
  subst hfl
  have hBlt : B < w.heap.size := (Array.getElem?_eq_some_iff.1 hrow).1
  refine calls_of_wp hf hb ?_
  rw [hnt]
  refine hrun _ fun a w1 cells1 hfr hsp hrd her hlt hg hrow1 hsz1 hini1 => ?_
  refine wp_mono (hbody (w1.heap.size - 1) S (some bs) B 0 cells1 T a w1 { fr := hfr, ptr := hsp, rd := hrd, err := her, rbe := ?_, cbe := hB, ne := by omega, src := hSB, old := fun g h => Nat.lt_trans (hold g h) hlt, row := hrow1, fit := by omega, ini := ?_ }) ?_
  · obtain ⟨t, x, hx⟩ := her
    have h1 : 1 < w1.heap.size := World.block_lt_of_cell? w1 _ hx
    intro e
    have hrow2 : ∃ vv q, w1.heap[w1.heap.size - 1]? = some (.cells #[vv, .bool q] 85 (0, 0)) := by
      obtain ⟨-, vv, hv, -⟩ := hrd
      exact ⟨vv, false, hv⟩
    obtain ⟨vv, q, hrow2⟩ := hrow2
    obtain ⟨-, v0, hv0, hb0⟩ := hrd
    rw [← e, cell_of_row w1 _ _ _ _ _ hv0] at hx
    simp at hx
    subst hx
    rcases hb0 with ⟨h, -⟩ | ⟨_, _, _, h, -⟩ <;> cases h
  · have := hini1.2
    simpa using this
  · intro e a2 w2 hq
    cases e with
    | ret =>
      obtain ⟨h1, h2, h3, h4, h5⟩ := hq
      refine ⟨h2, _, results_tmp hres _ _ _, ?_⟩
      refine ⟨sl a2 E.res, rfl, h4, ⟨h3.os.trans hg.os, h3.tape.trans hg.tape, h3.output.trans hg.output, Nat.le_trans hg.size h3.size, fun j hj hjr => ?_⟩, fun hs => ?_⟩
      · rw [h3.block j (by omega) (by omega) (fun e => hjr (by rw [e]))]
        exact hg.block j hj hjr
      · obtain ⟨cells', hrow', hrep⟩ := h5 hs
        refine ⟨cells', hrow', ?_, ?_⟩
        · obtain ⟨cells2, hrow2, -, hsame⟩ := h3.row cells1 T hrow1
          rw [hrow'] at hrow2
          cases hrow2
          rw [hsame 0 (.inl (by omega))]
          exact hini1.1
        · refine hst w2 w2 _ _ _ _ _ (fun _ _ _ => rfl) (Nat.le_refl _) (fun g hg => hg.imp (fun h => h) (fun h => by omega)) (fun j _ => ?_) hrep
          show cells'[1 + j]? = cells'[0 + 1 + j]?
          rw [Nat.zero_add]
    | _ => exact hq.elim

/-- A message whose versions may be flexible. -/
theorem readsMsg_flex {E : RE} {p0 p1 p2 p3 p4 p5 p6 p7 body : Code} {f : Nat} {fn : Func} {s : Nat} {T : TypeId} (hht : ht = true) (hT : Stable 1 tags) {fs : Nat} (hfs : E.fs = some fs) (hfe : 0 ≤ m.flex) (hus : E.us = 2)
    (hf : Tryd.prog.funcs[f]? = some fn) (hb : fn.body = some (p0.seq (p1.seq (p2.seq (p3.seq (p4.seq (p5.seq (p6.seq (p7.seq body))))))))) (hnt : fn.ntmps = E.N) (hres : fn.results = #[.tmp E.res]) (hg : hasBody Tryd.prog f = true)
    (hN : 3 ≤ E.N) (h0 : SConst E.N E.res .nilIface p0) (h1 : ∀ v, SDefault E.N 0 (1 + cellsP ht m.fields) (iniM ht v m.fields) p1) (h2 : SReader E.N 1 E.rs p2) (h3 : SLoad E.N 0 0 E.vs p3) (h4 : SMove E.N p4) (h5 : SCmpV E.N E.vs fs m.flex p5) (h6 : SMove E.N p6) (h7 : SCopy E.N 0 s p7)
    (hcl : clear [0, 1, 2] (p0.seq (p1.seq (p2.seq (p3.seq p4)))) = true) (hcr : clear [E.rs] (p3.seq p4) = true) (hcv : clear [E.vs] p4 = true) (hc2 : clear [0, 2, E.rs, E.vs] (p5.seq (p6.seq p7)) = true) (hc3 : clear [fs] (p6.seq p7) = true) (hc0 : clear [0] (p5.seq p6) = true)
    (hbody : ∀ v : Int, 0 ≤ v → RdPE tags E v (m.isFlex v) ht s 1 m.fields body) : ReadsMsg tags f m ht T := by
  refine ⟨hg, fun w S B v bs p n k cells hv hrow hfit hini hbs hSB hold her hB => ?_⟩
  simp only [clear_seq] at hc2 hc3 hc0
  refine read_end hf hb hnt hres hrow hfit hSB hold hB rfl (hbody v hv) (stable_repP (fun _ => hht) hT _) fun Q hk => ?_
  refine read_start hN h0 h1 h2 h3 h4 hcl hcr hcv w S B v bs p n k cells T hrow hfit hini hbs hSB hold her hB Q fun a w1 cells1 hsz hd hrs hvs hu hz hr1 he1 hlt hg1 hrow1 hsz1 hini1 => ?_
  refine wp_seq (h5 a w1 _ v hsz hvs fun a1 u1 s1 => ?_)
  refine wp_seq (h6 a1 w1 _ (u1.size.trans hsz) fun a2 u2 => ?_)
  refine wp_seq (h7 a2 w1 _ (u2.size.trans (u1.size.trans hsz)) fun a3 u3 s3 => ?_)
  have keep : ∀ t ∈ [0, 2, E.rs, E.vs], sl a3 t = sl a t := fun t ht => by rw [upd_of u3 hc2.2.2 t ht, upd_of u2 hc2.2.1 t ht, upd_of u1 hc2.1 t ht]
  refine hk a3 w1 cells1 { size := u3.size.trans (u2.size.trans (u1.size.trans hsz)), defers := u3.defers.trans (u2.defers.trans (u1.defers.trans hd)), rs := by rw [keep E.rs (by simp)]; exact hrs, vs := by rw [keep E.vs (by simp)]; exact hvs, us := by rw [hus, keep 2 (by simp)]; exact hu, fs := fun t ht => ?_ } ?_ hr1 he1 hlt hg1 hrow1 hsz1 hini1
  · rw [hfs] at ht
    cases ht
    rw [upd_of u3 hc3.2 fs (by simp), upd_of u2 hc3.1 fs (by simp), s1]
    simp [M.isFlex, hfe]
  · rw [s3, upd_of u2 hc0.2 0 (by simp), upd_of u1 hc0.1 0 (by simp)]; exact hz
/-- A message that is never flexible. -/
theorem readsMsg_plain {E : RE} {p0 p1 p2 p3 p4 p7 body : Code} {f : Nat} {fn : Func} {s : Nat} {T : TypeId} (hT : Stable 1 tags) (hfs : E.fs = none) (hfe : m.flex < 0) (hus : E.us = 2)
    (hf : Tryd.prog.funcs[f]? = some fn) (hb : fn.body = some (p0.seq (p1.seq (p2.seq (p3.seq (p4.seq (p7.seq body))))))) (hnt : fn.ntmps = E.N) (hres : fn.results = #[.tmp E.res]) (hg : hasBody Tryd.prog f = true)
    (hN : 3 ≤ E.N) (h0 : SConst E.N E.res .nilIface p0) (h1 : ∀ v, SDefault E.N 0 (1 + cellsP ht m.fields) (iniM ht v m.fields) p1) (h2 : SReader E.N 1 E.rs p2) (h3 : SLoad E.N 0 0 E.vs p3) (h4 : SMove E.N p4) (h7 : SCopy E.N 0 s p7)
    (hcl : clear [0, 1, 2] (p0.seq (p1.seq (p2.seq (p3.seq p4)))) = true) (hcr : clear [E.rs] (p3.seq p4) = true) (hcv : clear [E.vs] p4 = true) (hc2 : clear [0, 2, E.rs, E.vs] p7 = true)
    (hbody : ∀ v : Int, 0 ≤ v → RdPE tags E v (m.isFlex v) ht s 1 m.fields body) : ReadsMsg tags f m ht T := by
  refine ⟨hg, fun w S B v bs p n k cells hv hrow hfit hini hbs hSB hold her hB => ?_⟩
  have hfl : m.isFlex v = false := by
    have : ¬ (0 ≤ m.flex) := by omega
    simp [M.isFlex, this]
  refine read_end hf hb hnt hres hrow hfit hSB hold hB rfl (hbody v hv) (stable_repP (fun h => by rw [hfl] at h; cases h) hT _) fun Q hk => ?_
  refine read_start hN h0 h1 h2 h3 h4 hcl hcr hcv w S B v bs p n k cells T hrow hfit hini hbs hSB hold her hB Q fun a w1 cells1 hsz hd hrs hvs hu hz hr1 he1 hlt hg1 hrow1 hsz1 hini1 => ?_
  refine wp_seq (h7 a w1 _ hsz fun a3 u3 s3 => ?_)
  have keep : ∀ t ∈ [0, 2, E.rs, E.vs], sl a3 t = sl a t := fun t ht => upd_of u3 hc2 t ht
  refine hk a3 w1 cells1 { size := u3.size.trans hsz, defers := u3.defers.trans hd, rs := by rw [keep E.rs (by simp)]; exact hrs, vs := by rw [keep E.vs (by simp)]; exact hvs, us := by rw [hus, keep 2 (by simp)]; exact hu, fs := fun t ht => by rw [hfs] at ht; cases ht } (by rw [s3]; exact hz) hr1 he1 hlt hg1 hrow1 hsz1 hini1
end
end Go.Proofs.YtpknjenihcfhlaaDoor
/-
  'Default' of a part: empty, or some fields set. Conditions: none.
-/
namespace Go.Proofs.YtpknjenihcfhlaaDoor
open Go.RowKit (Below)
open Kz

theorem defOk_skip {f sz : Nat} {ini : Cells → Prop} {fn : Func} (hf : Tryd.prog.funcs[f]? = some fn) (hb : fn.body = some Code.skip) (hr : fn.results = #[]) (hg : hasBody Tryd.prog f = true) : DefOk f sz ini := by
  refine ⟨hg, fun w G p cells Ty hrow hfit hini => ?_⟩
  refine calls_of_wp hf hb (wp_skip ?_)
  exact ⟨rfl, .tuple #[], results_none hr _ _ _, ⟨_, rfl⟩, grownBy_refl _ _, cells, hrow, rfl, fun _ _ => rfl, hini⟩

/-! ## Fields whose reading looks at 'isFlexible' -/
section
variable {tags : Rel (List (Nat × List UInt8))} {E : RE} {v : Int} {flex ht : Bool}
theorem Rv.flexG {α : Type} {id t fs d : Nat} {ty : TypeId} {p : String} {eg : Array Edge} {A B : Code} {Ret : World → (Nat → Prop) → Value → α → Prop} (gt : Bool → St → α × St) (hfs : E.fs = some fs) (ht : decide (t < E.N) = true) (hnt : [t].all (fun t => !E.slots.contains t) = true)
    (hA : Rv E v flex d (gt true) Ret A) (hB : Rv E v flex d (gt false) Ret B) :
    Rv E v flex d (gt flex) Ret ((Code.region id #[⟨some t, .move (.tmp fs), ty, p, eg, none⟩] false).seq (Code.cond (.tmp t) A B)) :=
  Rv.ifFlex hfs (of_decide_eq_true ht) (by simpa [List.contains_eq_mem] using hnt) (fun h => by rw [h] at hA ⊢; exact hA) (fun h => by rw [h] at hB ⊢; exact hB)
theorem Rv.safe {α : Type} {id t d : Nat} {ty : TypeId} {p : String} {eg : Array Edge} {A B : Code} {g : St → α × St} {Ret : World → (Nat → Prop) → Value → α → Prop} (ht : decide (t < E.N) = true) (hnt : [t].all (fun t => !E.slots.contains t) = true) (hB : Rv E v flex d g Ret B) :
    Rv E v flex d g Ret ((Code.region id #[⟨some t, .move (.tmp E.us), ty, p, eg, none⟩] false).seq (Code.cond (.tmp t) A B)) :=
  Rv.ifUnsafe (of_decide_eq_true ht) (by simpa [List.contains_eq_mem] using hnt) hB
theorem Rv.call {α : Type} {id f d1 d : Nat} {tys : Array TypeId} {t1 t2 : TypeId} {p1 p2 : String} {e1 e2 : Array Edge} {g : St → α × St} {Ret : World → (Nat → Prop) → Value → α → Prop} (hf : Reads f g Ret) (h : decide (d1 < E.N ∧ d < E.N) = true) :
    Rv E v flex d g Ret (Code.region id #[⟨some d1, .call { callee := .value (.func f), args := #[.tmp E.rs], argTypes := tys }, t1, p1, e1, none⟩, ⟨some d, .assign (.tmp d1), t2, p2, e2, none⟩] false) :=
  Rv.call1 hf (of_decide_eq_true h).1 (of_decide_eq_true h).2
theorem FV.textF {frm to tag dflt of sub d id t fs} {ty : TypeId} {p : String} {eg : Array Edge} {A B : Code} (hfs : E.fs = some fs) (ht : decide (t < E.N) = true) (hnt : [t].all (fun t => !E.slots.contains t) = true) (hA : Rv E v flex d (rdText true false 2) IsStr A) (hB : Rv E v flex d (rdText false false 2) IsStr B) :
    FV E v flex (.mk 8 frm to (-1) tag dflt of sub) d ((Code.region id #[⟨some t, .move (.tmp fs), ty, p, eg, none⟩] false).seq (Code.cond (.tmp t) A B)) := FV.text (Rv.flexG (fun f => rdText f false 2) hfs ht hnt hA hB)
theorem FV.textN {frm to tag dflt of sub d} {c : Code} (hfl : flex = false) (h : Rv E v flex d (rdText false false 2) IsStr c) : FV E v flex (.mk 8 frm to (-1) tag dflt of sub) d c := by
  subst hfl; exact FV.text h
theorem FV.ntextF {frm to null tag dflt of sub d id t fs} {ty : TypeId} {p : String} {eg : Array Edge} {A B : Code} (hn : decide (0 ≤ null) = true) (hv : null ≤ v) (hfs : E.fs = some fs) (ht : decide (t < E.N) = true) (hnt : [t].all (fun t => !E.slots.contains t) = true)
    (hA : Rv E v flex d (rdText true true 2) NstrV A) (hB : Rv E v flex d (rdText false true 2) NstrV B) :
    FV E v flex (.mk 8 frm to null tag dflt of sub) d ((Code.region id #[⟨some t, .move (.tmp fs), ty, p, eg, none⟩] false).seq (Code.cond (.tmp t) A B)) := FV.ntext (of_decide_eq_true hn) hv (Rv.flexG (fun f => rdText f true 2) hfs ht hnt hA hB) (ntext_null _ _)
theorem FV.ntextN {frm to null tag dflt of sub d} {c : Code} (hn : decide (0 ≤ null) = true) (hv : null ≤ v) (hfl : flex = false) (h : Rv E v flex d (rdText false true 2) NstrV c) : FV E v flex (.mk 8 frm to null tag dflt of sub) d c := by
  subst hfl; exact FV.ntext (of_decide_eq_true hn) hv h (ntext_null _ _)
theorem FV.bytesF {frm to tag dflt of sub d id t fs} {ty : TypeId} {p : String} {eg : Array Edge} {A B : Code} (hfs : E.fs = some fs) (ht : decide (t < E.N) = true) (hnt : [t].all (fun t => !E.slots.contains t) = true) (hA : Rv E v flex d (rdOctets true) IsBytes A) (hB : Rv E v flex d (rdOctets false) IsBytes B) :
    FV E v flex (.mk 9 frm to (-1) tag dflt of sub) d ((Code.region id #[⟨some t, .move (.tmp fs), ty, p, eg, none⟩] false).seq (Code.cond (.tmp t) A B)) := FV.bytes (Rv.flexG rdOctets hfs ht hnt hA hB)
theorem FV.bytesN {frm to tag dflt of sub d} {c : Code} (hfl : flex = false) (h : Rv E v flex d (rdOctets false) IsBytes c) : FV E v flex (.mk 9 frm to (-1) tag dflt of sub) d c := by
  subst hfl; exact FV.bytes h
/-- A list's length. -/
theorem Rv.lenF {d id t fs : Nat} {ty : TypeId} {p : String} {eg : Array Edge} {A B : Code} (hfs : E.fs = some fs) (ht : decide (t < E.N) = true) (hnt : [t].all (fun t => !E.slots.contains t) = true) (hA : Rv E v flex d (rdLen true) (IsInt .i32) A) (hB : Rv E v flex d (rdLen false) (IsInt .i32) B) :
    Rv E v flex d (rdLen flex) (IsInt .i32) ((Code.region id #[⟨some t, .move (.tmp fs), ty, p, eg, none⟩] false).seq (Code.cond (.tmp t) A B)) := Rv.flexG rdLen hfs ht hnt hA hB
theorem Rv.lenN {d : Nat} {c : Code} (hfl : flex = false) (h : Rv E v flex d (rdLen false) (IsInt .i32) c) : Rv E v flex d (rdLen flex) (IsInt .i32) c := by
  subst hfl; exact h
theorem rd_ArrayLen : Reads 97 (rdLen false) (IsInt .i32) := ⟨by kernel_rfl, fun w S rb st h _ => Calls.mono (ArrayLen_any w S rb st h) fun e w' ⟨h1, h2, h3⟩ => ⟨_, h1, rfl, h2, h3, rfl⟩⟩
theorem rd_CompactArrayLen : Reads 96 (rdLen true) (IsInt .i32) := ⟨by kernel_rfl, fun w S rb st h _ => Calls.mono (CompactArrayLen_any w S rb st h) fun e w' ⟨h1, h2, h3⟩ => ⟨_, h1, rfl, h2, h3, rfl⟩⟩
end
end Go.Proofs.YtpknjenihcfhlaaDoor
/-
  'Default' of a part that sets fields; a new message. Conditions: none.
-/
namespace Go.Proofs.YtpknjenihcfhlaaDoor
open Go.RowKit (Below)
open Kz

/-- Cells set, one behind the other. -/
def setArr (z : Array Value) (p : Nat) : List (Nat × Value) → Array Value
  | [] => z
  | (i, u) :: r => setArr (z.setIfInBounds (p + i) u) p r
def setMany (w : World) (G p : Nat) : List (Nat × Value) → World
  | [] => w
  | (i, u) :: r => setMany (w.setCell ⟨G, p + i, none⟩ u) G p r
theorem setMany_append (G p : Nat) : ∀ (l r : List (Nat × Value)) (w : World), setMany w G p (l ++ r) = setMany (setMany w G p l) G p r
  | [], _, _ => rfl
  | (_, _) :: l, r, _ => setMany_append G p l r _
theorem setMany_row (G p : Nat) : ∀ (l : List (Nat × Value)) (w : World) (cells : Array Value) (Ty : TypeId) (fr : Nat × Nat), w.heap[G]? = some (.cells cells Ty fr) → (setMany w G p l).heap[G]? = some (.cells (setArr cells p l) Ty fr)
  | [], _, _, _, _, h => h
  | (_, _) :: l, _, _, Ty, fr, h => setMany_row G p l _ _ Ty fr (heap_setCell_row h)
theorem setArr_size (p : Nat) : ∀ (l : List (Nat × Value)) (z : Array Value), (setArr z p l).size = z.size
  | [], _ => rfl
  | (i, u) :: l, z => by rw [setArr, setArr_size p l]; simp
theorem setArr_other (p k : Nat) : ∀ (l : List (Nat × Value)) (z : Array Value), (∀ x ∈ l, p + x.1 ≠ k) → (setArr z p l)[k]? = z[k]?
  | [], _, _ => rfl
  | (i, u) :: l, z, h => by
    rw [setArr, setArr_other p k l _ fun x hx => h x (List.mem_cons_of_mem _ hx)]
    rw [Array.getElem?_setIfInBounds_ne (h (i, u) (by simp))]
theorem setMany_shift (G p o : Nat) : ∀ (l : List (Nat × Value)) (w : World), setMany w G (p + o) l = setMany w G p (l.map fun x => (o + x.1, x.2))
  | [], _ => rfl
  | (i, u) :: l, w => by
    simp only [setMany, List.map_cons, Nat.add_assoc]
    exact (by have := setMany_shift G p o l (w.setCell ⟨G, p + (o + i), none⟩ u); simpa [Nat.add_assoc] using this)
theorem setMany_grown (G p : Nat) : ∀ (l : List (Nat × Value)) (w : World), w.grownBy (setMany w G p l) (some G)
  | [], w => grownBy_refl w _
  | (_, _) :: l, w => grownBy_trans (grown_setCell (grownBy_refl w _) _ _) (setMany_grown G p l _)

def DS (N sp sz : Nat) (sets : List (Nat × Value)) (c : Code) : Prop := ∀ (a : Act) (w : World) (Q : Exit → Act → World → Prop) (G p : Nat) (cells : Array Value) (Ty : TypeId), a.tmps.size = N → sl a sp = .pointer (some ⟨G, p, none⟩) → w.heap[G]? = some (.cells cells Ty (0, 0)) → p + sz ≤ cells.size →
  (∀ a', Upd a a' (writes c) → Q .normal a' (setMany w G p sets)) → c.wp Tryd.prog Q a w
/-- 's.F = constant'. -/
theorem DS.store {id N sp sz off t1 t2 t3 T k ty : Nat} {u : Value} {y1 y2 y3 y4 : TypeId} {p1 p2 p3 p4 : String} {e1 e2 e3 e4 : Array Edge} (hf : offOf Tryd.prog T k = some off) (hty : sizeIs Tryd.prog ty 1 = true) (hu : u.oneCell' = true) (ho : decide (off < sz) = true) (hn : [t1, t2, t3].all (· < N) = true) :
    DS N sp sz [(off, u)] (Code.region id #[⟨some t1, .move (.tmp sp), y1, p1, e1, none⟩, ⟨some t2, .nilCheck (.tmp t1), y2, p2, e2, none⟩, ⟨some t3, .fieldAddr T (.tmp t2) k, y3, p3, e3, none⟩, ⟨none, .store ty (.tmp t3) (.const u), y4, p4, e4, none⟩] false) := by
  intro a w Q G p cells Ty hN hsp hrow hfit hq
  simp only [List.all_cons, List.all_nil, Bool.and_true, Bool.and_eq_true, decide_eq_true_eq] at hn
  have ho' := of_decide_eq_true ho
  have hlt : p + off < cells.size := by omega
  refine wp_region_lit (st_move (st_nil (p := ⟨G, p, none⟩) ?_ (st_field (b := G) (o := p) (fieldOff_ok hf) ?_ (st_store (b := G) (o := p + off) (u := cells[p + off]) (v := u) ?_ rfl (store1_ok hty hu) ?_ ?_ (wpList_nil (hq _ ?_))))))
  · rw [eval_tmp, sl_put_self _ _ _ (by omega), eval_tmp, hsp]
  · rw [eval_tmp, sl_put_self _ _ _ (by simp only [put_size]; omega)]
  · rw [eval_tmp, sl_put_self _ _ _ (by simp only [put_size]; omega)]
  · rw [cell_of_row w G (p + off) _ _ _ hrow]; simp [hlt]
  · simp [World.frozen?, hrow]
  · exact (((Upd.refl a _).put t1 _ (by simp [writes])).put t2 _ (by simp [writes])).put t3 _ (by simp [writes])
theorem DS.skip {N sp sz : Nat} : DS N sp sz [] Code.skip := fun a _ _ _ _ _ _ _ _ _ _ hq => wp_skip (hq a (Upd.refl _ _))
theorem DS.seq {N sp sz : Nat} {s1 s2 : List (Nat × Value)} {c1 c2 : Code} (h1 : DS N sp sz s1 c1) (h2 : DS N sp sz s2 c2) (hcl : clear [sp] c1 = true) : DS N sp sz (s1 ++ s2) (c1.seq c2) := by
  intro a w Q G p cells Ty hN hsp hrow hfit hq
  have hc := clear_iff hcl
  refine wp_seq (h1 a w _ G p cells Ty hN hsp hrow hfit fun a1 u1 => ?_)
  refine h2 a1 _ Q G p _ Ty (u1.size.trans hN) ((u1.same _ (hc _ (by simp))).trans hsp) (setMany_row G p s1 w cells Ty (0, 0) hrow) (by rw [setArr_size]; exact hfit) fun a2 u2 => ?_
  rw [← setMany_append]
  exact hq a2 ((u1.mono fun t ht => List.mem_append_left _ ht).trans (u2.mono fun t ht => List.mem_append_right _ ht))
/-- 'v := &s.F; _ = v; ..'. -/
theorem DS.sub {id id2 N sp s sz sz' off t1 t2 t3 t4 T k : Nat} {sets : List (Nat × Value)} {y1 y2 y3 y4 y5 : TypeId} {p1 p2 p3 p4 p5 : String} {e1 e2 e3 e4 e5 : Array Edge} {c : Code} (hf : offOf Tryd.prog T k = some off) (ho : decide (off + sz' ≤ sz) = true) (hn : [t1, t2, t3, s, t4].all (· < N) = true) (hts : decide (t4 ≠ s) = true)
    (h : DS N s sz' sets c) :
    DS N sp sz (sets.map fun x => (off + x.1, x.2)) ((Code.region id #[⟨some t1, .move (.tmp sp), y1, p1, e1, none⟩, ⟨some t2, .nilCheck (.tmp t1), y2, p2, e2, none⟩, ⟨some t3, .fieldAddr T (.tmp t2) k, y3, p3, e3, none⟩, ⟨some s, .assign (.tmp t3), y4, p4, e4, none⟩] false).seq
      ((Code.region id2 #[⟨some t4, .move (.tmp s), y5, p5, e5, none⟩] false).seq c)) := by
  intro a w Q G p cells Ty hN hsp hrow hfit hq
  simp only [List.all_cons, List.all_nil, Bool.and_true, Bool.and_eq_true, decide_eq_true_eq] at hn
  have ho' := of_decide_eq_true ho
  have hts' := of_decide_eq_true hts
  refine wp_seq (wp_region_lit (st_move (st_nil (p := ⟨G, p, none⟩) ?_ (st_field (b := G) (o := p) (fieldOff_ok hf) ?_ (st_assign (wpList_nil ?_))))))
  · rw [eval_tmp, sl_put_self _ _ _ (by omega), eval_tmp, hsp]
  · rw [eval_tmp, sl_put_self _ _ _ (by simp only [put_size]; omega)]
  generalize hA : (((a.put (some t1) (a.eval (.tmp sp))).put (some t2) (.pointer (some ⟨G, p, none⟩))).put (some t3) (.pointer (some ⟨G, p + off, none⟩))).put (some s) ((((a.put (some t1) (a.eval (.tmp sp))).put (some t2) (.pointer (some ⟨G, p, none⟩))).put (some t3) (.pointer (some ⟨G, p + off, none⟩))).eval (.tmp t3)) = a1
  have u1 : Upd a a1 [t1, t2, t3, s] := by subst hA; exact ((((Upd.refl a _).put t1 _ (by simp)).put t2 _ (by simp)).put t3 _ (by simp)).put s _ (by simp)
  have s1 : sl a1 s = .pointer (some ⟨G, p + off, none⟩) := by subst hA; rw [sl_put_self _ _ _ (by simp only [put_size]; omega), eval_tmp, sl_put_self _ _ _ (by simp only [put_size]; omega)]
  refine wp_seq (reg_move (by rw [u1.size]; omega) fun a2 u2 _ => ?_)
  refine h a2 w Q G (p + off) cells Ty (u2.size.trans (u1.size.trans hN)) (by rw [u2.same s (by simp; exact fun e => hts' e.symm)]; exact s1) hrow (by omega) fun a3 u3 => ?_
  rw [setMany_shift]
  refine hq a3 ((u1.mono ?_).trans ((u2.mono ?_).trans (u3.mono ?_)))
  · intro t ht; simp only [writes, List.mem_append]; left; simpa [writes] using ht
  · intro t ht; simp only [writes, List.mem_append]; right; left; simpa [writes] using ht
  · intro t ht; simp only [writes, List.mem_append]; exact .inr (.inr ht)

/-- A function 'Default'. -/
def DefSets (f sz : Nat) (sets : List (Nat × Value)) : Prop := hasBody Tryd.prog f = true ∧ ∀ (w : World) (G p : Nat) (cells : Array Value) (Ty : TypeId), w.heap[G]? = some (.cells cells Ty (0, 0)) → p + sz ≤ cells.size →
  Calls Tryd.prog f #[.pointer (some ⟨G, p, none⟩)] w fun e w' => (∃ u, e = .returned u) ∧ w' = setMany w G p sets
theorem defSets {f sz : Nat} {sets : List (Nat × Value)} {fn : Func} {c : Code} (hf : Tryd.prog.funcs[f]? = some fn) (hb : fn.body = some c) (hr : fn.results = #[]) (hN : decide (1 ≤ fn.ntmps) = true) (hg : hasBody Tryd.prog f = true) (h : DS fn.ntmps 0 sz sets c) : DefSets f sz sets := by
  refine ⟨hg, fun w G p cells Ty hrow hfit => calls_of_wp hf hb ?_⟩
  have hN' := of_decide_eq_true hN
  refine h _ w _ G p cells Ty (by simp; omega) (by simp [sl, Array.getD_eq_getD_getElem?, Array.getElem?_append]) hrow hfit fun a' hu => ?_
  exact ⟨hu.defers, .tuple #[], results_none hr _ _ _, ⟨_, rfl⟩, rfl⟩

/-! ## What is to lie there ahead of a reading, cell by cell -/
mutual
def inisF (ht : Bool) : F → Nat → List Nat
  | .mk kind _ _ null _ _ _ sub, b => (if kind = 11 then [b] else []) ++ (if kind = 10 ∧ null < 0 then inisFs ht sub b else [])
def inisFs (ht : Bool) : List F → Nat → List Nat
  | [], _ => []
  | f :: fs, b => inisF ht f b ++ inisFs ht fs (b + cellsF ht f)
end
mutual
theorem iniF_cells (ht : Bool) : ∀ (f : F) (b : Nat) (c : Cells), iniF ht f (fun j => c (b + j)) ↔ ∀ k ∈ inisF ht f b, c k = some (.slice none 0 0)
  | .mk kind _ _ null _ _ _ sub, b, c => by
    simp only [iniF, inisF, List.mem_append, Nat.add_zero]
    have ih := iniFs_cells ht sub b c
    constructor
    · rintro ⟨h1, h2⟩ k (hk | hk)
      · split at hk
        · rename_i h; simp only [List.mem_singleton] at hk; subst hk; exact h1 h
        · cases hk
      · split at hk
        · rename_i h; exact ih.1 (h2 h) k hk
        · cases hk
    · intro h
      refine ⟨fun hk => h b (.inl (by simp [hk])), fun hk => ih.2 fun k hk' => h k (.inr (by rw [if_pos hk]; exact hk'))⟩
theorem iniFs_cells (ht : Bool) : ∀ (fs : List F) (b : Nat) (c : Cells), iniFs ht fs (fun j => c (b + j)) ↔ ∀ k ∈ inisFs ht fs b, c k = some (.slice none 0 0)
  | [], b, c => by simp [iniFs, inisFs]
  | f :: fs, b, c => by
    have h1 := iniF_cells ht f b c
    have h2 := iniFs_cells ht fs (b + cellsF ht f) c
    simp only [iniFs, inisFs, List.mem_append, ← Nat.add_assoc]
    rw [h1, h2]
    constructor
    · rintro ⟨a1, a2⟩ k (hk | hk)
      · exact a1 k hk
      · exact a2 k hk
    · intro h
      exact ⟨fun k hk => h k (.inl hk), fun k hk => h k (.inr hk)⟩
end
mutual
theorem inisF_le (ht : Bool) : ∀ (f : F) (b : Nat), ∀ k ∈ inisF ht f b, b ≤ k
  | .mk kind _ _ null _ _ _ sub, b, k, hk => by
    simp only [inisF, List.mem_append] at hk
    rcases hk with hk | hk
    · split at hk
      · simp only [List.mem_singleton] at hk; omega
      · cases hk
    · split at hk
      · exact inis_le ht sub b k hk
      · cases hk
theorem inis_le (ht : Bool) : ∀ (fs : List F) (b : Nat), ∀ k ∈ inisFs ht fs b, b ≤ k
  | [], _, _, hk => by simp [inisFs] at hk
  | f :: fs, b, k, hk => by
    simp only [inisFs, List.mem_append] at hk
    rcases hk with hk | hk
    · exact inisF_le ht f b k hk
    · have := inis_le ht fs _ k hk; omega
end
/-- 'Default' of a part lets nil lists nil. -/
theorem DefSets.ok {f sz : Nat} {sets : List (Nat × Value)} {ht : Bool} {fs : List F} (h : DefSets f sz sets) (hs : sets.all (fun x => decide (x.1 < sz) && !(inisFs ht fs 0).contains x.1) = true) : DefOk f sz (iniFs ht fs) := by
  refine ⟨h.1, fun w G p cells Ty hrow hfit hini => Calls.mono (h.2 w G p cells Ty hrow hfit) ?_⟩
  rintro e w' ⟨hu, rfl⟩
  have hs' : ∀ x ∈ sets, x.1 < sz ∧ x.1 ∉ inisFs ht fs 0 := fun x hx => by
    have := List.all_eq_true.1 hs x hx
    simpa [List.contains_eq_mem] using this
  refine ⟨hu, setMany_grown G p sets w, _, setMany_row G p sets w cells Ty (0, 0) hrow, setArr_size _ _ _, fun i hi => setArr_other p i sets cells fun x hx => by have := (hs' x hx).1; omega, ?_⟩
  have e1 := iniFs_cells ht fs 0 (fun j => cells[p + j]?)
  have e2 := iniFs_cells ht fs 0 (fun j => (setArr cells p sets)[p + j]?)
  simp only [Nat.zero_add] at e1 e2
  refine e2.2 fun k hk => ?_
  rw [setArr_other p (p + k) sets cells fun x hx e => (hs' x hx).2 (by rw [show x.1 = k by omega]; exact hk)]
  exact e1.1 hini k hk
/-- .. of a whole message: its version too. -/
theorem DefSets.okM {f sz : Nat} {sets : List (Nat × Value)} {ht : Bool} {fs : List F} {v : Int} (h : DefSets f sz sets) (hs : sets.all (fun x => decide (x.1 < sz) && decide (x.1 ≠ 0) && !(inisFs ht fs 1).contains x.1) = true) : DefOk f sz (iniM ht v fs) := by
  refine ⟨h.1, fun w G p cells Ty hrow hfit hini => Calls.mono (h.2 w G p cells Ty hrow hfit) ?_⟩
  rintro e w' ⟨hu, rfl⟩
  have hs' : ∀ x ∈ sets, x.1 < sz ∧ x.1 ≠ 0 ∧ x.1 ∉ inisFs ht fs 1 := fun x hx => by
    have := List.all_eq_true.1 hs x hx
    simp only [Bool.and_eq_true, decide_eq_true_eq, Bool.not_eq_true', List.contains_eq_mem, decide_eq_false_iff_not] at this
    exact ⟨this.1.1, this.1.2, this.2⟩
  refine ⟨hu, setMany_grown G p sets w, _, setMany_row G p sets w cells Ty (0, 0) hrow, setArr_size _ _ _, fun i hi => setArr_other p i sets cells fun x hx => by have := (hs' x hx).1; omega, ?_⟩
  obtain ⟨i0, i1⟩ := hini
  have e1 := iniFs_cells ht fs 1 (fun j => cells[p + j]?)
  have e2 := iniFs_cells ht fs 1 (fun j => (setArr cells p sets)[p + j]?)
  refine ⟨?_, e2.2 fun k hk => ?_⟩
  · show (setArr cells p sets)[p + 0]? = _
    rw [setArr_other p (p + 0) sets cells fun x hx e => (hs' x hx).2.1 (by omega)]
    exact i0
  · rw [setArr_other p (p + k) sets cells fun x hx e => (hs' x hx).2.2 (by rw [show x.1 = k by omega]; exact hk)]
    exact e1.1 i1 k hk
end Go.Proofs.YtpknjenihcfhlaaDoor
