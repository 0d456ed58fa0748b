/-
  Messages that are read. Conditions: none.
-/
import Derived.Test.YthdfhnnoamlacaaDoorY2
import Derived.Maps.Own
import Derived.Maps.OwnSet
import Derived.Carry
/-
  Code that reads a value into a variable, and puts it into a field; code under a condition. Conditions: none.
-/
namespace Go.Proofs.YthdfhnnoamlacaaDoor
open Go.RowKit (Below)
open Kz

/-! ## Facts of the type table, each a closed question -/
def offOf (P : Program) (T k : Nat) : Option Nat :=
  match P.underlying T with
  | some (.struct fs) => match fs[k]? with
    | some f => match P.info? f.type with
      | some i => if i.size ≠ 0 then some f.offset else none
      | none => none
    | none => none
  | _ => none
theorem fieldOff_ok {P : Program} {T k off : Nat} (h : offOf P T k = some off) : FieldOff P T k off := by
  unfold offOf at h
  split at h
  · rename_i fs h1
    split at h
    · rename_i f h2
      split at h
      · rename_i i h3
        split at h
        · rename_i h4
          exact fieldOff_of h1 h2 (Option.some.inj h) h3 h4
        · cases h
      · cases h
    · cases h
  · cases h
def sizeIs (P : Program) (T n : Nat) : Bool := match P.info? T with | some i => i.size == n | none => false
theorem store1_ok {P : Program} {ty : Nat} {v : Value} (h : sizeIs P ty 1 = true) (hv : v.oneCell' = true) : Store1 P ty v := by
  unfold sizeIs at h
  split at h
  · rename_i i hi; exact store1_of hi (by simpa using h) hv
  · cases h
/-- A function with a body. -/
def hasBody (P : Program) (f : Nat) : Bool := match P.funcs[f]? with | some fn => fn.body.isSome && !(fn.name == "runtime.NumGoroutine") | none => false
theorem hasBody_ok {P : Program} {f : Nat} (h : hasBody P f = true) : ∃ fn, P.funcs[f]? = some fn ∧ fn.body.isSome = true ∧ (fn.name == "runtime.NumGoroutine") = false := by
  unfold hasBody at h
  split at h
  · rename_i fn hf
    simp only [Bool.and_eq_true, Bool.not_eq_true'] at h
    exact ⟨fn, hf, h.1, h.2⟩
  · cases h

/-- A function of the reader. -/
def Reads {α : Type} (f : Nat) (sem : St → α × St) (Ret : World → (Nat → Prop) → Value → α → Prop) : Prop :=
  hasBody Tryd.prog f = true ∧ ∀ (w : World) (S : Nat → Prop) (rb : Nat) (st : St), RdIs w S rb st → ErrOk w → Calls Tryd.prog f #[.pointer (some ⟨rb, 0, none⟩)] w fun e w' =>
    ∃ v, e = .returned v ∧ v.oneCell' = true ∧ RdIs w' S rb (sem st).2 ∧ w.grownBy w' (some rb) ∧ Ret w' (fun g => S g ∨ w.heap.size ≤ g) v (sem st).1
/-- What was said of a value stays. -/
def StableV {α : Type} (Ret : World → (Nat → Prop) → Value → α → Prop) : Prop :=
  ∀ (w w' : World) (K K' : Nat → Prop) (v : Value) (x : α), (∀ g, K g → g < w.heap.size → w'.heap[g]? = w.heap[g]?) → w.heap.size ≤ w'.heap.size → (∀ g, K g → K' g) → Ret w K v x → Ret w' K' v x

/-- Behind a code that leaves a value in a slot. -/
def PostV {α : Type} (W : List Nat) (d : Nat) (g : St → α × St) (Ret : World → (Nat → Prop) → Value → α → Prop) (rb : Nat) (S : Nat → Prop) (st : St) (a : Act) (w : World) : Exit → Act → World → Prop
  | .normal, a', w' => Upd a a' W ∧ RdIs w' S rb (g st).2 ∧ w.grownBy w' (some rb) ∧ (sl a' d).oneCell' = true ∧ Ret w' (fun g => S g ∨ w.heap.size ≤ g) (sl a' d) (g st).1
  | _, _, _ => False
/-- A code that leaves a value in a slot. -/
def Rv {α : Type} (E : RE) (v : Int) (flex : Bool) (d : Nat) (g : St → α × St) (Ret : World → (Nat → Prop) → Value → α → Prop) (c : Code) : Prop :=
  ∀ rb S st a w, Fr E rb v flex a → RdIs w S rb st → ErrOk w → c.wp Tryd.prog (PostV (writes c) d g Ret rb S st a w) a w

section
variable {α : Type} {E : RE} {v : Int} {flex : Bool}

theorem PostV.mono {W W' : List Nat} {d : Nat} {g : St → α × St} {Ret : World → (Nat → Prop) → Value → α → Prop} {rb : Nat} {S : Nat → Prop} {st : St} {a : Act} {w : World} (h : ∀ t ∈ W, t ∈ W') (e : Exit) (a' : Act) (w' : World)
    (hq : PostV W d g Ret rb S st a w e a' w') : PostV W' d g Ret rb S st a w e a' w' := by
  cases e with
  | normal => exact ⟨hq.1.mono h, hq.2⟩
  | _ => exact hq

/-- 'd := b.F()'. -/
theorem Rv.call1 {id f d1 d : Nat} {tys : Array TypeId} {t1 t2 : TypeId} {p1 p2 : String} {e1 e2 : Array Edge} {g : St → α × St} {Ret : World → (Nat → Prop) → Value → α → Prop} (hf : Reads f g Ret) (h1 : d1 < E.N) (h2 : d < E.N) :
    Rv E v flex d g Ret (Code.region id #[⟨some d1, .call { callee := .value (.func f), args := #[.tmp E.rs], argTypes := tys }, t1, p1, e1, none⟩, ⟨some d, .assign (.tmp d1), t2, p2, e2, none⟩] false) := by
  intro rb S st a w hfr hr he
  obtain ⟨fn, hfn, hb, hn⟩ := hasBody_ok hf.1
  refine reg_call1 hfn hb hn (by rw [hfr.size]; exact h1) (by rw [hfr.size]; exact h2) ?_
  rw [hfr.rs]
  refine Calls.mono (hf.2 w S rb st hr he) ?_
  rintro e w' ⟨x, rfl, ho, hr', hg, hret⟩
  exact ⟨x, rfl, fun a' hu hd => ⟨hu, hr', hg, by rw [hd]; exact ho, by rw [hd]; exact hret⟩⟩

/-- A region that writes slots alone, ahead of a code that reads. -/
theorem Rd.before {sp off n : Nat} {ini : (Nat → Option Value) → Prop} {g : St → α × St} {R : World → (Nat → Prop) → (Nat → Option Value) → α → Prop} {r c : Code} (hcl : clear (sp :: E.slots) r = true)
    (hr : ∀ a w Q, a.tmps.size = E.N → (∀ a', Upd a a' (writes r) → Q .normal a' w) → r.wp Tryd.prog Q a w) (h : Rd E v flex sp off n ini g R c) : Rd E v flex sp off n ini g R (r.seq c) := by
  intro rb S st cb co cells T a w hp
  have hcl' := clear_iff hcl
  refine wp_seq (hr a w _ hp.fr.size fun a' hu => ?_)
  refine wp_mono (h rb S st cb co cells T a' w { hp with fr := hp.fr.upd hu (fun t ht => hcl' t (List.mem_cons_of_mem _ ht)), ptr := (hu.same _ (hcl' _ (by simp))).trans hp.ptr }) ?_
  intro e a2 w2 hq
  cases e with
  | normal => exact ⟨(hu.mono (fun t ht => List.mem_append_left _ ht)).trans (hq.1.mono (fun t ht => List.mem_append_right _ ht)), hq.2⟩
  | _ => exact hq

/-- A value is put into a field. -/
theorem Rd.store {id sp off d t1 t2 t3 t4 T k ty : Nat} {ty1 ty2 ty3 ty4 ty5 : TypeId} {p1 p2 p3 p4 p5 : String} {e1 e2 e3 e4 e5 : Array Edge} {c : Code} {ini : (Nat → Option Value) → Prop} {g : St → α × St}
    {Ret : World → (Nat → Prop) → Value → α → Prop} (h : Rv E v flex d g Ret c) (hst : StableV Ret) (hcl : clear (sp :: E.slots) c = true) (hf : offOf Tryd.prog T k = some off) (hty : sizeIs Tryd.prog ty 1 = true) (hn : [t1, t2, t3, t4].all (· < E.N) = true)
    (hd : decide (t1 ≠ t2 ∧ t1 ≠ d ∧ t2 ≠ t3 ∧ t2 ≠ t4) = true) :
    Rd E v flex sp off 1 ini g (fun w K c x => ∃ u, c 0 = some u ∧ Ret w K u x) (c.seq (Code.region id #[⟨some t1, .move (.tmp sp), ty1, p1, e1, none⟩, ⟨some t2, .move (.tmp d), ty2, p2, e2, none⟩, ⟨some t3, .nilCheck (.tmp t1), ty3, p3, e3, none⟩,
      ⟨some t4, .fieldAddr T (.tmp t3) k, ty4, p4, e4, none⟩, ⟨none, .store ty (.tmp t4) (.tmp t2), ty5, p5, e5, none⟩] false)) := by
  intro rb S st cb co cells Ty a w hp
  have hcl' := clear_iff hcl
  simp only [List.all_cons, List.all_nil, Bool.and_true, Bool.and_eq_true, decide_eq_true_eq] at hn hd
  obtain ⟨n1, n2, n3, n4⟩ := hn
  obtain ⟨d1, d2, d3, d4⟩ := hd
  refine wp_seq (wp_mono (h rb S st a w hp.fr hp.rd hp.err) ?_)
  intro e a1 w1 hq
  cases e with
  | normal =>
    obtain ⟨hu, hr, hg, ho, hret⟩ := hq
    have hsz : a1.tmps.size = E.N := hu.size.trans hp.fr.size
    have hrow1 : w1.heap[cb]? = some (.cells cells Ty (0, 0)) := by rw [hg.block cb (Array.getElem?_eq_some_iff.1 hp.row).1 (fun e => hp.ne (Option.some.inj e))]; exact hp.row
    have hfit := hp.fit
    have hlt : co + off < cells.size := by omega
    have hcell : w1.cell? ⟨cb, co + off, none⟩ = some cells[co + off] := by rw [cell_of_row w1 cb (co + off) _ _ _ hrow1]; simp [hlt]
    have hfz : w1.frozen? ⟨cb, co + off, none⟩ = false := by simp [World.frozen?, hrow1]
    refine reg_storeField (fieldOff_ok hf) (store1_ok hty ho) (by omega) (by omega) (by omega) (by omega) d1 d2 d3 d4 ((hu.same _ (hcl' _ (by simp))).trans hp.ptr) rfl hcell hfz fun a' hu' => ?_
    have hmd : Md w1 (w1.setCell ⟨cb, co + off, none⟩ (sl a1 d)) rb cb (co + off) 1 := Md.of_set _ (by omega)
    refine ⟨(hu.mono ?_).trans (hu'.mono ?_), hr.kept (row := some cb) ⟨rfl, rfl, rfl, by simp [World.setCell], fun k _ hk => Below.heap_setCell _ _ _ _ (fun e => hk (by rw [e]))⟩ (fun g hg e => hp.src (by rw [← Option.some.inj e]; exact hg)) (fun e => hp.ne (Option.some.inj e).symm),
      (Md.of_grown hg hp.ne (co + off) 1).trans hmd (by omega) (by omega), cells.setIfInBounds (co + off) (sl a1 d), heap_setCell_row hrow1, ?_⟩
    · intro x hx; simp only [writes, List.mem_append]; exact .inl hx
    · intro x hx; simp only [writes, List.mem_append]; right; simpa [writes] using hx
    · refine ⟨sl a1 d, by simp [hlt], hst w1 _ _ _ _ _ (fun g hg hlt => ?_) (by simp [World.setCell]) (fun g hg => hg) hret⟩
      refine Below.heap_setCell _ _ _ _ ?_
      rintro rfl
      rcases hg with hg | hg
      · exact hp.src hg
      · have := (Array.getElem?_eq_some_iff.1 hp.row).1; omega
  | _ => exact hq.elim
end
end Go.Proofs.YthdfhnnoamlacaaDoor
/-
  Code under a condition; a field, the fields of a part, its tags. Conditions: none.
-/
namespace Go.Proofs.YthdfhnnoamlacaaDoor
open Go.RowKit (Below)
open Kz

section
variable {E : RE} {v : Int} {flex : Bool}

theorem Rd.conv {α β : Type} {sp off n : Nat} {ini ini' : (Nat → Option Value) → Prop} {g : St → α × St} {g' : St → β × St} {R : Rel α} {R' : Rel β} {c : Code} (h : Rd E v flex sp off n ini g R c)
    (k : α → β) (hg : ∀ st, g' st = (k (g st).1, (g st).2)) (hR : ∀ w K cc x, R w K cc x → R' w K cc (k x)) (hini : ∀ cc, ini' cc → ini cc) : Rd E v flex sp off n ini' g' R' c := by
  intro rb S st cb co cells T a w hp
  refine wp_mono (h rb S st cb co cells T a w { hp with ini := hini _ hp.ini }) ?_
  intro e a2 w2 hq
  cases e with
  | normal =>
    obtain ⟨hu, hr, hm, cells', hrow, hret⟩ := hq
    refine ⟨hu, by rw [hg]; exact hr, hm, cells', hrow, ?_⟩
    rw [hg]
    exact hR _ _ _ _ hret
  | ret =>
    obtain ⟨hn, h2⟩ := hq
    exact ⟨by rw [hg]; exact hn, h2⟩
  | exit id => exact hq
  | goto l => exact hq
  | panic ch => exact hq
  | outgrown => exact hq

/-- A test: it leaves its answer in a slot. -/
def Test (E : RE) (v : Int) (flex : Bool) (t : Nat) (q : Bool) (r : Code) : Prop :=
  clear E.slots r = true ∧ ∀ (rb : Nat) (a : Act) (w : World) (Q : Exit → Act → World → Prop), Fr E rb v flex a → (∀ a', Upd a a' (writes r) → sl a' t = .bool q → Q .normal a' w) → r.wp Tryd.prog Q a w

/-- A piece that is run if a test says so. -/
theorem Rd.guard {α : Type} {sp off n t : Nat} {q : Bool} {ini : (Nat → Option Value) → Prop} {g : St → α × St} {z : α} {R : Rel α} {r c : Code} (hT : Test E v flex t q r) (hsp : clear [sp] r = true) (h : q = true → Rd E v flex sp off n ini g R c) :
    Rd E v flex sp off n ini (fun st => if q then g st else (z, st)) (fun w K cc x => q = true → R w K cc x) (r.seq (Code.cond (.tmp t) c Code.skip)) := by
  intro rb S st cb co cells T a w hp
  have hcl := clear_iff hT.1
  have hsp' := clear_iff hsp
  refine wp_seq (hT.2 rb a w _ hp.fr fun a' hu hs => ?_)
  have hfr := hp.fr.upd hu hcl
  cases q with
  | true =>
    refine wp_cond_true (by rw [eval_tmp, hs]) (wp_mono (h rfl rb S st cb co cells T a' w { hp with fr := hfr, ptr := (hu.same _ (hsp' _ (by simp))).trans hp.ptr }) ?_)
    intro e a2 w2 hq
    cases e with
    | normal =>
      obtain ⟨hu2, hr, hm, cells', hrow, hret⟩ := hq
      exact ⟨(hu.mono (fun t ht => by simp only [writes, List.mem_append]; exact .inl ht)).trans (hu2.mono (fun t ht => by simp only [writes, List.mem_append]; exact .inr (.inl ht))), hr, hm, cells', hrow, fun _ => hret⟩
    | ret => exact hq
    | exit id => exact hq
    | goto l => exact hq
    | panic ch => exact hq
    | outgrown => exact hq
  | false =>
    refine wp_cond_false (by rw [eval_tmp, hs]) (wp_skip ?_)
    exact ⟨hu.mono (fun t ht => by simp only [writes, List.mem_append]; exact .inl ht), hp.rd, Md.refl _ _ _ _ _, cells, hp.row, fun h => by cases h⟩
end

/-! ## A field, the fields of a part -/
section
variable (tags : Rel (List (Nat × List UInt8))) (E : RE) (v : Int) (flex ht : Bool)

/-- The code that reads a field that is there. -/
def RdV (sp off : Nat) (f : F) (c : Code) : Prop := Rd E v flex sp off (cellsF ht f) (iniF ht f) (rd v flex f) (repF tags v flex ht f) c
/-- The code of a field, there or not. -/
def RdF (sp off : Nat) (f : F) (c : Code) : Prop := Rd E v flex sp off (cellsF ht f) (iniF ht f) (fun st => if f.tag < 0 ∧ f.has v = true then rd v flex f st else (dfltF f, st)) (fun w K cc t => f.on v flex = true → repF tags v flex ht f w K cc t) c
/-- The code of fields. -/
def RdFs (sp off : Nat) (fs : List F) (c : Code) : Prop := Rd E v flex sp off (cellsFs ht fs) (iniFs ht fs) (plainR v fs (rds v flex fs) (dfltOf fs)) (plainRep v flex ht fs (repFs tags v flex ht fs)) c

/-- Unknown tags, as they are read. -/
def utag (x : List (Nat × List UInt8) × St) : List (Nat × List UInt8) × St :=
  (setTag (rdV x.2).1 (rdSpan (rdV (rdV x.2).2).1 (rdV (rdV x.2).2).2).1 x.1, (rdSpan (rdV (rdV x.2).2).1 (rdV (rdV x.2).2).2).2)
def utags : Nat → List (Nat × List UInt8) × St → List (Nat × List UInt8) × St
  | 0, x => x
  | k + 1, x => utags k (utag x)
def rdTags (st : St) : List (Nat × List UInt8) × St := utags (rdV st).1 ([], (rdV st).2)
/-- The code of fields, and of the tags behind them. -/
def RdTl (sp off : Nat) (fs : List F) (c : Code) : Prop :=
  Rd E v flex sp off (cellsP ht fs) (iniFs ht fs) (fun st => (((plainR v fs (rds v flex fs) (dfltOf fs) st).1, (if flex then rdTags (plainR v fs (rds v flex fs) (dfltOf fs) st).2 else ([], (plainR v fs (rds v flex fs) (dfltOf fs) st).2)).1),
      (if flex then rdTags (plainR v fs (rds v flex fs) (dfltOf fs) st).2 else ([], (plainR v fs (rds v flex fs) (dfltOf fs) st).2)).2))
    (fun w K cc x => plainRep v flex ht fs (repFs tags v flex ht fs) w K cc x.1 ∧ (flex = true → tags w K (fun j => cc (cellsFs ht fs + j)) x.2)) c
/-- The code of a part. -/
def RdP (sp off : Nat) (fs : List F) (c : Code) : Prop := Rd E v flex sp off (cellsP ht fs) (iniFs ht fs) (rdPart v flex fs) (repP tags v flex ht fs) c
end

section
variable {tags : Rel (List (Nat × List UInt8))} {E : RE} {v : Int} {flex ht : Bool}

theorem strict_fieldR (v : Int) (flex : Bool) (f : F) (part : St → T × St) (hp : Strict part) : Strict (fieldR v flex f part) := by
  unfold fieldR
  split
  · exact strict_listR flex _ _
  · split
    · show (let (p, s) := rdI 1 none; if p ≠ -1 ∧ s.isSome then part s else (Tnull, s)).2 = none
      rfl
    · exact strict_valR _ _ _ _ hp
theorem strict_plain' (v : Int) : ∀ (fs : List F) (gs : List (St → T × St)) (ds : List T), (∀ g ∈ gs, Strict g) → Strict (plainR v fs gs ds)
  | [], [], _, _ => rfl
  | [], _ :: _, _, _ => rfl
  | _ :: _, [], _, _ => rfl
  | f :: fs, g :: gs, ds, h => by
    have ih := strict_plain' v fs gs ds.tail (fun g hg => h g (List.mem_cons_of_mem _ hg))
    show (plainR v (f :: fs) (g :: gs) ds none).2 = none
    simp only [plainR]
    split
    · have h1 : (g none).2 = none := h g (by simp)
      rw [h1]; exact ih
    · exact ih
theorem utags_none : ∀ (n : Nat) (u : List (Nat × List UInt8)), (utags n (u, none)).2 = none
  | 0, _ => rfl
  | n + 1, _ => utags_none n _
theorem strict_rdTags : Strict rdTags := utags_none _ _

mutual
theorem strict_rd (v : Int) (flex : Bool) : ∀ f : F, Strict (rd v flex f)
  | .mk kind frm to null tag dflt of sub => by
    simp only [rd]
    refine strict_fieldR _ _ _ _ ?_
    have h1 := strict_plain' v sub (rds v flex sub) (dfltOf sub) (strict_rds v flex sub)
    show (asmR v flex sub (rds v flex sub) (dfltOf sub) none).2 = none
    simp only [asmR]
    rw [h1]
    split
    · have e : (rdV none).2 = none := rfl
      simp only [e]
      exact strict_tagsR sub (rds v flex sub) (rdV none).1 (plainR v sub (rds v flex sub) (dfltOf sub) none).1 []
    · rfl
theorem strict_rds (v : Int) (flex : Bool) : ∀ fs : List F, ∀ g ∈ rds v flex fs, Strict g
  | [], _, h => by cases h
  | f :: fs, g, h => by
    simp only [rds, List.mem_cons] at h
    rcases h with rfl | h
    · exact strict_rd v flex f
    · exact strict_rds v flex fs g h
end
theorem strict_plainF (v : Int) (flex : Bool) (fs : List F) (ds : List T) : Strict (plainR v fs (rds v flex fs) ds) := strict_plain' v fs _ ds (strict_rds v flex fs)

theorem RdV.guard {sp off t : Nat} {q : Bool} {f : F} {r c : Code} (hT : Test E v flex t q r) (hq : f.has v = q) (ht0 : f.tag < 0) (hsp : clear [sp] r = true) (h : RdV tags E v flex ht sp off f c) :
    RdF tags E v flex ht sp off f (r.seq (Code.cond (.tmp t) c Code.skip)) := by
  subst hq
  refine Rd.conv (Rd.guard (z := dfltF f) hT hsp (fun _ => h)) id (fun st => ?_) (fun w K cc x hx ho => hx ?_) (fun _ h => h)
  · simp only [ht0, true_and, id]
  · simpa [F.on, ht0] using ho

theorem RdFs.one {sp off : Nat} {f : F} {c : Code} (h : RdF tags E v flex ht sp off f c) : RdFs tags E v flex ht sp off [f] c := by
  have e : cellsFs ht [f] = cellsF ht f := rfl
  unfold RdFs
  rw [e]
  refine Rd.conv h (fun x => [x]) (fun st => ?_) (fun w K cc x hx => ⟨x, [], rfl, hx, rfl⟩) (fun _ h => h.1)
  simp only [rds, dfltOf, plainR, List.headD_cons]
theorem RdFs.cons (htg : flex = true → ht = true) (hT : Stable 1 tags) {sp off : Nat} {f : F} {fs : List F} {c1 c2 : Code} (h1 : RdF tags E v flex ht sp off f c1) (hcl : clear (sp :: E.slots) c1 = true) (h2 : RdFs tags E v flex ht sp (off + cellsF ht f) fs c2) :
    RdFs tags E v flex ht sp off (f :: fs) (c1.seq c2) := by
  have h := Rd.seq h1 h2 hcl (fun w w' K K' c c' x hk hs hK hc hx ho => stable_repF htg hT f w w' K K' c c' x hk hs hK hc (hx ho)) (stable_plainF htg hT fs) (strict_plainF v flex fs _) (ini_locFs ht fs) List.cons
  refine Rd.conv h id (fun st => ?_) (fun w K cc x hx => ?_) (fun _ h => h)
  · simp only [rds, dfltOf, plainR, List.headD_cons, List.tail_cons, id]
  · obtain ⟨y, z, rfl, h1, h2⟩ := hx
    exact ⟨y, z, rfl, h1, h2⟩
theorem RdTl.cons (htg : flex = true → ht = true) (hT : Stable 1 tags) {sp off : Nat} {f : F} {fs : List F} {c1 c2 : Code} (h1 : RdF tags E v flex ht sp off f c1) (hcl : clear (sp :: E.slots) c1 = true) (h2 : RdTl tags E v flex ht sp (off + cellsF ht f) fs c2) :
    RdTl tags E v flex ht sp off (f :: fs) (c1.seq c2) := by
  have hst2 : Stable (cellsP ht fs) (fun w K cc (x : List T × List (Nat × List UInt8)) => plainRep v flex ht fs (repFs tags v flex ht fs) w K cc x.1 ∧ (flex = true → tags w K (fun j => cc (cellsFs ht fs + j)) x.2)) := by
    intro w w' K K' c c' x hk hs hK hc hx
    refine ⟨stable_plainF htg hT fs w w' K K' c c' x.1 hk hs hK (fun j hj => hc j (by simp only [cellsP]; omega)) hx.1, fun hf => hT w w' K K' _ _ _ hk hs hK (fun j hj => hc _ ?_) (hx.2 hf)⟩
    simp only [cellsP, htg hf, Bool.toNat_true]; omega
  have hs2 : Strict (fun st => (((plainR v fs (rds v flex fs) (dfltOf fs) st).1, (if flex then rdTags (plainR v fs (rds v flex fs) (dfltOf fs) st).2 else ([], (plainR v fs (rds v flex fs) (dfltOf fs) st).2)).1),
      (if flex then rdTags (plainR v fs (rds v flex fs) (dfltOf fs) st).2 else ([], (plainR v fs (rds v flex fs) (dfltOf fs) st).2)).2)) := by
    have h1 := strict_plainF v flex fs (dfltOf fs)
    unfold Strict at h1 ⊢
    simp only [h1]
    split
    · exact strict_rdTags
    · rfl
  have hloc : ∀ c c' : Nat → Option Value, (∀ j, j < cellsP ht fs → c' j = c j) → iniFs ht fs c → iniFs ht fs c' := fun c c' hc => ini_locFs ht fs c c' (fun j hj => hc j (by simp only [cellsP]; omega))
  have h := Rd.seq h1 h2 hcl (fun w w' K K' c c' x hk hs hK hc hx ho => stable_repF htg hT f w w' K K' c c' x hk hs hK hc (hx ho)) hst2 hs2 hloc (fun x y => (x :: y.1, y.2))
  have e : cellsP ht (f :: fs) = cellsF ht f + cellsP ht fs := by simp only [cellsP, cellsFs]; omega
  unfold RdTl
  rw [e]
  refine Rd.conv h id (fun st => ?_) (fun w K cc x hx => ?_) (fun _ h => h)
  · simp only [rds, dfltOf, plainR, List.headD_cons, List.tail_cons, id]
  · obtain ⟨y, z, rfl, h1, h2, h3⟩ := hx
    refine ⟨⟨y, z.1, rfl, h1, h2⟩, fun hf => ?_⟩
    have := h3 hf
    simp only [cellsFs]
    simp only [Nat.add_assoc]
    exact this
end
end Go.Proofs.YthdfhnnoamlacaaDoor
/-
  The reader's functions, in one form; fields of numbers, texts, octets. Conditions: none.
-/
namespace Go.Proofs.YthdfhnnoamlacaaDoor
open Go.RowKit (Below)
open Kz

def IsInt (k : IntKind) (_ : World) (_ : Nat → Prop) (u : Value) (x : Int) : Prop := u = .int k x
theorem stable_isInt (k : IntKind) : StableV (IsInt k) := fun _ _ _ _ _ _ _ _ _ h => h
def IsStr (_ : World) (_ : Nat → Prop) (u : Value) (x : T) : Prop := u = strV x.s ∧ x.null = false
theorem stable_isStr : StableV IsStr := fun _ _ _ _ _ _ _ _ _ h => h
def IsBool (_ : World) (_ : Nat → Prop) (u : Value) (x : Nat) : Prop := u = .bool (x != 0)
theorem stable_isBool : StableV IsBool := fun _ _ _ _ _ _ _ _ _ h => h
def IsBytes (w : World) (K : Nat → Prop) (u : Value) (x : T) : Prop := BytesAt w K u x.s ∧ x.null = false
theorem stable_isBytes : StableV IsBytes := fun _ _ _ _ _ _ hk hs hK h => ⟨stable_bytes hk hs hK h.1, h.2⟩

section
variable {tags : Rel (List (Nat × List UInt8))} {E : RE} {v : Int} {flex ht : Bool}

/-- A code that leaves a value, of a field of one cell, ahead of its store: what is asked of it. -/
def FV (E : RE) (v : Int) (flex : Bool) (f : F) (d : Nat) (c : Code) : Prop :=
  ∃ (α : Type) (g : St → α × St) (Ret : World → (Nat → Prop) → Value → α → Prop) (k : α → T), Rv E v flex d g Ret c ∧ StableV Ret ∧ (∀ st, rd v flex f st = (k (g st).1, (g st).2)) ∧
    ∀ (tags : Rel (List (Nat × List UInt8))) (ht : Bool) w K cc x u, cc 0 = some u → Ret w K u x → repF tags v flex ht f w K cc (k x)

theorem rdI8_b (st : St) : -9223372036854775808 ≤ (rdI 8 st).1 ∧ (rdI 8 st).1 ≤ 9223372036854775807 := by
  have h := rdI_bounds 8 st (by decide)
  have e : (2 : Int) ^ (8 * 8 - 1) = 9223372036854775808 := rfl
  rw [e] at h
  omega
theorem Rv.also {α : Type} {d : Nat} {g : St → α × St} {Ret : World → (Nat → Prop) → Value → α → Prop} {P : α → Prop} {c : Code} (h : Rv E v flex d g Ret c) (hP : ∀ st, P (g st).1) : Rv E v flex d g (fun w K u x => Ret w K u x ∧ P x) c := by
  intro rb S st a w hfr hr he
  refine wp_mono (h rb S st a w hfr hr he) ?_
  intro e a' w' hq
  cases e with
  | normal => exact ⟨hq.1, hq.2.1, hq.2.2.1, hq.2.2.2.1, hq.2.2.2.2, hP st⟩
  | _ => exact hq
theorem FV.int {k frm to null tag dflt of sub d} {c : Code} (hk : k = 1 ∨ k = 2 ∨ k = 3 ∨ k = 4) (h : Rv E v flex d (rdI (width k)) (IsInt (ikOf k)) c) : FV E v flex (.mk k frm to null tag dflt of sub) d c :=
  ⟨Int, rdI (width k), fun w K u x => IsInt (ikOf k) w K u x ∧ (k = 3 → -2147483648 ≤ x ∧ x ≤ 2147483647) ∧ (k = 4 → -9223372036854775808 ≤ x ∧ x ≤ 9223372036854775807), Tn,
    h.also fun st => ⟨fun h3 => by subst h3; exact rdI4_b st, fun h4 => by subst h4; exact rdI8_b st⟩, fun w w' K K' u x hk hs hK hx => ⟨stable_isInt _ w w' K K' u x hk hs hK hx.1, hx.2⟩, fun st => by rcases hk with rfl | rfl | rfl | rfl <;> rfl,
    fun tags ht w K cc x u hc hu => by
      rcases hk with rfl | rfl | rfl | rfl
      · simp [repF, fieldRep, valRep, Tn]; rw [hc, hu.1]
      · simp [repF, fieldRep, valRep, Tn]; rw [hc, hu.1]
      · have := hu.2.1 rfl
        simp only [repF, fieldRep, Tn]
        refine ⟨by rw [hc, hu.1], fun h => by omega, fun _ => this, fun h => by omega⟩
      · have := hu.2.2 rfl
        simp only [repF, fieldRep, Tn]
        refine ⟨by rw [hc, hu.1], fun h => by omega, fun h => by omega, fun _ => this⟩⟩
theorem FV.bool {frm to null tag dflt of sub d} {c : Code} (h : Rv E v flex d (rdU 1) IsBool c) : FV E v flex (.mk 0 frm to null tag dflt of sub) d c :=
  ⟨Nat, rdU 1, IsBool, fun n => Tn (if n = 0 then 0 else 1), h, stable_isBool, fun st => rfl,
    fun tags ht w K cc x u hc hu => by
      simp [repF, fieldRep, valRep, Tn]; rw [hc, hu]
      by_cases hx : x = 0 <;> simp [hx]⟩
theorem FV.text {frm to tag dflt of sub d} {c : Code} (h : Rv E v flex d (rdText flex false 2) IsStr c) : FV E v flex (.mk 8 frm to (-1) tag dflt of sub) d c :=
  ⟨T, rdText flex false 2, IsStr, id, h, stable_isStr, fun st => by simp [rd, fieldR, valR, F.may],
    fun tags ht w K cc x u hc hu => by simp [repF, fieldRep, valRep]; rw [hc, hu.1]; exact ⟨rfl, hu.2⟩⟩
theorem FV.bytes {frm to tag dflt of sub d} {c : Code} (h : Rv E v flex d (rdOctets flex) IsBytes c) : FV E v flex (.mk 9 frm to (-1) tag dflt of sub) d c :=
  ⟨T, rdOctets flex, IsBytes, id, h, stable_isBytes, fun st => by simp [rd, fieldR, valR, F.may],
    fun tags ht w K cc x u hc hu => by simp [repF, fieldRep, valRep]; exact ⟨u, hc, hu.1, hu.2⟩⟩
/-- A value of one cell is put into its field. -/
theorem RdV.of {id sp off d t1 t2 t3 t4 T k ty : Nat} {ty1 ty2 ty3 ty4 ty5 : TypeId} {p1 p2 p3 p4 p5 : String} {e1 e2 e3 e4 e5 : Array Edge} {f : F} {c : Code} (h : FV E v flex f d c) (hone : cellsF ht f = 1) (hcl : clear (sp :: E.slots) c = true)
    (hf : offOf Tryd.prog T k = some off) (hty : sizeIs Tryd.prog ty 1 = true) (hn : [t1, t2, t3, t4].all (· < E.N) = true) (hd : decide (t1 ≠ t2 ∧ t1 ≠ d ∧ t2 ≠ t3 ∧ t2 ≠ t4) = true) :
    RdV tags E v flex ht sp off f (c.seq (Code.region id #[⟨some t1, .move (.tmp sp), ty1, p1, e1, none⟩, ⟨some t2, .move (.tmp d), ty2, p2, e2, none⟩, ⟨some t3, .nilCheck (.tmp t1), ty3, p3, e3, none⟩,
      ⟨some t4, .fieldAddr T (.tmp t3) k, ty4, p4, e4, none⟩, ⟨none, .store ty (.tmp t4) (.tmp t2), ty5, p5, e5, none⟩] false)) := by
  obtain ⟨α, g, Ret, kk, h1, h2, h3, h4⟩ := h
  unfold RdV
  rw [hone]
  exact Rd.conv (Rd.store (ini := fun _ => True) h1 h2 hcl hf hty hn hd) kk h3 (fun w K cc x ⟨u, hc, hu⟩ => h4 _ _ _ _ _ _ _ hc hu) (fun _ _ => trivial)

/-- A text's variable is first empty. -/
theorem RdV.empty {sp off id d : Nat} {u : Value} {ty : TypeId} {p : String} {e : Array Edge} {f : F} {c : Code} (hd : d < E.N) (hcl : clear (sp :: E.slots) (Code.region id #[⟨some d, .assign (.const u), ty, p, e, none⟩] false) = true) (h : RdV tags E v flex ht sp off f c) :
    RdV tags E v flex ht sp off f ((Code.region id #[⟨some d, .assign (.const u), ty, p, e, none⟩] false).seq c) :=
  Rd.before hcl (fun a w Q ha hq => reg_const (by rw [ha]; exact hd) fun a' hu _ => hq a' hu) h
end
end Go.Proofs.YthdfhnnoamlacaaDoor
/-
  Lists, read: the loop over the elements. Conditions: none.
-/
namespace Go.Proofs.YthdfhnnoamlacaaDoor
open Go.RowKit (Below)
open Kz

/-- A list's element: the code that fills number i. -/
def ElB (E : RE) (v : Int) (flex : Bool) (da di sz : Nat) (g : St → T × St) (R : Rel T) (ini : Cells → Prop) (c : Code) : Prop :=
  ∀ (rb : Nat) (S : Nat → Prop) (st : St) (G o n m i : Nat) (cells : Array Value) (Ty : TypeId) (a : Act) (w : World), Fr E rb v flex a → RdIs w S rb st → ErrOk w → rb ≠ 0 → G ≠ 0 →
    G ≠ rb → ¬ S G → (∀ g, S g → g < w.heap.size) → sl a da = .slice (some ⟨G, o, none⟩) n m → sl a di = .int .i32 (i : Int) → i < n → w.heap[G]? = some (.cells cells Ty (0, 0)) → o + i * sz + sz ≤ cells.size → ini (fun j => cells[o + i * sz + j]?) →
    c.wp Tryd.prog (Post E 0 sz (writes c) g R rb S st G (o + i * sz) Ty a w) a w

theorem wp_inBlock {P : Program} {id : Nat} {c : Code} {Q : Exit → Act → World → Prop} {a : Act} {w : World} (h : c.wp P Q a w) (hx : ∀ a w, ¬ Q (.exit id) a w) : (Code.block id c).wp P Q a w := by
  refine wp_block (wp_mono h ?_)
  intro e a w hq
  cases e with
  | exit id' =>
    by_cases he : id' = id
    · subst he; exact absurd hq (hx _ _)
    · simp only [Exit.inBlock, if_neg he]; exact hq
  | _ => exact hq

theorem rdMany_len (g : St → T × St) : ∀ (n : Nat) (st : St), (rdMany g n st).1.length = n
  | 0, _ => rfl
  | n + 1, st => by simp only [rdMany, List.length_cons]; rw [rdMany_len g n]

section
variable {E : RE} {v : Int} {flex : Bool}

end
end Go.Proofs.YthdfhnnoamlacaaDoor
/-
  Lists, read: the whole code of a list. Conditions: none.
-/
namespace Go.Proofs.YthdfhnnoamlacaaDoor
open Go.RowKit (Below)
open Kz

/-! ## Steps -/
def SLoad (N sp off d : Nat) (c : Code) : Prop := ∀ (a : Act) (w : World) (Q : Exit → Act → World → Prop) (b o : Nat) (u : Value), a.tmps.size = N → sl a sp = .pointer (some ⟨b, o, none⟩) → w.cell? ⟨b, o + off, none⟩ = some u →
  (∀ a', Upd a a' (writes c) → sl a' d = u → Q .normal a' w) → c.wp Tryd.prog Q a w
def SCopy (N x d : Nat) (c : Code) : Prop := ∀ (a : Act) (w : World) (Q : Exit → Act → World → Prop), a.tmps.size = N → (∀ a', Upd a a' (writes c) → sl a' d = sl a x → Q .normal a' w) → c.wp Tryd.prog Q a w
def SConst (N d : Nat) (u : Value) (c : Code) : Prop := ∀ (a : Act) (w : World) (Q : Exit → Act → World → Prop), a.tmps.size = N → (∀ a', Upd a a' (writes c) → sl a' d = u → Q .normal a' w) → c.wp Tryd.prog Q a w
def SStore (N sp off d : Nat) (c : Code) : Prop := ∀ (a : Act) (w : World) (Q : Exit → Act → World → Prop) (b o : Nat) (u : Value), a.tmps.size = N → sl a sp = .pointer (some ⟨b, o, none⟩) → (sl a d).oneCell' = true → w.cell? ⟨b, o + off, none⟩ = some u →
  w.frozen? ⟨b, o + off, none⟩ = false → (∀ a', Upd a a' (writes c) → Q .normal a' (w.setCell ⟨b, o + off, none⟩ (sl a d))) → c.wp Tryd.prog Q a w
def SSlice0 (N x : Nat) (c : Code) : Prop := ∀ (a : Act) (w : World) (Q : Exit → Act → World → Prop) (p : Option Addr) (n m : Nat), a.tmps.size = N → sl a x = .slice p n m → (∀ a', Upd a a' (writes c) → sl a' x = .slice p 0 m → Q .normal a' w) → c.wp Tryd.prog Q a w
def SPos (N x t : Nat) (c : Code) : Prop := ∀ (a : Act) (w : World) (Q : Exit → Act → World → Prop) (l : Int), a.tmps.size = N → sl a x = .int .i32 l → (∀ a', Upd a a' (writes c) → sl a' t = .bool (decide (0 < l)) → Q .normal a' w) → c.wp Tryd.prog Q a w
def SApp (N x l : Nat) (z : Array Value) (c : Code) : Prop := ∀ (a : Act) (w : World) (Q : Exit → Act → World → Prop) (n : Nat), a.tmps.size = N → sl a x = .slice none 0 0 → sl a l = .int .i32 (n : Int) → 0 < n → n ≤ 2147483647 →
  (∀ a' w' m arr Ty, Upd a a' (writes c) → sl a' x = .slice (some ⟨w.heap.size, 0, none⟩) n m → w'.heap = w.heap.push (.cells arr Ty (0, 0)) → w'.os = w.os → w'.tape = w.tape → w'.output = w.output → n * z.size ≤ arr.size →
    (∀ i j, i < n → j < z.size → arr[i * z.size + j]? = z[j]?) → Q .normal a' w') → c.wp Tryd.prog Q a w
def SNotOk (E : RE) (t : Nat) (c : Code) : Prop := ∀ (a : Act) (w : World) (Q : Exit → Act → World → Prop) (S : Nat → Prop) (rb : Nat) (st : St), a.tmps.size = E.N → sl a E.rs = .pointer (some ⟨rb, 0, none⟩) → RdIs w S rb st →
  (∀ a', Upd a a' (writes c) → sl a' t = .bool (!st.isSome) → Q .normal a' w) → c.wp Tryd.prog Q a w
def SFail (E : RE) (c : Code) : Prop := ∀ (a : Act) (w : World) (Q : Exit → Act → World → Prop) (S : Nat → Prop) (rb : Nat) (st : St), a.tmps.size = E.N → sl a E.rs = .pointer (some ⟨rb, 0, none⟩) → RdIs w S rb st → ErrOk w →
  (∀ a', Upd a a' (writes c) → ErrV st (sl a' E.res) → Q .normal a' w) → c.wp Tryd.prog Q a w

/-- A slice's type. -/
def sliceOf (P : Program) (T : Nat) : Option Nat := match P.underlying T with | some (.slice e) => some e | _ => none
theorem sliceOf_ok {P : Program} {T e : Nat} (h : sliceOf P T = some e) : P.underlying T = some (.slice e) := by
  unfold sliceOf at h
  split at h
  · rename_i e' he; cases h; exact he
  · cases h
theorem sizeIs_ok {P : Program} {e n : Nat} (h : sizeIs P e n = true) : ∃ i, P.info? e = some i ∧ i.size = n := by
  unfold sizeIs at h
  split at h
  · rename_i i hi; exact ⟨i, hi, by simpa using h⟩
  · cases h
end Go.Proofs.YthdfhnnoamlacaaDoor
/-
  Lists, read: the whole code of a list; its elements. Conditions: none.
-/
namespace Go.Proofs.YthdfhnnoamlacaaDoor
open Go.RowKit (Below)
open Kz

section
variable {tags : Rel (List (Nat × List UInt8))} {E : RE} {v : Int} {flex ht : Bool}

/-- A loop over the elements. -/
def SLoop (E : RE) (v : Int) (flex : Bool) (da di dl sz : Nat) (g : St → T × St) (R : Rel T) (ini : Cells → Prop) (c : Code) : Prop :=
  ∀ (rb : Nat) (S : Nat → Prop) (st : St) (n : Nat) (a0 : Act) (w0 : World), Fr E rb v flex a0 → RdIs w0 S rb st → ErrOk w0 → rb ≠ 0 → (∀ g, S g → g < w0.heap.size) → sl a0 di = .int .i32 0 → n ≤ 2147483647 →
    (∀ (G o m : Nat) (cells : Array Value) (Ty : TypeId) (Q : Exit → Act → World → Prop), sl a0 dl = .int .i32 (n : Int) → G ≠ 0 → G ≠ rb → ¬ S G → sl a0 da = .slice (some ⟨G, o, none⟩) n m →
      w0.heap[G]? = some (.cells cells Ty (0, 0)) → o + n * sz ≤ cells.size → (∀ i, i < n → ini (fun j => cells[o + i * sz + j]?)) →
      (∀ a' w', Upd a0 a' (writes c) → RdIs w' S rb (rdMany g n st).2 → Md w0 w' rb G o (n * sz) →
        (∀ (k : Nat) x, (rdMany g n st).1[k]? = some x → R w' (fun g => S g ∨ w0.heap.size ≤ g) (fun j => w'.cell? ⟨G, o + k * sz + j, none⟩) x) → Q .normal a' w') →
      (∀ a' w', (rdMany g n st).2 = none → a'.tmps.size = E.N → a'.defers = [] → (∃ t x, sl a' E.res = .iface t x) → Md w0 w' rb G o (n * sz) → Q .ret a' w') →
      c.wp Tryd.prog Q a0 w0) ∧
    ∀ (l : Int) (Q : Exit → Act → World → Prop), sl a0 dl = .int .i32 l → l ≤ 0 → (∀ a', Upd a0 a' (writes c) → Q .normal a' w0) → c.wp Tryd.prog Q a0 w0

theorem mem_writes_seq {a b : Code} {t : Nat} : t ∈ writes (a.seq b) ↔ t ∈ writes a ∨ t ∈ writes b := by simp [writes]
theorem writes_cond {x : Operand} {a b : Code} : writes (Code.cond x a b) = writes a ++ writes b := rfl
theorem clear_seq {l : List Nat} {a b : Code} : clear l (a.seq b) = true ↔ clear l a = true ∧ clear l b = true := by
  simp only [clear, List.all_eq_true, Bool.not_eq_true', List.contains_eq_mem, decide_eq_false_iff_not, mem_writes_seq, not_or]
  exact ⟨fun h => ⟨fun t ht => (h t ht).1, fun t ht => (h t ht).2⟩, fun h t ht => ⟨h.1 t ht, h.2 t ht⟩⟩
theorem upd_of {a a' : Act} {c : Code} {l : List Nat} (hu : Upd a a' (writes c)) (hc : clear l c = true) : ∀ t ∈ l, sl a' t = sl a t := fun t ht => hu.same t (clear_iff hc t ht)

theorem rdLen_le (flex : Bool) (st : St) : (rdLen flex st).1 ≤ 2147483647 := by
  have h0 : (rdLen0 flex st).1 ≤ 2147483647 := by
    unfold rdLen0
    split
    · simp only [wrap32]; omega
    · exact (rdI4_b st).2
  unfold rdLen
  cases h : (rdLen0 flex st).2 with
  | none => exact h0
  | some bs =>
    simp only [chkLen]
    split
    · simp
    · exact h0

/-- The element's part of a list. -/
abbrev elR (tags : Rel (List (Nat × List UInt8))) (v : Int) (flex ht : Bool) (of : Nat) (sub : List F) : Rel T := valRep false of (repP tags v flex ht sub)
abbrev elG (v : Int) (flex : Bool) (of : Nat) (sub : List F) : St → T × St := valR of (rdPart v flex sub) false flex
def elIni (ht : Bool) (of : Nat) (sub : List F) (c : Cells) : Prop := of = 10 → iniFs ht sub c
theorem elIni_loc (ht : Bool) (of : Nat) (sub : List F) : ∀ c c' : Cells, (∀ j, j < valCells of (cellsP ht sub) → c' j = c j) → elIni ht of sub c → elIni ht of sub c' := by
  intro c c' hc h h10
  refine ini_locFs ht sub c c' (fun j hj => hc j ?_) (h h10)
  subst h10
  simp only [valCells, cellsP]
  simp
  omega
theorem elR_stable (htg : flex = true → ht = true) (hT : Stable 1 tags) (of : Nat) (sub : List F) : Stable (valCells of (cellsP ht sub)) (elR tags v flex ht of sub) := by
  have := stable_val (ptr := false) (kind := of) (stable_repP htg hT (v := v) sub)
  simpa [fieldCells] using this

/-- A list that may not be null, whatever is to lie ahead in its elements. -/
theorem RdV.listG (htg : flex = true → ht = true) (hT : Stable 1 tags) {sp off d0 da dl di tN tP of : Nat} {frm to null tag dflt : Int} {sub : List F} {z : Array Value} {c1 c2 c3 cL cN cF c6 cP cA c0 cLoop c9 c10 : Code} {inie : Cells → Prop} (hloc : ∀ c c' : Cells, (∀ j, j < valCells of (cellsP ht sub) → c' j = c j) → inie c → inie c') (hnull : null < 0)
    (h1 : SLoad E.N sp off d0 c1) (h2 : SCopy E.N d0 da c2) (h3 : SConst E.N dl (.int .i32 0) c3) (hL : Rv E v flex dl (rdLen flex) (IsInt .i32) cL) (hN : SNotOk E tN cN) (hF : SFail E cF) (h6 : SSlice0 E.N da c6) (hP : SPos E.N dl tP cP)
    (hA : SApp E.N da dl z cA) (h0 : SConst E.N di (.int .i32 0) c0) (hl : SLoop E v flex da di dl (valCells of (cellsP ht sub)) (elG v flex of sub) (elR tags v flex ht of sub) inie cLoop) (h9 : SCopy E.N da d0 c9) (h10 : SStore E.N sp off d0 c10)
    (hz : z.size = valCells of (cellsP ht sub)) (hini : inie (fun j => z[j]?))
    (hcl : clear (sp :: E.slots) (c1.seq (c2.seq (c3.seq (cL.seq (cN.seq (c6.seq (cP.seq (cA.seq (c0.seq (cLoop.seq c9)))))))))) = true)
    (hca : clear [da] (c3.seq (cL.seq (cN.seq (cP.seq (c0.seq cLoop))))) = true) (hcd : clear [dl] (cN.seq (c6.seq (cP.seq (cA.seq c0)))) = true) :
    RdV tags E v flex ht sp off (.mk 11 frm to null tag dflt of sub)
      (c1.seq (c2.seq (c3.seq (cL.seq ((cN.seq (Code.cond (.tmp tN) (cF.seq Code.ret) Code.skip)).seq (c6.seq ((cP.seq (Code.cond (.tmp tP) cA Code.skip)).seq ((c0.seq cLoop).seq (c9.seq c10))))))))) := by
  intro rb S st cb co cells Ty a w hp
  simp only [clear_seq] at hcl hca hcd
  obtain ⟨k1, k2, k3, kL, kN, k6, kP, kA, k0, kl, k9⟩ := hcl
  obtain ⟨a3, aL, aN, aP, a0, al⟩ := hca
  obtain ⟨dN, d6, dP, dA, d0'⟩ := hcd
  have hfit := hp.fit
  simp only [cellsF, fieldCells, valCells] at hfit
  simp at hfit
  have hini0 : cells[co + off]? = some (.slice none 0 0) := by have := hp.ini; simp only [iniF] at this; exact this.1 trivial
  have hcell : ∀ {w' : World}, w'.heap[cb]? = some (.cells cells Ty (0, 0)) → w'.cell? ⟨cb, co + off, none⟩ = some (.slice none 0 0) := fun h => by rw [cell_of_row _ cb _ _ _ _ h]; exact hini0
  refine wp_seq (h1 a w _ cb co _ hp.fr.size hp.ptr (hcell hp.row) fun a1 u1 s1 => ?_)
  refine wp_seq (h2 a1 w _ (u1.size.trans hp.fr.size) fun a2 u2 s2 => ?_)
  refine wp_seq (h3 a2 w _ (u2.size.trans (u1.size.trans hp.fr.size)) fun a3' u3 s3 => ?_)
  have f1 := hp.fr.upd u1 (fun t ht => clear_iff k1 t (List.mem_cons_of_mem _ ht))
  have f2 := f1.upd u2 (fun t ht => clear_iff k2 t (List.mem_cons_of_mem _ ht))
  have f3 := f2.upd u3 (fun t ht => clear_iff k3 t (List.mem_cons_of_mem _ ht))
  have hsp3 : sl a3' sp = .pointer (some ⟨cb, co, none⟩) := by rw [upd_of u3 k3 sp (by simp), upd_of u2 k2 sp (by simp), upd_of u1 k1 sp (by simp)]; exact hp.ptr
  have hda3 : sl a3' da = .slice none 0 0 := by rw [upd_of u3 a3 da (by simp), s2, s1]
  refine wp_seq (wp_mono (hL rb S st a3' w f3 hp.rd hp.err) ?_)
  intro e a4 w4 hq4
  cases e with
  | normal => ?_
  | _ => exact hq4.elim
  obtain ⟨u4, r4, g4, -, hlen⟩ := hq4
  simp only [IsInt] at hlen
  have f4 := f3.upd u4 (fun t ht => clear_iff kL t (List.mem_cons_of_mem _ ht))
  have hsp4 : sl a4 sp = .pointer (some ⟨cb, co, none⟩) := by rw [upd_of u4 kL sp (by simp)]; exact hsp3
  have hda4 : sl a4 da = .slice none 0 0 := by rw [upd_of u4 aL da (by simp)]; exact hda3
  have he4 : ErrOk w4 := hp.err.kept g4 (fun e => hp.rbe (Option.some.inj e))
  refine wp_seq (wp_seq (hN a4 w4 _ S rb _ f4.size f4.rs r4 fun a5 u5 s5 => ?_))
  have f5 := f4.upd u5 (fun t ht => clear_iff kN t (List.mem_cons_of_mem _ ht))
  have hmd4 : Md w w4 rb cb (co + off) (cellsF ht (.mk 11 frm to null tag dflt of sub)) := Md.of_grown g4 hp.ne _ _
  have hrow4 : w4.heap[cb]? = some (.cells cells Ty (0, 0)) := by rw [g4.block cb (Array.getElem?_eq_some_iff.1 hp.row).1 (fun e => hp.ne (Option.some.inj e))]; exact hp.row
  have hgst : rd v flex (.mk 11 frm to null tag dflt of sub) st = listR false (elG v flex of sub) (rdLen flex st) := by
    have : ¬ (0 ≤ null) := by omega
    simp [rd, fieldR, F.may, this]
    rfl
  cases hok : (rdLen flex st).2 with
  | none =>
    rw [hok] at s5 r4
    refine wp_cond_true (by rw [eval_tmp, s5]; rfl) (wp_seq (hF a5 w4 _ S rb none f5.size f5.rs r4 he4 fun a6 u6 s6 => wp_ret ?_))
    have hv : ∃ t x, sl a6 E.res = .iface t x := by simpa [ErrV] using s6
    refine ⟨?_, u6.size.trans f5.size, u6.defers.trans f5.defers, hv, hmd4⟩
    rw [hgst]
    simp [listR, hok]
  | some bs => ?_
  rw [hok] at s5 r4
  refine wp_cond_false (by rw [eval_tmp, s5]; rfl) (wp_skip ?_)
  have hl5 : sl a5 dl = .int .i32 (rdLen flex st).1 := by rw [upd_of u5 dN dl (by simp)]; exact hlen
  have hda5 : sl a5 da = .slice none 0 0 := by rw [upd_of u5 aN da (by simp)]; exact hda4
  refine wp_seq (h6 a5 w4 _ _ _ _ f5.size hda5 fun a6 u6 s6 => ?_)
  have f6 := f5.upd u6 (fun t ht => clear_iff k6 t (List.mem_cons_of_mem _ ht))
  have hl6 : sl a6 dl = .int .i32 (rdLen flex st).1 := by rw [upd_of u6 d6 dl (by simp)]; exact hl5
  refine wp_seq (wp_seq (hP a6 w4 _ _ f6.size hl6 fun a7 u7 s7 => ?_))
  have f7 := f6.upd u7 (fun t ht => clear_iff kP t (List.mem_cons_of_mem _ ht))
  have hl7 : sl a7 dl = .int .i32 (rdLen flex st).1 := by rw [upd_of u7 dP dl (by simp)]; exact hl6
  have hda7 : sl a7 da = .slice none 0 0 := by rw [upd_of u7 aP da (by simp)]; exact s6
  have hsp7 : sl a7 sp = .pointer (some ⟨cb, co, none⟩) := by rw [upd_of u7 kP sp (by simp), upd_of u6 k6 sp (by simp), upd_of u5 kN sp (by simp)]; exact hsp4
  have hlt := rdLen_le flex st
  generalize hr : (rdLen flex st).1 = r at *
  -- what holds behind the list's loop
  have hend : ∀ (a8 : Act) (w8 : World) (ts : List T) (st' : St), Fr E rb v flex a8 → sl a8 sp = .pointer (some ⟨cb, co, none⟩) → Upd a a8 (writes (c1.seq (c2.seq (c3.seq (cL.seq ((cN.seq (Code.cond (.tmp tN) (cF.seq Code.ret) Code.skip)).seq (c6.seq ((cP.seq (Code.cond (.tmp tP) cA Code.skip)).seq ((c0.seq cLoop).seq (c9.seq c10)))))))))) →
      RdIs w8 S rb st' → w.grownBy w8 (some rb) → w8.heap[cb]? = some (.cells cells Ty (0, 0)) → rd v flex (.mk 11 frm to null tag dflt of sub) st = (Tl ts, st') → (sl a8 da).oneCell' = true →
      (∀ c : Cells, c 0 = some (sl a8 da) → repF tags v flex ht (.mk 11 frm to null tag dflt of sub) w8 (fun g => S g ∨ w.heap.size ≤ g) c (Tl ts)) →
      (c9.seq c10).wp Tryd.prog (Post E off (cellsF ht (.mk 11 frm to null tag dflt of sub)) (writes (c1.seq (c2.seq (c3.seq (cL.seq ((cN.seq (Code.cond (.tmp tN) (cF.seq Code.ret) Code.skip)).seq (c6.seq ((cP.seq (Code.cond (.tmp tP) cA Code.skip)).seq ((c0.seq cLoop).seq (c9.seq c10)))))))))) (rd v flex (.mk 11 frm to null tag dflt of sub)) (repF tags v flex ht (.mk 11 frm to null tag dflt of sub)) rb S st cb co Ty a w) a8 w8 := by
    intro a8 w8 ts st' f8 hsp8 hu8 r8 g8 hrow8 hrd8 hone hrep
    refine wp_seq (h9 a8 w8 _ f8.size fun a9 u9 s9 => ?_)
    have f9 := f8.upd u9 (fun t ht => clear_iff k9 t (List.mem_cons_of_mem _ ht))
    have hc0 : (co + off) < cells.size := by omega
    refine h10 a9 w8 _ cb co _ f9.size (by rw [upd_of u9 k9 sp (by simp)]; exact hsp8) (by rw [s9]; exact hone) (hcell hrow8) (by simp [World.frozen?, hrow8]) fun a10 u10 => ?_
    have hmd : Md w8 (w8.setCell ⟨cb, co + off, none⟩ (sl a9 d0)) rb cb (co + off) (cellsF ht (.mk 11 frm to null tag dflt of sub)) := Md.of_set _ (by simp [cellsF, fieldCells, valCells])
    refine ⟨(hu8.trans (u9.mono ?_)).trans (u10.mono ?_), ?_, (Md.of_grown g8 hp.ne (co + off) (cellsF ht (.mk 11 frm to null tag dflt of sub))).trans hmd (by omega) (by omega), cells.setIfInBounds (co + off) (sl a9 d0), heap_setCell_row hrow8, ?_⟩
    · intro t ht; simp only [mem_writes_seq, ht]; simp
    · intro t ht; simp only [mem_writes_seq, ht]; simp
    · rw [hrd8]
      exact r8.kept (row := some cb) ⟨rfl, rfl, rfl, by simp [World.setCell], fun k _ hk => Below.heap_setCell _ _ _ _ (fun e => hk (by rw [e]))⟩ (fun g hg e => hp.src (by rw [← Option.some.inj e]; exact hg)) (fun e => hp.ne (Option.some.inj e).symm)
    · rw [hrd8]
      refine stable_repF htg hT (.mk 11 frm to null tag dflt of sub) w8 _ _ _ (fun j => (cells.setIfInBounds (co + off) (sl a9 d0))[co + off + j]?) _ _ (fun g hg hlt => ?_) (by simp [World.setCell]) (fun g hg => hg) (fun j hj => rfl) (hrep _ ?_)
      · refine Below.heap_setCell _ _ _ _ ?_
        rintro rfl
        rcases hg with hg | hg
        · exact hp.src hg
        · have := (Array.getElem?_eq_some_iff.1 hp.row).1; omega
      · rw [← s9]; simp [hc0]
  have hu7 : Upd a a7 (writes (c1.seq (c2.seq (c3.seq (cL.seq ((cN.seq (Code.cond (.tmp tN) (cF.seq Code.ret) Code.skip)).seq (c6.seq ((cP.seq (Code.cond (.tmp tP) cA Code.skip)).seq ((c0.seq cLoop).seq (c9.seq c10)))))))))) := by
    refine ((((((u1.mono ?_).trans (u2.mono ?_)).trans (u3.mono ?_)).trans (u4.mono ?_)).trans (u5.mono ?_)).trans (u6.mono ?_)).trans (u7.mono ?_) <;> (intro t ht; simp only [mem_writes_seq, ht]; simp)
  by_cases hpos : 0 < r
  · refine wp_cond_true (by rw [eval_tmp, s7]; simp [hpos]) ?_
    obtain ⟨n, rfl⟩ : ∃ n : Nat, r = n := ⟨r.toNat, by omega⟩
    refine hA a7 w4 _ n f7.size hda7 hl7 (by omega) (by omega) fun a8 w8 m arr Te u8 s8 hh8 ho8 ht8 hp8 hsz8 hat8 => ?_
    have f8 := f7.upd u8 (fun t ht => clear_iff kA t (List.mem_cons_of_mem _ ht))
    have hl8 : sl a8 dl = .int .i32 (n : Int) := by rw [upd_of u8 dA dl (by simp)]; exact hl7
    have hG8 : w8.heap[w4.heap.size]? = some (.cells arr Te (0, 0)) := by rw [hh8]; simp
    have hold : ∀ k, k < w4.heap.size → w8.heap[k]? = w4.heap[k]? := fun k hk => by rw [hh8, Array.getElem?_push]; simp; omega
    have hsz84 : w8.heap.size = w4.heap.size + 1 := by rw [hh8]; simp
    have hg48 : w4.grownBy w8 (some rb) := ⟨ho8, ht8, hp8, by omega, fun k hk _ => hold k hk⟩
    have r8 : RdIs w8 S rb (some bs) := r4.kept (row := none) ⟨ho8, ht8, hp8, by omega, fun k hk _ => hold k hk⟩ (fun g _ e => by cases e) (fun e => by cases e)
    have he8 : ErrOk w8 := he4.kept (row := none) ⟨ho8, ht8, hp8, by omega, fun k hk _ => hold k hk⟩ (fun e => by cases e)
    refine wp_seq (wp_seq (h0 a8 w8 _ f8.size fun a9 u9 s9 => ?_))
    have f9 := f8.upd u9 (fun t ht => clear_iff k0 t (List.mem_cons_of_mem _ ht))
    have hold8 : ∀ g, S g → g < w4.heap.size := fun g hg => Nat.lt_of_lt_of_le (hp.old g hg) g4.size
    obtain ⟨hloop, -⟩ := hl rb S (some bs) n a9 w8 f9 r8 he8 hp.rbe (fun g hg => by have := hold8 g hg; omega) s9 (by omega)
    have hne4 : w4.heap.size ≠ 0 := by
      obtain ⟨t, x, hx⟩ := he4
      have : 0 < w4.heap.size := World.block_lt_of_cell? w4 _ hx
      omega
    have hcb : cb < w4.heap.size := (Array.getElem?_eq_some_iff.1 hrow4).1
    have hrdg : rd v flex (.mk 11 frm to null tag dflt of sub) st = (Tl (rdMany (elG v flex of sub) n (some bs)).1, (rdMany (elG v flex of sub) n (some bs)).2) := by
      rw [hgst]
      simp only [listR, hok, hr, Int.toNat_natCast]
      rfl
    refine hloop w4.heap.size 0 m arr Te _ (by rw [upd_of u9 d0' dl (by simp)]; exact hl8) hne4 ?_ ?_ (by rw [upd_of u9 a0 da (by simp)]; exact s8) hG8 (by rw [← hz]; omega) ?_ ?_ ?_
    · exact fun e => absurd r4.lt (by omega)
    · exact fun hS => absurd (hold8 _ hS) (by omega)
    · intro i hi
      refine hloc _ _ (fun j hj => ?_) hini
      rw [← hz] at hj ⊢
      rw [Nat.zero_add]
      exact hat8 i j hi hj
    · intro a10 w10 u10 r10 m10 hR10
      have f10 := f9.upd u10 (fun t ht => clear_iff kl t (List.mem_cons_of_mem _ ht))
      have hsp10 : sl a10 sp = .pointer (some ⟨cb, co, none⟩) := by rw [upd_of u10 kl sp (by simp), upd_of u9 k0 sp (by simp), upd_of u8 kA sp (by simp)]; exact hsp7
      have hda10 : sl a10 da = .slice (some ⟨w4.heap.size, 0, none⟩) n m := by rw [upd_of u10 al da (by simp), upd_of u9 a0 da (by simp)]; exact s8
      have hg410 : w4.grownBy w10 (some rb) := ⟨m10.os.trans ho8, m10.tape.trans ht8, m10.output.trans hp8, Nat.le_trans hg48.size m10.size, fun k hk hr => (m10.block k (by omega) (fun e => hr (by rw [e])) (by omega)).trans (hold k hk)⟩
      refine hend a10 w10 _ _ f10 hsp10 ?_ r10 (grownBy_trans g4 hg410) ?_ hrdg (by rw [hda10]; rfl) ?_
      · refine ((hu7.trans (u8.mono ?_)).trans (u9.mono ?_)).trans (u10.mono ?_) <;> (intro t ht; simp only [mem_writes_seq, writes_cond, List.mem_append, ht]; simp)
      · rw [hg410.block cb hcb (fun e => hp.ne (Option.some.inj e))]; exact hrow4
      · intro c hc
        simp only [repF, fieldRep, if_pos, listRep]
        rw [if_neg (by have : ¬ (0 ≤ null) := by omega
                       simp [this])]
        refine ⟨fun _ => rfl, .inr ⟨w4.heap.size, 0, m, ?_, .inr g4.size, by have := m10.size; omega, fun k x hx => ?_⟩⟩
        · rw [hc, hda10]; simp [Tl, rdMany_len]
        · have := hR10 k x hx
          exact elR_stable htg hT of sub w10 w10 _ _ _ _ x (fun _ _ _ => rfl) (Nat.le_refl _) (fun g hg => hg.imp (fun h => h) (fun h => by have := g4.size; omega)) (fun _ _ => rfl) this
    · intro a10 w10 hn10 hs10 hd10 hv10 m10
      refine ⟨by rw [hrdg]; exact hn10, hs10, hd10, hv10, ?_⟩
      have hg410 : w4.grownBy w10 (some rb) := ⟨m10.os.trans ho8, m10.tape.trans ht8, m10.output.trans hp8, Nat.le_trans hg48.size m10.size, fun k hk hr => (m10.block k (by omega) (fun e => hr (by rw [e])) (by omega)).trans (hold k hk)⟩
      exact Md.of_grown (grownBy_trans g4 hg410) hp.ne _ _
  · refine wp_cond_false (by rw [eval_tmp, s7]; simp [hpos]) (wp_skip ?_)
    refine wp_seq (wp_seq (h0 a7 w4 _ f7.size fun a9 u9 s9 => ?_))
    have f9 := f7.upd u9 (fun t ht => clear_iff k0 t (List.mem_cons_of_mem _ ht))
    obtain ⟨-, hloop⟩ := hl rb S (some bs) 0 a9 w4 f9 r4 he4 hp.rbe (fun g hg => Nat.lt_of_lt_of_le (hp.old g hg) g4.size) s9 (by omega)
    refine hloop r _ (by rw [upd_of u9 d0' dl (by simp)]; exact hl7) (by omega) fun a10 u10 => ?_
    have f10 := f9.upd u10 (fun t ht => clear_iff kl t (List.mem_cons_of_mem _ ht))
    have hsp10 : sl a10 sp = .pointer (some ⟨cb, co, none⟩) := by rw [upd_of u10 kl sp (by simp), upd_of u9 k0 sp (by simp)]; exact hsp7
    have hda10 : sl a10 da = .slice none 0 0 := by rw [upd_of u10 al da (by simp), upd_of u9 a0 da (by simp)]; exact hda7
    refine hend a10 w4 [] (some bs) f10 hsp10 ?_ r4 g4 hrow4 ?_ (by rw [hda10]; rfl) ?_
    · refine (hu7.trans (u9.mono ?_)).trans (u10.mono ?_) <;> (intro t ht; simp only [mem_writes_seq, ht]; simp)
    · rw [hgst]
      have : r.toNat = 0 := by omega
      simp [listR, hok, hr, this, rdMany]
    · intro c hc
      simp only [repF, fieldRep, if_pos, listRep]
      rw [if_neg (by have : ¬ (0 ≤ null) := by omega
                     simp [this])]
      exact ⟨fun _ => rfl, .inl ⟨by have : ¬ (0 ≤ null) := by omega
                                    simp [this], by rw [hc, hda10], rfl⟩⟩
/-- A list that may not be null. -/
theorem RdV.list (htg : flex = true → ht = true) (hT : Stable 1 tags) {sp off d0 da dl di tN tP of : Nat} {frm to null tag dflt : Int} {sub : List F} {z : Array Value} {c1 c2 c3 cL cN cF c6 cP cA c0 cLoop c9 c10 : Code} (hnull : null < 0)
    (h1 : SLoad E.N sp off d0 c1) (h2 : SCopy E.N d0 da c2) (h3 : SConst E.N dl (.int .i32 0) c3) (hL : Rv E v flex dl (rdLen flex) (IsInt .i32) cL) (hN : SNotOk E tN cN) (hF : SFail E cF) (h6 : SSlice0 E.N da c6) (hP : SPos E.N dl tP cP)
    (hA : SApp E.N da dl z cA) (h0 : SConst E.N di (.int .i32 0) c0) (hl : SLoop E v flex da di dl (valCells of (cellsP ht sub)) (elG v flex of sub) (elR tags v flex ht of sub) (elIni ht of sub) cLoop) (h9 : SCopy E.N da d0 c9) (h10 : SStore E.N sp off d0 c10)
    (hz : z.size = valCells of (cellsP ht sub)) (hini : elIni ht of sub (fun j => z[j]?))
    (hcl : clear (sp :: E.slots) (c1.seq (c2.seq (c3.seq (cL.seq (cN.seq (c6.seq (cP.seq (cA.seq (c0.seq (cLoop.seq c9)))))))))) = true)
    (hca : clear [da] (c3.seq (cL.seq (cN.seq (cP.seq (c0.seq cLoop))))) = true) (hcd : clear [dl] (cN.seq (c6.seq (cP.seq (cA.seq c0)))) = true) :
    RdV tags E v flex ht sp off (.mk 11 frm to null tag dflt of sub)
      (c1.seq (c2.seq (c3.seq (cL.seq ((cN.seq (Code.cond (.tmp tN) (cF.seq Code.ret) Code.skip)).seq (c6.seq ((cP.seq (Code.cond (.tmp tP) cA Code.skip)).seq ((c0.seq cLoop).seq (c9.seq c10))))))))) :=
  RdV.listG htg hT (elIni_loc ht of sub) hnull h1 h2 h3 hL hN hF h6 hP hA h0 hl h9 h10 hz hini hcl hca hcd
end
end Go.Proofs.YthdfhnnoamlacaaDoor
/-
  Elements of lists; tags; the end of a function that reads. Conditions: none.
-/
namespace Go.Proofs.YthdfhnnoamlacaaDoor
open Go.RowKit (Below)
open Kz

section
variable {tags : Rel (List (Nat × List UInt8))} {E : RE} {v : Int} {flex ht : Bool}

/-- 'Default' of a part: it sets cells of the part alone, and lets nil lists nil. -/
def DefOk (f sz : Nat) (ini : Cells → Prop) : Prop :=
  hasBody Tryd.prog f = true ∧ ∀ (w : World) (G p : Nat) (cells : Array Value) (Ty : TypeId), w.heap[G]? = some (.cells cells Ty (0, 0)) → p + sz ≤ cells.size → ini (fun j => cells[p + j]?) →
    Calls Tryd.prog f #[.pointer (some ⟨G, p, none⟩)] w fun e w' => (∃ u, e = .returned u) ∧ w.grownBy w' (some G) ∧ ∃ cells', w'.heap[G]? = some (.cells cells' Ty (0, 0)) ∧ cells'.size = cells.size ∧ (∀ i, (i < p ∨ p + sz ≤ i) → cells'[i]? = cells[i]?) ∧ ini (fun j => cells'[p + j]?)

def SIndex (N x i d sz : Nat) (c : Code) : Prop := ∀ (a : Act) (w : World) (Q : Exit → Act → World → Prop) (g o n m j : Nat), a.tmps.size = N → sl a x = .slice (some ⟨g, o, none⟩) n m → sl a i = .int .i32 (j : Int) → j < n →
  (∀ a', Upd a a' (writes c) → sl a' d = .pointer (some ⟨g, o + j * sz, none⟩) → Q .normal a' w) → c.wp Tryd.prog Q a w
def SDefault (N x sz : Nat) (ini : Cells → Prop) (c : Code) : Prop := ∀ (a : Act) (w : World) (Q : Exit → Act → World → Prop) (G p : Nat) (cells : Array Value) (Ty : TypeId), a.tmps.size = N → sl a x = .pointer (some ⟨G, p, none⟩) →
  w.heap[G]? = some (.cells cells Ty (0, 0)) → p + sz ≤ cells.size → ini (fun j => cells[p + j]?) →
  (∀ a' w' cells', Upd a a' (writes c) → w.grownBy w' (some G) → w'.heap[G]? = some (.cells cells' Ty (0, 0)) → cells'.size = cells.size → (∀ i, (i < p ∨ p + sz ≤ i) → cells'[i]? = cells[i]?) → ini (fun j => cells'[p + j]?) → Q .normal a' w') → c.wp Tryd.prog Q a w
/-- A block about an element's code. -/
theorem ElB.block {da di sz id : Nat} {g : St → T × St} {R : Rel T} {ini : Cells → Prop} {c : Code} (h : ElB E v flex da di sz g R ini c) : ElB E v flex da di sz g R ini (Code.block id c) :=
  fun rb S st G o n m i cells Ty a w hfr hrd her hr1 hG1 hG hSG hold hda hdi hin hrow hfit hini => wp_inBlock (h rb S st G o n m i cells Ty a w hfr hrd her hr1 hG1 hG hSG hold hda hdi hin hrow hfit hini) (fun _ _ hq => hq)
/-- A part of a list. -/
theorem ElB.struct (htg : flex = true → ht = true) (hT : Stable 1 tags) {da di d s sz : Nat} {sub : List F} {c1 c2 c3 c : Code} (h1 : SIndex E.N da di d sz c1) (h2 : SDefault E.N d sz (iniFs ht sub) c2) (h3 : SCopy E.N d s c3) (h : RdP tags E v flex ht s 0 sub c) (hsz : sz = cellsP ht sub)
    (hcl : clear E.slots (c1.seq (c2.seq c3)) = true) (hd : clear [d] c2 = true) :
    ElB E v flex da di sz (elG v flex 10 sub) (elR tags v flex ht 10 sub) (elIni ht 10 sub) (c1.seq (c2.seq (c3.seq c))) := by
  intro rb S st G o n m i cells Ty a w hfr hrd her hr1 hG1 hG hSG hold hda hdi hin hrow hfit hini
  simp only [clear_seq] at hcl
  obtain ⟨k1, k2, k3⟩ := hcl
  refine wp_seq (h1 a w _ G o n m i hfr.size hda hdi hin fun a1 u1 s1 => ?_)
  have f1 := hfr.upd u1 (clear_iff k1)
  refine wp_seq (h2 a1 w _ G _ cells Ty f1.size s1 hrow hfit (hini rfl) fun a2 w2 cells2 u2 g2 row2 sz2 same2 ini2 => ?_)
  have f2 := f1.upd u2 (clear_iff k2)
  refine wp_seq (h3 a2 w2 _ f2.size fun a3 u3 s3 => ?_)
  have f3 := f2.upd u3 (clear_iff k3)
  have hrd2 : RdIs w2 S rb st := hrd.kept g2 (fun g hg e => hSG (by rw [← Option.some.inj e]; exact hg)) (fun e => hG (Option.some.inj e).symm)
  have her2 : ErrOk w2 := her.kept g2 (fun e => hG1 (Option.some.inj e))
  have hmd2 : Md w w2 rb G (o + i * sz) sz := ⟨g2.os, g2.tape, g2.output, g2.size, fun k hk _ hc => g2.block k hk (fun e => hc (Option.some.inj e)), fun cs T hw => by
    rw [hrow] at hw
    cases hw
    exact ⟨cells2, row2, sz2, same2⟩⟩
  have e10 : elG v flex 10 sub = rdPart v flex sub := by funext st; simp [elG, valR]
  have r10 : elR tags v flex ht 10 sub = repP tags v flex ht sub := by funext w K c t; simp [elR, valRep]
  refine wp_mono (h rb S st G (o + i * sz) cells2 Ty a3 w2 { fr := f3, ptr := by rw [s3, upd_of u2 hd d (by simp), s1], rd := hrd2, err := her2, rbe := hr1, cbe := hG1, ne := hG, src := hSG, old := fun g hg => Nat.lt_of_lt_of_le (hold g hg) g2.size, row := row2, fit := by rw [sz2, ← hsz]; omega, ini := ini2 }) ?_
  intro e a4 w4 hq
  cases e with
  | normal =>
    obtain ⟨u4, r4, m4, cells4, row4, rep4⟩ := hq
    rw [← hsz] at m4
    refine ⟨((u1.mono ?_).trans (u2.mono ?_)).trans ((u3.mono ?_).trans (u4.mono ?_)), by rw [e10]; exact r4, hmd2.trans m4 (by omega) (by omega), cells4, row4, ?_⟩
    · intro t ht; simp only [writes, List.mem_append]; exact .inl ht
    · intro t ht; simp only [writes, List.mem_append]; exact .inr (.inl ht)
    · intro t ht; simp only [writes, List.mem_append]; exact .inr (.inr (.inl ht))
    · intro t ht; simp only [writes, List.mem_append]; exact .inr (.inr (.inr ht))
    · rw [r10, e10]
      exact stable_repP htg hT sub w4 w4 _ _ _ _ _ (fun _ _ _ => rfl) (Nat.le_refl _) (fun g hg => hg.imp (fun h => h) (fun h => Nat.le_trans g2.size h)) (fun j _ => rfl) rep4
  | ret =>
    obtain ⟨n4, s4, d4, v4, m4⟩ := hq
    rw [← hsz] at m4
    exact ⟨by rw [e10]; exact n4, s4, d4, v4, hmd2.trans m4 (by omega) (by omega)⟩
  | exit id => exact hq
  | goto l => exact hq
  | panic ch => exact hq
  | outgrown => exact hq

theorem ElB.empty {da di d of sz : Nat} {u : Value} {i1 : Nat} {ty : TypeId} {p : String} {eg : Array Edge} {sub : List F} {c : Code} (hd : d < E.N) (hcl : clear (da :: di :: E.slots) (Code.region i1 #[⟨some d, .assign (.const u), ty, p, eg, none⟩] false) = true)
    (h : ElB E v flex da di sz (elG v flex of sub) (elR tags v flex ht of sub) (elIni ht of sub) c) :
    ElB E v flex da di sz (elG v flex of sub) (elR tags v flex ht of sub) (elIni ht of sub) ((Code.region i1 #[⟨some d, .assign (.const u), ty, p, eg, none⟩] false).seq c) := by
  intro rb S st G o n m i cells Ty a w hfr hrd her hr1 hG1 hG hSG hold hda hdi hin hrow hfit hini
  have hk := clear_iff hcl
  refine wp_seq (reg_const (by rw [hfr.size]; exact hd) fun a1 u1 _ => ?_)
  refine wp_mono (h rb S st G o n m i cells Ty a1 w (hfr.upd u1 (fun t ht => hk t (List.mem_cons_of_mem _ (List.mem_cons_of_mem _ ht)))) hrd her hr1 hG1 hG hSG hold ((u1.same _ (hk _ (by simp))).trans hda) ((u1.same _ (hk _ (by simp))).trans hdi) hin hrow hfit hini) ?_
  intro e a2 w2 hq
  cases e with
  | normal => exact ⟨(u1.mono (fun t ht => List.mem_append_left _ ht)).trans (hq.1.mono (fun t ht => List.mem_append_right _ ht)), hq.2⟩
  | ret => exact hq
  | exit id => exact hq
  | goto l => exact hq
  | panic ch => exact hq
  | outgrown => exact hq
end
end Go.Proofs.YthdfhnnoamlacaaDoor
/-
  Unknown tags in memory; setting one; reading them. Conditions: none.
-/
namespace Go.Proofs.YthdfhnnoamlacaaDoor
open Go.RowKit (Below)
open Kz

/-- A value as it is. -/
def heldR (v : Value) : Option (DataW Value × List MemPlace) := some (.held v, [])
abbrev tagDs (l : List (Nat × Value)) : List (Lit × DataW Value) := l.map fun x => (Lit.int .u32 (x.1 : Int), DataW.held x.2)
/-- Keys that rise. -/
def Rising : List (Nat × Value) → Prop := List.Pairwise (fun x y => x.1 < y.1)
/-- A fact that the walk is not to look at. -/
structure Box (p : Prop) : Prop where
  get : p

end Go.Proofs.YthdfhnnoamlacaaDoor
/-
  Unknown tags, read. Conditions: none.
-/
namespace Go.Proofs.YthdfhnnoamlacaaDoor
open Go.RowKit (Below)
open Kz

/-- Tags and what they hold. -/
def TagsAt (w : World) (S : Nat → Prop) : List (Nat × Value) → List (Nat × List UInt8) → Prop
  | [], [] => True
  | (k, v) :: l, (j, b) :: u => k = j ∧ BytesAt w S v b ∧ TagsAt w S l u
  | _, _ => False
/-- Unknown tags in a cell. -/
def TagRep : Rel (List (Nat × List UInt8)) := fun w K c u =>
  ∃ r, c 0 = some (.map r) ∧ match r with
    | none => u = []
    | some b => K b ∧ ∃ l n, l ≠ [] ∧ Rising l ∧ w.ownsMap Tryd.prog 125 heldR b n (.map (tagDs l)) ∧ n ≤ 4294967296 ∧ TagsAt w K l u
theorem RdIs.below {w w' : World} {S : Nat → Prop} {rb B : Nat} {st : St} (h : RdIs w S rb st) (hb : Below B w w') (hS : ∀ g, S g → g < B) (hrb : rb < B) : RdIs w' S rb st := by
  obtain ⟨h0, h⟩ := h
  refine ⟨h0, ?_⟩
  cases st with
  | none => show w'.heap[rb]? = _; rw [hb.block rb hrb]; exact h
  | some bs =>
    obtain ⟨v, hv, hbs⟩ := h
    exact ⟨v, by rw [hb.block rb hrb]; exact hv, stable_bytes (fun g hg _ => hb.block g (hS g hg)) hb.size (fun g hg => hg) hbs⟩
end Go.Proofs.YthdfhnnoamlacaaDoor
/-
  The tags of a part; the end of a function that reads. Conditions: none.
-/
namespace Go.Proofs.YthdfhnnoamlacaaDoor
open Go.RowKit (Below)
open Kz

section
variable {E : RE} {v : Int} {flex ht : Bool}

/-- A part without tags. -/
theorem RdTl.plain {tags : Rel (List (Nat × List UInt8))} {sp off : Nat} {fs : List F} {c : Code} (hht : ht = false) (hfl : flex = false) (h : RdFs tags E v flex ht sp off fs c) : RdTl tags E v flex ht sp off fs c := by
  subst hht; subst hfl
  have e : cellsP false fs = cellsFs false fs := rfl
  unfold RdTl
  rw [e]
  exact Rd.conv h (fun x => (x, [])) (fun st => by simp) (fun w K cc x hx => ⟨hx, fun h => by cases h⟩) (fun _ h => h)
/-- Has a list of fields tags of its own? -/
def noTag (fs : List F) : Bool := fs.all fun f => decide (f.tag < 0)
theorem findTag_none {fs : List F} (h : noTag fs = true) (key : Nat) : ∀ (gs : List (St → T × St)), findTag key fs gs = none := by
  induction fs with
  | nil => intro gs; cases gs <;> rfl
  | cons f fs ih =>
    intro gs
    simp only [noTag, List.all_cons, Bool.and_eq_true, decide_eq_true_eq] at h
    cases gs with
    | nil => rfl
    | cons g gs =>
      simp only [findTag]
      rw [if_neg (by omega), ih h.2 gs]
      rfl
theorem tagsR_utags {fs : List F} (h : noTag fs = true) (gs : List (St → T × St)) : ∀ (n : Nat) (ts : List T) (u : List (Nat × List UInt8)) (st : St), tagsR fs gs n (ts, u, st) = (ts, (utags n (u, st)).1, (utags n (u, st)).2)
  | 0, _, _, _ => rfl
  | n + 1, ts, u, st => by
    have e : tagR fs gs (ts, u, st) = (ts, (utag (u, st)).1, (utag (u, st)).2) := by
      simp only [tagR, findTag_none h, utag]
    simp only [tagsR, utags]
    rw [e, tagsR_utags h gs n]
theorem known0 : ∀ (fs : List F), noTag fs = true → known fs = 0
  | [], _ => rfl
  | f :: fs, h => by
    simp only [noTag, List.all_cons, Bool.and_eq_true, decide_eq_true_eq] at h
    have : ¬ (0 ≤ f.tag) := by omega
    simp only [known, if_neg this, known0 fs h.2, Nat.max_self]
theorem RdTl.part {tags : Rel (List (Nat × List UInt8))} {sp off : Nat} {fs : List F} {c : Code} (hno : noTag fs = true) (h : RdTl tags E v flex ht sp off fs c) : RdP tags E v flex ht sp off fs c := by
  refine Rd.conv h (fun x => ⟨0, [], false, x.1, x.2⟩) (fun st => ?_) (fun w K cc x hx => ⟨hx.1, fun hf => ⟨hx.2 hf, fun y _ => by rw [known0 fs hno]; exact Nat.zero_le _⟩⟩) (fun _ h => h)
  simp only [rdPart, asmR]
  cases flex with
  | true => simp only [if_true, tagsR_utags hno, rdTags]
  | false => simp
end

/-! ## The end of a function -/
section
variable {E : RE} {v : Int} {flex ht : Bool}
end
end Go.Proofs.YthdfhnnoamlacaaDoor
/-
  A whole function that reads. Conditions: none.
-/
namespace Go.Proofs.YthdfhnnoamlacaaDoor
open Go.RowKit (Below)
open Kz

section
variable (tags : Rel (List (Nat × List UInt8))) (E : RE) (v : Int) (flex ht : Bool)
end

section
variable {tags : Rel (List (Nat × List UInt8))} {E : RE} {v : Int} {flex ht : Bool}

end

/-! ## The head of a function -/
section
variable {tags : Rel (List (Nat × List UInt8))} {m : M} {ht : Bool}
end
end Go.Proofs.YthdfhnnoamlacaaDoor
/-
  'Default' of a part: empty, or some fields set. Conditions: none.
-/
namespace Go.Proofs.YthdfhnnoamlacaaDoor
open Go.RowKit (Below)
open Kz

/-! ## Fields whose reading looks at 'isFlexible' -/
section
variable {tags : Rel (List (Nat × List UInt8))} {E : RE} {v : Int} {flex ht : Bool}
theorem Rv.call {α : Type} {id f d1 d : Nat} {tys : Array TypeId} {t1 t2 : TypeId} {p1 p2 : String} {e1 e2 : Array Edge} {g : St → α × St} {Ret : World → (Nat → Prop) → Value → α → Prop} (hf : Reads f g Ret) (h : decide (d1 < E.N ∧ d < E.N) = true) :
    Rv E v flex d g Ret (Code.region id #[⟨some d1, .call { callee := .value (.func f), args := #[.tmp E.rs], argTypes := tys }, t1, p1, e1, none⟩, ⟨some d, .assign (.tmp d1), t2, p2, e2, none⟩] false) :=
  Rv.call1 hf (of_decide_eq_true h).1 (of_decide_eq_true h).2
end
end Go.Proofs.YthdfhnnoamlacaaDoor
/-
  'Default' of a part that sets fields; a new message. Conditions: none.
-/
namespace Go.Proofs.YthdfhnnoamlacaaDoor
open Go.RowKit (Below)
open Kz

/-- Cells set, one behind the other. -/
def setArr (z : Array Value) (p : Nat) : List (Nat × Value) → Array Value
  | [] => z
  | (i, u) :: r => setArr (z.setIfInBounds (p + i) u) p r
def setMany (w : World) (G p : Nat) : List (Nat × Value) → World
  | [] => w
  | (i, u) :: r => setMany (w.setCell ⟨G, p + i, none⟩ u) G p r
theorem setMany_append (G p : Nat) : ∀ (l r : List (Nat × Value)) (w : World), setMany w G p (l ++ r) = setMany (setMany w G p l) G p r
  | [], _, _ => rfl
  | (_, _) :: l, r, _ => setMany_append G p l r _
theorem setMany_row (G p : Nat) : ∀ (l : List (Nat × Value)) (w : World) (cells : Array Value) (Ty : TypeId) (fr : Nat × Nat), w.heap[G]? = some (.cells cells Ty fr) → (setMany w G p l).heap[G]? = some (.cells (setArr cells p l) Ty fr)
  | [], _, _, _, _, h => h
  | (_, _) :: l, _, _, Ty, fr, h => setMany_row G p l _ _ Ty fr (heap_setCell_row h)
theorem setArr_size (p : Nat) : ∀ (l : List (Nat × Value)) (z : Array Value), (setArr z p l).size = z.size
  | [], _ => rfl
  | (i, u) :: l, z => by rw [setArr, setArr_size p l]; simp
theorem setArr_other (p k : Nat) : ∀ (l : List (Nat × Value)) (z : Array Value), (∀ x ∈ l, p + x.1 ≠ k) → (setArr z p l)[k]? = z[k]?
  | [], _, _ => rfl
  | (i, u) :: l, z, h => by
    rw [setArr, setArr_other p k l _ fun x hx => h x (List.mem_cons_of_mem _ hx)]
    rw [Array.getElem?_setIfInBounds_ne (h (i, u) (by simp))]
theorem setMany_shift (G p o : Nat) : ∀ (l : List (Nat × Value)) (w : World), setMany w G (p + o) l = setMany w G p (l.map fun x => (o + x.1, x.2))
  | [], _ => rfl
  | (i, u) :: l, w => by
    simp only [setMany, List.map_cons, Nat.add_assoc]
    exact (by have := setMany_shift G p o l (w.setCell ⟨G, p + (o + i), none⟩ u); simpa [Nat.add_assoc] using this)
theorem setMany_grown (G p : Nat) : ∀ (l : List (Nat × Value)) (w : World), w.grownBy (setMany w G p l) (some G)
  | [], w => grownBy_refl w _
  | (_, _) :: l, w => grownBy_trans (grown_setCell (grownBy_refl w _) _ _) (setMany_grown G p l _)

def DS (N sp sz : Nat) (sets : List (Nat × Value)) (c : Code) : Prop := ∀ (a : Act) (w : World) (Q : Exit → Act → World → Prop) (G p : Nat) (cells : Array Value) (Ty : TypeId), a.tmps.size = N → sl a sp = .pointer (some ⟨G, p, none⟩) → w.heap[G]? = some (.cells cells Ty (0, 0)) → p + sz ≤ cells.size →
  (∀ a', Upd a a' (writes c) → Q .normal a' (setMany w G p sets)) → c.wp Tryd.prog Q a w
/-- 's.F = constant'. -/
theorem DS.store {id N sp sz off t1 t2 t3 T k ty : Nat} {u : Value} {y1 y2 y3 y4 : TypeId} {p1 p2 p3 p4 : String} {e1 e2 e3 e4 : Array Edge} (hf : offOf Tryd.prog T k = some off) (hty : sizeIs Tryd.prog ty 1 = true) (hu : u.oneCell' = true) (ho : decide (off < sz) = true) (hn : [t1, t2, t3].all (· < N) = true) :
    DS N sp sz [(off, u)] (Code.region id #[⟨some t1, .move (.tmp sp), y1, p1, e1, none⟩, ⟨some t2, .nilCheck (.tmp t1), y2, p2, e2, none⟩, ⟨some t3, .fieldAddr T (.tmp t2) k, y3, p3, e3, none⟩, ⟨none, .store ty (.tmp t3) (.const u), y4, p4, e4, none⟩] false) := by
  intro a w Q G p cells Ty hN hsp hrow hfit hq
  simp only [List.all_cons, List.all_nil, Bool.and_true, Bool.and_eq_true, decide_eq_true_eq] at hn
  have ho' := of_decide_eq_true ho
  have hlt : p + off < cells.size := by omega
  refine wp_region_lit (st_move (st_nil (p := ⟨G, p, none⟩) ?_ (st_field (b := G) (o := p) (fieldOff_ok hf) ?_ (st_store (b := G) (o := p + off) (u := cells[p + off]) (v := u) ?_ rfl (store1_ok hty hu) ?_ ?_ (wpList_nil (hq _ ?_))))))
  · rw [eval_tmp, sl_put_self _ _ _ (by omega), eval_tmp, hsp]
  · rw [eval_tmp, sl_put_self _ _ _ (by simp only [put_size]; omega)]
  · rw [eval_tmp, sl_put_self _ _ _ (by simp only [put_size]; omega)]
  · rw [cell_of_row w G (p + off) _ _ _ hrow]; simp [hlt]
  · simp [World.frozen?, hrow]
  · exact (((Upd.refl a _).put t1 _ (by simp [writes])).put t2 _ (by simp [writes])).put t3 _ (by simp [writes])
theorem DS.skip {N sp sz : Nat} : DS N sp sz [] Code.skip := fun a _ _ _ _ _ _ _ _ _ _ hq => wp_skip (hq a (Upd.refl _ _))
theorem DS.seq {N sp sz : Nat} {s1 s2 : List (Nat × Value)} {c1 c2 : Code} (h1 : DS N sp sz s1 c1) (h2 : DS N sp sz s2 c2) (hcl : clear [sp] c1 = true) : DS N sp sz (s1 ++ s2) (c1.seq c2) := by
  intro a w Q G p cells Ty hN hsp hrow hfit hq
  have hc := clear_iff hcl
  refine wp_seq (h1 a w _ G p cells Ty hN hsp hrow hfit fun a1 u1 => ?_)
  refine h2 a1 _ Q G p _ Ty (u1.size.trans hN) ((u1.same _ (hc _ (by simp))).trans hsp) (setMany_row G p s1 w cells Ty (0, 0) hrow) (by rw [setArr_size]; exact hfit) fun a2 u2 => ?_
  rw [← setMany_append]
  exact hq a2 ((u1.mono fun t ht => List.mem_append_left _ ht).trans (u2.mono fun t ht => List.mem_append_right _ ht))
/-- 'v := &s.F; _ = v; ..'. -/
theorem DS.sub {id id2 N sp s sz sz' off t1 t2 t3 t4 T k : Nat} {sets : List (Nat × Value)} {y1 y2 y3 y4 y5 : TypeId} {p1 p2 p3 p4 p5 : String} {e1 e2 e3 e4 e5 : Array Edge} {c : Code} (hf : offOf Tryd.prog T k = some off) (ho : decide (off + sz' ≤ sz) = true) (hn : [t1, t2, t3, s, t4].all (· < N) = true) (hts : decide (t4 ≠ s) = true)
    (h : DS N s sz' sets c) :
    DS N sp sz (sets.map fun x => (off + x.1, x.2)) ((Code.region id #[⟨some t1, .move (.tmp sp), y1, p1, e1, none⟩, ⟨some t2, .nilCheck (.tmp t1), y2, p2, e2, none⟩, ⟨some t3, .fieldAddr T (.tmp t2) k, y3, p3, e3, none⟩, ⟨some s, .assign (.tmp t3), y4, p4, e4, none⟩] false).seq
      ((Code.region id2 #[⟨some t4, .move (.tmp s), y5, p5, e5, none⟩] false).seq c)) := by
  intro a w Q G p cells Ty hN hsp hrow hfit hq
  simp only [List.all_cons, List.all_nil, Bool.and_true, Bool.and_eq_true, decide_eq_true_eq] at hn
  have ho' := of_decide_eq_true ho
  have hts' := of_decide_eq_true hts
  refine wp_seq (wp_region_lit (st_move (st_nil (p := ⟨G, p, none⟩) ?_ (st_field (b := G) (o := p) (fieldOff_ok hf) ?_ (st_assign (wpList_nil ?_))))))
  · rw [eval_tmp, sl_put_self _ _ _ (by omega), eval_tmp, hsp]
  · rw [eval_tmp, sl_put_self _ _ _ (by simp only [put_size]; omega)]
  generalize hA : (((a.put (some t1) (a.eval (.tmp sp))).put (some t2) (.pointer (some ⟨G, p, none⟩))).put (some t3) (.pointer (some ⟨G, p + off, none⟩))).put (some s) ((((a.put (some t1) (a.eval (.tmp sp))).put (some t2) (.pointer (some ⟨G, p, none⟩))).put (some t3) (.pointer (some ⟨G, p + off, none⟩))).eval (.tmp t3)) = a1
  have u1 : Upd a a1 [t1, t2, t3, s] := by subst hA; exact ((((Upd.refl a _).put t1 _ (by simp)).put t2 _ (by simp)).put t3 _ (by simp)).put s _ (by simp)
  have s1 : sl a1 s = .pointer (some ⟨G, p + off, none⟩) := by subst hA; rw [sl_put_self _ _ _ (by simp only [put_size]; omega), eval_tmp, sl_put_self _ _ _ (by simp only [put_size]; omega)]
  refine wp_seq (reg_move (by rw [u1.size]; omega) fun a2 u2 _ => ?_)
  refine h a2 w Q G (p + off) cells Ty (u2.size.trans (u1.size.trans hN)) (by rw [u2.same s (by simp; exact fun e => hts' e.symm)]; exact s1) hrow (by omega) fun a3 u3 => ?_
  rw [setMany_shift]
  refine hq a3 ((u1.mono ?_).trans ((u2.mono ?_).trans (u3.mono ?_)))
  · intro t ht; simp only [writes, List.mem_append]; left; simpa [writes] using ht
  · intro t ht; simp only [writes, List.mem_append]; right; left; simpa [writes] using ht
  · intro t ht; simp only [writes, List.mem_append]; exact .inr (.inr ht)

/-- A function 'Default'. -/
def DefSets (f sz : Nat) (sets : List (Nat × Value)) : Prop := hasBody Tryd.prog f = true ∧ ∀ (w : World) (G p : Nat) (cells : Array Value) (Ty : TypeId), w.heap[G]? = some (.cells cells Ty (0, 0)) → p + sz ≤ cells.size →
  Calls Tryd.prog f #[.pointer (some ⟨G, p, none⟩)] w fun e w' => (∃ u, e = .returned u) ∧ w' = setMany w G p sets
/-! ## What is to lie there ahead of a reading, cell by cell -/
mutual
def inisF (ht : Bool) : F → Nat → List (Nat × Value)
  | .mk kind _ _ null _ _ _ sub, b => (if kind = 11 then [(b, .slice none 0 0)] else []) ++ (if kind = 10 ∧ null < 0 then inisFs ht sub b else []) ++ (if kind = 10 ∧ 0 ≤ null then [(b, .pointer none)] else [])
def inisFs (ht : Bool) : List F → Nat → List (Nat × Value)
  | [], _ => []
  | f :: fs, b => inisF ht f b ++ inisFs ht fs (b + cellsF ht f)
end
mutual
theorem iniF_cells (ht : Bool) : ∀ (f : F) (b : Nat) (c : Cells), iniF ht f (fun j => c (b + j)) ↔ ∀ k ∈ inisF ht f b, c k.1 = some k.2
  | .mk kind _ _ null _ _ _ sub, b, c => by
    simp only [iniF, inisF, List.mem_append, Nat.add_zero]
    have ih := iniFs_cells ht sub b c
    constructor
    · rintro ⟨h1, h2, h3⟩ k ((hk | hk) | hk)
      · split at hk
        · rename_i h; simp only [List.mem_singleton] at hk; subst hk; exact h1 h
        · cases hk
      · split at hk
        · rename_i h; exact ih.1 (h2 h) k hk
        · cases hk
      · split at hk
        · rename_i h; simp only [List.mem_singleton] at hk; subst hk; exact h3 h
        · cases hk
    · intro h
      refine ⟨fun hk => h (b, .slice none 0 0) (.inl (.inl (by simp [hk]))), fun hk => ih.2 fun k hk' => h k (.inl (.inr (by rw [if_pos hk]; exact hk'))), fun hk => h (b, .pointer none) (.inr (by simp [hk]))⟩
theorem iniFs_cells (ht : Bool) : ∀ (fs : List F) (b : Nat) (c : Cells), iniFs ht fs (fun j => c (b + j)) ↔ ∀ k ∈ inisFs ht fs b, c k.1 = some k.2
  | [], b, c => by simp [iniFs, inisFs]
  | f :: fs, b, c => by
    have h1 := iniF_cells ht f b c
    have h2 := iniFs_cells ht fs (b + cellsF ht f) c
    simp only [iniFs, inisFs, List.mem_append, ← Nat.add_assoc]
    rw [h1, h2]
    constructor
    · rintro ⟨a1, a2⟩ k (hk | hk)
      · exact a1 k hk
      · exact a2 k hk
    · intro h
      exact ⟨fun k hk => h k (.inl hk), fun k hk => h k (.inr hk)⟩
end
/-- 'Default' of a part lets nil lists nil. -/
theorem DefSets.ok {f sz : Nat} {sets : List (Nat × Value)} {ht : Bool} {fs : List F} (h : DefSets f sz sets) (hs : sets.all (fun x => decide (x.1 < sz) && !((inisFs ht fs 0).map (·.1)).contains x.1) = true) : DefOk f sz (iniFs ht fs) := by
  refine ⟨h.1, fun w G p cells Ty hrow hfit hini => Calls.mono (h.2 w G p cells Ty hrow hfit) ?_⟩
  rintro e w' ⟨hu, rfl⟩
  have hs' : ∀ x ∈ sets, x.1 < sz ∧ x.1 ∉ (inisFs ht fs 0).map (·.1) := fun x hx => by
    have := List.all_eq_true.1 hs x hx
    simp only [Bool.and_eq_true, decide_eq_true_eq, Bool.not_eq_true', List.contains_eq_mem, decide_eq_false_iff_not] at this
    exact this
  refine ⟨hu, setMany_grown G p sets w, _, setMany_row G p sets w cells Ty (0, 0) hrow, setArr_size _ _ _, fun i hi => setArr_other p i sets cells fun x hx => by have := (hs' x hx).1; omega, ?_⟩
  have e1 := iniFs_cells ht fs 0 (fun j => cells[p + j]?)
  have e2 := iniFs_cells ht fs 0 (fun j => (setArr cells p sets)[p + j]?)
  simp only [Nat.zero_add] at e1 e2
  refine e2.2 fun k hk => ?_
  rw [setArr_other p (p + k.1) sets cells fun x hx e => (hs' x hx).2 (by rw [show x.1 = k.1 by omega]; exact List.mem_map_of_mem hk)]
  exact e1.1 hini k hk
end Go.Proofs.YthdfhnnoamlacaaDoor
