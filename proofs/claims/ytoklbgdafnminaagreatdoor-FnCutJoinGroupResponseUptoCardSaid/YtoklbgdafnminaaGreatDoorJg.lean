/-
  Texts that may be null from a later version on, read and written. Conditions: none.
-/
import Derived.Test.YtoklbgdafnminaaGreatDoorY8
import Derived.Test.YtoklbgdafnminaaGreatDoorNl
namespace Go.Proofs.YtoklbgdafnminaaGreatDoor
open Go.RowKit (Below)
open Kz

theorem RdIs.mono {w : World} {S S' : Nat → Prop} {rb : Nat} {st : St} (h : RdIs w S rb st) (hs : ∀ g, S g → S' g) (hr : ¬ S' rb) : RdIs w S' rb st := by
  obtain ⟨-, h⟩ := h
  refine ⟨hr, ?_⟩
  cases st with
  | none => exact h
  | some bs => obtain ⟨v, hv, hb⟩ := h; exact ⟨v, hv, hb.mono hs⟩
/-- The blocks that the octets lie in are there. -/
theorem RdIs.within {w : World} {S : Nat → Prop} {rb : Nat} {st : St} (h : RdIs w S rb st) : RdIs w (fun g => S g ∧ g < w.heap.size) rb st := by
  obtain ⟨h0, h⟩ := h
  refine ⟨fun hx => h0 hx.1, ?_⟩
  cases st with
  | none => exact h
  | some bs =>
    obtain ⟨v, hv, hb⟩ := h
    refine ⟨v, hv, ?_⟩
    rcases hb with h | ⟨g, o, c, h1, h2, h2', h3, h4, h5⟩
    · exact .inl h
    · exact .inr ⟨g, o, c, h1, h2, h2', ⟨h3, h4⟩, h4, h5⟩

/-- Behind a code that puts a value into a block of its own, which a slot holds. -/
def PostS {α : Type} (W : List Nat) (p G : Nat) (g : St → α × St) (Ret : Value → α → Prop) (rb : Nat) (S : Nat → Prop) (st : St) (a : Act) (w : World) : Exit → Act → World → Prop
  | .normal, a', w' => Upd a a' W ∧ sl a' p = sl a p ∧ ∃ w1 u, w.grownBy w1 (some rb) ∧ RdIs w1 S rb (g st).2 ∧ Ret u (g st).1 ∧ w' = w1.setCell ⟨G, 0, none⟩ u
  | _, _, _ => False
def Rs {α : Type} (E : RE) (v : Int) (flex : Bool) (p : Nat) (g : St → α × St) (Ret : Value → α → Prop) (c : Code) : Prop :=
  ∀ rb S st a w G x Ty, Fr E rb v flex a → RdIs w S rb st → ErrOk w → sl a p = .pointer (some ⟨G, 0, none⟩) → w.heap[G]? = some (.cells #[x] Ty (0, 0)) → G ≠ rb → c.wp Tryz.prog (PostS (writes c) p G g Ret rb S st a w) a w
def IsStr' (u : Value) (x : T) : Prop := u = strV x.s ∧ x.null = false

section
variable {tags : Rel (List (Nat × List UInt8))} {E : RE} {v : Int} {flex ht : Bool}

theorem PostS.mono {α : Type} {W W' : List Nat} {p G : Nat} {g : St → α × St} {Ret : Value → α → Prop} {rb : Nat} {S : Nat → Prop} {st : St} {a : Act} {w : World} (h : ∀ t ∈ W, t ∈ W') (e : Exit) (a' : Act) (w' : World)
    (hq : PostS W p G g Ret rb S st a w e a' w') : PostS W' p G g Ret rb S st a w e a' w' := by
  cases e with
  | normal => exact ⟨hq.1.mono h, hq.2⟩
  | _ => exact hq

/-- '*p = b.F()'. -/
theorem Rs.call {id f t p ty : Nat} {tys : Array TypeId} {y1 y2 : TypeId} {p1 p2 : String} {e1 e2 : Array Edge} {g : St → T × St} (hf : Reads f g IsStr) (hty : sizeIs Tryz.prog ty 1 = true) (hn : decide (t < E.N) && decide (t ≠ p) = true) :
    Rs E v flex p g IsStr' (Code.region id #[⟨some t, .call { callee := .value (.func f), args := #[.tmp E.rs], argTypes := tys }, y1, p1, e1, none⟩, ⟨none, .store ty (.tmp p) (.tmp t), y2, p2, e2, none⟩] false) := by
  intro rb S st a w G x Ty hfr hr he hp hrow hG
  simp only [Bool.and_eq_true, decide_eq_true_eq] at hn
  obtain ⟨fn, hfn, hb, hnn⟩ := hasBody_ok hf.1
  have hN := hfr.size
  refine wp_region_lit (st_call1 hfn hb hnn ?_)
  rw [eval_tmp, hfr.rs]
  refine Calls.mono (hf.2 w S rb st hr he) ?_
  rintro e w1 ⟨u, rfl, ho, hr', hg, hret⟩
  refine ⟨u, rfl, ?_⟩
  have hrow1 : w1.heap[G]? = some (.cells #[x] Ty (0, 0)) := by rw [hg.block G (Array.getElem?_eq_some_iff.1 hrow).1 (fun e => hG (Option.some.inj e))]; exact hrow
  refine st_store (b := G) (o := 0) (u := x) (v := u) ?_ ?_ (store1_ok hty ho) ?_ ?_ (wpList_nil ⟨(Upd.refl a _).put t _ (by simp [writes]), ?_, w1, u, hg, hr', hret, rfl⟩)
  · rw [eval_tmp, sl_put_other _ _ _ _ hn.2, hp]
  · rw [eval_tmp, sl_put_self _ _ _ (by omega)]
  · rw [cell_of_row w1 G 0 _ _ _ hrow1]; rfl
  · simp [World.frozen?, hrow1]
  · rw [sl_put_other _ _ _ _ hn.2]
theorem Rs.step {α : Type} {id t x p : Nat} {b : Bool} {ty : TypeId} {q : String} {eg : Array Edge} {A B : Code} {g : St → α × St} {Ret : Value → α → Prop} (hx : ∀ rb a, Fr E rb v flex a → sl a x = .bool b) (ht : decide (t < E.N) = true) (hnt : (p :: E.slots).contains t = false)
    (hA : b = true → Rs E v flex p g Ret A) (hB : b = false → Rs E v flex p g Ret B) :
    Rs E v flex p g Ret ((Code.region id #[⟨some t, .move (.tmp x), ty, q, eg, none⟩] false).seq (Code.cond (.tmp t) A B)) := by
  intro rb S st a w G u Ty hfr hr he hp hrow hG
  simp only [List.contains_eq_mem, decide_eq_false_iff_not, List.mem_cons, not_or] at hnt
  refine wp_seq (reg_move (by rw [hfr.size]; exact of_decide_eq_true ht) fun a' hu hs => ?_)
  have hfr' := hfr.upd hu (fun y hy => by simp only [List.mem_singleton]; rintro rfl; exact hnt.2 hy)
  have hb : a'.eval (.tmp t) = .bool b := by rw [eval_tmp, hs, hx rb a hfr]
  have hp' : sl a' p = .pointer (some ⟨G, 0, none⟩) := (hu.same p (by simp only [List.mem_singleton]; exact fun e => hnt.1 e.symm)).trans hp
  have hup : ∀ (C : Code) (hC : ∀ y ∈ writes C, y ∈ writes A ∨ y ∈ writes B), ∀ e a2 w2, PostS (writes C) p G g Ret rb S st a' w e a2 w2 →
      PostS (writes ((Code.region id #[⟨some t, .move (.tmp x), ty, q, eg, none⟩] false).seq (Code.cond (.tmp t) A B))) p G g Ret rb S st a w e a2 w2 := by
    intro C hC e a2 w2 hq
    cases e with
    | normal =>
      refine ⟨(hu.mono ?_).trans (hq.1.mono ?_), hq.2.1.trans (hp'.trans hp.symm), hq.2.2⟩
      · intro y hy; simp only [List.mem_singleton] at hy; subst hy; simp [writes]
      · intro y hy; simp only [writes, List.mem_append]; exact .inr (hC y hy)
    | _ => exact hq
  cases b with
  | true => exact wp_cond_true hb (wp_mono (hA rfl rb S st a' w G u Ty hfr' hr he hp' hrow hG) (hup A fun y hy => .inl hy))
  | false => exact wp_cond_false hb (wp_mono (hB rfl rb S st a' w G u Ty hfr' hr he hp' hrow hG) (hup B fun y hy => .inr hy))
theorem Rs.flexG {α : Type} {id t fs p : Nat} {ty : TypeId} {q : String} {eg : Array Edge} {A B : Code} {Ret : Value → α → Prop} (gt : Bool → St → α × St) (hfs : E.fs = some fs) (ht : decide (t < E.N) = true) (hnt : (p :: E.slots).contains t = false)
    (hA : Rs E v flex p (gt true) Ret A) (hB : Rs E v flex p (gt false) Ret B) :
    Rs E v flex p (gt flex) Ret ((Code.region id #[⟨some t, .move (.tmp fs), ty, q, eg, none⟩] false).seq (Code.cond (.tmp t) A B)) :=
  Rs.step (fun _ _ h => h.fs _ hfs) ht hnt (fun h => by rw [h] at hA ⊢; exact hA) (fun h => by rw [h] at hB ⊢; exact hB)
theorem Rs.safe {α : Type} {id t p : Nat} {ty : TypeId} {q : String} {eg : Array Edge} {A B : Code} {g : St → α × St} {Ret : Value → α → Prop} (ht : decide (t < E.N) = true) (hnt : (p :: E.slots).contains t = false) (hB : Rs E v flex p g Ret B) :
    Rs E v flex p g Ret ((Code.region id #[⟨some t, .move (.tmp E.us), ty, q, eg, none⟩] false).seq (Code.cond (.tmp t) A B)) :=
  Rs.step (fun _ _ h => h.us) ht hnt (fun h => by cases h) (fun _ => hB)

/-- 'var vv string; ..; v = &vv': a text of a version at which it is never null. -/
theorem FV.textP {frm to null tag dflt : Int} {of : Nat} {sub : List F} {d p i1 i2 Te : Nat} {y1 y2 : TypeId} {p1 p2 : String} {e1 e2 : Array Edge} {c : Code} (hn : decide (0 ≤ null) = true) (hv : ¬ null ≤ v)
    (ha : ∀ w : World, (Instr.alloc Te true (.tuple #[])).run Tryz.prog w = .ok (.pointer (some ⟨w.heap.size, 0, none⟩)) (w.alloc (.cells #[.string ⟨#[]⟩] Te))) (hN : [p, d].all (· < E.N) = true) (hs : E.slots.contains p = false) (h : Rs E v flex p (rdText flex false 2) IsStr' c) :
    FV E v flex (.mk 8 frm to null tag dflt of sub) d ((Code.region i1 #[⟨some p, .alloc Te, y1, p1, e1, none⟩] false).seq (c.seq (Code.region i2 #[⟨some d, .assign (.tmp p), y2, p2, e2, none⟩] false))) := by
  have hn' := of_decide_eq_true hn
  refine ⟨T, rdText flex false 2, fun w K u x => NstrV w K u x ∧ x.null = false, id, ?_, fun w w' K K' u x hk hs hK h => ⟨stable_nstr w w' K K' u x hk hs hK h.1, h.2⟩, fun st => by simp [rd, fieldR, valR, F.may, hv], ?_⟩
  · intro rb S st a w hfr hr he
    simp only [List.all_cons, List.all_nil, Bool.and_true, Bool.and_eq_true, decide_eq_true_eq] at hN
    simp only [List.contains_eq_mem, decide_eq_false_iff_not] at hs
    have hsz := hfr.size
    have hrlt := hr.lt
    refine wp_seq (wp_region_lit (st_val (v := .pointer (some ⟨w.heap.size, 0, none⟩)) (w' := w.alloc (.cells #[.string ⟨#[]⟩] Te)) (by simp only [execOp, Sem.run_bind, ha, Result.andThen_ok, Sem.run_pure]) (wpList_nil ?_)))
    generalize hA : a.put (some p) (.pointer (some ⟨w.heap.size, 0, none⟩)) = a1
    have u1 : Upd a a1 [p] := by subst hA; exact (Upd.refl a _).put p _ (by simp)
    have s1 : sl a1 p = .pointer (some ⟨w.heap.size, 0, none⟩) := by subst hA; exact sl_put_self _ _ _ (by omega)
    have f1 := hfr.upd u1 (fun t ht => by simp only [List.mem_singleton]; rintro rfl; exact hs ht)
    have g1 : w.grownBy (w.alloc (.cells #[.string ⟨#[]⟩] Te)) none := ⟨rfl, rfl, rfl, by rw [World.size_alloc]; omega, fun k hk _ => alloc_old _ _ _ hk⟩
    have r1 : RdIs (w.alloc (.cells #[.string ⟨#[]⟩] Te)) (fun g => S g ∧ g < w.heap.size) rb st := hr.within.kept g1 (fun _ _ e => by cases e) (fun e => by cases e)
    have he1 : ErrOk (w.alloc (.cells #[.string ⟨#[]⟩] Te)) := he.kept g1 (fun e => by cases e)
    refine wp_seq (wp_mono (h rb _ st a1 _ w.heap.size _ Te f1 r1 he1 s1 (alloc_new w _) (by omega)) ?_)
    intro e a2 w2 hq
    cases e with
    | normal => ?_
    | _ => exact hq.elim
    obtain ⟨u2, s2, w1, u, g2, r2, ⟨rfl, hnn⟩, rfl⟩ := hq
    refine wp_region_lit (st_assign (wpList_nil ?_))
    have hsz1 : w.heap.size < w1.heap.size := by have := g2.size; rw [World.size_alloc] at this; omega
    have hrow2 : ∃ cs Ty, w1.heap[w.heap.size]? = some (.cells cs Ty (0, 0)) ∧ 0 < cs.size := by
      refine ⟨_, _, (g2.block w.heap.size (by rw [World.size_alloc]; omega) (fun e => by have := Option.some.inj e; omega)).trans (alloc_new w _), by simp⟩
    obtain ⟨cs, Ty, hrow2, hcs⟩ := hrow2
    refine ⟨((u1.mono ?_).trans (u2.mono ?_)).trans ((Upd.refl a2 [d]).put d _ (by simp) |>.mono ?_), ?_, ?_, ?_, ?_, ?_⟩
    · intro t ht; simp only [List.mem_singleton] at ht; subst ht; simp [writes]
    · intro t ht; simp only [mem_writes_seq, ht]; simp
    · intro t ht; simp only [List.mem_singleton] at ht; subst ht; simp [writes]
    · have r3 : RdIs (w1.setCell ⟨w.heap.size, 0, none⟩ (strV (rdText flex false 2 st).1.s)) (fun g => S g ∧ g < w.heap.size) rb (rdText flex false 2 st).2 :=
        r2.kept (row := some w.heap.size) ⟨rfl, rfl, rfl, by simp [World.setCell], fun k _ hk => Below.heap_setCell _ _ _ _ (fun e => hk (by rw [e]))⟩ (fun g hg e => by have := Option.some.inj e; have := hg.2; omega) (fun e => by have := Option.some.inj e; omega)
      exact r3.mono (fun g hg => hg.1) hr.1
    · refine ⟨g2.os, g2.tape, g2.output, by simp only [World.setCell, Array.size_modify]; omega, fun k hk hkr => ?_⟩
      rw [Below.heap_setCell _ _ _ _ (by show k ≠ w.heap.size; omega), g2.block k (by rw [World.size_alloc]; omega) hkr, alloc_old _ _ _ hk]
    · rw [sl_put_self _ _ _ (by rw [u2.size, u1.size]; omega), eval_tmp, s2, s1]; rfl
    · rw [sl_put_self _ _ _ (by rw [u2.size, u1.size]; omega), eval_tmp, s2, s1]
      refine .inr ⟨hnn, w.heap.size, rfl, .inr (Nat.le_refl _), by simp only [World.setCell, Array.size_modify]; omega, ?_⟩
      rw [cell_of_row _ _ _ _ _ _ (heap_setCell_row hrow2)]
      simp [hcs]
    · exact hnn
  · intro tags ht w K cc x u hc hu
    simp [repF, fieldRep, valRep, hn']
    obtain ⟨hu, hx⟩ := hu
    rcases hu with ⟨h0, -⟩ | ⟨h0, g, rfl, h1, h2, h3⟩
    · exact absurd (hx.symm.trans h0) (by simp)
    · rw [if_neg (by simp [hx]), hc]; exact ⟨g, 0, rfl, h1, h2, h3⟩

theorem FV.case {f : F} {d t : Nat} {q : Bool} {r A B : Code} (hT : Test E v flex t q r) (hA : q = true → FV E v flex f d A) (hB : q = false → FV E v flex f d B) : FV E v flex f d (r.seq (Code.cond (.tmp t) A B)) := by
  have key : ∀ (C : Code), (∀ a : Act, sl a t = .bool q → ∀ w Q, C.wp Tryz.prog Q a w → (Code.cond (.tmp t) A B).wp Tryz.prog Q a w) → (∀ y ∈ writes C, y ∈ writes A ∨ y ∈ writes B) → FV E v flex f d C → FV E v flex f d (r.seq (Code.cond (.tmp t) A B)) := by
    intro C hC hW ⟨α, g, Ret, k, h1, h2⟩
    refine ⟨α, g, Ret, k, fun rb S st a w hfr hr he => ?_, h2⟩
    refine wp_seq (hT.2 rb a w _ hfr fun a1 u1 s1 => ?_)
    refine hC a1 s1 w _ (wp_mono (h1 rb S st a1 w (hfr.upd u1 (clear_iff hT.1)) hr he) ?_)
    intro e a2 w2 hq
    cases e with
    | normal =>
      refine ⟨(u1.mono ?_).trans (hq.1.mono ?_), hq.2⟩
      · intro y hy; simp only [mem_writes_seq, hy]; simp
      · intro y hy; simp only [mem_writes_seq, writes_cond, List.mem_append]; exact .inr (hW y hy)
    | _ => exact hq
  cases q with
  | true => exact key A (fun a hs w Q h => wp_cond_true (by rw [eval_tmp, hs]) h) (fun y hy => .inl hy) (hA rfl)
  | false => exact key B (fun a hs w Q h => wp_cond_false (by rw [eval_tmp, hs]) h) (fun y hy => .inr hy) (hB rfl)
/-- 'if version < n { .. } else { .. }'. -/
theorem FV.textJ {frm to null tag dflt : Int} {of : Nat} {sub : List F} {d t : Nat} {r A B : Code} (hT : Test E v flex t (decide (v < null)) r) (hA : ¬ null ≤ v → FV E v flex (.mk 8 frm to null tag dflt of sub) d A) (hB : null ≤ v → FV E v flex (.mk 8 frm to null tag dflt of sub) d B) :
    FV E v flex (.mk 8 frm to null tag dflt of sub) d (r.seq (Code.cond (.tmp t) A B)) :=
  FV.case hT (fun h => hA (by have := of_decide_eq_true h; omega)) (fun h => hB (by have := of_decide_eq_false h; omega))
end

section
variable {tags : Rel (List (Nat × List UInt8))} {E : WE} {v : Int} {flex ht : Bool}

/-- 'var vv string; if v != nil { vv = *v }; ..': a text of a version at which it is never null. -/
theorem FA.textP {frm to null tag dflt : Int} {of : Nat} {sub : List F} {d d2 d3 t1 t2 t3 t4 t5 t6 i1 i2 i3 i4 T T' T2 : Nat} {y1 y2 y3 y4 y5 y6 y7 y8 y9 : TypeId} {p1 p2 p3 p4 p5 p6 p7 p8 p9 : String} {e1 e2 e3 e4 e5 e6 e7 e8 e9 : Array Edge} {c : Code} (hn : decide (0 ≤ null) = true) (hv : ¬ null ≤ v)
    (hT : Tryz.prog.underlying T = some (.pointer (Tryz.prog.pointee T))) (hl1 : plainTy Tryz.prog T2 = true) (hN : [t1, t2, t3, t4, t5, t6, d2, d3].all (· < E.N) = true) (hcl : [t1, t2, t3, t4, t5, t6, d2, d3].all (fun t => !(E.ds :: E.slots).contains t) = true)
    (hd : decide (d ≠ d2 ∧ d ≠ t1 ∧ d ≠ t2 ∧ d2 ≠ t1 ∧ d2 ≠ t2) = true) (h : Av E v flex d3 (textB 2 flex) TextA c) :
    FA tags E v flex ht (.mk 8 frm to null tag dflt of sub) d
      ((Code.region i1 #[⟨some d2, .assign (.const (.string ⟨#[]⟩)), y1, p1, e1, none⟩] false).seq
      (((Code.region i2 #[⟨some t1, .move (.tmp d), y2, p2, e2, none⟩, ⟨some t2, .binOp .neq T (.tmp t1) (.const (.pointer none)) T', y3, p3, e3, none⟩] false).seq
        (Code.cond (.tmp t2) (Code.region i3 #[⟨some t3, .move (.tmp d), y4, p4, e4, none⟩, ⟨some t4, .nilCheck (.tmp t3), y5, p5, e5, none⟩, ⟨some t5, .load T2 (.tmp t4), y6, p6, e6, none⟩, ⟨some d2, .assign (.tmp t5), y7, p7, e7, none⟩] false) Code.skip)).seq
      ((Code.region i4 #[⟨some t6, .move (.tmp d2), y8, p8, e8, none⟩, ⟨some d3, .assign (.tmp t6), y9, p9, e9, none⟩] false).seq c))) := by
  have hn' := of_decide_eq_true hn
  intro base K bs a w x hp hr hl
  simp only [List.all_cons, List.all_nil, Bool.and_true, Bool.and_eq_true, decide_eq_true_eq] at hN
  obtain ⟨n1, n2, n3, n4, n5, n6, n7, n8⟩ := hN
  have hd' := of_decide_eq_true hd
  obtain ⟨hd1, hd2, hd3, hd4, hd5⟩ := hd'
  have hcl' : ∀ t ∈ E.ds :: E.slots, t ∉ [t1, t2, t3, t4, t5, t6, d2, d3] := by
    intro t ht hx
    have := List.all_eq_true.1 hcl t hx
    simp only [Bool.not_eq_true', List.contains_eq_mem, decide_eq_false_iff_not] at this
    exact this ht
  have hwr : wr v flex (.mk 8 frm to null tag dflt of sub) x = textB 2 flex x := by
    have : F.nul ⟨8, frm, to, null, tag, dflt, of, sub⟩ v x = false := by simp [F.nul, hv]
    simp only [wr, fieldW, valW, this, show ¬ (8 : Nat) = 11 by decide, show ¬ ((8 : Nat) = 10 ∧ 0 ≤ null) by omega, show ¬ (8 : Nat) = 0 by decide, show ¬ (8 : Nat) = 7 by decide, if_false, if_true, Bool.false_eq_true, take_fit hr.2.fs, textB]
  rw [hwr] at hl ⊢
  have hrep := hr.1
  generalize hua : sl a d = ua at hrep
  simp [repF, fieldRep, valRep, hn'] at hrep
  have hsz := hp.fr.size
  refine wp_seq (reg_const (by omega) fun a1 u1 s1 => ?_)
  have sd1 : sl a1 d = sl a d := u1.same d (by simp only [List.mem_singleton]; exact hd1)
  -- what the variable holds behind the test
  have hmid : ∀ (a2 : Act), Upd a1 a2 [t1, t2, t3, t4, t5, d2] → sl a2 d2 = strV x.s → ((Code.region i4 #[⟨some t6, .move (.tmp d2), y8, p8, e8, none⟩, ⟨some d3, .assign (.tmp t6), y9, p9, e9, none⟩] false).seq c).wp Tryz.prog
      (PostA E (writes ((Code.region i1 #[⟨some d2, .assign (.const (.string ⟨#[]⟩)), y1, p1, e1, none⟩] false).seq
      (((Code.region i2 #[⟨some t1, .move (.tmp d), y2, p2, e2, none⟩, ⟨some t2, .binOp .neq T (.tmp t1) (.const (.pointer none)) T', y3, p3, e3, none⟩] false).seq
        (Code.cond (.tmp t2) (Code.region i3 #[⟨some t3, .move (.tmp d), y4, p4, e4, none⟩, ⟨some t4, .nilCheck (.tmp t3), y5, p5, e5, none⟩, ⟨some t5, .load T2 (.tmp t4), y6, p6, e6, none⟩, ⟨some d2, .assign (.tmp t5), y7, p7, e7, none⟩] false) Code.skip)).seq
      ((Code.region i4 #[⟨some t6, .move (.tmp d2), y8, p8, e8, none⟩, ⟨some d3, .assign (.tmp t6), y9, p9, e9, none⟩] false).seq c)))) base (bs ++ textB 2 flex x) a w) a2 w := by
    intro a2 u2 s2
    have hsz2 : a2.tmps.size = E.N := u2.size.trans (u1.size.trans hsz)
    refine wp_seq (wp_region_lit (st_move (st_assign (wpList_nil ?_))))
    generalize hA : (a2.put (some t6) (a2.eval (.tmp d2))).put (some d3) ((a2.put (some t6) (a2.eval (.tmp d2))).eval (.tmp t6)) = a3
    have u3 : Upd a2 a3 [t6, d3] := by subst hA; exact ((Upd.refl a2 _).put t6 _ (by simp)).put d3 _ (by simp)
    have s3 : sl a3 d3 = strV x.s := by subst hA; rw [sl_put_self _ _ _ (by rw [put_size]; omega), eval_tmp, sl_put_self _ _ _ (by omega), eval_tmp, s2]
    have hall : Upd a a3 [t1, t2, t3, t4, t5, t6, d2, d3] := by
      refine ((u1.mono ?_).trans (u2.mono ?_)).trans (u3.mono ?_) <;> (intro t ht; simp only [List.mem_cons, List.not_mem_nil, or_false] at ht ⊢; omega)
    have hp3 : PreA E v flex base K bs a3 w := hp.next hall (fun t ht => hcl' t (List.mem_cons_of_mem _ ht)) (Below.refl _ _) (by rw [hall.same _ (hcl' _ (by simp))]; exact hp.own)
    refine wp_mono (h base K bs a3 w x hp3 (by rw [s3]; exact ⟨rfl, hr.2.fs⟩) hl) ?_
    intro e a4 w4 hq
    refine PostA.after hall (Below.refl _ _) (fun t ht => ?_) (fun t ht => by simp only [mem_writes_seq, ht]; simp) e a4 w4 hq
    simp only [List.mem_cons, List.not_mem_nil, or_false] at ht
    simp only [mem_writes_seq, writes_cond, List.mem_append]
    rcases ht with rfl | rfl | rfl | rfl | rfl | rfl | rfl | rfl <;> simp [writes]
  have hptr : ∃ q : Option Addr, sl a d = .pointer q := by
    cases hnl : x.null with
    | true => rw [hnl, if_pos rfl] at hrep; exact ⟨_, hua.trans hrep.1⟩
    | false => rw [hnl, if_neg (by simp)] at hrep; obtain ⟨g, o, h1, -⟩ := hrep; exact ⟨_, hua.trans h1⟩
  obtain ⟨q, hq⟩ := hptr
  rw [← hua, hq] at hrep
  refine wp_seq (wp_seq (wp_region_lit (st_move (st_val (v := .bool (!q.isNone)) (w' := w) (exec_binR (u := .pointer q) (z := .pointer none) (by rw [eval_tmp, sl_put_self _ _ _ (by rw [u1.size]; omega), eval_tmp, sd1, hq]) (eval_const _ _) (by cases q <;> rfl) (run_neq_pointer_nil w T q hT)) (wpList_nil ?_)))))
  generalize hB : (a1.put (some t1) (a1.eval (.tmp d))).put (some t2) (.bool (!q.isNone)) = a2
  have u2 : Upd a1 a2 [t1, t2] := by subst hB; exact ((Upd.refl a1 _).put t1 _ (by simp)).put t2 _ (by simp)
  have s2 : sl a2 t2 = .bool (!q.isNone) := by subst hB; exact sl_put_self _ _ _ (by rw [put_size, u1.size]; omega)
  have hsz2 := u2.size
  have hsz1 := u1.size
  cases hnl : x.null with
  | true =>
    rw [hnl, if_pos rfl] at hrep
    obtain ⟨hq0, hs0⟩ := hrep
    have hq0 : q = none := by injection hq0
    subst hq0
    refine wp_cond_false (by rw [eval_tmp, s2]; rfl) (wp_skip (hmid a2 (u2.mono (fun t ht => by simp only [List.mem_cons, List.not_mem_nil, or_false] at ht ⊢; omega)) ?_))
    rw [u2.same d2 (by simp only [List.mem_cons, List.not_mem_nil, or_false]; omega), s1, hs0]
  | false =>
    rw [hnl, if_neg (by simp)] at hrep
    obtain ⟨g, o, hq0, -, -, hcell⟩ := hrep
    have hq0 : q = some ⟨g, o, none⟩ := by injection hq0
    subst hq0
    have sd2 : sl a2 d = .pointer (some ⟨g, o, none⟩) := by rw [u2.same d (by simp only [List.mem_cons, List.not_mem_nil, or_false]; omega), sd1, hq]
    refine wp_cond_true (by rw [eval_tmp, s2]; rfl) (wp_region_lit (st_move (st_nil (p := ⟨g, o, none⟩) ?_ (st_load (b := g) (o := o) (v := strV x.s) (load1_ok hl1) ?_ hcell (st_assign (wpList_nil ?_))))))
    · rw [eval_tmp, sl_put_self _ _ _ (by omega), eval_tmp, sd2]
    · rw [eval_tmp, sl_put_self _ _ _ (by simp only [put_size]; omega)]
    · refine hmid _ (((((u2.mono ?_).put t3 _ (by simp)).put t4 _ (by simp)).put t5 _ (by simp)).put d2 _ (by simp)) ?_
      · intro t ht; simp only [List.mem_cons, List.not_mem_nil, or_false] at ht ⊢; omega
      · rw [sl_put_self _ _ _ (by simp only [put_size]; omega), eval_tmp, sl_put_self _ _ _ (by simp only [put_size]; omega)]
/-- 'if version < n { .. } else { .. }'. -/
theorem FA.textJ {frm to null tag dflt : Int} {of : Nat} {sub : List F} {d t : Nat} {r A B : Code} (hT : TestW E v flex t (decide (v < null)) r) (hd : clear [d] r = true) (hA : ¬ null ≤ v → FA tags E v flex ht (.mk 8 frm to null tag dflt of sub) d A) (hB : null ≤ v → FA tags E v flex ht (.mk 8 frm to null tag dflt of sub) d B) :
    FA tags E v flex ht (.mk 8 frm to null tag dflt of sub) d (r.seq (Code.cond (.tmp t) A B)) := by
  have h := Av.geqC (g1 := wr v flex (.mk 8 frm to null tag dflt of sub)) (g2 := wr v flex (.mk 8 frm to null tag dflt of sub)) hT hd (fun h => hA (by have := of_decide_eq_true h; omega)) (fun h => hB (by have := of_decide_eq_false h; omega))
  exact Av.conv h id (fun _ _ _ _ h => h) (fun _ _ _ _ _ => by simp)
end
end Go.Proofs.YtoklbgdafnminaaGreatDoor
