/-
  A number of a named type: it is read into a slot, copied twice, stored; it is loaded, copied, written. Conditions: none.
-/
import Derived.Test.YtekmdfodnofldaaGreatDoorY4
namespace Go.Proofs.YtekmdfodnofldaaGreatDoor
open Go.RowKit (Below)
open Kz

/-- A value is read, and copied. -/
theorem Rv.copied {α : Type} {E : RE} {v : Int} {flex : Bool} {id d t d' : Nat} {y1 y2 : TypeId} {q1 q2 : String} {e1 e2 : Array Edge} {g : St → α × St} {Ret : World → (Nat → Prop) → Value → α → Prop} {c : Code} (h : Rv E v flex d g Ret c) (hn : [t, d'].all (· < E.N) = true) :
    Rv E v flex d' g Ret (c.seq (Code.region id #[⟨some t, .move (.tmp d), y1, q1, e1, none⟩, ⟨some d', .assign (.tmp t), y2, q2, e2, none⟩] false)) := by
  intro rb S st a w hfr hr he
  simp only [List.all_cons, List.all_nil, Bool.and_true, Bool.and_eq_true, decide_eq_true_eq] at hn
  refine wp_seq (wp_mono (h rb S st a w hfr hr he) ?_)
  intro e a1 w1 hq
  cases e with
  | normal =>
    obtain ⟨hu, hr1, hg, ho, hret⟩ := hq
    have hsz : a1.tmps.size = E.N := hu.size.trans hfr.size
    refine reg_copy (by omega) (by omega) fun a' hu' hs => ⟨(hu.mono (fun x hx => ?_)).trans (hu'.mono (fun x hx => ?_)), hr1, hg, by rw [hs]; exact ho, by rw [hs]; exact hret⟩
    · simp only [writes, List.mem_append]; exact .inl hx
    · simp only [writes, List.mem_append]; right; simpa [writes] using hx
  | _ => exact hq.elim

/-- A value is copied and put into a field. -/
theorem Rd.storeC {α : Type} {E : RE} {v : Int} {flex : Bool} {id0 id sp off d d' t0 t1 t2 t3 t4 T k ty : Nat} {ty1 ty2 ty3 ty4 ty5 ty6 ty7 : TypeId} {p1 p2 p3 p4 p5 p6 p7 : String} {e1 e2 e3 e4 e5 e6 e7 : Array Edge} {c : Code} {ini : (Nat → Option Value) → Prop} {g : St → α × St}
    {Ret : World → (Nat → Prop) → Value → α → Prop} (h : Rv E v flex d' g Ret c) (hst : StableV Ret) (hcl : clear (sp :: E.slots) c = true) (hf : offOf Tryz.prog T k = some off) (hty : sizeIs Tryz.prog ty 1 = true) (hn : [t0, d, t1, t2, t3, t4].all (· < E.N) = true)
    (hd : decide (t1 ≠ t2 ∧ t1 ≠ d ∧ t2 ≠ t3 ∧ t2 ≠ t4) = true) (hc0 : [t0, d].all (fun t => !(sp :: E.slots).contains t) = true) :
    Rd E v flex sp off 1 ini g (fun w K c x => ∃ u, c 0 = some u ∧ Ret w K u x) (c.seq ((Code.region id0 #[⟨some t0, .move (.tmp d'), ty6, p6, e6, none⟩, ⟨some d, .assign (.tmp t0), ty7, p7, e7, none⟩] false).seq (Code.region id #[⟨some t1, .move (.tmp sp), ty1, p1, e1, none⟩, ⟨some t2, .move (.tmp d), ty2, p2, e2, none⟩, ⟨some t3, .nilCheck (.tmp t1), ty3, p3, e3, none⟩,
      ⟨some t4, .fieldAddr T (.tmp t3) k, ty4, p4, e4, none⟩, ⟨none, .store ty (.tmp t4) (.tmp t2), ty5, p5, e5, none⟩] false))) := by
  intro rb S st cb co cells Ty a w hp
  have hcl' := clear_iff hcl
  simp only [List.all_cons, List.all_nil, Bool.and_true, Bool.and_eq_true, decide_eq_true_eq, Bool.not_eq_true', List.contains_eq_mem, decide_eq_false_iff_not] at hn hd hc0
  obtain ⟨n0, nd, n1, n2, n3, n4⟩ := hn
  obtain ⟨d1, d2, d3, d4⟩ := hd
  refine wp_seq (wp_mono (h rb S st a w hp.fr hp.rd hp.err) ?_)
  intro e a1 w1 hq
  cases e with
  | normal =>
    obtain ⟨hu, hr, hg, ho, hret⟩ := hq
    have hsz : a1.tmps.size = E.N := hu.size.trans hp.fr.size
    have hrow1 : w1.heap[cb]? = some (.cells cells Ty (0, 0)) := by rw [hg.block cb (Array.getElem?_eq_some_iff.1 hp.row).1 (fun e => hp.ne (Option.some.inj e))]; exact hp.row
    have hfit := hp.fit
    have hlt : co + off < cells.size := by omega
    have hcell : w1.cell? ⟨cb, co + off, none⟩ = some cells[co + off] := by rw [cell_of_row w1 cb (co + off) _ _ _ hrow1]; simp [hlt]
    have hfz : w1.frozen? ⟨cb, co + off, none⟩ = false := by simp [World.frozen?, hrow1]
    refine wp_seq (reg_copy (by omega) (by omega) fun a2 hu2 hs2 => ?_)
    have hsz2 : a2.tmps.size = E.N := hu2.size.trans hsz
    have hsp : sl a2 sp = .pointer (some ⟨cb, co, none⟩) := by
      rw [hu2.same _ (by simp only [List.mem_cons, List.not_mem_nil, or_false, not_or]; exact ⟨fun e => hc0.1 (by rw [← e]; exact List.mem_cons_self), fun e => hc0.2 (by rw [← e]; exact List.mem_cons_self)⟩), hu.same _ (hcl' _ (by simp))]
      exact hp.ptr
    rw [← hs2] at ho hret
    refine reg_storeField (fieldOff_ok hf) (store1_ok hty ho) (by omega) (by omega) (by omega) (by omega) d1 d2 d3 d4 hsp rfl hcell hfz fun a' hu' => ?_
    have hmd : Md w1 (w1.setCell ⟨cb, co + off, none⟩ (sl a2 d)) rb cb (co + off) 1 := Md.of_set _ (by omega)
    refine ⟨((hu.mono ?_).trans (hu2.mono ?_)).trans (hu'.mono ?_), hr.kept (row := some cb) ⟨rfl, rfl, rfl, by simp [World.setCell], fun k _ hk => Below.heap_setCell _ _ _ _ (fun e => hk (by rw [e]))⟩ (fun g hg e => hp.src (by rw [← Option.some.inj e]; exact hg)) (fun e => hp.ne (Option.some.inj e).symm),
      (Md.of_grown hg hp.ne (co + off) 1).trans hmd (by omega) (by omega), cells.setIfInBounds (co + off) (sl a2 d), heap_setCell_row hrow1, ?_⟩
    · intro x hx; simp only [writes, List.mem_append]; exact .inl hx
    · intro x hx; simp only [writes, List.mem_append]; right; left; simpa [writes] using hx
    · intro x hx; simp only [writes, List.mem_append]; right; right; simpa [writes] using hx
    · refine ⟨sl a2 d, by simp [hlt], hst w1 _ _ _ _ _ (fun g hg hlt => ?_) (by simp [World.setCell]) (fun g hg => hg) hret⟩
      refine Below.heap_setCell _ _ _ _ ?_
      rintro rfl
      rcases hg with hg | hg
      · exact hp.src hg
      · have := (Array.getElem?_eq_some_iff.1 hp.row).1; omega
  | _ => exact hq.elim

theorem RdV.ofC {tags : Rel (List (Nat × List UInt8))} {E : RE} {v : Int} {flex ht : Bool} {id0 id sp off d d' t0 t1 t2 t3 t4 T k ty : Nat} {ty1 ty2 ty3 ty4 ty5 ty6 ty7 : TypeId} {p1 p2 p3 p4 p5 p6 p7 : String} {e1 e2 e3 e4 e5 e6 e7 : Array Edge} {f : F} {c : Code} (h : FV E v flex f d' c) (hone : cellsF ht f = 1) (hcl : clear (sp :: E.slots) c = true)
    (hf : offOf Tryz.prog T k = some off) (hty : sizeIs Tryz.prog ty 1 = true) (hn : [t0, d, t1, t2, t3, t4].all (· < E.N) = true) (hd : decide (t1 ≠ t2 ∧ t1 ≠ d ∧ t2 ≠ t3 ∧ t2 ≠ t4) = true) (hc0 : [t0, d].all (fun t => !(sp :: E.slots).contains t) = true) :
    RdV tags E v flex ht sp off f (c.seq ((Code.region id0 #[⟨some t0, .move (.tmp d'), ty6, p6, e6, none⟩, ⟨some d, .assign (.tmp t0), ty7, p7, e7, none⟩] false).seq (Code.region id #[⟨some t1, .move (.tmp sp), ty1, p1, e1, none⟩, ⟨some t2, .move (.tmp d), ty2, p2, e2, none⟩, ⟨some t3, .nilCheck (.tmp t1), ty3, p3, e3, none⟩,
      ⟨some t4, .fieldAddr T (.tmp t3) k, ty4, p4, e4, none⟩, ⟨none, .store ty (.tmp t4) (.tmp t2), ty5, p5, e5, none⟩] false))) := by
  obtain ⟨α, g, Ret, kk, h1, h2, h3, h4⟩ := h
  unfold RdV
  rw [hone]
  exact Rd.conv (Rd.storeC (ini := fun _ => True) h1 h2 hcl hf hty hn hd hc0) kk h3 (fun w K cc x ⟨u, hc, hu⟩ => h4 _ _ _ _ _ _ _ hc hu) (fun _ _ => trivial)

/-- A value is copied, and written. -/
theorem Av.copied {α : Type} {E : WE} {v : Int} {flex : Bool} {id d t d' : Nat} {y1 y2 : TypeId} {q1 q2 : String} {e1 e2 : Array Edge} {wrt : α → List UInt8} {Arg : World → (Nat → Prop) → Value → α → Prop} {c : Code} (h : Av E v flex d' wrt Arg c) (hn : [t, d'].all (· < E.N) = true) (hc0 : [t, d'].all (fun t => !(E.ds :: E.slots).contains t) = true) :
    Av E v flex d wrt Arg ((Code.region id #[⟨some t, .move (.tmp d), y1, q1, e1, none⟩, ⟨some d', .assign (.tmp t), y2, q2, e2, none⟩] false).seq c) := by
  intro base K bs a w x hp hr hl
  simp only [List.all_cons, List.all_nil, Bool.and_true, Bool.and_eq_true, decide_eq_true_eq, Bool.not_eq_true', List.contains_eq_mem, decide_eq_false_iff_not] at hn hc0
  have hsz := hp.fr.size
  refine wp_seq (reg_copy (by omega) (by omega) fun a1 hu hs => ?_)
  have hno : ∀ s ∈ E.ds :: E.slots, s ∉ [t, d'] := by
    intro s hs
    simp only [List.mem_cons, List.not_mem_nil, or_false, not_or]
    exact ⟨fun e => hc0.1 (by rw [← e]; exact hs), fun e => hc0.2 (by rw [← e]; exact hs)⟩
  have hp1 : PreA E v flex base K bs a1 w := hp.next hu (fun s hs => hno s (List.mem_cons_of_mem _ hs)) (Below.refl _ _) (by rw [hu.same _ (hno _ (by simp))]; exact hp.own)
  refine wp_mono (h base K bs a1 w x hp1 (by rw [hs]; exact hr) hl) ?_
  intro e a2 w2 hq
  exact PostA.after hu (Below.refl _ _) (fun s hs => by simp only [writes, List.mem_append]; left; simpa [writes] using hs) (fun s hs => List.mem_append_right _ hs) e a2 w2 hq
end Go.Proofs.YtekmdfodnofldaaGreatDoor
