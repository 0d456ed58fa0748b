/-
  Known tags, read: the code of a tag's field, with code behind it. Conditions: none.
-/
import Derived.Test.YtoklbgdafnminaaGreatDoorKn6
import Derived.Test.YtoklbgdafnminaaGreatDoorUu
import Derived.Test.YtoklbgdafnminaaGreatDoorY8
namespace Go.Proofs.YtoklbgdafnminaaGreatDoor
open Go.RowKit (Below)
open Kz

section
variable {E : RE} {v : Int} {flex : Bool}
theorem RdK.of {α : Type} {sp off n : Nat} {ini : Cells → Prop} {g : St → α × St} {R : Rel α} {L c : Code} (h : Rd E v flex sp off n ini g R c) (hcl : clear (sp :: E.slots) c = true) : RdK E v flex sp off n ini g R L (c.seq L) := by
  intro rb S st cb co cells T a w Q hp hq hret
  refine wp_seq (wp_mono (h rb S st cb co cells T a w hp) ?_)
  have hcl' := clear_iff hcl
  intro e a1 w1 hq1
  cases e with
  | normal =>
    obtain ⟨hu, hr, hm, cells1, hrow, hR⟩ := hq1
    exact hq a1 w1 cells1 (hu.mono (fun t ht => List.mem_append_left _ ht)) (hp.fr.upd hu (fun t ht => hcl' t (List.mem_cons_of_mem _ ht))) ((hu.same _ (hcl' _ (by simp))).trans hp.ptr) hr hm hrow hR
  | ret =>
    obtain ⟨hn, hs2, hd2, hv2, hm2⟩ := hq1
    exact hret a1 w1 hn hs2 hd2 hv2 hm2
  | _ => exact hq1.elim
theorem RdKp.conv {α β : Type} {sp off n : Nat} {pre pre' : St → Cells → Prop} {g : St → α × St} {g' : St → β × St} {R : Rel α} {R' : Rel β} {L c : Code} (h : RdKp E v flex sp off n pre g R L c)
    (k : α → β) (hg : ∀ st, g' st = (k (g st).1, (g st).2)) (hR : ∀ w K cc x, R w K cc x → R' w K cc (k x)) (hini : ∀ st cc, pre' st cc → pre st cc) : RdKp E v flex sp off n pre' g' R' L c := by
  intro rb S st cb co cells T a w Q hp hq hr
  refine h rb S st cb co cells T a w Q { hp with ini := hini _ _ hp.ini } (fun a1 w1 cells1 h1 h2 h3 h4 h5 h6 h7 => hq a1 w1 cells1 h1 h2 h3 ?_ h5 h6 ?_) fun a1 w1 h1 h2 h3 h4 h5 => hr a1 w1 ?_ h2 h3 h4 h5
  · rw [hg]; exact h4
  · rw [hg]; exact hR _ _ _ _ h7
  · rw [hg]; exact h1
/-- A region that writes slots alone, ahead. -/
theorem RdKp.before {α : Type} {sp off n : Nat} {pre : St → Cells → Prop} {g : St → α × St} {R : Rel α} {L r c : Code} (hcl : clear (sp :: E.slots) r = true)
    (hr : ∀ a w Q, a.tmps.size = E.N → (∀ a', Upd a a' (writes r) → Q .normal a' w) → r.wp Tryz.prog Q a w) (h : RdKp E v flex sp off n pre g R L c) : RdKp E v flex sp off n pre g R L (r.seq c) := by
  intro rb S st cb co cells T a w Q hp hq hret
  have hcl' := clear_iff hcl
  refine wp_seq (hr a w _ hp.fr.size fun a' hu => ?_)
  exact h rb S st cb co cells T a' w Q { hp with fr := hp.fr.upd hu (fun t ht => hcl' t (List.mem_cons_of_mem _ ht)), ptr := (hu.same _ (hcl' _ (by simp))).trans hp.ptr }
    (fun a1 w1 cells1 h1 => hq a1 w1 cells1 ((hu.mono (fun t ht => List.mem_append_left _ ht)).trans (h1.mono (fun t ht => List.mem_append_right _ ht)))) hret
theorem RdKp.empty {α : Type} {sp off n id d : Nat} {pre : St → Cells → Prop} {g : St → α × St} {R : Rel α} {L c : Code} {u : Value} {ty : TypeId} {p : String} {e : Array Edge} (hd : decide (d < E.N) = true) (hcl : clear (sp :: E.slots) (Code.region id #[⟨some d, .assign (.const u), ty, p, e, none⟩] false) = true)
    (h : RdKp E v flex sp off n pre g R L c) : RdKp E v flex sp off n pre g R L ((Code.region id #[⟨some d, .assign (.const u), ty, p, e, none⟩] false).seq c) :=
  RdKp.before hcl (fun a w Q ha hq => reg_const (by rw [ha]; exact of_decide_eq_true hd) fun a' hu _ => hq a' hu) h

/-- A value is put into a field. -/
theorem RdKp.store {α : Type} {id sp off d t1 t2 t3 t4 T k ty : Nat} {ty1 ty2 ty3 ty4 ty5 : TypeId} {p1 p2 p3 p4 p5 : String} {e1 e2 e3 e4 e5 : Array Edge} {c L : Code} {g : St → α × St} {Ret : World → (Nat → Prop) → Value → α → Prop} (h : Rv E v flex d g Ret c) (hst : StableV Ret)
    (hcl : clear (sp :: E.slots) c = true) (hf : offOf Tryz.prog T k = some off) (hty : sizeIs Tryz.prog ty 1 = true) (hn : [t1, t2, t3, t4].all (· < E.N) = true) (hd : decide (t1 ≠ t2 ∧ t1 ≠ d ∧ t2 ≠ t3 ∧ t2 ≠ t4) = true) (hcs : [t1, t2, t3, t4].all (fun t => !(sp :: E.slots).contains t) = true) :
    RdKp E v flex sp off 1 (fun _ _ => True) g (fun w K c x => ∃ u, c 0 = some u ∧ Ret w K u x) L (c.seq ((Code.region id #[⟨some t1, .move (.tmp sp), ty1, p1, e1, none⟩, ⟨some t2, .move (.tmp d), ty2, p2, e2, none⟩, ⟨some t3, .nilCheck (.tmp t1), ty3, p3, e3, none⟩,
      ⟨some t4, .fieldAddr T (.tmp t3) k, ty4, p4, e4, none⟩, ⟨none, .store ty (.tmp t4) (.tmp t2), ty5, p5, e5, none⟩] false).seq L)) := by
  intro rb S st cb co cells Ty a w Q hp hq _
  have hcl' := clear_iff hcl
  simp only [List.all_cons, List.all_nil, Bool.and_true, Bool.and_eq_true, decide_eq_true_eq] at hn hd
  obtain ⟨n1, n2, n3, n4⟩ := hn
  obtain ⟨d1, d2, d3, d4⟩ := hd
  have hcs' : ∀ t ∈ sp :: E.slots, t ∉ [t1, t2, t3, t4] := by
    intro t ht hx
    have := List.all_eq_true.1 hcs t hx
    simp only [Bool.not_eq_true', List.contains_eq_mem, decide_eq_false_iff_not] at this
    exact this ht
  refine wp_seq (wp_mono (h rb S st a w hp.fr hp.rd hp.err) ?_)
  intro e a1 w1 hq1
  cases e with
  | normal =>
    obtain ⟨hu, hr, hg, ho, hret⟩ := hq1
    have hsz : a1.tmps.size = E.N := hu.size.trans hp.fr.size
    have hrow1 : w1.heap[cb]? = some (.cells cells Ty (0, 0)) := by rw [hg.block cb (Array.getElem?_eq_some_iff.1 hp.row).1 (fun e => hp.ne (Option.some.inj e))]; exact hp.row
    have hfit := hp.fit
    have hlt : co + off < cells.size := by omega
    have hcell : w1.cell? ⟨cb, co + off, none⟩ = some cells[co + off] := by rw [cell_of_row w1 cb (co + off) _ _ _ hrow1]; simp [hlt]
    have hfz : w1.frozen? ⟨cb, co + off, none⟩ = false := by simp [World.frozen?, hrow1]
    have hsp1 : sl a1 sp = .pointer (some ⟨cb, co, none⟩) := (hu.same _ (hcl' _ (by simp))).trans hp.ptr
    have f1 := hp.fr.upd hu (fun t ht => hcl' t (List.mem_cons_of_mem _ ht))
    refine wp_seq (reg_storeField (fieldOff_ok hf) (store1_ok hty ho) (by omega) (by omega) (by omega) (by omega) d1 d2 d3 d4 hsp1 rfl hcell hfz fun a' hu' => ?_)
    have hmd : Md w1 (w1.setCell ⟨cb, co + off, none⟩ (sl a1 d)) rb cb (co + off) 1 := Md.of_set _ (by omega)
    refine hq a' _ (cells.setIfInBounds (co + off) (sl a1 d)) ((hu.mono ?_).trans (hu'.mono ?_)) (f1.upd hu' (fun t ht => hcs' t (List.mem_cons_of_mem _ ht))) ((hu'.same _ (hcs' _ (by simp))).trans hsp1)
      (hr.kept (row := some cb) ⟨rfl, rfl, rfl, by simp [World.setCell], fun k _ hk => Below.heap_setCell _ _ _ _ (fun e => hk (by rw [e]))⟩ (fun g hg e => hp.src (by rw [← Option.some.inj e]; exact hg)) (fun e => hp.ne (Option.some.inj e).symm))
      ((Md.of_grown hg hp.ne (co + off) 1).trans hmd (by omega) (by omega)) (heap_setCell_row hrow1) ?_
    · intro x hx; simp only [writes, List.mem_append]; exact .inl hx
    · intro x hx; simp only [writes, List.mem_append]; right; left; simpa [writes] using hx
    · refine ⟨sl a1 d, by simp [hlt], hst w1 _ _ _ _ _ (fun g hg hlt => ?_) (by simp [World.setCell]) (fun g hg => hg) hret⟩
      refine Below.heap_setCell _ _ _ _ ?_
      rintro rfl
      rcases hg with hg | hg
      · exact hp.src hg
      · have := (Array.getElem?_eq_some_iff.1 hp.row).1; omega
  | _ => exact hq1.elim
theorem RdKp.ofV {id sp off d t1 t2 t3 t4 T k ty : Nat} {ty1 ty2 ty3 ty4 ty5 : TypeId} {p1 p2 p3 p4 p5 : String} {e1 e2 e3 e4 e5 : Array Edge} {f : F} {c L : Code} (h : FV E v flex f d c) (hone : cellsF true f = 1) (hcl : clear (sp :: E.slots) c = true)
    (hf : offOf Tryz.prog T k = some off) (hty : sizeIs Tryz.prog ty 1 = true) (hn : [t1, t2, t3, t4].all (· < E.N) = true) (hd : decide (t1 ≠ t2 ∧ t1 ≠ d ∧ t2 ≠ t3 ∧ t2 ≠ t4) = true) (hcs : [t1, t2, t3, t4].all (fun t => !(sp :: E.slots).contains t) = true) :
    RdKp E v flex sp off (cellsF true f) (fun _ _ => True) (rd v flex f) (repF TagRep v flex true f) L (c.seq ((Code.region id #[⟨some t1, .move (.tmp sp), ty1, p1, e1, none⟩, ⟨some t2, .move (.tmp d), ty2, p2, e2, none⟩, ⟨some t3, .nilCheck (.tmp t1), ty3, p3, e3, none⟩,
      ⟨some t4, .fieldAddr T (.tmp t3) k, ty4, p4, e4, none⟩, ⟨none, .store ty (.tmp t4) (.tmp t2), ty5, p5, e5, none⟩] false).seq L)) := by
  obtain ⟨α, g, Ret, kk, h1, h2, h3, h4⟩ := h
  rw [hone]
  exact RdKp.conv (RdKp.store h1 h2 hcl hf hty hn hd hcs) kk h3 (fun w K cc x ⟨u, hc, hu⟩ => h4 _ _ _ _ _ _ _ hc hu) (fun _ _ h => h)

/-! ## A struct that lies in the struct itself -/
/-- The code of fields, and of the tags behind them, with code behind it. -/
def RdTlK (E : RE) (v : Int) (flex : Bool) (sp off : Nat) (fs : List F) (L c : Code) : Prop :=
  RdK E v flex sp off (cellsP true fs) (iniFs true fs) (fun st => (((plainR v fs (rds v flex fs) (dfltOf fs) st).1, (if flex then rdTags (plainR v fs (rds v flex fs) (dfltOf fs) st).2 else ([], (plainR v fs (rds v flex fs) (dfltOf fs) st).2)).1),
      (if flex then rdTags (plainR v fs (rds v flex fs) (dfltOf fs) st).2 else ([], (plainR v fs (rds v flex fs) (dfltOf fs) st).2)).2))
    (fun w K cc x => plainRep v flex true fs (repFs TagRep v flex true fs) w K cc x.1 ∧ (flex = true → TagRep w K (fun j => cc (cellsFs true fs + j)) x.2)) L c
theorem RdTlK.last {sp off : Nat} {fs : List F} {L c : Code} (h : RdTl TagRep E v flex true sp off fs c) (hcl : clear (sp :: E.slots) c = true) : RdTlK E v flex sp off fs L (c.seq L) := RdK.of h hcl
theorem RdTlK.cons {sp off : Nat} {f : F} {fs : List F} {L c1 c2 : Code} (h1 : RdF TagRep E v flex true sp off f c1) (hcl : clear (sp :: E.slots) c1 = true) (h2 : RdTlK E v flex sp (off + cellsF true f) fs L c2) : RdTlK E v flex sp off (f :: fs) L (c1.seq c2) := by
  have hst2 : Stable (cellsP true fs) (fun w K cc (x : List T × List (Nat × List UInt8)) => plainRep v flex true fs (repFs TagRep v flex true fs) w K cc x.1 ∧ (flex = true → TagRep w K (fun j => cc (cellsFs true fs + j)) x.2)) := by
    intro w w' K K' c c' x hk hs hK hc hx
    refine ⟨stable_plainF (fun _ => rfl) stable_tagRep fs w w' K K' c c' x.1 hk hs hK (fun j hj => hc j (by simp only [cellsP]; omega)) hx.1, fun hf => stable_tagRep w w' K K' _ _ _ hk hs hK (fun j hj => hc _ ?_) (hx.2 hf)⟩
    simp only [cellsP, Bool.toNat_true]; omega
  have hs2 : Strict (fun st => (((plainR v fs (rds v flex fs) (dfltOf fs) st).1, (if flex then rdTags (plainR v fs (rds v flex fs) (dfltOf fs) st).2 else ([], (plainR v fs (rds v flex fs) (dfltOf fs) st).2)).1),
      (if flex then rdTags (plainR v fs (rds v flex fs) (dfltOf fs) st).2 else ([], (plainR v fs (rds v flex fs) (dfltOf fs) st).2)).2)) := by
    have h1 := strict_plainF v flex fs (dfltOf fs)
    unfold Strict at h1 ⊢
    simp only [h1]
    split
    · exact strict_rdTags
    · rfl
  have h := RdK.cons h1 h2 hcl (fun w w' K K' c c' x hk hs hK hc hx ho => stable_repF (fun _ => rfl) stable_tagRep f w w' K K' c c' x hk hs hK hc (hx ho)) hst2 hs2 (fun c c' hc => ini_locFs true fs c c' (fun j hj => hc j (by simp only [cellsP]; omega))) (fun (x : T) (y : List T × List (Nat × List UInt8)) => (x :: y.1, y.2))
  have e : cellsP true (f :: fs) = cellsF true f + cellsP true fs := by simp only [cellsP, cellsFs]; omega
  unfold RdTlK
  rw [e]
  refine RdK.conv h id (fun st => ?_) (fun w K cc x hx => ?_) (fun _ h => h)
  · simp only [rds, dfltOf, plainR, List.headD_cons, List.tail_cons, id]
  · obtain ⟨y, z, rfl, h1, h2⟩ := hx
    refine ⟨⟨y, z.1, rfl, h1, h2.1⟩, fun hf => ?_⟩
    have := h2.2 hf
    simp only [cellsFs, id, ← Nat.add_assoc] at this ⊢
    exact this
theorem RdTlK.part {sp off : Nat} {fs : List F} {L c : Code} (hno : noTag fs = true) (h : RdTlK E v flex sp off fs L c) : RdK E v flex sp off (cellsP true fs) (iniFs true fs) (rdPart v flex fs) (repP TagRep v flex true fs) L c := by
  refine RdK.conv h (fun x => ⟨0, [], false, x.1, x.2⟩) (fun st => ?_) (fun w K cc x hx => ⟨hx.1, fun hf => ⟨hx.2 hf, fun y _ => by rw [known0 fs hno]; exact Nat.zero_le _⟩⟩) (fun _ h => h)
  simp only [rdPart, asmR]
  cases flex with
  | true => simp only [if_true, tagsR_utags hno, rdTags]
  | false => simp
theorem RdKp.structV {sp off dn s : Nat} {frm to null tag dflt : Int} {of : Nat} {sub : List F} {cA cD cS c L : Code} (hnull : null < 0) (hA : SAddr E.N sp off dn cA) (hD : SDefault E.N dn (cellsP true sub) (iniFs true sub) cD) (hS : SCopy E.N dn s cS)
    (h : RdK E v flex s 0 (cellsP true sub) (iniFs true sub) (rdPart v flex sub) (repP TagRep v flex true sub) L c) (hcl : clear (sp :: E.slots) (cA.seq (cD.seq cS)) = true) (hdn : clear [dn] cD = true) (hsp : clear [sp] c = true) :
    RdKp E v flex sp off (cellsF true (.mk 10 frm to null tag dflt of sub)) (fun _ => iniF true (.mk 10 frm to null tag dflt of sub)) (rd v flex (.mk 10 frm to null tag dflt of sub)) (repF TagRep v flex true (.mk 10 frm to null tag dflt of sub)) L (cA.seq (cD.seq (cS.seq c))) := by
  intro rb S st cb co cells Ty a w Q hp hq hret
  simp only [clear_seq] at hcl
  obtain ⟨kA, kD, kS⟩ := hcl
  have hn0 : ¬ (0 ≤ null) := by omega
  have hone : cellsF true (.mk 10 frm to null tag dflt of sub) = cellsP true sub := by simp [cellsF, fieldCells, valCells, hn0, cellsP]
  have hfit := hp.fit
  rw [hone] at hfit
  have hini0 : iniFs true sub (fun j => cells[co + off + j]?) := by have := hp.ini; simp only [iniF] at this; exact this.2.1 ⟨trivial, hnull⟩
  refine wp_seq (hA a w _ cb co hp.fr.size hp.ptr fun a1 u1 s1 => ?_)
  have f1 := hp.fr.upd u1 (fun t ht => clear_iff kA t (List.mem_cons_of_mem _ ht))
  refine wp_seq (hD a1 w _ cb (co + off) cells Ty f1.size s1 hp.row (by omega) hini0 fun a2 w2 cells2 u2 g2 row2 sz2 same2 ini2 => ?_)
  have f2 := f1.upd u2 (fun t ht => clear_iff kD t (List.mem_cons_of_mem _ ht))
  refine wp_seq (hS a2 w2 _ f2.size fun a3 u3 s3 => ?_)
  have f3 := f2.upd u3 (fun t ht => clear_iff kS t (List.mem_cons_of_mem _ ht))
  have p3 : sl a3 sp = .pointer (some ⟨cb, co, none⟩) := by rw [upd_of u3 kS sp (by simp), upd_of u2 kD sp (by simp), upd_of u1 kA sp (by simp)]; exact hp.ptr
  have hrd2 : RdIs w2 S rb st := hp.rd.kept g2 (fun g hg e => hp.src (by rw [← Option.some.inj e]; exact hg)) (fun e => hp.ne (Option.some.inj e).symm)
  have her2 : ErrOk w2 := hp.err.kept g2 (fun e => hp.cbe (Option.some.inj e))
  have hmd2 : Md w w2 rb cb (co + off) (cellsP true sub) := ⟨g2.os, g2.tape, g2.output, g2.size, fun k hk _ hc => g2.block k hk (fun e => hc (Option.some.inj e)), fun cs T hw => by
    rw [hp.row] at hw
    cases hw
    exact ⟨cells2, row2, sz2, same2⟩⟩
  have hrdg := rd_structV (v := v) (flex := flex) (frm := frm) (to := to) (tag := tag) (dflt := dflt) (of := of) (sub := sub) hnull
  have hrep := repF_structV (tags := TagRep) (v := v) (flex := flex) (ht := true) (frm := frm) (to := to) (tag := tag) (dflt := dflt) (of := of) (sub := sub) hnull
  refine h rb S st cb (co + off) cells2 Ty a3 w2 Q { fr := f3, ptr := ?_, rd := hrd2, err := her2, rbe := hp.rbe, cbe := hp.cbe, ne := hp.ne, src := hp.src, old := fun g hg => Nat.lt_of_lt_of_le (hp.old g hg) g2.size, row := row2, fit := by omega, ini := by simpa using ini2 }
    (fun a4 w4 cells4 u4 f4 p4 r4 m4 row4 rep4 => ?_) (fun a4 w4 n4 s4 d4 v4 m4 => ?_)
  · rw [s3, upd_of u2 hdn dn (by simp), s1]
  · rw [Nat.add_zero] at m4 rep4
    refine hq a4 w4 cells4 (((u1.mono ?_).trans (u2.mono ?_)).trans ((u3.mono ?_).trans (u4.mono ?_))) f4 ((upd_of u4 hsp sp (by simp)).trans p3) (by rw [hrdg]; exact r4) (by rw [hone]; exact hmd2.trans m4 (by omega) (by omega)) row4 ?_
    · intro t ht; simp only [mem_writes_seq, ht]; simp
    · intro t ht; simp only [mem_writes_seq, ht]; simp
    · intro t ht; simp only [mem_writes_seq, ht]; simp
    · intro t ht; simp only [mem_writes_seq, ht]; simp
    · rw [hrdg, hrep]
      exact stable_repP (fun _ => rfl) stable_tagRep sub w4 w4 _ _ _ _ _ (fun _ _ _ => rfl) (Nat.le_refl _) (fun g hg => hg.imp (fun h => h) (fun h => Nat.le_trans g2.size h)) (fun j _ => rfl) rep4
  · rw [Nat.add_zero] at m4
    exact hret a4 w4 (by rw [hrdg]; exact n4) s4 d4 v4 (by rw [hone]; exact hmd2.trans m4 (by omega) (by omega))
theorem DefSets.cast {f sz : Nat} {s1 s2 : List (Nat × Value)} (h : DefSets f sz s1) (e : s1 = s2) : DefSets f sz s2 := e ▸ h
/-- What is to lie ahead is nothing. -/
theorem ini_none {f : F} (h : inisF true f 0 = []) (c : Cells) : iniF true f c := by
  have := (iniF_cells true f 0 c).2 (by rw [h]; intro k hk; cases hk)
  simpa using this
end
end Go.Proofs.YtoklbgdafnminaaGreatDoor
