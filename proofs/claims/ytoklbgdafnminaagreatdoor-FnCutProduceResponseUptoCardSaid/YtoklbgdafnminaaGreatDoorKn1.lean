/-
  Known tags: what new fields hold, as trees; code laid anew in brackets. Conditions: none.
-/
import Derived.Test.YtoklbgdafnminaaGreatDoorY5
namespace Go.Proofs.YtoklbgdafnminaaGreatDoor
open Go.RowKit (Below)
open Kz

/-! ## What a field holds ahead of a reading -/
mutual
def dcF : F → List Value
  | .mk kind _ _ null _ dflt _ sub =>
    if kind = 7 then List.replicate 16 (.int .u8 0)
    else if kind = 8 then [if 0 ≤ null then .pointer none else .string ⟨#[]⟩]
    else if kind = 10 then dcFs sub ++ [.map none]
    else if kind = 11 then [.slice none 0 0]
    else [.int (ikOf kind) dflt]
def dcFs : List F → List Value
  | [] => []
  | f :: fs => dcF f ++ dcFs fs
end
mutual
def dOkF : F → Bool
  | .mk kind _ _ null _ dflt _ sub => (decide (1 ≤ kind) && decide (kind ≤ 4) && (decide (kind ≠ 3) || (decide (-2147483648 ≤ dflt) && decide (dflt ≤ 2147483647))) && (decide (kind ≠ 4) || (decide (-9223372036854775808 ≤ dflt) && decide (dflt ≤ 9223372036854775807)))) || decide (kind = 7) || (decide (kind = 8)) || (decide (kind = 10) && decide (null < 0) && dOkFs sub) || (decide (kind = 11) && decide (null < 0))
def dOkFs : List F → Bool
  | [] => true
  | f :: fs => dOkF f && dOkFs fs
end
mutual
theorem dcF_length : ∀ f : F, dOkF f = true → (dcF f).length = cellsF true f
  | .mk kind frm to null tag dflt of sub, h => by
    simp only [dOkF, Bool.or_eq_true, Bool.and_eq_true, decide_eq_true_eq] at h
    have hs := dcFs_length sub
    simp only [dcF, cellsF, fieldCells, valCells]
    by_cases h7 : kind = 7
    · subst h7; simp
    by_cases h8 : kind = 8
    · subst h8; simp
    by_cases h10 : kind = 10
    · subst h10
      have hn : null < 0 ∧ dOkFs sub = true := by
        rcases h with (((h | h) | h) | h) | h
        · omega
        · omega
        · omega
        · exact ⟨h.1.2, h.2⟩
        · omega
      have : ¬ (0 ≤ null) := by omega
      simp [this, hs hn.2]
    by_cases h11 : kind = 11
    · subst h11; simp
    · simp [h7, h8, h10, h11]
theorem dcFs_length : ∀ fs : List F, dOkFs fs = true → (dcFs fs).length = cellsFs true fs
  | [], _ => rfl
  | f :: fs, h => by
    simp only [dOkFs, Bool.and_eq_true] at h
    simp only [dcFs, cellsFs, List.length_append, dcF_length f h.1, dcFs_length fs h.2]
end
/-- These values lie there. -/
def Lies (l : List Value) (c : Cells) : Prop := ∀ j u, l[j]? = some u → c j = some u
theorem Lies.left {l m : List Value} {c : Cells} (h : Lies (l ++ m) c) : Lies l c := fun j u hj => h j u (by rw [List.getElem?_append_left (List.getElem?_eq_some_iff.1 hj).1]; exact hj)
theorem Lies.right {l m : List Value} {c : Cells} (h : Lies (l ++ m) c) : Lies m (fun j => c (l.length + j)) := fun j u hj => h _ u (by rw [List.getElem?_append_right (by omega)]; simpa using hj)
section
variable {v : Int} {w : World} {K : Nat → Prop}
mutual
theorem rep_dF : ∀ (f : F) (c : Cells), dOkF f = true → Lies (dcF f) c → repF TagRep v true true f w K c (dfltF f)
  | .mk kind frm to null tag dflt of sub, c, h, hc => by
    simp only [dOkF, Bool.or_eq_true, Bool.and_eq_true, decide_eq_true_eq] at h
    simp only [dcF] at hc
    simp only [repF, fieldRep, dfltF]
    by_cases h11 : kind = 11
    · subst h11
      have hn : null < 0 := by omega
      have hn' : ¬ (0 ≤ null) := by omega
      have := hc 0 (.slice none 0 0) rfl
      simp [listRep, hn', this]
    rw [if_neg h11]
    by_cases h7 : kind = 7
    · subst h7
      intro i b hi
      have hi : (uuid [])[i]? = some b := hi
      refine hc i _ ?_
      have e : uuid [] = List.replicate 16 0 := rfl
      rw [e, List.getElem?_replicate] at hi
      simp only [if_true]
      rw [List.getElem?_replicate]
      split at hi
      · rename_i hlt
        cases hi
        rw [if_pos hlt]; rfl
      · cases hi
    by_cases h8 : kind = 8
    · subst h8
      have h0 : c 0 = some (if 0 ≤ null then .pointer none else .string ⟨#[]⟩) := hc 0 _ rfl
      by_cases hn : 0 ≤ null
      · rw [if_pos hn] at h0
        simp [valRep, hn, h0]
      · rw [if_neg hn] at h0
        simp [valRep, hn, h0]
    by_cases h10 : kind = 10
    · subst h10
      have hn : null < 0 ∧ dOkFs sub = true := by
        rcases h with (((h | h) | h) | h) | h
        · omega
        · omega
        · omega
        · exact ⟨h.1.2, h.2⟩
        · omega
      have hn' : ¬ (0 ≤ null) := by omega
      simp only [show ¬ (10 : Nat) = 7 by decide, show ¬ (10 : Nat) = 8 by decide, if_false, if_true] at hc
      have hl := dcFs_length sub hn.2
      have ih := rep_dFs sub c hn.2 hc.left
      have h2 := hc.right
      rw [hl] at h2
      simp only [valRep, show ¬ (10 : Nat) = 0 by decide, show ¬ (10 : Nat) = 7 by decide, show ¬ (10 : Nat) = 8 by decide, show ¬ (10 : Nat) = 9 by decide, if_false, if_true, decide_eq_false hn', Bool.false_eq_true]
      exact ⟨ih, fun _ => ⟨⟨none, h2 0 _ rfl, rfl⟩, fun x hx => absurd hx (by simp)⟩⟩
    · have hk : 1 ≤ kind ∧ kind ≤ 4 := by omega
      rw [if_neg h7, if_neg h8, if_neg h10, if_neg h11] at hc
      have h0 := hc 0 _ rfl
      have k0 : ¬ kind = 0 := by omega
      have k9 : ¬ kind = 9 := by omega
      have k5 : ¬ kind = 5 := by omega
      simp only [valRep, if_neg h7, if_neg h8, if_neg h10, if_neg k0, if_neg k9]
      exact ⟨h0, fun h5 => absurd h5 k5, fun h3 => by omega, fun h4 => by omega⟩
theorem rep_dFs : ∀ (fs : List F) (c : Cells), dOkFs fs = true → Lies (dcFs fs) c → plainRep v true true fs (repFs TagRep v true true fs) w K c (dfltOf fs)
  | [], _, _, _ => rfl
  | f :: fs, c, h, hc => by
    simp only [dOkFs, Bool.and_eq_true] at h
    simp only [dcFs] at hc
    refine ⟨_, _, rfl, fun _ => rep_dF f c h.1 hc.left, ?_⟩
    have h2 := hc.right
    rw [dcF_length f h.1] at h2
    exact rep_dFs fs _ h.2 h2
end
end

/-! ## Code that reads, and the code behind it -/
/-- A code that reads, with the code L behind it. -/
def RdK {α : Type} (E : RE) (v : Int) (flex : Bool) (sp off n : Nat) (ini : Cells → Prop) (g : St → α × St) (R : Rel α) (L c : Code) : Prop :=
  ∀ rb S st cb co cells T a w (Q : Exit → Act → World → Prop), Pre E v flex sp off n ini rb S st cb co cells T a w →
    (∀ a1 w1 cells1, Upd a a1 (writes c) → Fr E rb v flex a1 → sl a1 sp = .pointer (some ⟨cb, co, none⟩) → RdIs w1 S rb (g st).2 → Md w w1 rb cb (co + off) n → w1.heap[cb]? = some (.cells cells1 T (0, 0)) →
      R w1 (fun g => S g ∨ w.heap.size ≤ g) (fun j => cells1[co + off + j]?) (g st).1 → L.wp Tryz.prog Q a1 w1) →
    (∀ a1 w1, (g st).2 = none → a1.tmps.size = E.N → a1.defers = [] → (∃ t x, sl a1 E.res = .iface t x) → Md w w1 rb cb (co + off) n → Q .ret a1 w1) → c.wp Tryz.prog Q a w
section
variable {E : RE} {v : Int} {flex : Bool}
theorem RdK.nil {α : Type} {sp off n : Nat} {ini : Cells → Prop} {z : α} {R : Rel α} {L : Code} (h : ∀ w K c, ini c → R w K c z) : RdK E v flex sp off n ini (fun st => (z, st)) R L L := by
  intro rb S st cb co cells T a w Q hp hq _
  exact hq a w cells (Upd.refl _ _) hp.fr hp.ptr hp.rd (Md.refl _ _ _ _ _) hp.row (h _ _ _ hp.ini)
theorem RdK.conv {α β : Type} {sp off n : Nat} {ini ini' : Cells → Prop} {g : St → α × St} {g' : St → β × St} {R : Rel α} {R' : Rel β} {L c : Code} (h : RdK E v flex sp off n ini g R L c)
    (k : α → β) (hg : ∀ st, g' st = (k (g st).1, (g st).2)) (hR : ∀ w K cc x, R w K cc x → R' w K cc (k x)) (hini : ∀ cc, ini' cc → ini cc) : RdK E v flex sp off n ini' g' R' L c := by
  intro rb S st cb co cells T a w Q hp hq hr
  refine h rb S st cb co cells T a w Q { hp with ini := hini _ hp.ini } (fun a1 w1 cells1 h1 h2 h3 h4 h5 h6 h7 => hq a1 w1 cells1 h1 h2 h3 ?_ h5 h6 ?_) fun a1 w1 h1 h2 h3 h4 h5 => hr a1 w1 ?_ h2 h3 h4 h5
  · rw [hg]; exact h4
  · rw [hg]; exact hR _ _ _ _ h7
  · rw [hg]; exact h1
/-- Cells that are let be, ahead of others. -/
theorem RdK.skip {α β γ : Type} {sp off n1 n2 : Nat} {ini1 ini2 : Cells → Prop} {y : α} {g2 : St → β × St} {R1 : Rel α} {R2 : Rel β} {L c : Code} (h2 : RdK E v flex sp (off + n1) n2 ini2 g2 R2 L c) (h1 : ∀ w K cc, ini1 cc → R1 w K cc y)
    (hloc1 : ∀ c c' : Cells, (∀ j, j < n1 → c' j = c j) → ini1 c → ini1 c') (hloc : ∀ c c' : Cells, (∀ j, j < n2 → c' j = c j) → ini2 c → ini2 c') (hst2 : Stable n2 R2) (f : α → β → γ) :
    RdK E v flex sp off (n1 + n2) (fun c => ini1 c ∧ ini2 (fun j => c (n1 + j))) (fun st => (f y (g2 st).1, (g2 st).2)) (fun w K c x => ∃ y z, x = f y z ∧ R1 w K c y ∧ R2 w K (fun j => c (n1 + j)) z) L c := by
  intro rb S st cb co cells T a w Q hp hq hr
  have hfit := hp.fit
  refine h2 rb S st cb co cells T a w Q { hp with fit := by omega, ini := ?_ } (fun a1 w1 cells1 h1' h2' h3 h4 h5 h6 h7 => hq a1 w1 cells1 h1' h2' h3 h4 (h5.mono (by omega)) h6 ?_) fun a1 w1 h1' h2' h3 h4 h5 => hr a1 w1 h1' h2' h3 h4 (h5.mono (by omega))
  · refine hloc (fun j => cells[co + off + (n1 + j)]?) _ (fun j _ => ?_) hp.ini.2
    show cells[co + (off + n1) + j]? = cells[co + off + (n1 + j)]?
    congr 1; omega
  · obtain ⟨cells1', hrow', hsz, hsame⟩ := h5.row cells T hp.row
    rw [h6] at hrow'
    cases hrow'
    refine ⟨y, _, rfl, h1 _ _ _ (hloc1 (fun j => cells[co + off + j]?) _ (fun j hj => hsame _ (.inl (by omega))) hp.ini.1), hst2 w1 w1 _ _ _ _ _ (fun _ _ _ => rfl) (Nat.le_refl _) (fun _ h => h) (fun j _ => ?_) h7⟩
    show cells1[co + off + (n1 + j)]? = cells1[co + (off + n1) + j]?
    congr 1; omega
theorem RdK.cons {α β γ : Type} {sp off n1 n2 : Nat} {ini1 ini2 : Cells → Prop} {g1 : St → α × St} {g2 : St → β × St} {R1 : Rel α} {R2 : Rel β} {L c1 c2 : Code} (h1 : Rd E v flex sp off n1 ini1 g1 R1 c1) (h2 : RdK E v flex sp (off + n1) n2 ini2 g2 R2 L c2)
    (hcl : clear (sp :: E.slots) c1 = true) (hst : Stable n1 R1) (hst2 : Stable n2 R2) (hs : Strict g2) (hloc : ∀ c c' : Cells, (∀ j, j < n2 → c' j = c j) → ini2 c → ini2 c') (f : α → β → γ) :
    RdK E v flex sp off (n1 + n2) (fun c => ini1 c ∧ ini2 (fun j => c (n1 + j))) (fun st => (f (g1 st).1 (g2 (g1 st).2).1, (g2 (g1 st).2).2))
      (fun w K c x => ∃ y z, x = f y z ∧ R1 w K c y ∧ R2 w K (fun j => c (n1 + j)) z) L (c1.seq c2) := by
  intro rb S st cb co cells T a w Q hp hq hret
  refine wp_seq (wp_mono (h1 rb S st cb co cells T a w { hp with fit := by have := hp.fit; omega, ini := hp.ini.1 }) ?_)
  have hcl' := clear_iff hcl
  intro e a1 w1 hq1
  cases e with
  | normal =>
    obtain ⟨hu, hr, hm, cells1, hrow, hR⟩ := hq1
    obtain ⟨cells1', hrow', hsz, hsame⟩ := hm.row cells T hp.row
    obtain ⟨rfl, -⟩ : cells1' = cells1 ∧ T = T := by
      rw [hrow] at hrow'
      simp only [Option.some.injEq, Obj.cells.injEq] at hrow'
      exact ⟨hrow'.1.symm, rfl⟩
    have hfit := hp.fit
    have hp2 : Pre E v flex sp (off + n1) n2 ini2 rb S (g1 st).2 cb co cells1' T a1 w1 := {
      fr := hp.fr.upd hu (fun t ht => hcl' t (List.mem_cons_of_mem _ ht))
      ptr := (hu.same _ (hcl' _ (by simp))).trans hp.ptr
      rd := hr
      err := hp.err.md hm hp.rbe hp.cbe
      rbe := hp.rbe
      cbe := hp.cbe
      ne := hp.ne
      src := hp.src
      old := fun g hg => Nat.lt_of_lt_of_le (hp.old g hg) hm.size
      row := hrow
      fit := by omega
      ini := by
        refine hloc (fun j => cells[co + off + (n1 + j)]?) _ (fun j hj => ?_) hp.ini.2
        show cells1'[co + (off + n1) + j]? = cells[co + off + (n1 + j)]?
        rw [hsame _ (.inr (by omega))]
        congr 1; omega }
    refine h2 rb S (g1 st).2 cb co cells1' T a1 w1 Q hp2 (fun a2 w2 cells2 hu2 f2 p2 hr2 hm2 hrow2 hR2 => ?_) (fun a2 w2 hn hs2 hd2 hv2 hm2 => ?_)
    · obtain ⟨cells2', hrow2', hsz2, hsame2⟩ := hm2.row cells1' T hrow
      obtain ⟨rfl, -⟩ : cells2' = cells2 ∧ T = T := by
        rw [hrow2] at hrow2'
        simp only [Option.some.injEq, Obj.cells.injEq] at hrow2'
        exact ⟨hrow2'.1.symm, rfl⟩
      refine hq a2 w2 cells2' ((hu.mono (fun t ht => List.mem_append_left _ ht)).trans (hu2.mono (fun t ht => List.mem_append_right _ ht))) f2 p2 hr2 (hm.trans hm2 (by omega) (by omega)) hrow2 ⟨_, _, rfl, ?_, ?_⟩
      · refine hst w1 w2 _ _ _ _ _ (fun g hg hlt => ?_) hm2.size (fun g hg => hg) (fun j hj => ?_) hR
        · refine hm2.block g hlt ?_ ?_
          · rintro rfl
            rcases hg with hg | hg
            · exact hp.rd.1 hg
            · exact absurd hp.rd.lt (by omega)
          · rintro rfl
            rcases hg with hg | hg
            · exact hp.src hg
            · have := (Array.getElem?_eq_some_iff.1 hp.row).1; omega
        · exact hsame2 _ (.inl (by omega))
      · refine hst2 w2 w2 _ _ _ _ _ (fun _ _ _ => rfl) (Nat.le_refl _) (fun g hg => hg.imp id (fun h => Nat.le_trans hm.size h)) (fun j _ => ?_) hR2
        show cells2'[co + off + (n1 + j)]? = cells2'[co + (off + n1) + j]?
        congr 1; omega
    · exact hret a2 w2 hn hs2 hd2 hv2 (hm.trans hm2 (by omega) (by omega))
  | ret =>
    obtain ⟨hn, hs2, hd2, hv2, hm2⟩ := hq1
    refine hret a1 w1 ?_ hs2 hd2 hv2 (hm2.mono (by omega))
    show (g2 (g1 st).2).2 = none
    rw [hn]; exact hs
  | _ => exact hq1.elim
end

/-! ## The fields of a part that has known tags -/
/-- What is to lie there ahead of a reading. -/
def iniD : List F → Cells → Prop
  | [], c => c 0 = some (.map none)
  | f :: fs, c => (if 0 ≤ f.tag then Lies (dcF f) c else iniF true f c) ∧ iniD fs (fun j => c (cellsF true f + j))
/-- The untagged fields are read, the others as they were. -/
def repD (v : Int) (flex : Bool) : List F → Rel (List T)
  | [], _, _, c, ts => ts = [] ∧ c 0 = some (.map none)
  | f :: fs, w, K, c, ts => ∃ x xs, ts = x :: xs ∧ (if 0 ≤ f.tag then Lies (dcF f) c ∧ x = dfltF f else (f.has v = true → repF TagRep v flex true f w K c x)) ∧ repD v flex fs w K (fun j => c (cellsF true f + j)) xs
/-- The tagged fields are of kinds whose new values are known. -/
def tagOk (fs : List F) : Bool := fs.all fun f => decide (f.tag < 0) || dOkF f

theorem iniD_loc : ∀ (fs : List F) (c c' : Cells), tagOk fs = true → (∀ j, j < cellsFs true fs + 1 → c' j = c j) → iniD fs c → iniD fs c'
  | [], c, c', _, hc, h => by
    simp only [iniD] at h ⊢
    rw [hc 0 (by simp [cellsFs])]; exact h
  | f :: fs, c, c', hk, hc, h => by
    simp only [tagOk, List.all_cons, Bool.and_eq_true, Bool.or_eq_true, decide_eq_true_eq] at hk
    simp only [iniD, cellsFs] at h hc ⊢
    refine ⟨?_, iniD_loc fs _ _ hk.2 (fun j hj => hc _ (by omega)) h.2⟩
    by_cases ht : 0 ≤ f.tag
    · rw [if_pos ht]
      have h1 := h.1
      rw [if_pos ht] at h1
      intro j u hj
      have hlt := (List.getElem?_eq_some_iff.1 hj).1
      rw [dcF_length f (hk.1.resolve_left (by omega))] at hlt
      rw [hc j (by omega)]; exact h1 j u hj
    · rw [if_neg ht]
      have h1 := h.1
      rw [if_neg ht] at h1
      exact ini_locF true f c c' (fun j hj => hc j (by omega)) h1
theorem stable_repD {v : Int} {flex : Bool} : ∀ (fs : List F), tagOk fs = true → Stable (cellsFs true fs + 1) (repD v flex fs)
  | [], _ => fun w w' K K' c c' x hk hs hK hc h => ⟨h.1, by rw [hc 0 (by simp [cellsFs])]; exact h.2⟩
  | f :: fs, hk => fun w w' K K' c c' x hk' hs hK hc h => by
    simp only [tagOk, List.all_cons, Bool.and_eq_true, Bool.or_eq_true, decide_eq_true_eq] at hk
    simp only [cellsFs] at hc
    obtain ⟨y, ys, h0, h1, h2⟩ := h
    refine ⟨y, ys, h0, ?_, stable_repD fs hk.2 w w' K K' _ _ ys hk' hs hK (fun j hj => hc _ (by omega)) h2⟩
    by_cases ht : 0 ≤ f.tag
    · rw [if_pos ht] at h1 ⊢
      refine ⟨fun j u hj => ?_, h1.2⟩
      have hlt := (List.getElem?_eq_some_iff.1 hj).1
      rw [dcF_length f (hk.1.resolve_left (by omega))] at hlt
      rw [hc j (by omega)]; exact h1.1 j u hj
    · rw [if_neg ht] at h1 ⊢
      exact fun hv => stable_repF (fun _ => rfl) stable_tagRep f w w' K K' c c' y hk' hs hK (fun j hj => hc j (by omega)) (h1 hv)
/-- Behind them: all fields, no tags yet. -/
theorem repD_plain {v : Int} : ∀ (fs : List F) {w : World} {K : Nat → Prop} {c : Cells} {ts : List T}, tagOk fs = true → repD v true fs w K c ts → plainRep v true true fs (repFs TagRep v true true fs) w K c ts ∧ c (cellsFs true fs) = some (.map none)
  | [], w, K, c, ts, _, h => ⟨h.1, h.2⟩
  | f :: fs, w, K, c, ts, hk, h => by
    simp only [tagOk, List.all_cons, Bool.and_eq_true, Bool.or_eq_true, decide_eq_true_eq] at hk
    obtain ⟨y, ys, h0, h1, h2⟩ := h
    obtain ⟨i1, i2⟩ := repD_plain fs hk.2 h2
    refine ⟨⟨y, ys, h0, fun ho => ?_, i1⟩, i2⟩
    by_cases ht : 0 ≤ f.tag
    · rw [if_pos ht] at h1
      rw [h1.2]
      exact rep_dF f c (hk.1.resolve_left (by omega)) h1.1
    · rw [if_neg ht] at h1
      exact h1 (by simpa [F.on, show f.tag < 0 by omega] using ho)
theorem repD_plain0 {v : Int} : ∀ (fs : List F) {w : World} {K : Nat → Prop} {c : Cells} {ts : List T}, repD v false fs w K c ts → plainRep v false true fs (repFs TagRep v false true fs) w K c ts
  | [], w, K, c, ts, h => h.1
  | f :: fs, w, K, c, ts, h => by
    obtain ⟨y, ys, h0, h1, h2⟩ := h
    refine ⟨y, ys, h0, fun ho => ?_, repD_plain0 fs h2⟩
    by_cases ht : 0 ≤ f.tag
    · simp [F.on, show ¬ (f.tag < 0) by omega] at ho
    · rw [if_neg ht] at h1
      exact h1 (by simpa [F.on, show f.tag < 0 by omega] using ho)

section
variable {E : RE} {v : Int} {flex : Bool}
/-- The code of the fields, L behind it. -/
def RdD (E : RE) (v : Int) (flex : Bool) (sp off : Nat) (fs : List F) (L c : Code) : Prop := RdK E v flex sp off (cellsFs true fs + 1) (iniD fs) (plainR v fs (rds v flex fs) (dfltOf fs)) (repD v flex fs) L c
theorem RdD.nil {sp off : Nat} {L : Code} : RdD E v flex sp off [] L L := RdK.nil (fun _ _ _ h => ⟨rfl, h⟩)
theorem RdD.skip {sp off : Nat} {f : F} {fs : List F} {L c : Code} (ht : decide (0 ≤ f.tag) = true) (hok : tagOk (f :: fs) = true) (h : RdD E v flex sp (off + cellsF true f) fs L c) : RdD E v flex sp off (f :: fs) L c := by
  have ht := of_decide_eq_true ht
  have hok' := hok
  simp only [tagOk, List.all_cons, Bool.and_eq_true, Bool.or_eq_true, decide_eq_true_eq] at hok'
  have hl := dcF_length f (hok'.1.resolve_left (by omega))
  have := RdK.skip (R1 := fun _ _ c x => Lies (dcF f) c ∧ x = dfltF f) (n1 := cellsF true f) (ini1 := Lies (dcF f)) (y := dfltF f) h (fun _ _ _ h => ⟨h, rfl⟩) (fun c c' hc h j u hj => by
      have hlt := (List.getElem?_eq_some_iff.1 hj).1
      rw [hc j (by omega)]; exact h j u hj) (fun c c' hc h => iniD_loc fs c c' hok'.2 hc h) (stable_repD fs hok'.2) List.cons
  have e : cellsFs true (f :: fs) + 1 = cellsF true f + (cellsFs true fs + 1) := by simp only [cellsFs]; omega
  unfold RdD
  rw [e]
  refine RdK.conv this id (fun st => ?_) (fun w K cc x hx => ?_) (fun cc h => ?_)
  · simp only [rds, dfltOf, plainR, List.headD_cons, List.tail_cons, id]
    rw [if_neg (fun h => by omega)]
  · obtain ⟨y, z, rfl, h1, h2⟩ := hx
    exact ⟨y, z, rfl, by rw [if_pos ht]; exact h1, h2⟩
  · have h1 := h.1
    rw [if_pos ht] at h1
    exact ⟨h1, h.2⟩
theorem RdD.cons {sp off : Nat} {f : F} {fs : List F} {L c1 c2 : Code} (ht : decide (f.tag < 0) = true) (hok : tagOk fs = true) (h1 : RdF TagRep E v flex true sp off f c1) (hcl : clear (sp :: E.slots) c1 = true) (h2 : RdD E v flex sp (off + cellsF true f) fs L c2) :
    RdD E v flex sp off (f :: fs) L (c1.seq c2) := by
  have ht := of_decide_eq_true ht
  have h := RdK.cons h1 h2 hcl (fun w w' K K' c c' x hk hs hK hc hx ho => stable_repF (fun _ => rfl) stable_tagRep f w w' K K' c c' x hk hs hK hc (hx ho)) (stable_repD fs hok) (strict_plainF v flex fs _) (fun c c' hc h => iniD_loc fs c c' hok hc h) List.cons
  have e : cellsFs true (f :: fs) + 1 = cellsF true f + (cellsFs true fs + 1) := by simp only [cellsFs]; omega
  unfold RdD
  rw [e]
  refine RdK.conv h id (fun st => ?_) (fun w K cc x hx => ?_) (fun cc h => ?_)
  · simp only [rds, dfltOf, plainR, List.headD_cons, List.tail_cons, id]
  · obtain ⟨y, z, rfl, h1, h2⟩ := hx
    exact ⟨y, z, rfl, by rw [if_neg (by omega)]; exact fun hv => h1 (by simp [F.on, ht, hv]), h2⟩
  · have h1 := h.1
    rw [if_neg (by omega)] at h1
    exact ⟨h1, h.2⟩
end
end Go.Proofs.YtoklbgdafnminaaGreatDoor
