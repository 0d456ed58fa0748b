/-
  Known tags, written: the whole of a part's tags; parts, messages. Conditions: none.
-/
import Derived.Test.YtoklbgdafnminaaGreatDoorKw3
namespace Go.Proofs.YtoklbgdafnminaaGreatDoor
open Go.RowKit (Below)
open Kz

section
variable {E : WE} {v : Int} {sp off : Nat} {fs : List F}
theorem TeP.last {te : Nat} {cC cK cE : Code} (hC : SCountW E v sp (off + cellsFs true fs) te cC) (hK : KeysW E v sp off fs te cK) (hE : SEachW E v sp (off + cellsFs true fs) cE) (hcl : clear (te :: sp :: E.slots) cC = true) (hck : clear (sp :: E.slots) cK = true) (hkn : decide (known fs ≤ 100) = true) :
    TeP E v sp off fs te (known fs) (cC.seq (cK.seq cE)) := by
  intro base K bs w0 w a cb co x hfr hb0 hKb ho hbel hsp hcb hr hft hU hl
  have hkn := of_decide_eq_true hkn
  have hkl := keysOf_le fs x.l (known fs)
  generalize hks : keysOf fs x.l (known fs) = ks at hU hkl
  have hout : tagsOut v fs x = uv (ks.length + x.u.length) ++ (keysB v fs x.l ks ++ x.u.flatMap tagB) := by
    simp only [tagsOut, tagsB, hks, keysB, List.length_append, List.length_map, List.flatMap_append, List.flatMap_map]
  rw [hout] at hl ⊢
  simp only [List.length_append] at hl
  have hle : base ≤ w.heap.size := Nat.le_trans hb0 hbel.size
  have hp : PreA E v true base K bs a w := ⟨hfr, hle, hKb, ho⟩
  have hT : ∀ {w' : World}, (∀ g, g < base → w'.heap[g]? = w.heap[g]?) → w.heap.size ≤ w'.heap.size → TagRep w' K (fun j => w'.cell? ⟨cb, co + (off + cellsFs true fs) + j, none⟩) x.u := fun hb hs => by
    have h1 := (hr.2 rfl).1
    refine stable_tagRep w _ K K _ _ x.u (fun g hg _ => hb g (hKb g hg)) hs (fun _ h => h) (fun j _ => ?_) h1
    rw [cell_kept (hb cb hcb)]
    congr 2; omega
  have hcl' := clear_iff hcl
  have hck' := clear_iff hck
  have huok : UOk x.u := ⟨hft.fu, hft.fx⟩
  refine wp_seq (wp_mono (hC base K bs a w cb co x.u w0.heap.size ks hp hsp (hT (fun _ _ => rfl) (Nat.le_refl _)) hft.fu hU (by omega) (by simp only [lim, lim2] at hl ⊢; omega)) ?_)
  intro e a1 w1 hq1
  cases e with
  | normal =>
    obtain ⟨u1, b1, o1⟩ := hq1
    have hp1 : PreA E v true base K _ a1 w1 := hp.next u1 (fun t ht => hcl' t (by simp [ht])) b1 o1
    have hsp1 : sl a1 sp = .pointer (some ⟨cb, co, none⟩) := (u1.same _ (hcl' _ (by simp))).trans hsp
    have hU1 : OwnU w1 w0.heap.size (sl a1 te) ks := by
      rw [u1.same _ (hcl' _ (by simp))]
      refine ⟨hU.1, hU.2.imp (fun h => h) ?_⟩
      rintro ⟨g, cap, cur, h1, h2, h3, h4⟩
      exact ⟨g, cap, cur, h1, h2, b1.keep 61 (by decide) (by decide) g cur (0, 0) h3, h4⟩
    have hr1 := rep_below hr (base := base) b1.block b1.size hKb hcb
    have hkk : ∀ k ∈ ks, k < 1000 ∧ notUsual fs x.l k = true ∧ (wrAt v fs x.l k).length < 4294967296 := fun k hk => by
      have := keysOf_mem (hks ▸ hk)
      refine ⟨by omega, this.2, ?_⟩
      obtain ⟨l1, l2, hs⟩ := List.append_of_mem hk
      have hlen : (wrAt v fs x.l k).length ≤ (keysB v fs x.l ks).length := by
        rw [hs]
        simp only [keysB, List.flatMap_append, List.flatMap_cons, List.length_append, tagB]
        omega
      simp only [lim2] at hl
      omega
    refine wp_seq (wp_mono (hK base K _ a1 w1 cb co x w0.heap.size ks hp1 hsp1 hcb hr1 hft hU1 (by omega) hkk (by rw [List.length_append]; omega)) ?_)
    intro e a2 w2 hq2
    cases e with
    | normal =>
      obtain ⟨u2, b2, o2⟩ := hq2
      have hp2 : PreA E v true base K _ a2 w2 := hp1.next u2 (fun t ht => hck' t (by simp [ht])) b2 o2
      have hsp2 : sl a2 sp = .pointer (some ⟨cb, co, none⟩) := (u2.same _ (hck' _ (by simp))).trans hsp1
      have b12 := b1.trans b2
      refine wp_mono (hE base K _ a2 w2 cb co x.u hp2 hsp2 hcb (hT b12.block b12.size) huok (by simp only [List.length_append]; omega)) ?_
      intro e a3 w3 hq3
      cases e with
      | normal =>
        obtain ⟨u3, b3, o3⟩ := hq3
        refine ⟨((u1.mono (fun t ht => by simp only [writes, List.mem_append]; exact .inl ht)).trans (u2.mono (fun t ht => by simp only [writes, List.mem_append]; exact .inr (.inl ht)))).trans (u3.mono (fun t ht => by simp only [writes, List.mem_append]; exact .inr (.inr ht))), ?_, ?_⟩
        · have b0 : Bel base w0 w := ⟨⟨hbel.os, hbel.tape, hbel.output, hbel.size, fun k hk => hbel.block k (by omega)⟩, Keep.of_old hbel.block⟩
          exact (b0.trans b12).trans b3
        · rw [← List.append_assoc, ← List.append_assoc]; exact o3
      | _ => exact hq3.elim
    | _ => exact hq2.elim
  | _ => exact hq1.elim

/-! ## The whole of a part's tags -/
def TagsW (E : WE) (v : Int) (flex : Bool) (sp off : Nat) (fs : List F) (c : Code) : Prop := Ap E v flex sp off (fun x => if flex then tagsOut v fs x else []) (fun w K cc x => repP TagRep v flex true fs w K cc x ∧ Fit x) c
theorem TagsW.mk {flex : Bool} {t0 te : Nat} {c0 cI cT : Code} (hT0 : TestW E v flex t0 flex c0) (hI : SConst E.N te (.slice none 0 0) cI) (hcl : clear (sp :: E.ds :: E.slots) (c0.seq cI) = true) (h : flex = true → TeP E v sp off fs te 0 cT) :
    TagsW E v flex sp off fs (c0.seq (Code.cond (.tmp t0) (cI.seq cT) Code.skip)) := by
  intro base K bs a w cb co x hp hsp hcb hr hl
  simp only [clear_seq] at hcl
  obtain ⟨k0, kI⟩ := hcl
  refine wp_seq (hT0.2 a w _ hp.fr fun a1 u1 s1 => ?_)
  have hp1 : PreA E v flex base K bs a1 w := hp.next u1 (fun t ht => clear_iff k0 t (by simp [ht])) (Bel.refl _ _) (by rw [u1.same _ (clear_iff k0 _ (by simp))]; exact hp.own)
  have hsp1 : sl a1 sp = .pointer (some ⟨cb, co, none⟩) := (u1.same _ (clear_iff k0 _ (by simp))).trans hsp
  cases flex with
  | false =>
    refine wp_cond_false (by rw [eval_tmp, s1]) (wp_skip ⟨u1.mono (fun t ht => by simp only [writes, List.mem_append]; exact .inl ht), Bel.refl _ _, ?_⟩)
    simpa using hp1.own
  | true =>
    refine wp_cond_true (by rw [eval_tmp, s1]) (wp_seq (hI a1 w _ hp1.fr.size fun a2 u2 s2 => ?_))
    have hp2 : PreA E v true base K bs a2 w := hp1.next u2 (fun t ht => clear_iff kI t (by simp [ht])) (Bel.refl _ _) (by rw [u2.same _ (clear_iff kI _ (by simp))]; exact hp1.own)
    have hsp2 : sl a2 sp = .pointer (some ⟨cb, co, none⟩) := (u2.same _ (clear_iff kI _ (by simp))).trans hsp1
    refine wp_mono (h rfl base K bs w w a2 cb co x hp2.fr hp2.le hp2.kb hp2.own (Below.refl _ _) hsp2 hcb hr.1 hr.2 (by rw [s2]; exact World.ownsRow_nil w _ 61 1) (by simpa using hl)) ?_
    intro e a3 w3 hq
    cases e with
    | normal =>
      refine ⟨((u1.mono (fun t ht => by simp only [writes, List.mem_append]; exact .inl ht)).trans (u2.mono (fun t ht => by simp only [writes, List.mem_append]; exact .inr (.inl (.inl ht))))).trans (hq.1.mono (fun t ht => by simp only [writes, List.mem_append]; exact .inr (.inl (.inr ht)))), hq.2.1, ?_⟩
      simpa using hq.2.2
    | _ => exact hq.elim

/-! ## Parts, messages -/
/-- The fields from number i on, with the code L behind them. -/
def ApD (E : WE) (v : Int) (flex : Bool) (sp off : Nat) (fs : List F) (i : Nat) (L c : Code) : Prop :=
  ∀ (base : Nat) (K : Nat → Prop) (bs : List UInt8) (a : Act) (w : World) (cb co : Nat) (x : T) (Q : Exit → Act → World → Prop), PreA E v flex base K bs a w → sl a sp = .pointer (some ⟨cb, co, none⟩) → cb < base → repP TagRep v flex true fs w K (fun j => w.cell? ⟨cb, co + off + j, none⟩) x → Fit x →
    bs.length + (plainW v (fs.drop i) (wrs v flex (fs.drop i)) (x.l.drop i)).length ≤ lim2 →
    (∀ a' w', Upd a a' (writes c) → PreA E v flex base K (bs ++ plainW v (fs.drop i) (wrs v flex (fs.drop i)) (x.l.drop i)) a' w' → Bel base w w' → sl a' sp = .pointer (some ⟨cb, co, none⟩) → L.wp Tryz.prog Q a' w') → c.wp Tryz.prog Q a w
theorem plain_at {flex : Bool} {w : World} {K : Nat → Prop} : ∀ (fs : List F) (ts : List T) (c : Cells), plainRep v flex true fs (repFs TagRep v flex true fs) w K c ts → ts.length = fs.length ∧ ∀ i f x, fs[i]? = some f → ts[i]? = some x → f.on v flex = true → repF TagRep v flex true f w K (fun j => c (offI fs i + j)) x
  | [], ts, c, h => by
    have h : ts = [] := h
    subst h
    exact ⟨rfl, fun i f x hf => by cases hf⟩
  | f :: fs, ts, c, h => by
    obtain ⟨x, xs, rfl, h1, h2⟩ := h
    obtain ⟨l, h⟩ := plain_at fs xs _ h2
    refine ⟨by simp [l], fun i g y hg hy ho => ?_⟩
    cases i with
    | zero =>
      cases hg; cases hy
      have := h1 ho
      simpa [offI, cellsFs] using this
    | succ i =>
      have := h i g y hg hy ho
      have e : (fun j => c (cellsF true f + (offI fs i + j))) = fun j => c (offI (f :: fs) (i + 1) + j) := by
        funext j
        show c (cellsF true f + (offI fs i + j)) = c (cellsF true f + offI fs i + j)
        rw [Nat.add_assoc]
      rw [← e]; exact this
theorem ApD.nil {flex : Bool} {i : Nat} {L : Code} (hi : decide (fs.length ≤ i) = true) : ApD E v flex sp off fs i L L := by
  intro base K bs a w cb co x Q hp hsp hcb hr hft hl hq
  have hd : fs.drop i = [] := List.drop_eq_nil_of_le (of_decide_eq_true hi)
  refine hq a w (Upd.refl _ _) ?_ (Bel.refl _ _) hsp
  rw [hd]
  simpa [plainW, wrs] using hp
theorem drop_at {α : Type} {l : List α} {i : Nat} {f : α} (h : l[i]? = some f) : l.drop i = f :: l.drop (i + 1) := by
  obtain ⟨hlt, rfl⟩ := List.getElem?_eq_some_iff.1 h
  exact List.drop_eq_getElem_cons hlt
theorem ApD.skip {flex : Bool} {i : Nat} {f : F} {L c : Code} (hf : fs[i]? = some f) (ht : decide (0 ≤ f.tag) = true) (h : ApD E v flex sp off fs (i + 1) L c) : ApD E v flex sp off fs i L c := by
  intro base K bs a w cb co x Q hp hsp hcb hr hft hl hq
  have ht := of_decide_eq_true ht
  have hpl := plain_at fs x.l _ hr.1
  have hlt : i < x.l.length := by rw [hpl.1]; exact (List.getElem?_eq_some_iff.1 hf).1
  have e : plainW v (fs.drop i) (wrs v flex (fs.drop i)) (x.l.drop i) = plainW v (fs.drop (i + 1)) (wrs v flex (fs.drop (i + 1))) (x.l.drop (i + 1)) := by
    rw [drop_at hf, drop_at (List.getElem?_eq_getElem hlt)]
    simp only [wrs, plainW, List.headD_cons, List.tail_cons]
    rw [if_neg (fun h => by omega)]
    rfl
  rw [e] at hl hq
  exact h base K bs a w cb co x Q hp hsp hcb hr hft hl hq
theorem ApD.cons {flex : Bool} {i : Nat} {f : F} {L c1 c2 : Code} (hf : fs[i]? = some f) (h1 : ApF TagRep E v flex true sp (off + offI fs i) f c1) (hcl : clear (sp :: E.slots) c1 = true) (h2 : ApD E v flex sp off fs (i + 1) L c2) : ApD E v flex sp off fs i L (c1.seq c2) := by
  intro base K bs a w cb co x Q hp hsp hcb hr hft hl hq
  have hcl' := clear_iff hcl
  have hpl := plain_at fs x.l _ hr.1
  have hlt : i < x.l.length := by rw [hpl.1]; exact (List.getElem?_eq_some_iff.1 hf).1
  have hx := List.getElem?_eq_getElem hlt
  have e : plainW v (fs.drop i) (wrs v flex (fs.drop i)) (x.l.drop i) = (if f.tag < 0 ∧ f.has v = true then wr v flex f x.l[i] else []) ++ plainW v (fs.drop (i + 1)) (wrs v flex (fs.drop (i + 1))) (x.l.drop (i + 1)) := by
    rw [drop_at hf, drop_at hx]
    simp only [wrs, plainW, List.headD_cons, List.tail_cons]
  rw [e] at hl hq
  rw [List.length_append] at hl
  refine wp_seq (wp_mono (h1 base K bs a w cb co x.l[i] hp hsp hcb ⟨fun ho => ?_, hft.fa _ (List.getElem_mem hlt)⟩ (show bs.length + (if f.tag < 0 ∧ f.has v = true then wr v flex f x.l[i] else []).length ≤ lim2 by omega)) ?_)
  · have := hpl.2 i f _ hf hx ho
    have e : (fun j => w.cell? ⟨cb, co + off + (offI fs i + j), none⟩) = fun j => w.cell? ⟨cb, co + (off + offI fs i) + j, none⟩ := by funext j; congr 2; omega
    rw [← e]; exact this
  intro e a1 w1 hq1
  cases e with
  | normal =>
    obtain ⟨u1, b1, o1⟩ := hq1
    have hr1 : repP TagRep v flex true fs w1 K (fun j => w1.cell? ⟨cb, co + off + j, none⟩) x := stable_repP (fun _ => rfl) stable_tagRep fs w w1 K K _ _ x (fun g hg _ => b1.block g (hp.kb g hg)) b1.size (fun _ h => h) (fun j _ => below_cell b1 hcb) hr
    refine h2 base K _ a1 w1 cb co x Q (hp.next u1 (fun t ht => hcl' t (by simp [ht])) b1 o1) ((u1.same _ (hcl' _ (by simp))).trans hsp) hcb hr1 hft (by rw [List.length_append]; show bs.length + (if f.tag < 0 ∧ f.has v = true then wr v flex f x.l[i] else []).length + _ ≤ _; omega) fun a2 w2 u2 p2 b2 s2 => ?_
    refine hq a2 w2 ((u1.mono (fun t ht => List.mem_append_left _ ht)).trans (u2.mono (fun t ht => List.mem_append_right _ ht))) ?_ (b1.trans b2) s2
    rw [← List.append_assoc]; exact p2
  | _ => exact hq1.elim
theorem part_out {flex : Bool} {w : World} {K : Nat → Prop} {c : Cells} {x : T} (hu : uniqTags fs = true) (hr : repP TagRep v flex true fs w K c x) (hft : Fit x) : Kz.part v flex fs x = plainW v fs (wrs v flex fs) x.l ++ if flex then tagsOut v fs x else [] := by
  show asmW v flex fs (wrs v flex fs) (usuals fs) x = _
  unfold asmW
  cases flex with
  | false => rfl
  | true =>
    have hs := tagRep_sorted (hr.2 rfl).1
    have hl := (plain_at fs x.l _ hr.1).1
    have e : (unknown (known fs) x.u).map whole2 = x.u := by
      rw [unknown_sorted (known fs) x.u hs hft.fu (hr.2 rfl).2]
      have : ∀ y ∈ x.u, whole2 y = y := fun y h => by simp only [whole2, take_fit (hft.fx y h).2]
      rw [List.map_congr_left this]; simp
    rw [known_keys v fs x.l hu hl, e]
    rfl
theorem ApD.part {flex : Bool} {L c : Code} (hu : uniqTags fs = true) (h : ApD E v flex sp off fs 0 L c) (hL : TagsW E v flex sp off fs L) (hw : (writes L).all (fun t => (writes c).contains t) = true) : ApP TagRep E v flex true sp off fs c := by
  intro base K bs a w cb co x hp hsp hcb hr hl
  have hw' : ∀ t ∈ writes L, t ∈ writes c := fun t ht => by
    have := List.all_eq_true.1 hw t ht
    simpa [List.contains_eq_mem] using this
  rw [part_out hu hr.1 hr.2] at hl ⊢
  rw [List.length_append] at hl
  refine h base K bs a w cb co x _ hp hsp hcb hr.1 hr.2 (by simpa using (by omega : bs.length + (plainW v fs (wrs v flex fs) x.l).length ≤ lim2)) fun a1 w1 u1 p1 b1 s1 => ?_
  simp only [List.drop_zero] at p1
  have hr1 : repP TagRep v flex true fs w1 K (fun j => w1.cell? ⟨cb, co + off + j, none⟩) x := stable_repP (fun _ => rfl) stable_tagRep fs w w1 K K _ _ x (fun g hg _ => b1.block g (hp.kb g hg)) b1.size (fun _ h => h) (fun j _ => below_cell b1 hcb) hr.1
  refine wp_mono (hL base K _ a1 w1 cb co x p1 s1 hcb ⟨hr1, hr.2⟩ (by rw [List.length_append]; show bs.length + _ + (if flex = true then tagsOut v fs x else []).length ≤ _; omega)) ?_
  intro e a2 w2 hq
  cases e with
  | normal =>
    refine ⟨u1.trans (hq.1.mono hw'), b1.trans hq.2.1, ?_⟩
    rw [← List.append_assoc]; exact hq.2.2
  | _ => exact hq.elim
theorem ApD.message {flex : Bool} {res : Nat} {L r c : Code} (hu : uniqTags fs = true) (h : ApD E v flex sp off fs 0 (L.seq (r.seq Code.ret)) c) (hL : TagsW E v flex sp off fs L) (hr' : SCopy E.N E.ds res r) (_hcl : clear (sp :: E.slots) L = true) : ApPE TagRep E v flex true res sp off fs c := by
  intro base K bs a w cb co x hp hsp hcb hr hl
  rw [part_out hu hr.1 hr.2] at hl ⊢
  rw [List.length_append] at hl
  refine h base K bs a w cb co x _ hp hsp hcb hr.1 hr.2 (by simpa using (by omega : bs.length + (plainW v fs (wrs v flex fs) x.l).length ≤ lim2)) fun a1 w1 u1 p1 b1 s1 => ?_
  simp only [List.drop_zero] at p1
  have hr1 : repP TagRep v flex true fs w1 K (fun j => w1.cell? ⟨cb, co + off + j, none⟩) x := stable_repP (fun _ => rfl) stable_tagRep fs w w1 K K _ _ x (fun g hg _ => b1.block g (hp.kb g hg)) b1.size (fun _ h => h) (fun j _ => below_cell b1 hcb) hr.1
  refine wp_seq (wp_mono (hL base K _ a1 w1 cb co x p1 s1 hcb ⟨hr1, hr.2⟩ (by rw [List.length_append]; show bs.length + _ + (if flex = true then tagsOut v fs x else []).length ≤ _; omega)) ?_)
  intro e a2 w2 hq
  cases e with
  | normal =>
    obtain ⟨u2, b2, o2⟩ := hq
    refine wp_seq (hr' a2 w2 _ (u2.size.trans p1.fr.size) fun a3 u3 s3 => wp_ret ⟨u3.defers.trans (u2.defers.trans p1.fr.defers), b1.trans b2, ?_⟩)
    rw [s3, ← List.append_assoc]; exact o2
  | _ => exact hq.elim
end
end Go.Proofs.YtoklbgdafnminaaGreatDoor
