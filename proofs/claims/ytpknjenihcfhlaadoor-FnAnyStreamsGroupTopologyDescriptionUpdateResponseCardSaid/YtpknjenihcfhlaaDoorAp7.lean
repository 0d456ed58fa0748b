/-
  Code that writes: parts, whole functions. Conditions: none.
-/
import Derived.Test.YtpknjenihcfhlaaDoorAp6
namespace Go.Proofs.YtpknjenihcfhlaaDoor
open Go.RowKit (Below)
open Kz

section
variable {E : WE} {v : Int} {flex ht : Bool}

theorem tags_keys {w : World} {K : Nat → Prop} : ∀ (l : List (Nat × Value)) (u : List (Nat × List UInt8)), TagsAt w K l u → Rising l → Sorted u
  | [], [], _, _ => trivial
  | [], _ :: _, h, _ => h.elim
  | _ :: _, [], h, _ => h.elim
  | (k, v) :: l, (j, b) :: u, h, hr => by
    obtain ⟨rfl, -, h3⟩ := h
    obtain ⟨h1, h2⟩ := List.pairwise_cons.1 hr
    refine ⟨fun y hy => ?_, tags_keys l u h3 h2⟩
    have e := (tags_len l u h3).2
    have : (y.1 : Int) ∈ u.map fun x => (x.1 : Int) := List.mem_map.2 ⟨y, hy, rfl⟩
    rw [e] at this
    obtain ⟨z, hz, hzy⟩ := List.mem_map.1 this
    have := h1 z hz
    have e2 : z.1 = y.1 := by omega
    show k < y.1
    rw [← e2]; exact this
theorem tagRep_sorted {w : World} {K : Nat → Prop} {c : Cells} {u : List (Nat × List UInt8)} (h : TagRep w K c u) : Sorted u := by
  obtain ⟨r, -, h⟩ := h
  cases r with
  | none => have : u = [] := h; subst this; exact trivial
  | some b => obtain ⟨-, l, n, h1, -, -, h2⟩ := h; exact tags_keys l u h2 h1
theorem noTag_known : ∀ (fs : List F), noTag fs = true → known fs = 0
  | [], _ => rfl
  | f :: fs, h => by
    simp only [noTag, List.all_cons, Bool.and_eq_true, decide_eq_true_eq] at h
    have : ¬ (0 ≤ f.tag) := by omega
    simp only [known, if_neg this, noTag_known fs h.2, Nat.max_self]
theorem unknown_whole {u : List (Nat × List UInt8)} (hs : Sorted u) (hl : u.length ≤ most) (hx : ∀ x ∈ u, x.2.length ≤ most) : (unknown 0 u).map whole2 = u := by
  rw [unknown_sorted 0 u hs hl (fun _ _ => Nat.zero_le _)]
  have : ∀ x ∈ u, whole2 x = x := fun x h => by simp only [whole2, take_fit (hx x h)]
  rw [List.map_congr_left this]; simp
/-- A part without known tags. -/
theorem ApTl.part {sp off : Nat} {fs : List F} {c : Code} (hno : noTag fs = true) (h : ApTl TagRep E v flex ht sp off fs c) : ApP TagRep E v flex ht sp off fs c := by
  refine Ap.conv h (fun t => (t.l, t.u)) (fun w K cc t hx => ?_) (fun w K cc t hx => ?_)
  · obtain ⟨hr, hf⟩ := hx
    exact ⟨⟨hr.1, hf.fa⟩, hr.2, hf.fu, hf.fx⟩
  · obtain ⟨hr, hf⟩ := hx
    have hk := noTag_known fs hno
    have e : Kz.part v flex fs t = asmW v flex fs (wrs v flex fs) (usuals fs) t := rfl
    rw [e]
    unfold asmW
    cases flex with
    | false => simp
    | true =>
      rw [knownW_none _ _ _ _ hk, hk, unknown_whole (tagRep_sorted (hr.2 rfl)) hf.fu (fun x hx => (hf.fx x hx).2)]
      simp

/-- Behind the whole of a function that writes. -/
def PostW (res : Nat) (base : Nat) (bs : List UInt8) (w : World) : Exit → Act → World → Prop
  | .ret, a', w' => a'.defers = [] ∧ Below base w w' ∧ OwnB w' base (sl a' res) bs
  | _, _, _ => False
/-- Code that writes and returns. -/
def ApE {α : Type} (E : WE) (v : Int) (flex : Bool) (res sp off : Nat) (wrt : α → List UInt8) (R : Rel α) (c : Code) : Prop :=
  ∀ (base : Nat) (K : Nat → Prop) (bs : List UInt8) (a : Act) (w : World) (cb co : Nat) (x : α), PreA E v flex base K bs a w → sl a sp = .pointer (some ⟨cb, co, none⟩) → cb < base → R w K (fun j => w.cell? ⟨cb, co + off + j, none⟩) x →
    bs.length + (wrt x).length ≤ lim2 → c.wp Tryd.prog (PostW res base (bs ++ wrt x) w) a w

theorem ApE.conv {α β : Type} {res sp off : Nat} {wrt : α → List UInt8} {wrt' : β → List UInt8} {R : Rel α} {R' : Rel β} {c : Code} (h : ApE E v flex res sp off wrt R c) (k : β → α) (hR : ∀ w K cc x, R' w K cc x → R w K cc (k x)) (hw : ∀ w K cc x, R' w K cc x → wrt' x = wrt (k x)) : ApE E v flex res sp off wrt' R' c := by
  intro base K bs a w cb co x hp hsp hcb hr hl
  rw [hw _ _ _ _ hr] at hl ⊢
  exact h base K bs a w cb co (k x) hp hsp hcb (hR _ _ _ _ hr) hl
theorem ApE.last {α : Type} {res sp off : Nat} {wrt : α → List UInt8} {R : Rel α} {c r : Code} (h : Ap E v flex sp off wrt R c) (hr : SCopy E.N E.ds res r) : ApE E v flex res sp off wrt R (c.seq (r.seq Code.ret)) := by
  intro base K bs a w cb co x hp hsp hcb hR hl
  refine wp_seq (wp_mono (h base K bs a w cb co x hp hsp hcb hR hl) ?_)
  intro e a1 w1 hq
  cases e with
  | normal =>
    obtain ⟨hu, hb, ho⟩ := hq
    refine wp_seq (hr a1 w1 _ (hu.size.trans hp.fr.size) fun a2 hu2 hs2 => wp_ret ⟨hu2.defers.trans (hu.defers.trans hp.fr.defers), hb, by rw [hs2]; exact ho⟩)
  | _ => exact hq.elim
theorem ApE.seq {α β : Type} {res sp off n1 n2 : Nat} {w1 : α → List UInt8} {w2 : β → List UInt8} {R1 : Rel α} {R2 : Rel β} {c1 c2 : Code} (h1 : Ap E v flex sp off w1 R1 c1) (h2 : ApE E v flex res sp (off + n1) w2 R2 c2) (hcl : clear (sp :: E.slots) c1 = true) (hst : Stable n2 R2) :
    ApE E v flex res sp off (fun x : α × β => w1 x.1 ++ w2 x.2) (fun w K c x => R1 w K c x.1 ∧ R2 w K (fun j => c (n1 + j)) x.2) (c1.seq c2) := by
  intro base K bs a w cb co x hp hsp hcb hr hl
  have hcl' := clear_iff hcl
  rw [List.length_append] at hl
  refine wp_seq (wp_mono (h1 base K bs a w cb co x.1 hp hsp hcb hr.1 (by omega)) ?_)
  intro e a1 w1' hq
  cases e with
  | normal =>
    obtain ⟨hu, hb, ho⟩ := hq
    have hsp1 : sl a1 sp = .pointer (some ⟨cb, co, none⟩) := (hu.same _ (hcl' _ (by simp))).trans hsp
    have hr2 : R2 w1' K (fun j => w1'.cell? ⟨cb, co + (off + n1) + j, none⟩) x.2 := by
      refine hst w w1' K K _ _ _ (fun g hg _ => hb.block g (hp.kb g hg)) hb.size (fun g hg => hg) (fun j _ => ?_) hr.2
      rw [below_cell hb hcb, show co + (off + n1) + j = co + off + (n1 + j) by omega]
    refine wp_mono (h2 base K _ a1 w1' cb co x.2 (hp.next hu (fun t ht => hcl' t (List.mem_cons_of_mem _ ht)) hb ho) hsp1 hcb hr2 (by rw [List.length_append]; omega)) ?_
    intro e a2 w2' hq2
    cases e with
    | ret =>
      obtain ⟨q1, q2, q3⟩ := hq2
      exact ⟨q1, hb.trans q2, by rw [← List.append_assoc]; exact q3⟩
    | _ => exact hq2.elim
  | _ => exact hq.elim

def ApTE (tags : Rel (List (Nat × List UInt8))) (E : WE) (v : Int) (flex ht : Bool) (res sp off : Nat) (fs : List F) (c : Code) : Prop := ApE E v flex res sp off (fun x : List T × List (Nat × List UInt8) => plainW v fs (wrs v flex fs) x.1 ++ if flex then tagsB x.2 else [])
    (fun w K cc x => (plainRep v flex ht fs (repFs tags v flex ht fs) w K cc x.1 ∧ ∀ t ∈ x.1, Fit t) ∧ (flex = true → tags w K (fun j => cc (cellsFs ht fs + j)) x.2) ∧ x.2.length ≤ most ∧ ∀ y ∈ x.2, y.1 < 4294967296 ∧ y.2.length ≤ most) c
def ApPE (tags : Rel (List (Nat × List UInt8))) (E : WE) (v : Int) (flex ht : Bool) (res sp off : Nat) (fs : List F) (c : Code) : Prop := ApE E v flex res sp off (Kz.part v flex fs) (fun w K cc t => repP tags v flex ht fs w K cc t ∧ Fit t) c
theorem ApTE.last {tags : Rel (List (Nat × List UInt8))} {res sp off : Nat} {fs : List F} {c r : Code} (h : ApTl tags E v flex ht sp off fs c) (hr : SCopy E.N E.ds res r) : ApTE tags E v flex ht res sp off fs (c.seq (r.seq Code.ret)) := ApE.last h hr
theorem ApTE.nil {tags : Rel (List (Nat × List UInt8))} {res sp off : Nat} {r : Code} (hfl : flex = false) (hr : SCopy E.N E.ds res r) : ApTE tags E v flex ht res sp off [] (r.seq Code.ret) := by
  subst hfl
  intro base K bs a w cb co x hp hsp hcb hR hl
  refine wp_seq (hr a w _ hp.fr.size fun a2 hu2 hs2 => wp_ret ⟨hu2.defers.trans hp.fr.defers, Below.refl _ _, ?_⟩)
  rw [hs2]
  simpa [wrs, plainW] using hp.own
theorem ApTE.cons {tags : Rel (List (Nat × List UInt8))} (htg : flex = true → ht = true) (hT : Stable 1 tags) {res sp off : Nat} {f : F} {fs : List F} {c1 c2 : Code} (h1 : ApF tags E v flex ht sp off f c1) (hcl : clear (sp :: E.slots) c1 = true) (h2 : ApTE tags E v flex ht res sp (off + cellsF ht f) fs c2) : ApTE tags E v flex ht res sp off (f :: fs) (c1.seq c2) := by
  have hst : Stable (cellsP ht fs) (fun w K cc (x : List T × List (Nat × List UInt8)) => (plainRep v flex ht fs (repFs tags v flex ht fs) w K cc x.1 ∧ ∀ t ∈ x.1, Fit t) ∧ (flex = true → tags w K (fun j => cc (cellsFs ht fs + j)) x.2) ∧ x.2.length ≤ most ∧ ∀ y ∈ x.2, y.1 < 4294967296 ∧ y.2.length ≤ most) := by
    intro w w' K K' c c' x hk hs hK hc hx
    refine ⟨⟨stable_plainF htg hT fs w w' K K' c c' x.1 hk hs hK (fun j hj => hc j (by simp only [cellsP]; omega)) hx.1.1, hx.1.2⟩, fun hf => hT w w' K K' _ _ _ hk hs hK (fun j hj => hc _ ?_) (hx.2.1 hf), hx.2.2⟩
    simp only [cellsP, htg hf, Bool.toNat_true]; omega
  refine ApE.conv (ApE.seq h1 h2 hcl hst) (fun x => (x.1.headD T.zero, (x.1.tail, x.2))) (fun w K cc x hx => ?_) (fun w K cc x hx => ?_)
  · obtain ⟨⟨⟨y, ys, he, hy, hys⟩, hfit⟩, htl, hu⟩ := hx
    rw [he] at hfit ⊢
    refine ⟨⟨hy, hfit y (by simp)⟩, ⟨hys, fun t ht => hfit t (List.mem_cons_of_mem _ ht)⟩, fun hf => ?_, hu⟩
    have := htl hf
    simp only [cellsFs, Nat.add_assoc] at this
    exact this
  · simp only [wrs, plainW, List.append_assoc]
theorem ApTE.part {res sp off : Nat} {fs : List F} {c : Code} (hno : noTag fs = true) (h : ApTE TagRep E v flex ht res sp off fs c) : ApPE TagRep E v flex ht res sp off fs c := by
  refine ApE.conv h (fun t => (t.l, t.u)) (fun w K cc t hx => ?_) (fun w K cc t hx => ?_)
  · obtain ⟨hr, hf⟩ := hx
    exact ⟨⟨hr.1, hf.fa⟩, hr.2, hf.fu, hf.fx⟩
  · obtain ⟨hr, hf⟩ := hx
    have hk := noTag_known fs hno
    have e : Kz.part v flex fs t = asmW v flex fs (wrs v flex fs) (usuals fs) t := rfl
    rw [e]
    unfold asmW
    cases flex with
    | false => simp
    | true =>
      rw [knownW_none _ _ _ _ hk, hk, unknown_whole (tagRep_sorted (hr.2 rfl)) hf.fu (fun x hx => (hf.fx x hx).2)]
      simp
end

/-- A function that writes a message. -/
def WritesMsg (tags : Rel (List (Nat × List UInt8))) (f : Nat) (m : M) (ht : Bool) : Prop :=
  hasBody Tryd.prog f = true ∧ ∀ (base : Nat) (K : Nat → Prop) (w : World) (v : Int) (cb : Nat) (bs : List UInt8) (u : Value) (t : T), 0 ≤ v → OwnB w base u bs → base ≤ w.heap.size → (∀ g, K g → g < base) → cb < base → w.cell? ⟨cb, 0, none⟩ = some (.int .i16 v) →
    repP tags v (m.isFlex v) ht m.fields w K (fun j => w.cell? ⟨cb, 1 + j, none⟩) t → Fit t → bs.length + (write m v t).length ≤ lim2 → Calls Tryd.prog f #[.pointer (some ⟨cb, 0, none⟩), u] w fun e w' => ∃ u', e = .returned u' ∧ OwnB w' base u' (bs ++ write m v t) ∧ Below base w w'

section
variable {tags : Rel (List (Nat × List UInt8))} {m : M} {ht : Bool}
theorem writes_start {E : WE} {res : Nat} {p0 p1 p2 rest : Code} {f : Nat} {fn : Func} {cb : Nat} {v : Int} {flex : Bool} {u : Value} {w : World} {t : T} {base : Nat} {bs : List UInt8} (hf : Tryd.prog.funcs[f]? = some fn) (hb : fn.body = some (p0.seq (p1.seq (p2.seq rest)))) (hnt : fn.ntmps = E.N) (hres : fn.results = #[.tmp res]) (hN : 2 ≤ E.N)
    (h0 : SConst E.N res (.slice none 0 0) p0) (h1 : SLoad E.N 0 0 E.vs p1) (h2 : SMove E.N p2) (hcl : clear [0, 1] (p0.seq (p1.seq p2)) = true) (hcv : clear [E.vs] p2 = true) (hc0 : w.cell? ⟨cb, 0, none⟩ = some (.int .i16 v))
    (hq : ∀ a : Act, a.tmps.size = E.N → a.defers = [] → sl a E.vs = .int .i16 v → sl a 0 = .pointer (some ⟨cb, 0, none⟩) → sl a 1 = u → rest.wp Tryd.prog (PostW res base (bs ++ Kz.part v flex m.fields t) w) a w) :
    Calls Tryd.prog f #[.pointer (some ⟨cb, 0, none⟩), u] w fun e w' => ∃ u', e = .returned u' ∧ OwnB w' base u' (bs ++ Kz.part v flex m.fields t) ∧ Below base w w' := by
  simp only [clear_seq] at hcl
  obtain ⟨k0, k1, k2⟩ := hcl
  refine enter2 (res := res) hf hb (by omega) hres fun a hsz hd s0 s1 => ?_
  have hsz' := hsz.trans hnt
  refine wp_seq (h0 a w _ hsz' fun a1 u1 _ => wp_seq (h1 a1 w _ cb 0 (.int .i16 v) (u1.size.trans hsz') (by rw [upd_of u1 k0 0 (by simp)]; exact s0) hc0 fun a2 u2 s2 => wp_seq (h2 a2 w _ (u2.size.trans (u1.size.trans hsz')) fun a3 u3 => ?_)))
  have keep : ∀ t ∈ [0, 1], sl a3 t = sl a t := fun t ht => by rw [upd_of u3 k2 t ht, upd_of u2 k1 t ht, upd_of u1 k0 t ht]
  refine wp_mono (hq a3 (u3.size.trans (u2.size.trans (u1.size.trans hsz'))) (u3.defers.trans (u2.defers.trans (u1.defers.trans hd))) (by rw [upd_of u3 hcv E.vs (by simp)]; exact s2) (by rw [keep 0 (by simp)]; exact s0) (by rw [keep 1 (by simp)]; exact s1)) ?_
  intro e a' w' hq
  cases e with
  | ret => exact ⟨rfl, hq.1, _, rfl, hq.2.2, hq.2.1⟩
  | _ => exact hq.elim
/-- A message whose versions may be flexible. -/
theorem writesMsg_flex {E : WE} {res : Nat} {p0 p1 p2 p3 p4 body : Code} {f : Nat} {fn : Func} {fs : Nat} (hfs : E.fs = some fs) (hfe : 0 ≤ m.flex) (hds : E.ds = 1)
    (hf : Tryd.prog.funcs[f]? = some fn) (hb : fn.body = some (p0.seq (p1.seq (p2.seq (p3.seq (p4.seq body)))))) (hnt : fn.ntmps = E.N) (hres : fn.results = #[.tmp res]) (hg : hasBody Tryd.prog f = true) (hN : 2 ≤ E.N)
    (h0 : SConst E.N res (.slice none 0 0) p0) (h1 : SLoad E.N 0 0 E.vs p1) (h2 : SMove E.N p2) (h3 : SCmpV E.N E.vs fs m.flex p3) (h4 : SMove E.N p4) (hcl : clear [0, 1] (p0.seq (p1.seq p2)) = true) (hcv : clear [E.vs] p2 = true)
    (hc2 : clear [0, 1, E.vs] (p3.seq p4) = true) (hc3 : clear [fs] p4 = true) (hbody : ∀ v : Int, 0 ≤ v → ApPE tags E v (m.isFlex v) ht res 0 1 m.fields body) : WritesMsg tags f m ht := by
  refine ⟨hg, fun base K w v cb bs u t hv ho hbase hK hcb hc0 hr hfit hl => ?_⟩
  simp only [clear_seq] at hc2
  refine writes_start hf hb hnt hres hN h0 h1 h2 hcl hcv hc0 fun a hsz hd hvs s0 s1 => ?_
  refine wp_seq (h3 a w _ v hsz hvs fun a1 u1 q1 => wp_seq (h4 a1 w _ (u1.size.trans hsz) fun a2 u2 => ?_))
  have keep : ∀ t ∈ [0, 1, E.vs], sl a2 t = sl a t := fun t ht => by rw [upd_of u2 hc2.2 t ht, upd_of u1 hc2.1 t ht]
  refine hbody v hv base K bs a2 w cb 0 t ⟨⟨u2.size.trans (u1.size.trans hsz), u2.defers.trans (u1.defers.trans hd), by rw [keep E.vs (by simp)]; exact hvs, fun s hs => ?_⟩, hbase, hK, by rw [hds, keep 1 (by simp), s1]; exact ho⟩ (by rw [keep 0 (by simp)]; exact s0) hcb ⟨by simpa using hr, hfit⟩ hl
  rw [hfs] at hs; cases hs
  rw [upd_of u2 hc3 fs (by simp), q1]
  simp [M.isFlex, hfe]
/-- A message that is never flexible. -/
theorem writesMsg_plain {E : WE} {res : Nat} {p0 p1 p2 body : Code} {f : Nat} {fn : Func} (hfs : E.fs = none) (hds : E.ds = 1)
    (hf : Tryd.prog.funcs[f]? = some fn) (hb : fn.body = some (p0.seq (p1.seq (p2.seq body)))) (hnt : fn.ntmps = E.N) (hres : fn.results = #[.tmp res]) (hg : hasBody Tryd.prog f = true) (hN : 2 ≤ E.N)
    (h0 : SConst E.N res (.slice none 0 0) p0) (h1 : SLoad E.N 0 0 E.vs p1) (h2 : SMove E.N p2) (hcl : clear [0, 1] (p0.seq (p1.seq p2)) = true) (hcv : clear [E.vs] p2 = true)
    (hbody : ∀ v : Int, 0 ≤ v → ApPE tags E v (m.isFlex v) ht res 0 1 m.fields body) : WritesMsg tags f m ht := by
  refine ⟨hg, fun base K w v cb bs u t hv ho hbase hK hcb hc0 hr hfit hl => ?_⟩
  refine writes_start hf hb hnt hres hN h0 h1 h2 hcl hcv hc0 fun a hsz hd hvs s0 s1 => ?_
  exact hbody v hv base K bs a w cb 0 t ⟨⟨hsz, hd, hvs, fun s hs => by rw [hfs] at hs; cases hs⟩, hbase, hK, by rw [hds, s1]; exact ho⟩ s0 hcb ⟨by simpa using hr, hfit⟩ hl
end
end Go.Proofs.YtpknjenihcfhlaaDoor
