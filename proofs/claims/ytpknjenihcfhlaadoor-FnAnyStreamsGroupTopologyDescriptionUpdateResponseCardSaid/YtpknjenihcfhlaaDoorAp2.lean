/-
  Code that writes: tests, fields, the fields of a part. Conditions: none.
-/
import Derived.Test.YtpknjenihcfhlaaDoorAp1
namespace Go.Proofs.YtpknjenihcfhlaaDoor
open Go.RowKit (Below)
open Kz

section
variable {E : WE} {v : Int} {flex : Bool}

theorem testW_geq {id t1 t2 : Nat} {k : Int} {T T' ty1 ty2 : TypeId} {p1 p2 : String} {e1 e2 : Array Edge} (hn : [t1, t2].all (· < E.N) = true) (hcl : clear (E.ds :: E.slots) (Code.region id #[⟨some t1, .move (.tmp E.vs), ty1, p1, e1, none⟩, ⟨some t2, .binOp .geq T (.tmp t1) (.const (.int .i16 k)) T', ty2, p2, e2, none⟩] false) = true) :
    TestW E v flex t2 (decide (k ≤ v)) (Code.region id #[⟨some t1, .move (.tmp E.vs), ty1, p1, e1, none⟩, ⟨some t2, .binOp .geq T (.tmp t1) (.const (.int .i16 k)) T', ty2, p2, e2, none⟩] false) := by
  refine ⟨hcl, fun a w Q hf hq => ?_⟩
  simp only [List.all_cons, List.all_nil, Bool.and_true, Bool.and_eq_true, decide_eq_true_eq] at hn
  exact reg_cmp (r := decide (k ≤ v)) (by rw [hf.size]; exact hn.1) (by rw [hf.size]; exact hn.2) (fun y z => eqGuard_geq ..) (by rw [hf.vs]; exact binOp_geq ..) hq
theorem testW_leq {id t1 t2 : Nat} {k : Int} {T T' ty1 ty2 : TypeId} {p1 p2 : String} {e1 e2 : Array Edge} (hn : [t1, t2].all (· < E.N) = true) (hcl : clear (E.ds :: E.slots) (Code.region id #[⟨some t1, .move (.tmp E.vs), ty1, p1, e1, none⟩, ⟨some t2, .binOp .leq T (.tmp t1) (.const (.int .i16 k)) T', ty2, p2, e2, none⟩] false) = true) :
    TestW E v flex t2 (decide (v ≤ k)) (Code.region id #[⟨some t1, .move (.tmp E.vs), ty1, p1, e1, none⟩, ⟨some t2, .binOp .leq T (.tmp t1) (.const (.int .i16 k)) T', ty2, p2, e2, none⟩] false) := by
  refine ⟨hcl, fun a w Q hf hq => ?_⟩
  simp only [List.all_cons, List.all_nil, Bool.and_true, Bool.and_eq_true, decide_eq_true_eq] at hn
  exact reg_cmp (r := decide (v ≤ k)) (by rw [hf.size]; exact hn.1) (by rw [hf.size]; exact hn.2) (fun y z => eqGuard_leq ..) (by rw [hf.vs]; exact binOp_leq ..) hq
theorem testW_lss {id t1 t2 : Nat} {k : Int} {T T' ty1 ty2 : TypeId} {p1 p2 : String} {e1 e2 : Array Edge} (hn : [t1, t2].all (· < E.N) = true) (hcl : clear (E.ds :: E.slots) (Code.region id #[⟨some t1, .move (.tmp E.vs), ty1, p1, e1, none⟩, ⟨some t2, .binOp .lss T (.tmp t1) (.const (.int .i16 k)) T', ty2, p2, e2, none⟩] false) = true) :
    TestW E v flex t2 (decide (v < k)) (Code.region id #[⟨some t1, .move (.tmp E.vs), ty1, p1, e1, none⟩, ⟨some t2, .binOp .lss T (.tmp t1) (.const (.int .i16 k)) T', ty2, p2, e2, none⟩] false) := by
  refine ⟨hcl, fun a w Q hf hq => ?_⟩
  simp only [List.all_cons, List.all_nil, Bool.and_true, Bool.and_eq_true, decide_eq_true_eq] at hn
  exact reg_cmp (r := decide (v < k)) (by rw [hf.size]; exact hn.1) (by rw [hf.size]; exact hn.2) (fun y z => eqGuard_lss ..) (by rw [hf.vs]; exact binOp_lss ..) hq
theorem testW_range {id t1 t2 t3 t4 t5 t6 : Nat} {lo hi : Int} {T1 T1' T2 T2' ty1 ty2 ty3 ty4 ty5 ty6 : TypeId} {p1 p2 p3 p4 p5 p6 : String} {e1 e2 e3 e4 e5 e6 : Array Edge}
    (hn : [t1, t2, t3, t4, t5, t6].all (· < E.N) = true) (hd : decide ([E.vs, t1, t2, t3, t4, t5, t6].Nodup) = true) (hcl : clear (E.ds :: E.slots) (Code.region id #[⟨some t1, .move (.tmp E.vs), ty1, p1, e1, none⟩, ⟨some t2, .binOp .geq T1 (.tmp t1) (.const (.int .i16 lo)) T1', ty2, p2, e2, none⟩, ⟨some t3, .move (.tmp t2), ty3, p3, e3, none⟩,
      ⟨some t4, .move (.tmp E.vs), ty4, p4, e4, some (2, true)⟩, ⟨some t5, .binOp .leq T2 (.tmp t4) (.const (.int .i16 hi)) T2', ty5, p5, e5, some (2, true)⟩, ⟨some t6, .pick (.tmp t3) (.tmp t5) (.const (.bool false)), ty6, p6, e6, none⟩] false) = true) :
    TestW E v flex t6 (decide (lo ≤ v) && decide (v ≤ hi)) (Code.region id #[⟨some t1, .move (.tmp E.vs), ty1, p1, e1, none⟩, ⟨some t2, .binOp .geq T1 (.tmp t1) (.const (.int .i16 lo)) T1', ty2, p2, e2, none⟩, ⟨some t3, .move (.tmp t2), ty3, p3, e3, none⟩,
      ⟨some t4, .move (.tmp E.vs), ty4, p4, e4, some (2, true)⟩, ⟨some t5, .binOp .leq T2 (.tmp t4) (.const (.int .i16 hi)) T2', ty5, p5, e5, some (2, true)⟩, ⟨some t6, .pick (.tmp t3) (.tmp t5) (.const (.bool false)), ty6, p6, e6, none⟩] false) := by
  refine ⟨hcl, fun a w Q hf hq => ?_⟩
  simp only [List.all_cons, List.all_nil, Bool.and_true, Bool.and_eq_true, decide_eq_true_eq] at hn
  obtain ⟨n1, n2, n3, n4, n5, n6⟩ := hn
  have hsz := hf.size
  exact reg_range (by omega) (by omega) (by omega) (by omega) (by omega) (by omega) (of_decide_eq_true hd) hf.vs hq
theorem testW_flex {id t fs : Nat} {ty1 : TypeId} {p1 : String} {e1 : Array Edge} (hfs : E.fs = some fs) (hn : [t].all (· < E.N) = true) (hcl : clear (E.ds :: E.slots) (Code.region id #[⟨some t, .move (.tmp fs), ty1, p1, e1, none⟩] false) = true) :
    TestW E v flex t flex (Code.region id #[⟨some t, .move (.tmp fs), ty1, p1, e1, none⟩] false) := by
  refine ⟨hcl, fun a w Q hf hq => ?_⟩
  simp only [List.all_cons, List.all_nil, Bool.and_true, decide_eq_true_eq] at hn
  exact reg_move (by rw [hf.size]; exact hn) fun a' hu hs => hq a' hu (by rw [hs, hf.fs _ hfs])
end

/-! ## Fields -/
section
variable (tags : Rel (List (Nat × List UInt8))) (E : WE) (v : Int) (flex ht : Bool)
def ApV (sp off : Nat) (f : F) (c : Code) : Prop := Ap E v flex sp off (wr v flex f) (fun w K cc t => repF tags v flex ht f w K cc t ∧ Fit t) c
def ApF (sp off : Nat) (f : F) (c : Code) : Prop := Ap E v flex sp off (fun t => if f.tag < 0 ∧ f.has v = true then wr v flex f t else []) (fun w K cc t => (f.on v flex = true → repF tags v flex ht f w K cc t) ∧ Fit t) c
def ApFs (sp off : Nat) (fs : List F) (c : Code) : Prop := Ap E v flex sp off (plainW v fs (wrs v flex fs)) (fun w K cc ts => plainRep v flex ht fs (repFs tags v flex ht fs) w K cc ts ∧ ∀ t ∈ ts, Fit t) c
/-- Fields, and the tags behind them. -/
def ApTl (sp off : Nat) (fs : List F) (c : Code) : Prop := Ap E v flex sp off (fun x : List T × List (Nat × List UInt8) => plainW v fs (wrs v flex fs) x.1 ++ if flex then tagsB x.2 else [])
    (fun w K cc x => (plainRep v flex ht fs (repFs tags v flex ht fs) w K cc x.1 ∧ ∀ t ∈ x.1, Fit t) ∧ (flex = true → tags w K (fun j => cc (cellsFs ht fs + j)) x.2) ∧ x.2.length ≤ most ∧ ∀ y ∈ x.2, y.1 < 4294967296 ∧ y.2.length ≤ most) c
def ApP (sp off : Nat) (fs : List F) (c : Code) : Prop := Ap E v flex sp off (Kz.part v flex fs) (fun w K cc t => repP tags v flex ht fs w K cc t ∧ Fit t) c
end

section
variable {tags : Rel (List (Nat × List UInt8))} {E : WE} {v : Int} {flex ht : Bool}
theorem ApV.always {sp off : Nat} {f : F} {c : Code} (h : ApV tags E v flex ht sp off f c) (hq : decide (f.tag < 0) && f.has v = true) : ApF tags E v flex ht sp off f c := by
  simp only [Bool.and_eq_true, decide_eq_true_eq] at hq
  exact Ap.conv h id (fun w K cc x hx => ⟨hx.1 (by simp [F.on, hq.1, hq.2]), hx.2⟩) (fun w K cc x _ => by rw [if_pos hq]; rfl)
theorem ApV.guard {sp off t : Nat} {q : Bool} {f : F} {r c : Code} (hT : TestW E v flex t q r) (hq : f.has v = q) (ht0 : f.tag < 0) (hsp : clear [sp] r = true) (h : ApV tags E v flex ht sp off f c) : ApF tags E v flex ht sp off f (r.seq (Code.cond (.tmp t) c Code.skip)) := by
  subst hq
  refine Ap.conv (Ap.guard hT hsp (fun _ => h)) id (fun w K cc x hx hh => ⟨hx.1 (by simpa [F.on, ht0] using hh), hx.2⟩) (fun w K cc x _ => ?_)
  simp only [ht0, true_and, id]
theorem ApTl.cons (htg : flex = true → ht = true) (hT : Stable 1 tags) {sp off : Nat} {f : F} {fs : List F} {c1 c2 : Code} (h1 : ApF tags E v flex ht sp off f c1) (hcl : clear (sp :: E.slots) c1 = true) (h2 : ApTl tags E v flex ht sp (off + cellsF ht f) fs c2) : ApTl tags E v flex ht sp off (f :: fs) (c1.seq c2) := by
  have hst : Stable (cellsP ht fs) (fun w K cc (x : List T × List (Nat × List UInt8)) => (plainRep v flex ht fs (repFs tags v flex ht fs) w K cc x.1 ∧ ∀ t ∈ x.1, Fit t) ∧ (flex = true → tags w K (fun j => cc (cellsFs ht fs + j)) x.2) ∧ x.2.length ≤ most ∧ ∀ y ∈ x.2, y.1 < 4294967296 ∧ y.2.length ≤ most) := by
    intro w w' K K' c c' x hk hs hK hc hx
    refine ⟨⟨stable_plainF htg hT fs w w' K K' c c' x.1 hk hs hK (fun j hj => hc j (by simp only [cellsP]; omega)) hx.1.1, hx.1.2⟩, fun hf => hT w w' K K' _ _ _ hk hs hK (fun j hj => hc _ ?_) (hx.2.1 hf), hx.2.2⟩
    simp only [cellsP, htg hf, Bool.toNat_true]; omega
  refine Ap.conv (Ap.seq h1 h2 hcl hst) (fun x => (x.1.headD T.zero, (x.1.tail, x.2))) (fun w K cc x hx => ?_) (fun w K cc x hx => ?_)
  · obtain ⟨⟨⟨y, ys, he, hy, hys⟩, hfit⟩, htl, hu⟩ := hx
    rw [he] at hfit ⊢
    refine ⟨⟨hy, hfit y (by simp)⟩, ⟨hys, fun t ht => hfit t (List.mem_cons_of_mem _ ht)⟩, fun hf => ?_, hu⟩
    have := htl hf
    simp only [cellsFs, Nat.add_assoc] at this
    exact this
  · simp only [wrs, plainW, List.append_assoc]
/-- A part without tags. -/
theorem ApTl.nil0 {sp off : Nat} (hfl : flex = false) : ApTl tags E v flex ht sp off [] Code.skip := by
  subst hfl
  intro base K bs a w cb co x hp hsp hcb hr hl
  refine wp_skip ⟨Upd.refl _ _, Below.refl _ _, ?_⟩
  simpa [wrs, plainW] using hp.own
/-- A part without tags: its last field. -/
theorem ApTl.one (hfl : flex = false) {sp off : Nat} {f : F} {c : Code} (h : ApF tags E v flex ht sp off f c) : ApTl tags E v flex ht sp off [f] c := by
  subst hfl
  refine Ap.conv h (fun x => x.1.headD T.zero) (fun w K cc x hx => ?_) (fun w K cc x hx => ?_)
  · obtain ⟨⟨⟨y, ys, he, hy, hys⟩, hfit⟩, -⟩ := hx
    rw [he] at hfit ⊢
    exact ⟨hy, hfit y (by simp)⟩
  · simp [wrs, plainW]
end
end Go.Proofs.YtpknjenihcfhlaaDoor
