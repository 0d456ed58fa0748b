/-
  Code under a condition; a field, the fields of a part, its tags. Conditions: none.
-/
import Derived.Test.YtpknjenihcfhlaaDoorRd1
namespace Go.Proofs.YtpknjenihcfhlaaDoor
open Go.RowKit (Below)
open Kz

section
variable {E : RE} {v : Int} {flex : Bool}

theorem Rd.conv {α β : Type} {sp off n : Nat} {ini ini' : (Nat → Option Value) → Prop} {g : St → α × St} {g' : St → β × St} {R : Rel α} {R' : Rel β} {c : Code} (h : Rd E v flex sp off n ini g R c)
    (k : α → β) (hg : ∀ st, g' st = (k (g st).1, (g st).2)) (hR : ∀ w K cc x, R w K cc x → R' w K cc (k x)) (hini : ∀ cc, ini' cc → ini cc) : Rd E v flex sp off n ini' g' R' c := by
  intro rb S st cb co cells T a w hp
  refine wp_mono (h rb S st cb co cells T a w { hp with ini := hini _ hp.ini }) ?_
  intro e a2 w2 hq
  cases e with
  | normal =>
    obtain ⟨hu, hr, hm, cells', hrow, hret⟩ := hq
    refine ⟨hu, by rw [hg]; exact hr, hm, cells', hrow, ?_⟩
    rw [hg]
    exact hR _ _ _ _ hret
  | ret =>
    obtain ⟨hn, h2⟩ := hq
    exact ⟨by rw [hg]; exact hn, h2⟩
  | exit id => exact hq
  | goto l => exact hq
  | panic ch => exact hq
  | outgrown => exact hq

/-- A test: it leaves its answer in a slot. -/
def Test (E : RE) (v : Int) (flex : Bool) (t : Nat) (q : Bool) (r : Code) : Prop :=
  clear E.slots r = true ∧ ∀ (rb : Nat) (a : Act) (w : World) (Q : Exit → Act → World → Prop), Fr E rb v flex a → (∀ a', Upd a a' (writes r) → sl a' t = .bool q → Q .normal a' w) → r.wp Tryd.prog Q a w

theorem test_geq {id t1 t2 : Nat} {k : Int} {T T' ty1 ty2 : TypeId} {p1 p2 : String} {e1 e2 : Array Edge} (hn : decide (t1 < E.N ∧ t2 < E.N) = true) (hcl : [t1, t2].all (fun t => !E.slots.contains t) = true) :
    Test E v flex t2 (decide (k ≤ v)) (Code.region id #[⟨some t1, .move (.tmp E.vs), ty1, p1, e1, none⟩, ⟨some t2, .binOp .geq T (.tmp t1) (.const (.int .i16 k)) T', ty2, p2, e2, none⟩] false) := by
  refine ⟨?_, fun rb a w Q hf hq => ?_⟩
  · simp only [List.all_cons, List.all_nil, Bool.and_true, Bool.and_eq_true, Bool.not_eq_true', List.contains_eq_mem, decide_eq_false_iff_not] at hcl
    simp only [clear, writes, List.all_eq_true, List.filterMap_cons, List.filterMap_nil, List.contains_eq_mem, List.mem_cons, List.not_mem_nil, or_false, Bool.not_eq_true', decide_eq_false_iff_not]
    rintro t ht (rfl | rfl)
    · exact hcl.1 ht
    · exact hcl.2 ht
  · simp only [decide_eq_true_eq] at hn
    exact reg_cmp (r := decide (k ≤ v)) (by rw [hf.size]; exact hn.1) (by rw [hf.size]; exact hn.2) (fun y z => eqGuard_geq ..) (by rw [hf.vs]; exact binOp_geq ..) hq
theorem test_leq {id t1 t2 : Nat} {k : Int} {T T' ty1 ty2 : TypeId} {p1 p2 : String} {e1 e2 : Array Edge} (hn : decide (t1 < E.N ∧ t2 < E.N) = true) (hcl : [t1, t2].all (fun t => !E.slots.contains t) = true) :
    Test E v flex t2 (decide (v ≤ k)) (Code.region id #[⟨some t1, .move (.tmp E.vs), ty1, p1, e1, none⟩, ⟨some t2, .binOp .leq T (.tmp t1) (.const (.int .i16 k)) T', ty2, p2, e2, none⟩] false) := by
  refine ⟨?_, fun rb a w Q hf hq => ?_⟩
  · simp only [List.all_cons, List.all_nil, Bool.and_true, Bool.and_eq_true, Bool.not_eq_true', List.contains_eq_mem, decide_eq_false_iff_not] at hcl
    simp only [clear, writes, List.all_eq_true, List.filterMap_cons, List.filterMap_nil, List.contains_eq_mem, List.mem_cons, List.not_mem_nil, or_false, Bool.not_eq_true', decide_eq_false_iff_not]
    rintro t ht (rfl | rfl)
    · exact hcl.1 ht
    · exact hcl.2 ht
  · simp only [decide_eq_true_eq] at hn
    exact reg_cmp (r := decide (v ≤ k)) (by rw [hf.size]; exact hn.1) (by rw [hf.size]; exact hn.2) (fun y z => eqGuard_leq ..) (by rw [hf.vs]; exact binOp_leq ..) hq
theorem test_lss {id t1 t2 : Nat} {k : Int} {T T' ty1 ty2 : TypeId} {p1 p2 : String} {e1 e2 : Array Edge} (hn : decide (t1 < E.N ∧ t2 < E.N) = true) (hcl : [t1, t2].all (fun t => !E.slots.contains t) = true) :
    Test E v flex t2 (decide (v < k)) (Code.region id #[⟨some t1, .move (.tmp E.vs), ty1, p1, e1, none⟩, ⟨some t2, .binOp .lss T (.tmp t1) (.const (.int .i16 k)) T', ty2, p2, e2, none⟩] false) := by
  refine ⟨?_, fun rb a w Q hf hq => ?_⟩
  · simp only [List.all_cons, List.all_nil, Bool.and_true, Bool.and_eq_true, Bool.not_eq_true', List.contains_eq_mem, decide_eq_false_iff_not] at hcl
    simp only [clear, writes, List.all_eq_true, List.filterMap_cons, List.filterMap_nil, List.contains_eq_mem, List.mem_cons, List.not_mem_nil, or_false, Bool.not_eq_true', decide_eq_false_iff_not]
    rintro t ht (rfl | rfl)
    · exact hcl.1 ht
    · exact hcl.2 ht
  · simp only [decide_eq_true_eq] at hn
    exact reg_cmp (r := decide (v < k)) (by rw [hf.size]; exact hn.1) (by rw [hf.size]; exact hn.2) (fun y z => eqGuard_lss ..) (by rw [hf.vs]; exact binOp_lss ..) hq
theorem test_range {id t1 t2 t3 t4 t5 t6 : Nat} {lo hi : Int} {T1 T1' T2 T2' ty1 ty2 ty3 ty4 ty5 ty6 : TypeId} {p1 p2 p3 p4 p5 p6 : String} {e1 e2 e3 e4 e5 e6 : Array Edge}
    (hn : [t1, t2, t3, t4, t5, t6].all (· < E.N) = true) (hcl : [t1, t2, t3, t4, t5, t6].all (fun t => !E.slots.contains t) = true) (hd : decide ([E.vs, t1, t2, t3, t4, t5, t6].Nodup) = true) :
    Test E v flex t6 (decide (lo ≤ v) && decide (v ≤ hi)) (Code.region id #[⟨some t1, .move (.tmp E.vs), ty1, p1, e1, none⟩, ⟨some t2, .binOp .geq T1 (.tmp t1) (.const (.int .i16 lo)) T1', ty2, p2, e2, none⟩, ⟨some t3, .move (.tmp t2), ty3, p3, e3, none⟩,
      ⟨some t4, .move (.tmp E.vs), ty4, p4, e4, some (2, true)⟩, ⟨some t5, .binOp .leq T2 (.tmp t4) (.const (.int .i16 hi)) T2', ty5, p5, e5, some (2, true)⟩, ⟨some t6, .pick (.tmp t3) (.tmp t5) (.const (.bool false)), ty6, p6, e6, none⟩] false) := by
  refine ⟨?_, fun rb a w Q hf hq => ?_⟩
  · simp only [List.all_cons, List.all_nil, Bool.and_true, Bool.and_eq_true, Bool.not_eq_true', List.contains_eq_mem, decide_eq_false_iff_not] at hcl
    obtain ⟨c1, c2, c3, c4, c5, c6⟩ := hcl
    simp only [clear, writes, List.all_eq_true, List.filterMap_cons, List.filterMap_nil, List.contains_eq_mem, List.mem_cons, List.not_mem_nil, or_false, Bool.not_eq_true', decide_eq_false_iff_not]
    rintro t ht (rfl | rfl | rfl | rfl | rfl | rfl)
    · exact c1 ht
    · exact c2 ht
    · exact c3 ht
    · exact c4 ht
    · exact c5 ht
    · exact c6 ht
  · simp only [List.all_cons, List.all_nil, Bool.and_true, Bool.and_eq_true, decide_eq_true_eq] at hn
    obtain ⟨n1, n2, n3, n4, n5, n6⟩ := hn
    have hsz := hf.size
    exact reg_range (by omega) (by omega) (by omega) (by omega) (by omega) (by omega) (of_decide_eq_true hd) hf.vs hq
theorem test_flex {id t fs : Nat} {ty1 : TypeId} {p1 : String} {e1 : Array Edge} (hfs : E.fs = some fs) (hn : decide (t < E.N) = true) (hcl : [t].all (fun t => !E.slots.contains t) = true) :
    Test E v flex t flex (Code.region id #[⟨some t, .move (.tmp fs), ty1, p1, e1, none⟩] false) := by
  refine ⟨?_, fun rb a w Q hf hq => ?_⟩
  · simp only [List.all_cons, List.all_nil, Bool.and_true, Bool.not_eq_true', List.contains_eq_mem, decide_eq_false_iff_not] at hcl
    simp only [clear, writes, List.all_eq_true, List.filterMap_cons, List.filterMap_nil, List.contains_eq_mem, List.mem_cons, List.not_mem_nil, or_false, Bool.not_eq_true', decide_eq_false_iff_not]
    rintro t ht rfl
    exact hcl ht
  · exact reg_move (by rw [hf.size]; exact of_decide_eq_true hn) fun a' hu hs => hq a' hu (by rw [hs, hf.fs _ hfs])

/-- A piece that is run if a test says so. -/
theorem Rd.guard {α : Type} {sp off n t : Nat} {q : Bool} {ini : (Nat → Option Value) → Prop} {g : St → α × St} {z : α} {R : Rel α} {r c : Code} (hT : Test E v flex t q r) (hsp : clear [sp] r = true) (h : q = true → Rd E v flex sp off n ini g R c) :
    Rd E v flex sp off n ini (fun st => if q then g st else (z, st)) (fun w K cc x => q = true → R w K cc x) (r.seq (Code.cond (.tmp t) c Code.skip)) := by
  intro rb S st cb co cells T a w hp
  have hcl := clear_iff hT.1
  have hsp' := clear_iff hsp
  refine wp_seq (hT.2 rb a w _ hp.fr fun a' hu hs => ?_)
  have hfr := hp.fr.upd hu hcl
  cases q with
  | true =>
    refine wp_cond_true (by rw [eval_tmp, hs]) (wp_mono (h rfl rb S st cb co cells T a' w { hp with fr := hfr, ptr := (hu.same _ (hsp' _ (by simp))).trans hp.ptr }) ?_)
    intro e a2 w2 hq
    cases e with
    | normal =>
      obtain ⟨hu2, hr, hm, cells', hrow, hret⟩ := hq
      exact ⟨(hu.mono (fun t ht => by simp only [writes, List.mem_append]; exact .inl ht)).trans (hu2.mono (fun t ht => by simp only [writes, List.mem_append]; exact .inr (.inl ht))), hr, hm, cells', hrow, fun _ => hret⟩
    | ret => exact hq
    | exit id => exact hq
    | goto l => exact hq
    | panic ch => exact hq
    | outgrown => exact hq
  | false =>
    refine wp_cond_false (by rw [eval_tmp, hs]) (wp_skip ?_)
    exact ⟨hu.mono (fun t ht => by simp only [writes, List.mem_append]; exact .inl ht), hp.rd, Md.refl _ _ _ _ _, cells, hp.row, fun h => by cases h⟩
end

/-! ## A field, the fields of a part -/
section
variable (tags : Rel (List (Nat × List UInt8))) (E : RE) (v : Int) (flex ht : Bool)

/-- The code that reads a field that is there. -/
def RdV (sp off : Nat) (f : F) (c : Code) : Prop := Rd E v flex sp off (cellsF ht f) (iniF ht f) (rd v flex f) (repF tags v flex ht f) c
/-- The code of a field, there or not. -/
def RdF (sp off : Nat) (f : F) (c : Code) : Prop := Rd E v flex sp off (cellsF ht f) (iniF ht f) (fun st => if f.tag < 0 ∧ f.has v = true then rd v flex f st else (dfltF f, st)) (fun w K cc t => f.on v flex = true → repF tags v flex ht f w K cc t) c
/-- The code of fields. -/
def RdFs (sp off : Nat) (fs : List F) (c : Code) : Prop := Rd E v flex sp off (cellsFs ht fs) (iniFs ht fs) (plainR v fs (rds v flex fs) (dfltOf fs)) (plainRep v flex ht fs (repFs tags v flex ht fs)) c

/-- Unknown tags, as they are read. -/
def utag (x : List (Nat × List UInt8) × St) : List (Nat × List UInt8) × St :=
  (setTag (rdV x.2).1 (rdSpan (rdV (rdV x.2).2).1 (rdV (rdV x.2).2).2).1 x.1, (rdSpan (rdV (rdV x.2).2).1 (rdV (rdV x.2).2).2).2)
def utags : Nat → List (Nat × List UInt8) × St → List (Nat × List UInt8) × St
  | 0, x => x
  | k + 1, x => utags k (utag x)
def rdTags (st : St) : List (Nat × List UInt8) × St := utags (rdV st).1 ([], (rdV st).2)
/-- The code of fields, and of the tags behind them. -/
def RdTl (sp off : Nat) (fs : List F) (c : Code) : Prop :=
  Rd E v flex sp off (cellsP ht fs) (iniFs ht fs) (fun st => (((plainR v fs (rds v flex fs) (dfltOf fs) st).1, (if flex then rdTags (plainR v fs (rds v flex fs) (dfltOf fs) st).2 else ([], (plainR v fs (rds v flex fs) (dfltOf fs) st).2)).1),
      (if flex then rdTags (plainR v fs (rds v flex fs) (dfltOf fs) st).2 else ([], (plainR v fs (rds v flex fs) (dfltOf fs) st).2)).2))
    (fun w K cc x => plainRep v flex ht fs (repFs tags v flex ht fs) w K cc x.1 ∧ (flex = true → tags w K (fun j => cc (cellsFs ht fs + j)) x.2)) c
/-- The code of a part. -/
def RdP (sp off : Nat) (fs : List F) (c : Code) : Prop := Rd E v flex sp off (cellsP ht fs) (iniFs ht fs) (rdPart v flex fs) (repP tags v flex ht fs) c
end

section
variable {tags : Rel (List (Nat × List UInt8))} {E : RE} {v : Int} {flex ht : Bool}

theorem strict_valR' (kind : Nat) (part : St → T × St) (may flex : Bool) (hp : Strict part) : Strict (valR kind part may flex) := strict_valR kind part may flex hp
theorem strict_fieldR (v : Int) (flex : Bool) (f : F) (part : St → T × St) (hp : Strict part) : Strict (fieldR v flex f part) := by
  unfold fieldR
  split
  · exact strict_listR flex _ _
  · split
    · show (let (p, s) := rdI 1 none; if p ≠ -1 ∧ s.isSome then part s else (Tnull, s)).2 = none
      rfl
    · exact strict_valR _ _ _ _ hp
theorem strict_plain' (v : Int) : ∀ (fs : List F) (gs : List (St → T × St)) (ds : List T), (∀ g ∈ gs, Strict g) → Strict (plainR v fs gs ds)
  | [], [], _, _ => rfl
  | [], _ :: _, _, _ => rfl
  | _ :: _, [], _, _ => rfl
  | f :: fs, g :: gs, ds, h => by
    have ih := strict_plain' v fs gs ds.tail (fun g hg => h g (List.mem_cons_of_mem _ hg))
    show (plainR v (f :: fs) (g :: gs) ds none).2 = none
    simp only [plainR]
    split
    · have h1 : (g none).2 = none := h g (by simp)
      rw [h1]; exact ih
    · exact ih
theorem utags_none : ∀ (n : Nat) (u : List (Nat × List UInt8)), (utags n (u, none)).2 = none
  | 0, _ => rfl
  | n + 1, _ => utags_none n _
theorem strict_rdTags : Strict rdTags := utags_none _ _

mutual
theorem strict_rd (v : Int) (flex : Bool) : ∀ f : F, Strict (rd v flex f)
  | .mk kind frm to null tag dflt of sub => by
    simp only [rd]
    refine strict_fieldR _ _ _ _ ?_
    have h1 := strict_plain' v sub (rds v flex sub) (dfltOf sub) (strict_rds v flex sub)
    show (asmR v flex sub (rds v flex sub) (dfltOf sub) none).2 = none
    simp only [asmR]
    rw [h1]
    split
    · have e : (rdV none).2 = none := rfl
      simp only [e]
      exact strict_tagsR sub (rds v flex sub) (rdV none).1 (plainR v sub (rds v flex sub) (dfltOf sub) none).1 []
    · rfl
theorem strict_rds (v : Int) (flex : Bool) : ∀ fs : List F, ∀ g ∈ rds v flex fs, Strict g
  | [], _, h => by cases h
  | f :: fs, g, h => by
    simp only [rds, List.mem_cons] at h
    rcases h with rfl | h
    · exact strict_rd v flex f
    · exact strict_rds v flex fs g h
end
theorem strict_plainF (v : Int) (flex : Bool) (fs : List F) (ds : List T) : Strict (plainR v fs (rds v flex fs) ds) := strict_plain' v fs _ ds (strict_rds v flex fs)

theorem RdV.always {sp off : Nat} {f : F} {c : Code} (h : RdV tags E v flex ht sp off f c) (hq : decide (f.tag < 0) && f.has v = true) : RdF tags E v flex ht sp off f c := by
  simp only [Bool.and_eq_true, decide_eq_true_eq] at hq
  exact Rd.conv h id (fun st => by rw [if_pos hq]; rfl) (fun w K cc x hx _ => hx) (fun _ h => h)
theorem RdV.guard {sp off t : Nat} {q : Bool} {f : F} {r c : Code} (hT : Test E v flex t q r) (hq : f.has v = q) (ht0 : f.tag < 0) (hsp : clear [sp] r = true) (h : RdV tags E v flex ht sp off f c) :
    RdF tags E v flex ht sp off f (r.seq (Code.cond (.tmp t) c Code.skip)) := by
  subst hq
  refine Rd.conv (Rd.guard (z := dfltF f) hT hsp (fun _ => h)) id (fun st => ?_) (fun w K cc x hx ho => hx ?_) (fun _ h => h)
  · simp only [ht0, true_and, id]
  · simpa [F.on, ht0] using ho

theorem RdFs.one {sp off : Nat} {f : F} {c : Code} (h : RdF tags E v flex ht sp off f c) : RdFs tags E v flex ht sp off [f] c := by
  have e : cellsFs ht [f] = cellsF ht f := rfl
  unfold RdFs
  rw [e]
  refine Rd.conv h (fun x => [x]) (fun st => ?_) (fun w K cc x hx => ⟨x, [], rfl, hx, rfl⟩) (fun _ h => h.1)
  simp only [rds, dfltOf, plainR, List.headD_cons]
theorem RdFs.cons (htg : flex = true → ht = true) (hT : Stable 1 tags) {sp off : Nat} {f : F} {fs : List F} {c1 c2 : Code} (h1 : RdF tags E v flex ht sp off f c1) (hcl : clear (sp :: E.slots) c1 = true) (h2 : RdFs tags E v flex ht sp (off + cellsF ht f) fs c2) :
    RdFs tags E v flex ht sp off (f :: fs) (c1.seq c2) := by
  have h := Rd.seq h1 h2 hcl (fun w w' K K' c c' x hk hs hK hc hx ho => stable_repF htg hT f w w' K K' c c' x hk hs hK hc (hx ho)) (stable_plainF htg hT fs) (strict_plainF v flex fs _) (ini_locFs ht fs) List.cons
  refine Rd.conv h id (fun st => ?_) (fun w K cc x hx => ?_) (fun _ h => h)
  · simp only [rds, dfltOf, plainR, List.headD_cons, List.tail_cons, id]
  · obtain ⟨y, z, rfl, h1, h2⟩ := hx
    exact ⟨y, z, rfl, h1, h2⟩
theorem RdTl.cons (htg : flex = true → ht = true) (hT : Stable 1 tags) {sp off : Nat} {f : F} {fs : List F} {c1 c2 : Code} (h1 : RdF tags E v flex ht sp off f c1) (hcl : clear (sp :: E.slots) c1 = true) (h2 : RdTl tags E v flex ht sp (off + cellsF ht f) fs c2) :
    RdTl tags E v flex ht sp off (f :: fs) (c1.seq c2) := by
  have hst2 : Stable (cellsP ht fs) (fun w K cc (x : List T × List (Nat × List UInt8)) => plainRep v flex ht fs (repFs tags v flex ht fs) w K cc x.1 ∧ (flex = true → tags w K (fun j => cc (cellsFs ht fs + j)) x.2)) := by
    intro w w' K K' c c' x hk hs hK hc hx
    refine ⟨stable_plainF htg hT fs w w' K K' c c' x.1 hk hs hK (fun j hj => hc j (by simp only [cellsP]; omega)) hx.1, fun hf => hT w w' K K' _ _ _ hk hs hK (fun j hj => hc _ ?_) (hx.2 hf)⟩
    simp only [cellsP, htg hf, Bool.toNat_true]; omega
  have hs2 : Strict (fun st => (((plainR v fs (rds v flex fs) (dfltOf fs) st).1, (if flex then rdTags (plainR v fs (rds v flex fs) (dfltOf fs) st).2 else ([], (plainR v fs (rds v flex fs) (dfltOf fs) st).2)).1),
      (if flex then rdTags (plainR v fs (rds v flex fs) (dfltOf fs) st).2 else ([], (plainR v fs (rds v flex fs) (dfltOf fs) st).2)).2)) := by
    have h1 := strict_plainF v flex fs (dfltOf fs)
    unfold Strict at h1 ⊢
    simp only [h1]
    split
    · exact strict_rdTags
    · rfl
  have hloc : ∀ c c' : Nat → Option Value, (∀ j, j < cellsP ht fs → c' j = c j) → iniFs ht fs c → iniFs ht fs c' := fun c c' hc => ini_locFs ht fs c c' (fun j hj => hc j (by simp only [cellsP]; omega))
  have h := Rd.seq h1 h2 hcl (fun w w' K K' c c' x hk hs hK hc hx ho => stable_repF htg hT f w w' K K' c c' x hk hs hK hc (hx ho)) hst2 hs2 hloc (fun x y => (x :: y.1, y.2))
  have e : cellsP ht (f :: fs) = cellsF ht f + cellsP ht fs := by simp only [cellsP, cellsFs]; omega
  unfold RdTl
  rw [e]
  refine Rd.conv h id (fun st => ?_) (fun w K cc x hx => ?_) (fun _ h => h)
  · simp only [rds, dfltOf, plainR, List.headD_cons, List.tail_cons, id]
  · obtain ⟨y, z, rfl, h1, h2, h3⟩ := hx
    refine ⟨⟨y, z.1, rfl, h1, h2⟩, fun hf => ?_⟩
    have := h3 hf
    simp only [cellsFs]
    simp only [Nat.add_assoc]
    exact this
end
end Go.Proofs.YtpknjenihcfhlaaDoor
