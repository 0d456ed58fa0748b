/-
  Messages that are read. Conditions: none.
-/
import Derived.Test.YtbogepbfbplndaaY2
import Derived.Maps.Own
import Derived.Maps.OwnSet
import Derived.Carry
/-
  Code that reads a value into a variable, and puts it into a field; code under a condition. Conditions: none.
-/
namespace Go.Proofs.Ytbogepbfbplndaa
open Go.RowKit (Below)
open Kz

/-! ## Facts of the type table, each a closed question -/
def offOf (P : Program) (T k : Nat) : Option Nat :=
  match P.underlying T with
  | some (.struct fs) => match fs[k]? with
    | some f => match P.info? f.type with
      | some i => if i.size ≠ 0 then some f.offset else none
      | none => none
    | none => none
  | _ => none
theorem fieldOff_ok {P : Program} {T k off : Nat} (h : offOf P T k = some off) : FieldOff P T k off := by
  unfold offOf at h
  split at h
  · rename_i fs h1
    split at h
    · rename_i f h2
      split at h
      · rename_i i h3
        split at h
        · rename_i h4
          exact fieldOff_of h1 h2 (Option.some.inj h) h3 h4
        · cases h
      · cases h
    · cases h
  · cases h
def sizeIs (P : Program) (T n : Nat) : Bool := match P.info? T with | some i => i.size == n | none => false
theorem store1_ok {P : Program} {ty : Nat} {v : Value} (h : sizeIs P ty 1 = true) (hv : v.oneCell' = true) : Store1 P ty v := by
  unfold sizeIs at h
  split at h
  · rename_i i hi; exact store1_of hi (by simpa using h) hv
  · cases h
def plainTy (P : Program) (T : Nat) : Bool := match P.underlying T with | some d => !d.isRow | none => false
theorem load1_ok {P : Program} {ty : Nat} (h : plainTy P ty = true) : Load1 P ty := by
  unfold plainTy at h
  split at h
  · rename_i d hd; exact load1_of hd (by simpa using h)
  · cases h
/-- A function with a body. -/
def hasBody (P : Program) (f : Nat) : Bool := match P.funcs[f]? with | some fn => fn.body.isSome && !(fn.name == "runtime.NumGoroutine") | none => false
theorem hasBody_ok {P : Program} {f : Nat} (h : hasBody P f = true) : ∃ fn, P.funcs[f]? = some fn ∧ fn.body.isSome = true ∧ (fn.name == "runtime.NumGoroutine") = false := by
  unfold hasBody at h
  split at h
  · rename_i fn hf
    simp only [Bool.and_eq_true, Bool.not_eq_true'] at h
    exact ⟨fn, hf, h.1, h.2⟩
  · cases h

/-- What was said of a value stays. -/
def StableV {α : Type} (Ret : World → (Nat → Prop) → Value → α → Prop) : Prop :=
  ∀ (w w' : World) (K K' : Nat → Prop) (v : Value) (x : α), (∀ g, K g → g < w.heap.size → w'.heap[g]? = w.heap[g]?) → w.heap.size ≤ w'.heap.size → (∀ g, K g → K' g) → Ret w K v x → Ret w' K' v x

section
variable {α : Type} {E : RE} {v : Int} {flex : Bool}

end
end Go.Proofs.Ytbogepbfbplndaa
/-
  Code under a condition; a field, the fields of a part, its tags. Conditions: none.
-/
namespace Go.Proofs.Ytbogepbfbplndaa
open Go.RowKit (Below)
open Kz

section
variable {E : RE} {v : Int} {flex : Bool}

/-- A test: it leaves its answer in a slot. -/
def Test (E : RE) (v : Int) (flex : Bool) (t : Nat) (q : Bool) (r : Code) : Prop :=
  clear E.slots r = true ∧ ∀ (rb : Nat) (a : Act) (w : World) (Q : Exit → Act → World → Prop), Fr E rb v flex a → (∀ a', Upd a a' (writes r) → sl a' t = .bool q → Q .normal a' w) → r.wp Try.prog Q a w

theorem test_geq {id t1 t2 : Nat} {k : Int} {T T' ty1 ty2 : TypeId} {p1 p2 : String} {e1 e2 : Array Edge} (hn : decide (t1 < E.N ∧ t2 < E.N) = true) (hcl : [t1, t2].all (fun t => !E.slots.contains t) = true) :
    Test E v flex t2 (decide (k ≤ v)) (Code.region id #[⟨some t1, .move (.tmp E.vs), ty1, p1, e1, none⟩, ⟨some t2, .binOp .geq T (.tmp t1) (.const (.int .i16 k)) T', ty2, p2, e2, none⟩] false) := by
  refine ⟨?_, fun rb a w Q hf hq => ?_⟩
  · simp only [List.all_cons, List.all_nil, Bool.and_true, Bool.and_eq_true, Bool.not_eq_true', List.contains_eq_mem, decide_eq_false_iff_not] at hcl
    simp only [clear, writes, List.all_eq_true, List.filterMap_cons, List.filterMap_nil, List.contains_eq_mem, List.mem_cons, List.not_mem_nil, or_false, Bool.not_eq_true', decide_eq_false_iff_not]
    rintro t ht (rfl | rfl)
    · exact hcl.1 ht
    · exact hcl.2 ht
  · simp only [decide_eq_true_eq] at hn
    exact reg_cmp (r := decide (k ≤ v)) (by rw [hf.size]; exact hn.1) (by rw [hf.size]; exact hn.2) (fun y z => eqGuard_geq ..) (by rw [hf.vs]; exact binOp_geq ..) hq
theorem test_leq {id t1 t2 : Nat} {k : Int} {T T' ty1 ty2 : TypeId} {p1 p2 : String} {e1 e2 : Array Edge} (hn : decide (t1 < E.N ∧ t2 < E.N) = true) (hcl : [t1, t2].all (fun t => !E.slots.contains t) = true) :
    Test E v flex t2 (decide (v ≤ k)) (Code.region id #[⟨some t1, .move (.tmp E.vs), ty1, p1, e1, none⟩, ⟨some t2, .binOp .leq T (.tmp t1) (.const (.int .i16 k)) T', ty2, p2, e2, none⟩] false) := by
  refine ⟨?_, fun rb a w Q hf hq => ?_⟩
  · simp only [List.all_cons, List.all_nil, Bool.and_true, Bool.and_eq_true, Bool.not_eq_true', List.contains_eq_mem, decide_eq_false_iff_not] at hcl
    simp only [clear, writes, List.all_eq_true, List.filterMap_cons, List.filterMap_nil, List.contains_eq_mem, List.mem_cons, List.not_mem_nil, or_false, Bool.not_eq_true', decide_eq_false_iff_not]
    rintro t ht (rfl | rfl)
    · exact hcl.1 ht
    · exact hcl.2 ht
  · simp only [decide_eq_true_eq] at hn
    exact reg_cmp (r := decide (v ≤ k)) (by rw [hf.size]; exact hn.1) (by rw [hf.size]; exact hn.2) (fun y z => eqGuard_leq ..) (by rw [hf.vs]; exact binOp_leq ..) hq
theorem test_lss {id t1 t2 : Nat} {k : Int} {T T' ty1 ty2 : TypeId} {p1 p2 : String} {e1 e2 : Array Edge} (hn : decide (t1 < E.N ∧ t2 < E.N) = true) (hcl : [t1, t2].all (fun t => !E.slots.contains t) = true) :
    Test E v flex t2 (decide (v < k)) (Code.region id #[⟨some t1, .move (.tmp E.vs), ty1, p1, e1, none⟩, ⟨some t2, .binOp .lss T (.tmp t1) (.const (.int .i16 k)) T', ty2, p2, e2, none⟩] false) := by
  refine ⟨?_, fun rb a w Q hf hq => ?_⟩
  · simp only [List.all_cons, List.all_nil, Bool.and_true, Bool.and_eq_true, Bool.not_eq_true', List.contains_eq_mem, decide_eq_false_iff_not] at hcl
    simp only [clear, writes, List.all_eq_true, List.filterMap_cons, List.filterMap_nil, List.contains_eq_mem, List.mem_cons, List.not_mem_nil, or_false, Bool.not_eq_true', decide_eq_false_iff_not]
    rintro t ht (rfl | rfl)
    · exact hcl.1 ht
    · exact hcl.2 ht
  · simp only [decide_eq_true_eq] at hn
    exact reg_cmp (r := decide (v < k)) (by rw [hf.size]; exact hn.1) (by rw [hf.size]; exact hn.2) (fun y z => eqGuard_lss ..) (by rw [hf.vs]; exact binOp_lss ..) hq
theorem test_range {id t1 t2 t3 t4 t5 t6 : Nat} {lo hi : Int} {T1 T1' T2 T2' ty1 ty2 ty3 ty4 ty5 ty6 : TypeId} {p1 p2 p3 p4 p5 p6 : String} {e1 e2 e3 e4 e5 e6 : Array Edge}
    (hn : [t1, t2, t3, t4, t5, t6].all (· < E.N) = true) (hcl : [t1, t2, t3, t4, t5, t6].all (fun t => !E.slots.contains t) = true) (hd : decide ([E.vs, t1, t2, t3, t4, t5, t6].Nodup) = true) :
    Test E v flex t6 (decide (lo ≤ v) && decide (v ≤ hi)) (Code.region id #[⟨some t1, .move (.tmp E.vs), ty1, p1, e1, none⟩, ⟨some t2, .binOp .geq T1 (.tmp t1) (.const (.int .i16 lo)) T1', ty2, p2, e2, none⟩, ⟨some t3, .move (.tmp t2), ty3, p3, e3, none⟩,
      ⟨some t4, .move (.tmp E.vs), ty4, p4, e4, some (2, true)⟩, ⟨some t5, .binOp .leq T2 (.tmp t4) (.const (.int .i16 hi)) T2', ty5, p5, e5, some (2, true)⟩, ⟨some t6, .pick (.tmp t3) (.tmp t5) (.const (.bool false)), ty6, p6, e6, none⟩] false) := by
  refine ⟨?_, fun rb a w Q hf hq => ?_⟩
  · simp only [List.all_cons, List.all_nil, Bool.and_true, Bool.and_eq_true, Bool.not_eq_true', List.contains_eq_mem, decide_eq_false_iff_not] at hcl
    obtain ⟨c1, c2, c3, c4, c5, c6⟩ := hcl
    simp only [clear, writes, List.all_eq_true, List.filterMap_cons, List.filterMap_nil, List.contains_eq_mem, List.mem_cons, List.not_mem_nil, or_false, Bool.not_eq_true', decide_eq_false_iff_not]
    rintro t ht (rfl | rfl | rfl | rfl | rfl | rfl)
    · exact c1 ht
    · exact c2 ht
    · exact c3 ht
    · exact c4 ht
    · exact c5 ht
    · exact c6 ht
  · simp only [List.all_cons, List.all_nil, Bool.and_true, Bool.and_eq_true, decide_eq_true_eq] at hn
    obtain ⟨n1, n2, n3, n4, n5, n6⟩ := hn
    have hsz := hf.size
    exact reg_range (by omega) (by omega) (by omega) (by omega) (by omega) (by omega) (of_decide_eq_true hd) hf.vs hq
theorem test_flex {id t fs : Nat} {ty1 : TypeId} {p1 : String} {e1 : Array Edge} (hfs : E.fs = some fs) (hn : decide (t < E.N) = true) (hcl : [t].all (fun t => !E.slots.contains t) = true) :
    Test E v flex t flex (Code.region id #[⟨some t, .move (.tmp fs), ty1, p1, e1, none⟩] false) := by
  refine ⟨?_, fun rb a w Q hf hq => ?_⟩
  · simp only [List.all_cons, List.all_nil, Bool.and_true, Bool.not_eq_true', List.contains_eq_mem, decide_eq_false_iff_not] at hcl
    simp only [clear, writes, List.all_eq_true, List.filterMap_cons, List.filterMap_nil, List.contains_eq_mem, List.mem_cons, List.not_mem_nil, or_false, Bool.not_eq_true', decide_eq_false_iff_not]
    rintro t ht rfl
    exact hcl ht
  · exact reg_move (by rw [hf.size]; exact of_decide_eq_true hn) fun a' hu hs => hq a' hu (by rw [hs, hf.fs _ hfs])

end

/-! ## A field, the fields of a part -/
section
variable (tags : Rel (List (Nat × List UInt8))) (E : RE) (v : Int) (flex ht : Bool)

/-- Unknown tags, as they are read. -/
def utag (x : List (Nat × List UInt8) × St) : List (Nat × List UInt8) × St :=
  (setTag (rdV x.2).1 (rdSpan (rdV (rdV x.2).2).1 (rdV (rdV x.2).2).2).1 x.1, (rdSpan (rdV (rdV x.2).2).1 (rdV (rdV x.2).2).2).2)
def utags : Nat → List (Nat × List UInt8) × St → List (Nat × List UInt8) × St
  | 0, x => x
  | k + 1, x => utags k (utag x)
def rdTags (st : St) : List (Nat × List UInt8) × St := utags (rdV st).1 ([], (rdV st).2)
end

section
variable {tags : Rel (List (Nat × List UInt8))} {E : RE} {v : Int} {flex ht : Bool}

theorem strict_valR' (kind : Nat) (part : St → T × St) (may flex : Bool) (hp : Strict part) : Strict (valR kind part may flex) := strict_valR kind part may flex hp
theorem strict_fieldR (v : Int) (flex : Bool) (f : F) (part : St → T × St) (hp : Strict part) : Strict (fieldR v flex f part) := by
  unfold fieldR
  split
  · exact strict_listR flex _ _
  · split
    · show (let (p, s) := rdI 1 none; if p ≠ -1 ∧ s.isSome then part s else (Tnull, s)).2 = none
      rfl
    · exact strict_valR _ _ _ _ hp
theorem strict_plain' (v : Int) : ∀ (fs : List F) (gs : List (St → T × St)) (ds : List T), (∀ g ∈ gs, Strict g) → Strict (plainR v fs gs ds)
  | [], [], _, _ => rfl
  | [], _ :: _, _, _ => rfl
  | _ :: _, [], _, _ => rfl
  | f :: fs, g :: gs, ds, h => by
    have ih := strict_plain' v fs gs ds.tail (fun g hg => h g (List.mem_cons_of_mem _ hg))
    show (plainR v (f :: fs) (g :: gs) ds none).2 = none
    simp only [plainR]
    split
    · have h1 : (g none).2 = none := h g (by simp)
      rw [h1]; exact ih
    · exact ih
theorem utags_none : ∀ (n : Nat) (u : List (Nat × List UInt8)), (utags n (u, none)).2 = none
  | 0, _ => rfl
  | n + 1, _ => utags_none n _
theorem strict_rdTags : Strict rdTags := utags_none _ _

mutual
theorem strict_rd (v : Int) (flex : Bool) : ∀ f : F, Strict (rd v flex f)
  | .mk kind frm to null tag dflt of sub => by
    simp only [rd]
    refine strict_fieldR _ _ _ _ ?_
    have h1 := strict_plain' v sub (rds v flex sub) (dfltOf sub) (strict_rds v flex sub)
    show (asmR v flex sub (rds v flex sub) (dfltOf sub) none).2 = none
    simp only [asmR]
    rw [h1]
    split
    · have e : (rdV none).2 = none := rfl
      simp only [e]
      exact strict_tagsR sub (rds v flex sub) (rdV none).1 (plainR v sub (rds v flex sub) (dfltOf sub) none).1 []
    · rfl
theorem strict_rds (v : Int) (flex : Bool) : ∀ fs : List F, ∀ g ∈ rds v flex fs, Strict g
  | [], _, h => by cases h
  | f :: fs, g, h => by
    simp only [rds, List.mem_cons] at h
    rcases h with rfl | h
    · exact strict_rd v flex f
    · exact strict_rds v flex fs g h
end
theorem strict_plainF (v : Int) (flex : Bool) (fs : List F) (ds : List T) : Strict (plainR v fs (rds v flex fs) ds) := strict_plain' v fs _ ds (strict_rds v flex fs)

end
end Go.Proofs.Ytbogepbfbplndaa
/-
  The reader's functions, in one form; fields of numbers, texts, octets. Conditions: none.
-/
namespace Go.Proofs.Ytbogepbfbplndaa
open Go.RowKit (Below)
open Kz

def IsInt (k : IntKind) (_ : World) (_ : Nat → Prop) (u : Value) (x : Int) : Prop := u = .int k x
theorem stable_isInt (k : IntKind) : StableV (IsInt k) := fun _ _ _ _ _ _ _ _ _ h => h
def IsNat (k : IntKind) (_ : World) (_ : Nat → Prop) (u : Value) (x : Nat) : Prop := u = .int k x
theorem stable_isNat (k : IntKind) : StableV (IsNat k) := fun _ _ _ _ _ _ _ _ _ h => h
def IsStr (_ : World) (_ : Nat → Prop) (u : Value) (x : T) : Prop := u = strV x.s ∧ x.null = false
theorem stable_isStr : StableV IsStr := fun _ _ _ _ _ _ _ _ _ h => h
def IsBool (_ : World) (_ : Nat → Prop) (u : Value) (x : Nat) : Prop := u = .bool (x != 0)
theorem stable_isBool : StableV IsBool := fun _ _ _ _ _ _ _ _ _ h => h
theorem stable_nstr : StableV NstrV := fun w w' K K' v x hk hs hK h => by
  rcases h with h | ⟨h0, g, h1, h2, h3, h4⟩
  · exact .inl h
  · exact .inr ⟨h0, g, h1, hK g h2, Nat.lt_of_lt_of_le h3 hs, by rw [cell_kept (hk g h2 h3)]; exact h4⟩
def IsBytes (w : World) (K : Nat → Prop) (u : Value) (x : T) : Prop := BytesAt w K u x.s ∧ x.null = false
theorem stable_isBytes : StableV IsBytes := fun _ _ _ _ _ _ hk hs hK h => ⟨stable_bytes hk hs hK h.1, h.2⟩

theorem text_null (flex : Bool) (k : Nat) (st : St) : (rdText flex false k st).1.null = false := by
  simp [rdText, Ts]
theorem octets_null (flex : Bool) (st : St) : (rdOctets flex st).1.null = false := by
  simp only [rdOctets]
  split <;> rfl
theorem nstr_one {w : World} {K : Nat → Prop} {v : Value} {t : T} (h : NstrV w K v t) : v.oneCell' = true := by
  rcases h with ⟨-, rfl⟩ | ⟨-, g, rfl, -⟩ <;> rfl
theorem nstr_mono {w : World} {K K' : Nat → Prop} {v : Value} {t : T} (h : NstrV w K v t) (hK : ∀ g, K g → K' g) : NstrV w K' v t := stable_nstr w w K K' v t (fun _ _ _ => rfl) (Nat.le_refl _) hK h
theorem bytes_one {w : World} {K : Nat → Prop} {v : Value} {bs : List UInt8} (h : BytesAt w K v bs) : v.oneCell' = true := by
  rcases h with ⟨rfl, -⟩ | ⟨g, o, c, rfl, -⟩ <;> rfl

section
variable {tags : Rel (List (Nat × List UInt8))} {E : RE} {v : Int} {flex ht : Bool}

theorem rdU2_lt (st : St) : (rdU 2 st).1 < 65536 := by
  cases st with
  | none => decide
  | some bs =>
    simp only [rdU, rdN]
    split
    · rename_i h
      have h1 := beNat_lt (bs.take 2)
      have h2 : (bs.take 2).length = 2 := by rw [List.length_take]; omega
      rw [h2] at h1
      simpa using h1
    · show (0 : Nat) < 65536
      decide
theorem ntext_null (flex : Bool) (k : Nat) (st : St) : (rdText flex true k st).1.null = true → (rdText flex true k st).1.s = [] := by
  simp only [rdText, true_and]
  split
  · intro _; rfl
  · intro h; cases h

end
end Go.Proofs.Ytbogepbfbplndaa
/-
  Lists, read: the loop over the elements. Conditions: none.
-/
namespace Go.Proofs.Ytbogepbfbplndaa
open Go.RowKit (Below)
open Kz

/-- The loop of a list. -/
abbrev loopC (id i1 i2 di dl t1 t2 t3 u1 u2 : Nat) (T T' T2 T2' ty1 ty2 ty3 ty4 ty5 ty6 : TypeId) (p1 p2 p3 p4 p5 p6 : String) (e1 e2 e3 e4 e5 e6 : Array Edge) (body : Code) : Code :=
  Code.block id (Code.loop (((Code.region i1 #[⟨some t1, .move (.tmp di), ty1, p1, e1, none⟩, ⟨some t2, .move (.tmp dl), ty2, p2, e2, none⟩, ⟨some t3, .binOp .lss T (.tmp t1) (.tmp t2) T', ty3, p3, e3, none⟩] false).seq (Code.cond (.tmp t3) Code.skip (Code.exit id))).seq
    (body.seq (Code.region i2 #[⟨some u1, .move (.tmp di), ty4, p4, e4, none⟩, ⟨some u2, .binOp .add T2 (.tmp u1) (.const (.int .i32 1)) T2', ty5, p5, e5, none⟩, ⟨some di, .assign (.tmp u2), ty6, p6, e6, none⟩] false))))

theorem wp_inBlock {P : Program} {id : Nat} {c : Code} {Q : Exit → Act → World → Prop} {a : Act} {w : World} (h : c.wp P Q a w) (hx : ∀ a w, ¬ Q (.exit id) a w) : (Code.block id c).wp P Q a w := by
  refine wp_block (wp_mono h ?_)
  intro e a w hq
  cases e with
  | exit id' =>
    by_cases he : id' = id
    · subst he; exact absurd hq (hx _ _)
    · simp only [Exit.inBlock, if_neg he]; exact hq
  | _ => exact hq

theorem rdMany_split {g : St → T × St} {n i : Nat} {st sti : St} {ts : List T} (hi : i < n) (h : rdMany g n st = (ts ++ (rdMany g (n - i) sti).1, (rdMany g (n - i) sti).2)) :
    rdMany g n st = ((ts ++ [(g sti).1]) ++ (rdMany g (n - (i + 1)) (g sti).2).1, (rdMany g (n - (i + 1)) (g sti).2).2) := by
  obtain ⟨k, hk⟩ : ∃ k, n - i = k + 1 := ⟨n - i - 1, by omega⟩
  have hk2 : n - (i + 1) = k := by omega
  rw [hk2, h, hk]
  simp only [rdMany, List.append_assoc, List.singleton_append]

theorem rdMany_len (g : St → T × St) : ∀ (n : Nat) (st : St), (rdMany g n st).1.length = n
  | 0, _ => rfl
  | n + 1, st => by simp only [rdMany, List.length_cons]; rw [rdMany_len g n]

section
variable {E : RE} {v : Int} {flex : Bool}

end
end Go.Proofs.Ytbogepbfbplndaa
/-
  Lists, read: the whole code of a list. Conditions: none.
-/
namespace Go.Proofs.Ytbogepbfbplndaa
open Go.RowKit (Below)
open Kz

/-! ## Steps -/
def SLoad (N sp off d : Nat) (c : Code) : Prop := ∀ (a : Act) (w : World) (Q : Exit → Act → World → Prop) (b o : Nat) (u : Value), a.tmps.size = N → sl a sp = .pointer (some ⟨b, o, none⟩) → w.cell? ⟨b, o + off, none⟩ = some u →
  (∀ a', Upd a a' (writes c) → sl a' d = u → Q .normal a' w) → c.wp Try.prog Q a w
def SCopy (N x d : Nat) (c : Code) : Prop := ∀ (a : Act) (w : World) (Q : Exit → Act → World → Prop), a.tmps.size = N → (∀ a', Upd a a' (writes c) → sl a' d = sl a x → Q .normal a' w) → c.wp Try.prog Q a w
def SConst (N d : Nat) (u : Value) (c : Code) : Prop := ∀ (a : Act) (w : World) (Q : Exit → Act → World → Prop), a.tmps.size = N → (∀ a', Upd a a' (writes c) → sl a' d = u → Q .normal a' w) → c.wp Try.prog Q a w
def SStore (N sp off d : Nat) (c : Code) : Prop := ∀ (a : Act) (w : World) (Q : Exit → Act → World → Prop) (b o : Nat) (u : Value), a.tmps.size = N → sl a sp = .pointer (some ⟨b, o, none⟩) → (sl a d).oneCell' = true → w.cell? ⟨b, o + off, none⟩ = some u →
  w.frozen? ⟨b, o + off, none⟩ = false → (∀ a', Upd a a' (writes c) → Q .normal a' (w.setCell ⟨b, o + off, none⟩ (sl a d))) → c.wp Try.prog Q a w
def SSlice0 (N x : Nat) (c : Code) : Prop := ∀ (a : Act) (w : World) (Q : Exit → Act → World → Prop) (p : Option Addr) (n m : Nat), a.tmps.size = N → sl a x = .slice p n m → (∀ a', Upd a a' (writes c) → sl a' x = .slice p 0 m → Q .normal a' w) → c.wp Try.prog Q a w
def SPos (N x t : Nat) (c : Code) : Prop := ∀ (a : Act) (w : World) (Q : Exit → Act → World → Prop) (l : Int), a.tmps.size = N → sl a x = .int .i32 l → (∀ a', Upd a a' (writes c) → sl a' t = .bool (decide (0 < l)) → Q .normal a' w) → c.wp Try.prog Q a w
def SApp (N x l : Nat) (z : Array Value) (c : Code) : Prop := ∀ (a : Act) (w : World) (Q : Exit → Act → World → Prop) (n : Nat), a.tmps.size = N → sl a x = .slice none 0 0 → sl a l = .int .i32 (n : Int) → 0 < n → n ≤ 2147483647 →
  (∀ a' w' m arr Ty, Upd a a' (writes c) → sl a' x = .slice (some ⟨w.heap.size, 0, none⟩) n m → w'.heap = w.heap.push (.cells arr Ty (0, 0)) → w'.os = w.os → w'.tape = w.tape → w'.output = w.output → n * z.size ≤ arr.size →
    (∀ i j, i < n → j < z.size → arr[i * z.size + j]? = z[j]?) → Q .normal a' w') → c.wp Try.prog Q a w
theorem sload {id N sp d t1 t2 t3 t4 T k off ty : Nat} {ty1 ty2 ty3 ty4 ty5 : TypeId} {p1 p2 p3 p4 p5 : String} {e1 e2 e3 e4 e5 : Array Edge} (hf : offOf Try.prog T k = some off) (hl : plainTy Try.prog ty = true) (hn : [t1, t2, t3, t4, d].all (· < N) = true) :
    SLoad N sp off d (Code.region id #[⟨some t1, .move (.tmp sp), ty1, p1, e1, none⟩, ⟨some t2, .nilCheck (.tmp t1), ty2, p2, e2, none⟩, ⟨some t3, .fieldAddr T (.tmp t2) k, ty3, p3, e3, none⟩, ⟨some t4, .load ty (.tmp t3), ty4, p4, e4, none⟩,
      ⟨some d, .assign (.tmp t4), ty5, p5, e5, none⟩] false) := by
  intro a w Q b o u hN hsp hc hq
  simp only [List.all_cons, List.all_nil, Bool.and_true, Bool.and_eq_true, decide_eq_true_eq] at hn
  exact reg_loadField (fieldOff_ok hf) (load1_ok hl) (by omega) (by omega) (by omega) (by omega) (by omega) hsp hc hq
theorem scopy {id N x t d : Nat} {ty1 ty2 : TypeId} {p1 p2 : String} {e1 e2 : Array Edge} (hn : [t, d].all (· < N) = true) : SCopy N x d (Code.region id #[⟨some t, .move (.tmp x), ty1, p1, e1, none⟩, ⟨some d, .assign (.tmp t), ty2, p2, e2, none⟩] false) := by
  intro a w Q hN hq
  simp only [List.all_cons, List.all_nil, Bool.and_true, Bool.and_eq_true, decide_eq_true_eq] at hn
  exact reg_copy (by omega) (by omega) hq
theorem sconst {id N d : Nat} {u : Value} {ty1 : TypeId} {p1 : String} {e1 : Array Edge} (hn : [d].all (· < N) = true) : SConst N d u (Code.region id #[⟨some d, .assign (.const u), ty1, p1, e1, none⟩] false) := by
  intro a w Q hN hq
  simp only [List.all_cons, List.all_nil, Bool.and_true, decide_eq_true_eq] at hn
  exact reg_const (by omega) hq
theorem sstore {id N sp off d t1 t2 t3 t4 T k ty : Nat} {ty1 ty2 ty3 ty4 ty5 : TypeId} {p1 p2 p3 p4 p5 : String} {e1 e2 e3 e4 e5 : Array Edge} (hf : offOf Try.prog T k = some off) (hty : sizeIs Try.prog ty 1 = true) (hn : [t1, t2, t3, t4].all (· < N) = true)
    (hd : decide (t1 ≠ t2 ∧ t1 ≠ d ∧ t2 ≠ t3 ∧ t2 ≠ t4) = true) :
    SStore N sp off d (Code.region id #[⟨some t1, .move (.tmp sp), ty1, p1, e1, none⟩, ⟨some t2, .move (.tmp d), ty2, p2, e2, none⟩, ⟨some t3, .nilCheck (.tmp t1), ty3, p3, e3, none⟩,
      ⟨some t4, .fieldAddr T (.tmp t3) k, ty4, p4, e4, none⟩, ⟨none, .store ty (.tmp t4) (.tmp t2), ty5, p5, e5, none⟩] false) := by
  intro a w Q b o u hN hsp ho hc hfz hq
  simp only [List.all_cons, List.all_nil, Bool.and_true, Bool.and_eq_true, decide_eq_true_eq] at hn hd
  obtain ⟨d1, d2, d3, d4⟩ := hd
  exact reg_storeField (fieldOff_ok hf) (store1_ok hty ho) (by omega) (by omega) (by omega) (by omega) d1 d2 d3 d4 hsp rfl hc hfz hq
/-- A slice's type. -/
def sliceOf (P : Program) (T : Nat) : Option Nat := match P.underlying T with | some (.slice e) => some e | _ => none
theorem sliceOf_ok {P : Program} {T e : Nat} (h : sliceOf P T = some e) : P.underlying T = some (.slice e) := by
  unfold sliceOf at h
  split at h
  · rename_i e' he; cases h; exact he
  · cases h
theorem sizeIs_ok {P : Program} {e n : Nat} (h : sizeIs P e n = true) : ∃ i, P.info? e = some i ∧ i.size = n := by
  unfold sizeIs at h
  split at h
  · rename_i i hi; exact ⟨i, hi, by simpa using h⟩
  · cases h
theorem sslice0 {id N x t1 t2 T e sz : Nat} {ty1 ty2 ty3 : TypeId} {p1 p2 p3 : String} {e1 e2 e3 : Array Edge} (hT : sliceOf Try.prog T = some e) (hs : sizeIs Try.prog e sz = true) (hn : [t1, t2, x].all (· < N) = true) :
    SSlice0 N x (Code.region id #[⟨some t1, .move (.tmp x), ty1, p1, e1, none⟩, ⟨some t2, .slice T (.tmp t1) none (some (.const (.int .i64 0))) none, ty2, p2, e2, none⟩, ⟨some x, .assign (.tmp t2), ty3, p3, e3, none⟩] false) := by
  intro a w Q p n m hN hx hq
  obtain ⟨i, hi, -⟩ := sizeIs_ok hs
  simp only [List.all_cons, List.all_nil, Bool.and_true, Bool.and_eq_true, decide_eq_true_eq] at hn
  exact reg_slice0 (slice0_of (sliceOf_ok hT) hi) (by omega) (by omega) (by omega) hx hq
theorem spos {id N x t1 t2 : Nat} {T T' ty1 ty2 : TypeId} {p1 p2 : String} {e1 e2 : Array Edge} (hn : [t1, t2].all (· < N) = true) :
    SPos N x t2 (Code.region id #[⟨some t1, .move (.tmp x), ty1, p1, e1, none⟩, ⟨some t2, .binOp .gtr T (.tmp t1) (.const (.int .i32 0)) T', ty2, p2, e2, none⟩] false) := by
  intro a w Q l hN hx hq
  simp only [List.all_cons, List.all_nil, Bool.and_true, Bool.and_eq_true, decide_eq_true_eq] at hn
  exact reg_cmp (r := decide (0 < l)) (by omega) (by omega) (fun y z => eqGuard_gtr ..) (by rw [hx]; exact binOp_gtr ..) hq
/-- An element's zero, and its sizes. -/
def zeroIs (P : Program) (e : Nat) : Option (Array Value) := match P.info? e with
  | some i => (match i.zero with | some z => if i.size = z.cells.size ∧ i.bytes ≤ 131072 ∧ 0 < i.size then some z.cells else none | none => none)
  | none => none
theorem zeroIs_ok {P : Program} {e : Nat} {z : Array Value} (h : zeroIs P e = some z) : ∃ i zv, P.info? e = some i ∧ i.zero = some zv ∧ zv.cells = z ∧ i.size = z.size ∧ i.bytes ≤ 131072 ∧ 0 < i.size := by
  unfold zeroIs at h
  split at h
  · rename_i i hi
    split at h
    · rename_i zv hz
      split at h
      · rename_i hc
        cases h
        exact ⟨i, zv, hi, hz, rfl, hc.1, hc.2.1, hc.2.2⟩
      · cases h
    · cases h
  · cases h
theorem zeroCells_at {z : Array Value} {n i j : Nat} {rest : Array Value} (hi : i < n) (hj : j < z.size) : (Builtin.zeroCells z n ++ rest)[i * z.size + j]? = z[j]? := by
  have h1 : i * z.size + j < n * z.size := by
    have : i * z.size + z.size ≤ n * z.size := by rw [← Nat.succ_mul]; exact Nat.mul_le_mul_right _ hi
    omega
  rw [Array.getElem?_append_left (by simpa [Builtin.zeroCells] using h1)]
  simp only [Builtin.zeroCells, Array.getElem?_map, Array.getElem?_range, h1, if_true, Option.map_some]
  rw [Nat.mul_comm, Nat.mul_add_mod, Nat.mod_eq_of_lt hj]
  simp [hj]
theorem sapp {id N x l t1 t2 t3 T Tn e : Nat} {z : Array Value} {ty1 ty2 ty3 ty4 : TypeId} {p1 p2 p3 p4 : String} {e1 e2 e3 e4 : Array Edge} (hT : sliceOf Try.prog T = some e) (hTn : Try.prog.underlying Tn = some (.int .i32))
    (hz : zeroIs Try.prog e = some z) (hn : [t1, t2, t3, x].all (· < N) = true) (hd : decide (t1 ≠ t2 ∧ t1 ≠ l) = true) :
    SApp N x l z (Code.region id #[⟨some t1, .move (.tmp x), ty1, p1, e1, none⟩, ⟨some t2, .move (.tmp l), ty2, p2, e2, none⟩, ⟨some t3, .call { callee := .builtin .append, args := #[.tmp t1, .tmp t2], argTypes := #[T, Tn] }, ty3, p3, e3, none⟩,
      ⟨some x, .assign (.tmp t3), ty4, p4, e4, none⟩] false) := by
  intro a w Q n hN hx hl h0 h31 hq
  obtain ⟨i, zv, hi, hzv, hzc, hsz, hby, hpos⟩ := zeroIs_ok hz
  simp only [List.all_cons, List.all_nil, Bool.and_true, Bool.and_eq_true, decide_eq_true_eq] at hn hd
  have h48 : n * i.bytes ≤ 281474976710656 := Nat.le_trans (Nat.mul_le_mul h31 hby) (by decide)
  have hr := Lib.run_append_nil_zeros (P := Try.prog) w T Tn ty3 e i zv .i32 .i32 (sliceOf_ok hT) hTn hi hzv n h0 hpos (by omega) h48
  refine reg_append0 (by omega) (by omega) (by omega) (by omega) hd.1 hd.2 (by rw [hx, hl]; exact hr) fun a' hu hs => ?_
  refine hq a' _ _ _ e hu hs rfl rfl rfl rfl ?_ ?_
  · rw [hzc]; simp [Builtin.zeroCells]
  · intro i j hi hj; rw [hzc]; exact zeroCells_at hi hj
end Go.Proofs.Ytbogepbfbplndaa
/-
  Lists, read: the whole code of a list; its elements. Conditions: none.
-/
namespace Go.Proofs.Ytbogepbfbplndaa
open Go.RowKit (Below)
open Kz

section
variable {tags : Rel (List (Nat × List UInt8))} {E : RE} {v : Int} {flex ht : Bool}

theorem mem_writes_seq {a b : Code} {t : Nat} : t ∈ writes (a.seq b) ↔ t ∈ writes a ∨ t ∈ writes b := by simp [writes]
theorem writes_cond {x : Operand} {a b : Code} : writes (Code.cond x a b) = writes a ++ writes b := rfl
theorem clear_seq {l : List Nat} {a b : Code} : clear l (a.seq b) = true ↔ clear l a = true ∧ clear l b = true := by
  simp only [clear, List.all_eq_true, Bool.not_eq_true', List.contains_eq_mem, decide_eq_false_iff_not, mem_writes_seq, not_or]
  exact ⟨fun h => ⟨fun t ht => (h t ht).1, fun t ht => (h t ht).2⟩, fun h t ht => ⟨h.1 t ht, h.2 t ht⟩⟩
theorem clear_cond {l : List Nat} {x : Operand} {a b : Code} : clear l (Code.cond x a b) = true ↔ clear l a = true ∧ clear l b = true := by
  simp only [clear, List.all_eq_true, Bool.not_eq_true', List.contains_eq_mem, decide_eq_false_iff_not, writes, List.mem_append, not_or]
  exact ⟨fun h => ⟨fun t ht => (h t ht).1, fun t ht => (h t ht).2⟩, fun h t ht => ⟨h.1 t ht, h.2 t ht⟩⟩
theorem upd_of {a a' : Act} {c : Code} {l : List Nat} (hu : Upd a a' (writes c)) (hc : clear l c = true) : ∀ t ∈ l, sl a' t = sl a t := fun t ht => hu.same t (clear_iff hc t ht)

theorem rdLen_le (flex : Bool) (st : St) : (rdLen flex st).1 ≤ 2147483647 := by
  have h0 : (rdLen0 flex st).1 ≤ 2147483647 := by
    unfold rdLen0
    split
    · simp only [wrap32]; omega
    · exact (rdI4_b st).2
  unfold rdLen
  cases h : (rdLen0 flex st).2 with
  | none => exact h0
  | some bs =>
    simp only [chkLen]
    split
    · simp
    · exact h0

/-- The element's part of a list. -/
abbrev elR (tags : Rel (List (Nat × List UInt8))) (v : Int) (flex ht : Bool) (of : Nat) (sub : List F) : Rel T := valRep false of (repP tags v flex ht sub)
abbrev elG (v : Int) (flex : Bool) (of : Nat) (sub : List F) : St → T × St := valR of (rdPart v flex sub) false flex
def elIni (ht : Bool) (of : Nat) (sub : List F) (c : Cells) : Prop := of = 10 → iniFs ht sub c
theorem elIni_loc (ht : Bool) (of : Nat) (sub : List F) : ∀ c c' : Cells, (∀ j, j < valCells of (cellsP ht sub) → c' j = c j) → elIni ht of sub c → elIni ht of sub c' := by
  intro c c' hc h h10
  refine ini_locFs ht sub c c' (fun j hj => hc j ?_) (h h10)
  subst h10
  simp only [valCells, cellsP]
  simp
  omega
theorem elG_strict (v : Int) (flex : Bool) (of : Nat) (sub : List F) : Strict (elG v flex of sub) := by
  refine strict_valR _ _ _ _ ?_
  have h := strict_rd v flex (.mk 10 0 0 (-1) 0 0 0 sub)
  have e : rd v flex (.mk 10 0 0 (-1) 0 0 0 sub) = rdPart v flex sub := by
    funext st
    simp [rd, fieldR, valR, rdPart]
  rw [e] at h
  exact h
theorem elR_stable (htg : flex = true → ht = true) (hT : Stable 1 tags) (of : Nat) (sub : List F) : Stable (valCells of (cellsP ht sub)) (elR tags v flex ht of sub) := by
  have := stable_val (ptr := false) (kind := of) (stable_repP htg hT (v := v) sub)
  simpa [fieldCells] using this

end
end Go.Proofs.Ytbogepbfbplndaa
/-
  Elements of lists; tags; the end of a function that reads. Conditions: none.
-/
namespace Go.Proofs.Ytbogepbfbplndaa
open Go.RowKit (Below)
open Kz

section
variable {tags : Rel (List (Nat × List UInt8))} {E : RE} {v : Int} {flex ht : Bool}

/-- 'Default' of a part: it sets cells of the part alone, and lets nil lists nil. -/
def DefOk (f sz : Nat) (ini : Cells → Prop) : Prop :=
  hasBody Try.prog f = true ∧ ∀ (w : World) (G p : Nat) (cells : Array Value) (Ty : TypeId), w.heap[G]? = some (.cells cells Ty (0, 0)) → p + sz ≤ cells.size → ini (fun j => cells[p + j]?) →
    Calls Try.prog f #[.pointer (some ⟨G, p, none⟩)] w fun e w' => (∃ u, e = .returned u) ∧ w.grownBy w' (some G) ∧ ∃ cells', w'.heap[G]? = some (.cells cells' Ty (0, 0)) ∧ cells'.size = cells.size ∧ (∀ i, (i < p ∨ p + sz ≤ i) → cells'[i]? = cells[i]?) ∧ ini (fun j => cells'[p + j]?)

def SIndex (N x i d sz : Nat) (c : Code) : Prop := ∀ (a : Act) (w : World) (Q : Exit → Act → World → Prop) (g o n m j : Nat), a.tmps.size = N → sl a x = .slice (some ⟨g, o, none⟩) n m → sl a i = .int .i32 (j : Int) → j < n →
  (∀ a', Upd a a' (writes c) → sl a' d = .pointer (some ⟨g, o + j * sz, none⟩) → Q .normal a' w) → c.wp Try.prog Q a w
def SDefault (N x sz : Nat) (ini : Cells → Prop) (c : Code) : Prop := ∀ (a : Act) (w : World) (Q : Exit → Act → World → Prop) (G p : Nat) (cells : Array Value) (Ty : TypeId), a.tmps.size = N → sl a x = .pointer (some ⟨G, p, none⟩) →
  w.heap[G]? = some (.cells cells Ty (0, 0)) → p + sz ≤ cells.size → ini (fun j => cells[p + j]?) →
  (∀ a' w' cells', Upd a a' (writes c) → w.grownBy w' (some G) → w'.heap[G]? = some (.cells cells' Ty (0, 0)) → cells'.size = cells.size → (∀ i, (i < p ∨ p + sz ≤ i) → cells'[i]? = cells[i]?) → ini (fun j => cells'[p + j]?) → Q .normal a' w') → c.wp Try.prog Q a w
def SStoreIdx (N x i y sz : Nat) (c : Code) : Prop := ∀ (a : Act) (w : World) (Q : Exit → Act → World → Prop) (g o n m j : Nat) (u : Value), a.tmps.size = N → sl a x = .slice (some ⟨g, o, none⟩) n m → sl a i = .int .i32 (j : Int) → j < n → (sl a y).oneCell' = true →
  w.cell? ⟨g, o + j * sz, none⟩ = some u → w.frozen? ⟨g, o + j * sz, none⟩ = false → (∀ a', Upd a a' (writes c) → Q .normal a' (w.setCell ⟨g, o + j * sz, none⟩ (sl a y))) → c.wp Try.prog Q a w

theorem sindex {id N x i d t1 t2 t3 T e sz : Nat} {ty1 ty2 ty3 ty4 : TypeId} {p1 p2 p3 p4 : String} {e1 e2 e3 e4 : Array Edge} (hT : sliceOf Try.prog T = some e) (hs : sizeIs Try.prog e sz = true) (hn : [t1, t2, t3, d].all (· < N) = true) (hd : decide (t1 ≠ t2 ∧ t1 ≠ i) = true) :
    SIndex N x i d sz (Code.region id #[⟨some t1, .move (.tmp x), ty1, p1, e1, none⟩, ⟨some t2, .move (.tmp i), ty2, p2, e2, none⟩, ⟨some t3, .indexAddr T (.tmp t1) (.tmp t2), ty3, p3, e3, none⟩, ⟨some d, .assign (.tmp t3), ty4, p4, e4, none⟩] false) := by
  intro a w Q g o n m j hN hx hi hj hq
  obtain ⟨i', hi', hs'⟩ := sizeIs_ok hs
  simp only [List.all_cons, List.all_nil, Bool.and_true, Bool.and_eq_true, decide_eq_true_eq] at hn hd
  exact reg_index (indexOff_of (sliceOf_ok hT) hi' hs') (by omega) (by omega) (by omega) (by omega) hd.1 hd.2 hx hi hj hq
theorem sdefault {id N x f d1 d2 sz : Nat} {ini : Cells → Prop} {tys : Array TypeId} {ty1 ty2 : TypeId} {p1 p2 : String} {e1 e2 : Array Edge} (hf : DefOk f sz ini) (hn : [d1].all (· < N) = true) :
    SDefault N x sz ini (Code.region id #[⟨some d1, .move (.tmp x), ty1, p1, e1, none⟩, ⟨some d2, .call { callee := .value (.func f), args := #[.tmp d1], argTypes := tys }, ty2, p2, e2, none⟩] false) := by
  intro a w Q G p cells Ty hN hx hrow hfit hini hq
  simp only [List.all_cons, List.all_nil, Bool.and_true, decide_eq_true_eq] at hn
  obtain ⟨fn, hfn, hb, hnn⟩ := hasBody_ok hf.1
  refine reg_callp hfn hb hnn (by omega) ?_
  rw [hx]
  refine Calls.mono (hf.2 w G p cells Ty hrow hfit hini) ?_
  rintro e w' ⟨hv, hg, cells', h1, h2, h3, h4⟩
  exact ⟨hv, fun a' hu => hq a' w' cells' hu hg h1 h2 h3 h4⟩
theorem sstoreIdx {id N x i y t1 t2 t3 t4 T e sz ty : Nat} {ty1 ty2 ty3 ty4 ty5 : TypeId} {p1 p2 p3 p4 p5 : String} {e1 e2 e3 e4 e5 : Array Edge} (hT : sliceOf Try.prog T = some e) (hs : sizeIs Try.prog e sz = true) (hty : sizeIs Try.prog ty 1 = true)
    (hn : [t1, t2, t3, t4].all (· < N) = true) (hd : decide ([y, i, t1, t2, t3, t4].Nodup) = true) :
    SStoreIdx N x i y sz (Code.region id #[⟨some t1, .move (.tmp x), ty1, p1, e1, none⟩, ⟨some t2, .move (.tmp i), ty2, p2, e2, none⟩, ⟨some t3, .move (.tmp y), ty3, p3, e3, none⟩, ⟨some t4, .indexAddr T (.tmp t1) (.tmp t2), ty4, p4, e4, none⟩,
      ⟨none, .store ty (.tmp t4) (.tmp t3), ty5, p5, e5, none⟩] false) := by
  intro a w Q g o n m j u hN hx hi hj ho hc hfz hq
  obtain ⟨i', hi', hs'⟩ := sizeIs_ok hs
  simp only [List.all_cons, List.all_nil, Bool.and_true, Bool.and_eq_true, decide_eq_true_eq] at hn
  exact reg_storeIdx (indexOff_of (sliceOf_ok hT) hi' hs') (store1_ok hty ho) (by omega) (by omega) (by omega) (by omega) (of_decide_eq_true hd) hx hi hj rfl hc hfz hq

end
end Go.Proofs.Ytbogepbfbplndaa
/-
  Unknown tags in memory; setting one; reading them. Conditions: none.
-/
namespace Go.Proofs.Ytbogepbfbplndaa
open Go.RowKit (Below)
open Kz

/-- A value as it is. -/
def heldR (v : Value) : Option (DataW Value × List MemPlace) := some (.held v, [])
abbrev tagDs (l : List (Nat × Value)) : List (Lit × DataW Value) := l.map fun x => (Lit.int .u32 (x.1 : Int), DataW.held x.2)
/-- Keys that rise. -/
def Rising : List (Nat × Value) → Prop := List.Pairwise (fun x y => x.1 < y.1)
def putV (k : Nat) (v : Value) : List (Nat × Value) → List (Nat × Value)
  | [] => [(k, v)]
  | (j, w) :: r => if j < k then (j, w) :: putV k v r else if j = k then (k, v) :: r else (k, v) :: (j, w) :: r

theorem putV_keys (k : Nat) (v : Value) : ∀ (l : List (Nat × Value)) (x : Nat × Value), x ∈ putV k v l → x = (k, v) ∨ x ∈ l
  | [], x, h => by simp [putV] at h; exact .inl h
  | (j, w) :: r, x, h => by
    simp only [putV] at h
    split at h
    · simp only [List.mem_cons] at h ⊢
      rcases h with h | h
      · exact .inr (.inl h)
      · exact (putV_keys k v r x h).imp id .inr
    · split at h
      · simp only [List.mem_cons] at h ⊢
        rcases h with h | h
        · exact .inl h
        · exact .inr (.inr h)
      · simp only [List.mem_cons] at h ⊢
        exact h
theorem putV_rising (k : Nat) (v : Value) : ∀ (l : List (Nat × Value)), Rising l → Rising (putV k v l)
  | [], _ => by simp [putV, Rising]
  | (j, w) :: r, h => by
    obtain ⟨h1, h2⟩ := List.pairwise_cons.1 h
    simp only [putV]
    split
    · rename_i hj
      refine List.pairwise_cons.2 ⟨fun x hx => ?_, putV_rising k v r h2⟩
      rcases putV_keys k v r x hx with rfl | hx
      · exact hj
      · exact h1 x hx
    · split
      · rename_i hj hk
        subst hk
        exact List.pairwise_cons.2 ⟨h1, h2⟩
      · rename_i hj hk
        refine List.pairwise_cons.2 ⟨fun x hx => ?_, h⟩
        simp only [List.mem_cons] at hx
        rcases hx with rfl | hx
        · show k < j; omega
        · have : j < x.1 := h1 x hx
          show k < x.1
          omega
theorem same_int (a b : Nat) : (Lit.int .u32 (a : Int)).sameKey (Lit.int .u32 (b : Int)) = decide (a = b) := by
  simp [Lit.sameKey]
  by_cases h : a = b
  · simp [h]
  · have : ¬ ((a : Int) = b) := by omega
    simp [h, this]
theorem before_int (a b : Nat) : (Lit.int .u32 (a : Int)).before (Lit.int .u32 (b : Int)) = decide (a < b) := by
  simp [Lit.before]
theorem filter_above (k : Nat) : ∀ (l : List (Nat × Value)), (∀ x ∈ l, k < x.1) → (tagDs l).filter (fun p => !p.1.sameKey (Lit.int .u32 (k : Int))) = tagDs l := by
  intro l h
  rw [List.filter_eq_self]
  intro p hp
  simp only [tagDs, List.mem_map] at hp
  obtain ⟨x, hx, rfl⟩ := hp
  have := h x hx
  simp only [same_int, Bool.not_eq_true', decide_eq_false_iff_not]
  omega
/-- What is set in a map is set in its reading. -/
theorem put_tags (k : Nat) (v : Value) : ∀ (l : List (Nat × Value)), Rising l → DataW.insert (Lit.int .u32 (k : Int), DataW.held v) ((tagDs l).filter fun p => !p.1.sameKey (Lit.int .u32 (k : Int))) = tagDs (putV k v l)
  | [], _ => rfl
  | (j, w) :: r, h => by
    obtain ⟨h1, h2⟩ := List.pairwise_cons.1 h
    have ih := put_tags k v r h2
    simp only [tagDs, List.map_cons, List.filter_cons, same_int, putV] at ih ⊢
    by_cases hjk : j = k
    · subst hjk
      have hf := filter_above j r (fun x hx => h1 x hx)
      simp only [tagDs] at hf
      simp only [decide_true, Bool.not_true, Bool.false_eq_true, if_false, Nat.lt_irrefl, if_true, hf, List.map_cons]
      cases r with
      | nil => rfl
      | cons y r' =>
        have : j < y.1 := h1 y (by simp)
        simp only [List.map_cons, DataW.insert, before_int, this, decide_true, if_true]
    · simp only [hjk, decide_false, Bool.not_false, if_true]
      by_cases hlt : j < k
      · have : ¬ k < j := by omega
        simp only [DataW.insert, before_int, this, decide_false, Bool.false_eq_true, if_false, hlt, if_true, List.map_cons, ih]
      · have hkj : k < j := by omega
        have hf := filter_above k r (fun x hx => by have := h1 x hx; show k < x.1; exact Nat.lt_trans hkj this)
        simp only [tagDs] at hf
        simp only [DataW.insert, before_int, hkj, decide_true, if_true, hlt, if_false, List.map_cons, hf]

/-- A variable of tags. -/
def TagSt (w : World) (base tb n : Nat) (l : List (Nat × Value)) : Prop :=
  base ≤ tb ∧ Rising l ∧ ∃ r, w.heap[tb]? = some (.cells #[.map r] 52 (0, 0)) ∧
    match r with
    | none => l = []
    | some b => base ≤ b ∧ b ≠ tb ∧ w.ownsMap Try.prog 64 heldR b n (.map (tagDs l))

theorem keyed32 : Maps.Keyed Try.prog 64 := Maps.int_keyed Try.underlying64
theorem TagSt.rows {w : World} {base tb n : Nat} {l : List (Nat × Value)} (h : TagSt w base tb n l) : ∃ r, w.cell? ⟨tb, 0, none⟩ = some (.map r) ∧ w.frozen? ⟨tb, 0, none⟩ = false := by
  obtain ⟨-, -, r, hr, -⟩ := h
  exact ⟨r, by rw [cell_of_row w tb 0 _ _ _ hr]; rfl, by simp [World.frozen?, hr]⟩

theorem key_ok {k : Nat} (hk : k < 4294967296) : keyOf Try.prog 64 (.int .u32 (k : Int)) = some (Lit.int .u32 (k : Int)) :=
  Maps.keyOf_int_mk Try.underlying64 (by simp [Lit.wf, IntKind.min, IntKind.max, IntKind.bits, IntKind.signed]; omega)

theorem MapKept_old (w : World) (o : Obj) (g : Nat) (h : g < w.heap.size) : (w.alloc o).heap[g]? = w.heap[g]? := by
  simp only [World.alloc, Array.getElem?_push]
  rw [if_neg (by omega)]
/-- A fact that the walk is not to look at. -/
structure Box (p : Prop) : Prop where
  get : p

end Go.Proofs.Ytbogepbfbplndaa
/-
  Unknown tags, read. Conditions: none.
-/
namespace Go.Proofs.Ytbogepbfbplndaa
open Go.RowKit (Below)
open Kz

/-- Tags and what they hold. -/
def TagsAt (w : World) (S : Nat → Prop) : List (Nat × Value) → List (Nat × List UInt8) → Prop
  | [], [] => True
  | (k, v) :: l, (j, b) :: u => k = j ∧ BytesAt w S v b ∧ TagsAt w S l u
  | _, _ => False
theorem tagsAt_put {w : World} {S : Nat → Prop} (k : Nat) {v : Value} {b : List UInt8} (hv : BytesAt w S v b) : ∀ (l : List (Nat × Value)) (u : List (Nat × List UInt8)), TagsAt w S l u → TagsAt w S (putV k v l) (setTag k b u)
  | [], [], _ => ⟨rfl, hv, trivial⟩
  | [], _ :: _, h => h.elim
  | _ :: _, [], h => h.elim
  | (j, x) :: l, (j', y) :: u, h => by
    obtain ⟨rfl, h2, h3⟩ := h
    simp only [putV, setTag]
    split
    · exact ⟨rfl, h2, tagsAt_put k hv l u h3⟩
    · split
      · exact ⟨rfl, hv, h3⟩
      · exact ⟨rfl, hv, rfl, h2, h3⟩
theorem tagsAt_kept {w w' : World} {K K' : Nat → Prop} (hk : ∀ g, K g → g < w.heap.size → w'.heap[g]? = w.heap[g]?) (hs : w.heap.size ≤ w'.heap.size) (hK : ∀ g, K g → K' g) : ∀ (l : List (Nat × Value)) (u : List (Nat × List UInt8)), TagsAt w K l u → TagsAt w' K' l u
  | [], [], _ => trivial
  | [], _ :: _, h => h.elim
  | _ :: _, [], h => h.elim
  | (_, _) :: l, (_, _) :: u, h => ⟨h.1, stable_bytes hk hs hK h.2.1, tagsAt_kept hk hs hK l u h.2.2⟩

/-- Unknown tags in a cell. -/
def TagRep : Rel (List (Nat × List UInt8)) := fun w K c u =>
  ∃ r, c 0 = some (.map r) ∧ match r with
    | none => u = []
    | some b => K b ∧ ∃ l n, Rising l ∧ w.ownsMap Try.prog 64 heldR b n (.map (tagDs l)) ∧ n ≤ 4294967296 ∧ TagsAt w K l u
theorem ownsMap_block {w w' : World} {b n : Nat} {D : DataW Value} (h : w.ownsMap Try.prog 64 heldR b n D) (hb : w'.heap[b]? = w.heap[b]?) : w'.ownsMap Try.prog 64 heldR b n D := by
  obtain ⟨es, clock, h1, h2⟩ := h
  exact ⟨es, clock, hb.trans h1, h2⟩
theorem stable_tagRep : Stable 1 TagRep := by
  intro w w' K K' c c' u hk hs hK hc h
  obtain ⟨r, h1, h2⟩ := h
  refine ⟨r, (hc 0 (by omega)).trans h1, ?_⟩
  cases r with
  | none => exact h2
  | some b =>
    obtain ⟨hb, l, n, h3, h4, h5, h6⟩ := h2
    exact ⟨hK b hb, l, n, h3, ownsMap_block h4 (hk b hb h4.lt), h5, tagsAt_kept hk hs hK l u h6⟩

theorem TagSt.kept {w w' : World} {base tb n : Nat} {l : List (Nat × Value)} {rb : Nat} (h : TagSt w base tb n l) (hg : w.grownBy w' (some rb)) (hrb : rb < base) : TagSt w' base tb n l := by
  obtain ⟨hb, hl, r, hr, hm⟩ := h
  refine ⟨hb, hl, r, ?_, ?_⟩
  · rw [hg.block tb (Array.getElem?_eq_some_iff.1 hr).1 (fun e => by have := Option.some.inj e; omega)]; exact hr
  · cases r with
    | none => exact hm
    | some b => exact ⟨hm.1, hm.2.1, ownsMap_block hm.2.2 (hg.block b hm.2.2.lt (fun e => by have := Option.some.inj e; omega))⟩

theorem alloc_new (w : World) (o : Obj) : (w.alloc o).heap[w.heap.size]? = some o := by
  show (w.heap.push o)[w.heap.size]? = _
  simp
theorem results_cell1 {fn : Func} {p : Tmp} {ty : TypeId} (h : fn.results = #[.cell p ty]) (tmps : Array Value) (P : Program) (w : World) :
    (results fn tmps).run P w = ((asAddr (tmps.getD p undef)).run P w).andThen fun a w₁ => (loadVar ty a).run P w₁ := by
  simp only [results, h]
  simp [Sem.run_bind, Result.andThen]
/-- The number that a slot holds. -/
def cntOf (a : Act) : Nat := match (a.tmps[4]? : Option Value) with | some (Value.int _ n) => n.toNat | _ => 0
end Go.Proofs.Ytbogepbfbplndaa
/-
  The tags of a part; the end of a function that reads. Conditions: none.
-/
namespace Go.Proofs.Ytbogepbfbplndaa
open Go.RowKit (Below)
open Kz

section
variable {E : RE} {v : Int} {flex ht : Bool}

/-- Has a list of fields tags of its own? -/
def noTag (fs : List F) : Bool := fs.all fun f => decide (f.tag < 0)
theorem findTag_none {fs : List F} (h : noTag fs = true) (key : Nat) : ∀ (gs : List (St → T × St)), findTag key fs gs = none := by
  induction fs with
  | nil => intro gs; cases gs <;> rfl
  | cons f fs ih =>
    intro gs
    simp only [noTag, List.all_cons, Bool.and_eq_true, decide_eq_true_eq] at h
    cases gs with
    | nil => rfl
    | cons g gs =>
      simp only [findTag]
      rw [if_neg (by omega), ih h.2 gs]
      rfl
theorem tagsR_utags {fs : List F} (h : noTag fs = true) (gs : List (St → T × St)) : ∀ (n : Nat) (ts : List T) (u : List (Nat × List UInt8)) (st : St), tagsR fs gs n (ts, u, st) = (ts, (utags n (u, st)).1, (utags n (u, st)).2)
  | 0, _, _, _ => rfl
  | n + 1, ts, u, st => by
    have e : tagR fs gs (ts, u, st) = (ts, (utag (u, st)).1, (utag (u, st)).2) := by
      simp only [tagR, findTag_none h, utag]
    simp only [tagsR, utags]
    rw [e, tagsR_utags h gs n]
end

/-! ## The end of a function -/
section
variable {E : RE} {v : Int} {flex ht : Bool}
end
end Go.Proofs.Ytbogepbfbplndaa
/-
  A whole function that reads. Conditions: none.
-/
namespace Go.Proofs.Ytbogepbfbplndaa
open Go.RowKit (Below)
open Kz

section
variable (tags : Rel (List (Nat × List UInt8))) (E : RE) (v : Int) (flex ht : Bool)
end

section
variable {tags : Rel (List (Nat × List UInt8))} {E : RE} {v : Int} {flex ht : Bool}

end

/-! ## The head of a function -/
def SMove (N : Nat) (c : Code) : Prop := ∀ (a : Act) (w : World) (Q : Exit → Act → World → Prop), a.tmps.size = N → (∀ a', Upd a a' (writes c) → Q .normal a' w) → c.wp Try.prog Q a w
def SCmpV (N x d : Nat) (k : Int) (c : Code) : Prop := ∀ (a : Act) (w : World) (Q : Exit → Act → World → Prop) (v : Int), a.tmps.size = N → sl a x = .int .i16 v → (∀ a', Upd a a' (writes c) → sl a' d = .bool (decide (k ≤ v)) → Q .normal a' w) → c.wp Try.prog Q a w

theorem smove {id N t x : Nat} {ty : TypeId} {p : String} {e : Array Edge} (hn : [t].all (· < N) = true) : SMove N (Code.region id #[⟨some t, .move (.tmp x), ty, p, e, none⟩] false) := by
  intro a w Q hN hq
  simp only [List.all_cons, List.all_nil, Bool.and_true, decide_eq_true_eq] at hn
  exact reg_move (by omega) fun a' hu _ => hq a' hu
theorem scmpV {id N x t1 t2 d : Nat} {k : Int} {T T' ty1 ty2 ty3 : TypeId} {p1 p2 p3 : String} {e1 e2 e3 : Array Edge} (hn : [t1, t2, d].all (· < N) = true) :
    SCmpV N x d k (Code.region id #[⟨some t1, .move (.tmp x), ty1, p1, e1, none⟩, ⟨some t2, .binOp .geq T (.tmp t1) (.const (.int .i16 k)) T', ty2, p2, e2, none⟩, ⟨some d, .assign (.tmp t2), ty3, p3, e3, none⟩] false) := by
  intro a w Q v hN hx hq
  simp only [List.all_cons, List.all_nil, Bool.and_true, Bool.and_eq_true, decide_eq_true_eq] at hn
  exact reg_cmp_to (r := decide (k ≤ v)) (by omega) (by omega) (by omega) (fun y z => eqGuard_geq ..) (by rw [hx]; exact binOp_geq ..) hq

/-- 'Default' of the whole struct. -/
def iniM (ht : Bool) (v : Int) (fs : List F) (c : Cells) : Prop := c 0 = some (.int .i16 v) ∧ iniFs ht fs (fun j => c (1 + j))

section
variable {tags : Rel (List (Nat × List UInt8))} {m : M} {ht : Bool}
end
end Go.Proofs.Ytbogepbfbplndaa
/-
  'Default' of a part: empty, or some fields set. Conditions: none.
-/
namespace Go.Proofs.Ytbogepbfbplndaa
open Go.RowKit (Below)
open Kz

theorem defOk_skip {f sz : Nat} {ini : Cells → Prop} {fn : Func} (hf : Try.prog.funcs[f]? = some fn) (hb : fn.body = some Code.skip) (hr : fn.results = #[]) (hg : hasBody Try.prog f = true) : DefOk f sz ini := by
  refine ⟨hg, fun w G p cells Ty hrow hfit hini => ?_⟩
  refine calls_of_wp hf hb (wp_skip ?_)
  exact ⟨rfl, .tuple #[], results_none hr _ _ _, ⟨_, rfl⟩, grownBy_refl _ _, cells, hrow, rfl, fun _ _ => rfl, hini⟩

/-! ## Fields whose reading looks at 'isFlexible' -/
section
variable {tags : Rel (List (Nat × List UInt8))} {E : RE} {v : Int} {flex ht : Bool}
end
end Go.Proofs.Ytbogepbfbplndaa
/-
  'Default' of a part that sets fields; a new message. Conditions: none.
-/
namespace Go.Proofs.Ytbogepbfbplndaa
open Go.RowKit (Below)
open Kz

/-- Cells set, one behind the other. -/
def setArr (z : Array Value) (p : Nat) : List (Nat × Value) → Array Value
  | [] => z
  | (i, u) :: r => setArr (z.setIfInBounds (p + i) u) p r
def setMany (w : World) (G p : Nat) : List (Nat × Value) → World
  | [] => w
  | (i, u) :: r => setMany (w.setCell ⟨G, p + i, none⟩ u) G p r
theorem setMany_append (G p : Nat) : ∀ (l r : List (Nat × Value)) (w : World), setMany w G p (l ++ r) = setMany (setMany w G p l) G p r
  | [], _, _ => rfl
  | (_, _) :: l, r, _ => setMany_append G p l r _
theorem setMany_row (G p : Nat) : ∀ (l : List (Nat × Value)) (w : World) (cells : Array Value) (Ty : TypeId) (fr : Nat × Nat), w.heap[G]? = some (.cells cells Ty fr) → (setMany w G p l).heap[G]? = some (.cells (setArr cells p l) Ty fr)
  | [], _, _, _, _, h => h
  | (_, _) :: l, _, _, Ty, fr, h => setMany_row G p l _ _ Ty fr (heap_setCell_row h)
theorem setArr_size (p : Nat) : ∀ (l : List (Nat × Value)) (z : Array Value), (setArr z p l).size = z.size
  | [], _ => rfl
  | (i, u) :: l, z => by rw [setArr, setArr_size p l]; simp
theorem setArr_other (p k : Nat) : ∀ (l : List (Nat × Value)) (z : Array Value), (∀ x ∈ l, p + x.1 ≠ k) → (setArr z p l)[k]? = z[k]?
  | [], _, _ => rfl
  | (i, u) :: l, z, h => by
    rw [setArr, setArr_other p k l _ fun x hx => h x (List.mem_cons_of_mem _ hx)]
    rw [Array.getElem?_setIfInBounds_ne (h (i, u) (by simp))]
theorem setMany_shift (G p o : Nat) : ∀ (l : List (Nat × Value)) (w : World), setMany w G (p + o) l = setMany w G p (l.map fun x => (o + x.1, x.2))
  | [], _ => rfl
  | (i, u) :: l, w => by
    simp only [setMany, List.map_cons, Nat.add_assoc]
    exact (by have := setMany_shift G p o l (w.setCell ⟨G, p + (o + i), none⟩ u); simpa [Nat.add_assoc] using this)
theorem setMany_grown (G p : Nat) : ∀ (l : List (Nat × Value)) (w : World), w.grownBy (setMany w G p l) (some G)
  | [], w => grownBy_refl w _
  | (_, _) :: l, w => grownBy_trans (grown_setCell (grownBy_refl w _) _ _) (setMany_grown G p l _)

def DS (N sp sz : Nat) (sets : List (Nat × Value)) (c : Code) : Prop := ∀ (a : Act) (w : World) (Q : Exit → Act → World → Prop) (G p : Nat) (cells : Array Value) (Ty : TypeId), a.tmps.size = N → sl a sp = .pointer (some ⟨G, p, none⟩) → w.heap[G]? = some (.cells cells Ty (0, 0)) → p + sz ≤ cells.size →
  (∀ a', Upd a a' (writes c) → Q .normal a' (setMany w G p sets)) → c.wp Try.prog Q a w
/-- 's.F = constant'. -/
theorem DS.store {id N sp sz off t1 t2 t3 T k ty : Nat} {u : Value} {y1 y2 y3 y4 : TypeId} {p1 p2 p3 p4 : String} {e1 e2 e3 e4 : Array Edge} (hf : offOf Try.prog T k = some off) (hty : sizeIs Try.prog ty 1 = true) (hu : u.oneCell' = true) (ho : decide (off < sz) = true) (hn : [t1, t2, t3].all (· < N) = true) :
    DS N sp sz [(off, u)] (Code.region id #[⟨some t1, .move (.tmp sp), y1, p1, e1, none⟩, ⟨some t2, .nilCheck (.tmp t1), y2, p2, e2, none⟩, ⟨some t3, .fieldAddr T (.tmp t2) k, y3, p3, e3, none⟩, ⟨none, .store ty (.tmp t3) (.const u), y4, p4, e4, none⟩] false) := by
  intro a w Q G p cells Ty hN hsp hrow hfit hq
  simp only [List.all_cons, List.all_nil, Bool.and_true, Bool.and_eq_true, decide_eq_true_eq] at hn
  have ho' := of_decide_eq_true ho
  have hlt : p + off < cells.size := by omega
  refine wp_region_lit (st_move (st_nil (p := ⟨G, p, none⟩) ?_ (st_field (b := G) (o := p) (fieldOff_ok hf) ?_ (st_store (b := G) (o := p + off) (u := cells[p + off]) (v := u) ?_ rfl (store1_ok hty hu) ?_ ?_ (wpList_nil (hq _ ?_))))))
  · rw [eval_tmp, sl_put_self _ _ _ (by omega), eval_tmp, hsp]
  · rw [eval_tmp, sl_put_self _ _ _ (by simp only [put_size]; omega)]
  · rw [eval_tmp, sl_put_self _ _ _ (by simp only [put_size]; omega)]
  · rw [cell_of_row w G (p + off) _ _ _ hrow]; simp [hlt]
  · simp [World.frozen?, hrow]
  · exact (((Upd.refl a _).put t1 _ (by simp [writes])).put t2 _ (by simp [writes])).put t3 _ (by simp [writes])
theorem DS.skip {N sp sz : Nat} : DS N sp sz [] Code.skip := fun a _ _ _ _ _ _ _ _ _ _ hq => wp_skip (hq a (Upd.refl _ _))
theorem DS.seq {N sp sz : Nat} {s1 s2 : List (Nat × Value)} {c1 c2 : Code} (h1 : DS N sp sz s1 c1) (h2 : DS N sp sz s2 c2) (hcl : clear [sp] c1 = true) : DS N sp sz (s1 ++ s2) (c1.seq c2) := by
  intro a w Q G p cells Ty hN hsp hrow hfit hq
  have hc := clear_iff hcl
  refine wp_seq (h1 a w _ G p cells Ty hN hsp hrow hfit fun a1 u1 => ?_)
  refine h2 a1 _ Q G p _ Ty (u1.size.trans hN) ((u1.same _ (hc _ (by simp))).trans hsp) (setMany_row G p s1 w cells Ty (0, 0) hrow) (by rw [setArr_size]; exact hfit) fun a2 u2 => ?_
  rw [← setMany_append]
  exact hq a2 ((u1.mono fun t ht => List.mem_append_left _ ht).trans (u2.mono fun t ht => List.mem_append_right _ ht))
/-- 'v := &s.F; _ = v; ..'. -/
theorem DS.sub {id id2 N sp s sz sz' off t1 t2 t3 t4 T k : Nat} {sets : List (Nat × Value)} {y1 y2 y3 y4 y5 : TypeId} {p1 p2 p3 p4 p5 : String} {e1 e2 e3 e4 e5 : Array Edge} {c : Code} (hf : offOf Try.prog T k = some off) (ho : decide (off + sz' ≤ sz) = true) (hn : [t1, t2, t3, s, t4].all (· < N) = true) (hts : decide (t4 ≠ s) = true)
    (h : DS N s sz' sets c) :
    DS N sp sz (sets.map fun x => (off + x.1, x.2)) ((Code.region id #[⟨some t1, .move (.tmp sp), y1, p1, e1, none⟩, ⟨some t2, .nilCheck (.tmp t1), y2, p2, e2, none⟩, ⟨some t3, .fieldAddr T (.tmp t2) k, y3, p3, e3, none⟩, ⟨some s, .assign (.tmp t3), y4, p4, e4, none⟩] false).seq
      ((Code.region id2 #[⟨some t4, .move (.tmp s), y5, p5, e5, none⟩] false).seq c)) := by
  intro a w Q G p cells Ty hN hsp hrow hfit hq
  simp only [List.all_cons, List.all_nil, Bool.and_true, Bool.and_eq_true, decide_eq_true_eq] at hn
  have ho' := of_decide_eq_true ho
  have hts' := of_decide_eq_true hts
  refine wp_seq (wp_region_lit (st_move (st_nil (p := ⟨G, p, none⟩) ?_ (st_field (b := G) (o := p) (fieldOff_ok hf) ?_ (st_assign (wpList_nil ?_))))))
  · rw [eval_tmp, sl_put_self _ _ _ (by omega), eval_tmp, hsp]
  · rw [eval_tmp, sl_put_self _ _ _ (by simp only [put_size]; omega)]
  generalize hA : (((a.put (some t1) (a.eval (.tmp sp))).put (some t2) (.pointer (some ⟨G, p, none⟩))).put (some t3) (.pointer (some ⟨G, p + off, none⟩))).put (some s) ((((a.put (some t1) (a.eval (.tmp sp))).put (some t2) (.pointer (some ⟨G, p, none⟩))).put (some t3) (.pointer (some ⟨G, p + off, none⟩))).eval (.tmp t3)) = a1
  have u1 : Upd a a1 [t1, t2, t3, s] := by subst hA; exact ((((Upd.refl a _).put t1 _ (by simp)).put t2 _ (by simp)).put t3 _ (by simp)).put s _ (by simp)
  have s1 : sl a1 s = .pointer (some ⟨G, p + off, none⟩) := by subst hA; rw [sl_put_self _ _ _ (by simp only [put_size]; omega), eval_tmp, sl_put_self _ _ _ (by simp only [put_size]; omega)]
  refine wp_seq (reg_move (by rw [u1.size]; omega) fun a2 u2 _ => ?_)
  refine h a2 w Q G (p + off) cells Ty (u2.size.trans (u1.size.trans hN)) (by rw [u2.same s (by simp; exact fun e => hts' e.symm)]; exact s1) hrow (by omega) fun a3 u3 => ?_
  rw [setMany_shift]
  refine hq a3 ((u1.mono ?_).trans ((u2.mono ?_).trans (u3.mono ?_)))
  · intro t ht; simp only [writes, List.mem_append]; left; simpa [writes] using ht
  · intro t ht; simp only [writes, List.mem_append]; right; left; simpa [writes] using ht
  · intro t ht; simp only [writes, List.mem_append]; exact .inr (.inr ht)

/-- A function 'Default'. -/
def DefSets (f sz : Nat) (sets : List (Nat × Value)) : Prop := hasBody Try.prog f = true ∧ ∀ (w : World) (G p : Nat) (cells : Array Value) (Ty : TypeId), w.heap[G]? = some (.cells cells Ty (0, 0)) → p + sz ≤ cells.size →
  Calls Try.prog f #[.pointer (some ⟨G, p, none⟩)] w fun e w' => (∃ u, e = .returned u) ∧ w' = setMany w G p sets
theorem defSets {f sz : Nat} {sets : List (Nat × Value)} {fn : Func} {c : Code} (hf : Try.prog.funcs[f]? = some fn) (hb : fn.body = some c) (hr : fn.results = #[]) (hN : decide (1 ≤ fn.ntmps) = true) (hg : hasBody Try.prog f = true) (h : DS fn.ntmps 0 sz sets c) : DefSets f sz sets := by
  refine ⟨hg, fun w G p cells Ty hrow hfit => calls_of_wp hf hb ?_⟩
  have hN' := of_decide_eq_true hN
  refine h _ w _ G p cells Ty (by simp; omega) (by simp [sl, Array.getD_eq_getD_getElem?, Array.getElem?_append]) hrow hfit fun a' hu => ?_
  exact ⟨hu.defers, .tuple #[], results_none hr _ _ _, ⟨_, rfl⟩, rfl⟩

/-! ## What is to lie there ahead of a reading, cell by cell -/
mutual
def inisF (ht : Bool) : F → Nat → List (Nat × Value)
  | .mk kind _ _ null _ _ _ sub, b => (if kind = 11 then [(b, .slice none 0 0)] else []) ++ (if kind = 10 ∧ null < 0 then inisFs ht sub b else []) ++ (if kind = 10 ∧ 0 ≤ null then [(b, .pointer none)] else [])
def inisFs (ht : Bool) : List F → Nat → List (Nat × Value)
  | [], _ => []
  | f :: fs, b => inisF ht f b ++ inisFs ht fs (b + cellsF ht f)
end
mutual
theorem iniF_cells (ht : Bool) : ∀ (f : F) (b : Nat) (c : Cells), iniF ht f (fun j => c (b + j)) ↔ ∀ k ∈ inisF ht f b, c k.1 = some k.2
  | .mk kind _ _ null _ _ _ sub, b, c => by
    simp only [iniF, inisF, List.mem_append, Nat.add_zero]
    have ih := iniFs_cells ht sub b c
    constructor
    · rintro ⟨h1, h2, h3⟩ k ((hk | hk) | hk)
      · split at hk
        · rename_i h; simp only [List.mem_singleton] at hk; subst hk; exact h1 h
        · cases hk
      · split at hk
        · rename_i h; exact ih.1 (h2 h) k hk
        · cases hk
      · split at hk
        · rename_i h; simp only [List.mem_singleton] at hk; subst hk; exact h3 h
        · cases hk
    · intro h
      refine ⟨fun hk => h (b, .slice none 0 0) (.inl (.inl (by simp [hk]))), fun hk => ih.2 fun k hk' => h k (.inl (.inr (by rw [if_pos hk]; exact hk'))), fun hk => h (b, .pointer none) (.inr (by simp [hk]))⟩
theorem iniFs_cells (ht : Bool) : ∀ (fs : List F) (b : Nat) (c : Cells), iniFs ht fs (fun j => c (b + j)) ↔ ∀ k ∈ inisFs ht fs b, c k.1 = some k.2
  | [], b, c => by simp [iniFs, inisFs]
  | f :: fs, b, c => by
    have h1 := iniF_cells ht f b c
    have h2 := iniFs_cells ht fs (b + cellsF ht f) c
    simp only [iniFs, inisFs, List.mem_append, ← Nat.add_assoc]
    rw [h1, h2]
    constructor
    · rintro ⟨a1, a2⟩ k (hk | hk)
      · exact a1 k hk
      · exact a2 k hk
    · intro h
      exact ⟨fun k hk => h k (.inl hk), fun k hk => h k (.inr hk)⟩
end
mutual
theorem inisF_le (ht : Bool) : ∀ (f : F) (b : Nat), ∀ k ∈ inisF ht f b, b ≤ k.1
  | .mk kind _ _ null _ _ _ sub, b, k, hk => by
    simp only [inisF, List.mem_append] at hk
    rcases hk with (hk | hk) | hk
    · split at hk
      · simp only [List.mem_singleton] at hk; subst hk; exact Nat.le_refl _
      · cases hk
    · split at hk
      · exact inis_le ht sub b k hk
      · cases hk
    · split at hk
      · simp only [List.mem_singleton] at hk; subst hk; exact Nat.le_refl _
      · cases hk
theorem inis_le (ht : Bool) : ∀ (fs : List F) (b : Nat), ∀ k ∈ inisFs ht fs b, b ≤ k.1
  | [], _, _, hk => by simp [inisFs] at hk
  | f :: fs, b, k, hk => by
    simp only [inisFs, List.mem_append] at hk
    rcases hk with hk | hk
    · exact inisF_le ht f b k hk
    · have := inis_le ht fs _ k hk; omega
end
/-- 'Default' of a part lets nil lists nil. -/
theorem DefSets.ok {f sz : Nat} {sets : List (Nat × Value)} {ht : Bool} {fs : List F} (h : DefSets f sz sets) (hs : sets.all (fun x => decide (x.1 < sz) && !((inisFs ht fs 0).map (·.1)).contains x.1) = true) : DefOk f sz (iniFs ht fs) := by
  refine ⟨h.1, fun w G p cells Ty hrow hfit hini => Calls.mono (h.2 w G p cells Ty hrow hfit) ?_⟩
  rintro e w' ⟨hu, rfl⟩
  have hs' : ∀ x ∈ sets, x.1 < sz ∧ x.1 ∉ (inisFs ht fs 0).map (·.1) := fun x hx => by
    have := List.all_eq_true.1 hs x hx
    simp only [Bool.and_eq_true, decide_eq_true_eq, Bool.not_eq_true', List.contains_eq_mem, decide_eq_false_iff_not] at this
    exact this
  refine ⟨hu, setMany_grown G p sets w, _, setMany_row G p sets w cells Ty (0, 0) hrow, setArr_size _ _ _, fun i hi => setArr_other p i sets cells fun x hx => by have := (hs' x hx).1; omega, ?_⟩
  have e1 := iniFs_cells ht fs 0 (fun j => cells[p + j]?)
  have e2 := iniFs_cells ht fs 0 (fun j => (setArr cells p sets)[p + j]?)
  simp only [Nat.zero_add] at e1 e2
  refine e2.2 fun k hk => ?_
  rw [setArr_other p (p + k.1) sets cells fun x hx e => (hs' x hx).2 (by rw [show x.1 = k.1 by omega]; exact List.mem_map_of_mem hk)]
  exact e1.1 hini k hk
/-- .. of a whole message: its version too. -/
theorem DefSets.okM {f sz : Nat} {sets : List (Nat × Value)} {ht : Bool} {fs : List F} {v : Int} (h : DefSets f sz sets) (hs : sets.all (fun x => decide (x.1 < sz) && decide (x.1 ≠ 0) && !((inisFs ht fs 1).map (·.1)).contains x.1) = true) : DefOk f sz (iniM ht v fs) := by
  refine ⟨h.1, fun w G p cells Ty hrow hfit hini => Calls.mono (h.2 w G p cells Ty hrow hfit) ?_⟩
  rintro e w' ⟨hu, rfl⟩
  have hs' : ∀ x ∈ sets, x.1 < sz ∧ x.1 ≠ 0 ∧ x.1 ∉ (inisFs ht fs 1).map (·.1) := fun x hx => by
    have := List.all_eq_true.1 hs x hx
    simp only [Bool.and_eq_true, decide_eq_true_eq, Bool.not_eq_true', List.contains_eq_mem, decide_eq_false_iff_not] at this
    exact ⟨this.1.1, this.1.2, this.2⟩
  refine ⟨hu, setMany_grown G p sets w, _, setMany_row G p sets w cells Ty (0, 0) hrow, setArr_size _ _ _, fun i hi => setArr_other p i sets cells fun x hx => by have := (hs' x hx).1; omega, ?_⟩
  obtain ⟨i0, i1⟩ := hini
  have e1 := iniFs_cells ht fs 1 (fun j => cells[p + j]?)
  have e2 := iniFs_cells ht fs 1 (fun j => (setArr cells p sets)[p + j]?)
  refine ⟨?_, e2.2 fun k hk => ?_⟩
  · show (setArr cells p sets)[p + 0]? = _
    rw [setArr_other p (p + 0) sets cells fun x hx e => (hs' x hx).2.1 (by omega)]
    exact i0
  · rw [setArr_other p (p + k.1) sets cells fun x hx e => (hs' x hx).2.2 (by rw [show x.1 = k.1 by omega]; exact List.mem_map_of_mem hk)]
    exact e1.1 i1 k hk
end Go.Proofs.Ytbogepbfbplndaa

