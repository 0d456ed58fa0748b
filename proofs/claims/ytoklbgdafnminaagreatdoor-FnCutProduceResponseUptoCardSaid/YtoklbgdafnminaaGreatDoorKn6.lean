/-
  Known tags, read: a part, a list of parts, a message that has known tags. Conditions: none.
-/
import Derived.Test.YtoklbgdafnminaaGreatDoorKn5
namespace Go.Proofs.YtoklbgdafnminaaGreatDoor
open Go.RowKit (Below)
open Kz

/-! ## What 'Default' leaves -/
theorem setArr_eq : ∀ (sets : List (Nat × Value)) (c1 c2 : Array Value) (p q k : Nat), c1[p + k]? = c2[q + k]? → (setArr c1 p sets)[p + k]? = (setArr c2 q sets)[q + k]?
  | [], _, _, _, _, _, h => h
  | (i, u) :: r, c1, c2, p, q, k, h => by
    refine setArr_eq r _ _ p q k ?_
    have hsz : p + k < c1.size ↔ q + k < c2.size := by
      constructor
      · intro hl
        have : (c1[p + k]?).isSome = true := by simp [hl]
        rw [h] at this
        simpa using this
      · intro hl
        have : (c2[q + k]?).isSome = true := by simp [hl]
        rw [← h] at this
        simpa using this
    rw [Array.getElem?_setIfInBounds, Array.getElem?_setIfInBounds]
    by_cases hik : i = k
    · subst hik
      by_cases hl : p + i < c1.size
      · simp [hl, hsz.1 hl]
      · have : ¬ (q + i < c2.size) := fun h' => hl (hsz.2 h')
        simp [hl, this]
    · rw [if_neg (by omega), if_neg (by omega)]
      exact h
def EqZ (z : Array Value) (c : Cells) : Prop := ∀ j, j < z.size → c j = z[j]?
def iniZ (z : Array Value) (v : Int) (c : Cells) : Prop := c 0 = some (.int .i16 v) ∧ ∀ j, 1 ≤ j → j < z.size → c j = z[j]?
def iniMD (v : Int) (fs : List F) (c : Cells) : Prop := c 0 = some (.int .i16 v) ∧ iniD fs (fun j => c (1 + j))
def inisL (b : Nat) : List Value → List (Nat × Value)
  | [] => []
  | v :: l => (b, v) :: inisL (b + 1) l
theorem inisL_lies : ∀ (l : List Value) (b : Nat) (c : Cells), Lies l (fun j => c (b + j)) ↔ ∀ k ∈ inisL b l, c k.1 = some k.2
  | [], b, c => ⟨fun _ k hk => by simp [inisL] at hk, fun _ j u hj => by simp at hj⟩
  | v :: l, b, c => by
    have ih := inisL_lies l (b + 1) c
    simp only [inisL, List.mem_cons]
    constructor
    · intro h k hk
      rcases hk with rfl | hk
      · exact h 0 v rfl
      · refine ih.1 (fun j u hj => ?_) k hk
        have := h (j + 1) u hj
        show c (b + 1 + j) = some u
        rw [show b + 1 + j = b + (j + 1) by omega]; exact this
    · intro h j u hj
      cases j with
      | zero => cases hj; exact h (b, v) (.inl rfl)
      | succ j =>
        have := ih.2 (fun k hk => h k (.inr hk)) j u hj
        show c (b + (j + 1)) = some u
        rw [show b + (j + 1) = b + 1 + j by omega]; exact this
def inisD : List F → Nat → List (Nat × Value)
  | [], b => [(b, .map none)]
  | f :: fs, b => (if 0 ≤ f.tag then inisL b (dcF f) else inisF true f b) ++ inisD fs (b + cellsF true f)
theorem iniD_cells : ∀ (fs : List F) (b : Nat) (c : Cells), iniD fs (fun j => c (b + j)) ↔ ∀ k ∈ inisD fs b, c k.1 = some k.2
  | [], b, c => by simp [iniD, inisD]
  | f :: fs, b, c => by
    have h2 := iniD_cells fs (b + cellsF true f) c
    simp only [iniD, inisD, List.mem_append, ← Nat.add_assoc]
    rw [h2]
    have h1 : (if 0 ≤ f.tag then Lies (dcF f) (fun j => c (b + j)) else iniF true f (fun j => c (b + j))) ↔ ∀ k ∈ (if 0 ≤ f.tag then inisL b (dcF f) else inisF true f b), c k.1 = some k.2 := by
      by_cases ht : 0 ≤ f.tag
      · rw [if_pos ht, if_pos ht]; exact inisL_lies _ _ _
      · rw [if_neg ht, if_neg ht]; exact iniF_cells true f b c
    rw [h1]
    constructor
    · rintro ⟨a1, a2⟩ k (hk | hk)
      · exact a1 k hk
      · exact a2 k hk
    · intro h
      exact ⟨fun k hk => h k (.inl hk), fun k hk => h k (.inr hk)⟩

def DefOk2 (f sz : Nat) (ini ini' : Cells → Prop) : Prop :=
  hasBody Tryz.prog f = true ∧ ∀ (w : World) (G p : Nat) (cells : Array Value) (Ty : TypeId), w.heap[G]? = some (.cells cells Ty (0, 0)) → p + sz ≤ cells.size → ini (fun j => cells[p + j]?) →
    Calls Tryz.prog f #[.pointer (some ⟨G, p, none⟩)] w fun e w' => (∃ u, e = .returned u) ∧ w.grownBy w' (some G) ∧ ∃ cells', w'.heap[G]? = some (.cells cells' Ty (0, 0)) ∧ cells'.size = cells.size ∧ (∀ i, (i < p ∨ p + sz ≤ i) → cells'[i]? = cells[i]?) ∧ ini' (fun j => cells'[p + j]?)
def SDefault2 (N x sz : Nat) (ini ini' : Cells → Prop) (c : Code) : Prop := ∀ (a : Act) (w : World) (Q : Exit → Act → World → Prop) (G p : Nat) (cells : Array Value) (Ty : TypeId), a.tmps.size = N → sl a x = .pointer (some ⟨G, p, none⟩) →
  w.heap[G]? = some (.cells cells Ty (0, 0)) → p + sz ≤ cells.size → ini (fun j => cells[p + j]?) →
  (∀ a' w' cells', Upd a a' (writes c) → w.grownBy w' (some G) → w'.heap[G]? = some (.cells cells' Ty (0, 0)) → cells'.size = cells.size → (∀ i, (i < p ∨ p + sz ≤ i) → cells'[i]? = cells[i]?) → ini' (fun j => cells'[p + j]?) → Q .normal a' w') → c.wp Tryz.prog Q a w
theorem sdefault2 {id N x f d1 d2 sz : Nat} {ini ini' : Cells → Prop} {tys : Array TypeId} {ty1 ty2 : TypeId} {p1 p2 : String} {e1 e2 : Array Edge} (hf : DefOk2 f sz ini ini') (hn : [d1].all (· < N) = true) :
    SDefault2 N x sz ini ini' (Code.region id #[⟨some d1, .move (.tmp x), ty1, p1, e1, none⟩, ⟨some d2, .call { callee := .value (.func f), args := #[.tmp d1], argTypes := tys }, ty2, p2, e2, none⟩] false) := by
  intro a w Q G p cells Ty hN hx hrow hfit hini hq
  simp only [List.all_cons, List.all_nil, Bool.and_true, decide_eq_true_eq] at hn
  obtain ⟨fn, hfn, hb, hnn⟩ := hasBody_ok hf.1
  refine reg_callp hfn hb hnn (by omega) ?_
  rw [hx]
  refine Calls.mono (hf.2 w G p cells Ty hrow hfit hini) ?_
  rintro e w' ⟨hv, hg, cells', h1, h2, h3, h4⟩
  exact ⟨hv, fun a' hu => hq a' w' cells' hu hg h1 h2 h3 h4⟩
theorem list_at {l : List (Nat × Value)} {z : Array Value} (h : l.map (fun k => z[k.1]?) = l.map (fun k => some k.2)) : ∀ k ∈ l, z[k.1]? = some k.2 := by
  induction l with
  | nil => intro k hk; cases hk
  | cons x l ih =>
    simp only [List.map_cons, List.cons.injEq] at h
    intro k hk
    simp only [List.mem_cons] at hk
    rcases hk with rfl | hk
    · exact h.1
    · exact ih h.2 k hk
theorem DefSets.ok2 {f sz : Nat} {sets : List (Nat × Value)} {fs : List F} {z : Array Value} (h : DefSets f sz sets) (hs : sets.all (fun x => decide (x.1 < sz)) = true) (hb : (inisD fs 0).all (fun k => decide (k.1 < z.size)) = true)
    (hp : (inisD fs 0).map (fun k => (setArr z 0 sets)[k.1]?) = (inisD fs 0).map (fun k => some k.2)) : DefOk2 f sz (EqZ z) (iniD fs) := by
  refine ⟨h.1, fun w G p cells Ty hrow hfit hini => Calls.mono (h.2 w G p cells Ty hrow hfit) ?_⟩
  rintro e w' ⟨hu, rfl⟩
  refine ⟨hu, setMany_grown G p sets w, _, setMany_row G p sets w cells Ty (0, 0) hrow, setArr_size _ _ _, fun i hi => setArr_other p i sets cells fun x hx => ?_, ?_⟩
  · have := List.all_eq_true.1 hs x hx
    simp only [decide_eq_true_eq] at this
    omega
  · have e2 := iniD_cells fs 0 (fun j => (setArr cells p sets)[p + j]?)
    simp only [Nat.zero_add] at e2
    refine e2.2 fun k hk => ?_
    have hlt := List.all_eq_true.1 hb k hk
    simp only [decide_eq_true_eq] at hlt
    have := list_at hp k hk
    rw [setArr_eq sets cells z p 0 k.1 (by rw [Nat.zero_add]; exact hini k.1 hlt), Nat.zero_add]
    exact this
theorem DefSets.okM2 {f sz : Nat} {sets : List (Nat × Value)} {fs : List F} {z : Array Value} {v : Int} (h : DefSets f sz sets) (hs : sets.all (fun x => decide (x.1 < sz) && decide (x.1 ≠ 0)) = true) (hb : (inisD fs 1).all (fun k => decide (1 ≤ k.1) && decide (k.1 < z.size)) = true)
    (hp : (inisD fs 1).map (fun k => (setArr z 0 sets)[k.1]?) = (inisD fs 1).map (fun k => some k.2)) : DefOk2 f sz (iniZ z v) (iniMD v fs) := by
  refine ⟨h.1, fun w G p cells Ty hrow hfit hini => Calls.mono (h.2 w G p cells Ty hrow hfit) ?_⟩
  rintro e w' ⟨hu, rfl⟩
  have hs' : ∀ x ∈ sets, x.1 < sz ∧ x.1 ≠ 0 := fun x hx => by
    have := List.all_eq_true.1 hs x hx
    simpa only [Bool.and_eq_true, decide_eq_true_eq] using this
  refine ⟨hu, setMany_grown G p sets w, _, setMany_row G p sets w cells Ty (0, 0) hrow, setArr_size _ _ _, fun i hi => setArr_other p i sets cells fun x hx => by have := (hs' x hx).1; omega, ?_, ?_⟩
  · show (setArr cells p sets)[p + 0]? = _
    rw [setArr_other p (p + 0) sets cells fun x hx e => (hs' x hx).2 (by omega)]
    exact hini.1
  · have e2 := iniD_cells fs 1 (fun j => (setArr cells p sets)[p + j]?)
    refine e2.2 fun k hk => ?_
    have hlt := List.all_eq_true.1 hb k hk
    simp only [Bool.and_eq_true, decide_eq_true_eq] at hlt
    have := list_at hp k hk
    rw [setArr_eq sets cells z p 0 k.1 (by rw [Nat.zero_add]; exact hini.2 k.1 hlt.1 hlt.2), Nat.zero_add]
    exact this

/-! ## A part -/
theorem rdPart_tags (v : Int) (flex : Bool) (fs : List F) (st : St) : rdPart v flex fs st = (.mk 0 [] false (allTags v flex fs (plainR v fs (rds v flex fs) (dfltOf fs) st).1 (plainR v fs (rds v flex fs) (dfltOf fs) st).2).1 (allTags v flex fs (plainR v fs (rds v flex fs) (dfltOf fs) st).1 (plainR v fs (rds v flex fs) (dfltOf fs) st).2).2.1,
    (allTags v flex fs (plainR v fs (rds v flex fs) (dfltOf fs) st).1 (plainR v fs (rds v flex fs) (dfltOf fs) st).2).2.2) := by
  cases flex with
  | true => rfl
  | false => rfl
section
variable {E : RE} {v : Int} {flex : Bool} {sp off : Nat} {fs : List F} {needs : List Nat}
theorem Pre.ctx {n : Nat} {ini : Cells → Prop} {rb : Nat} {S : Nat → Prop} {st : St} {cb co : Nat} {cells : Array Value} {T : TypeId} {a : Act} {w : World} (hp : Pre E v flex sp off n ini rb S st cb co cells T a w) : Ctx S rb cb w.heap.size :=
  { hS := hp.old, rbl := hp.rd.lt, cbl := (Array.getElem?_eq_some_iff.1 hp.row).1, ne := hp.ne, src := hp.src, rbe := hp.rbe, cbe := hp.cbe, err := by obtain ⟨t, x, h⟩ := hp.err; exact World.block_lt_of_cell? w _ h }
/-- A part that has known tags. -/
theorem RdD.part {L c : Code} (h : RdD E v flex sp off fs L c) (hL : TagsK E v flex sp off fs [] L) (hw : (writes L).all (fun t => (writes c).contains t) = true) : Rd E v flex sp off (cellsP true fs) (iniD fs) (rdPart v flex fs) (repP TagRep v flex true fs) c := by
  intro rb S st cb co cells T a w hp
  have hw' : ∀ t ∈ writes L, t ∈ writes c := fun t ht => by
    have := List.all_eq_true.1 hw t ht
    simpa [List.contains_eq_mem] using this
  have hc := hp.ctx
  have hfit := hp.fit
  have ecp : cellsP true fs = cellsFs true fs + 1 := rfl
  rw [ecp] at hfit ⊢
  refine h rb S st cb co cells T a w _ { hp with fit := hfit } (fun a1 w1 cells1 u1 f1 p1 r1 m1 row1 R1 => ?_) (fun a1 w1 hn hs hd hv hm => ?_)
  · obtain ⟨c1', e1', z1, -⟩ := m1.row cells T hp.row
    rw [row1] at e1'
    cases e1'
    refine wp_mono (hL S rb _ cb co cells1 T a1 w1 w.heap.size _ f1 p1 r1 (hp.err.md m1 hp.rbe hp.cbe) hc m1.size row1 (by omega) R1 (fun _ => onceOk_nil _ _ _)) ?_
    intro e a2 w2 hq
    cases e with
    | normal =>
      obtain ⟨u2, r2, m2, cells2, row2, rep2⟩ := hq
      refine ⟨u1.trans (u2.mono hw'), ?_, m1.and m2, cells2, row2, ?_⟩
      · rw [rdPart_tags]; exact r2
      · rw [rdPart_tags]; exact rep2
    | ret =>
      obtain ⟨hn, hs, hd, hv, hm⟩ := hq
      exact ⟨by rw [rdPart_tags]; exact hn, hs, hd, hv, m1.and hm⟩
    | _ => exact hq.elim
  · refine ⟨?_, hs, hd, hv, hm⟩
    rw [rdPart_tags]
    show (allTags v flex fs _ _).2.2 = none
    rw [hn]
    cases flex with
    | false => rfl
    | true => exact strict_tagsR fs (rds v true fs) _ _ _

/-- A list's element that has known tags. -/
theorem ElB.structK {da di d s sz : Nat} {sub : List F} {z : Array Value} {c1 c2 c3 c : Code} (h1 : SIndex E.N da di d sz c1) (h2 : SDefault2 E.N d sz (EqZ z) (iniD sub) c2) (h3 : SCopy E.N d s c3) (h : Rd E v flex s 0 (cellsP true sub) (iniD sub) (rdPart v flex sub) (repP TagRep v flex true sub) c) (hsz : sz = cellsP true sub)
    (hcl : clear E.slots (c1.seq (c2.seq c3)) = true) (hd : clear [d] c2 = true) :
    ElB E v flex da di sz (elG v flex 10 sub) (elR TagRep v flex true 10 sub) (EqZ z) (c1.seq (c2.seq (c3.seq c))) := by
  intro rb S st G o n m i cells Ty a w hfr hrd her hr1 hG1 hG hSG hold hda hdi hin hrow hfit hini
  simp only [clear_seq] at hcl
  obtain ⟨k1, k2, k3⟩ := hcl
  refine wp_seq (h1 a w _ G o n m i hfr.size hda hdi hin fun a1 u1 s1 => ?_)
  have f1 := hfr.upd u1 (clear_iff k1)
  refine wp_seq (h2 a1 w _ G _ cells Ty f1.size s1 hrow hfit hini fun a2 w2 cells2 u2 g2 row2 sz2 same2 ini2 => ?_)
  have f2 := f1.upd u2 (clear_iff k2)
  refine wp_seq (h3 a2 w2 _ f2.size fun a3 u3 s3 => ?_)
  have f3 := f2.upd u3 (clear_iff k3)
  have hrd2 : RdIs w2 S rb st := hrd.kept g2 (fun g hg e => hSG (by rw [← Option.some.inj e]; exact hg)) (fun e => hG (Option.some.inj e).symm)
  have her2 : ErrOk w2 := her.kept g2 (fun e => hG1 (Option.some.inj e))
  have hmd2 : Md w w2 rb G (o + i * sz) sz := ⟨g2.os, g2.tape, g2.output, g2.size, fun k hk _ hc => g2.block k hk (fun e => hc (Option.some.inj e)), fun cs T hw => by
    rw [hrow] at hw
    cases hw
    exact ⟨cells2, row2, sz2, same2⟩⟩
  have e10 : elG v flex 10 sub = rdPart v flex sub := by funext st; simp [elG, valR]
  have r10 : elR TagRep v flex true 10 sub = repP TagRep v flex true sub := by funext w K c t; simp [elR, valRep]
  refine wp_mono (h rb S st G (o + i * sz) cells2 Ty a3 w2 { fr := f3, ptr := by rw [s3, upd_of u2 hd d (by simp), s1], rd := hrd2, err := her2, rbe := hr1, cbe := hG1, ne := hG, src := hSG, old := fun g hg => Nat.lt_of_lt_of_le (hold g hg) g2.size, row := row2, fit := by rw [sz2, ← hsz]; omega, ini := ini2 }) ?_
  intro e a4 w4 hq
  cases e with
  | normal =>
    obtain ⟨u4, r4, m4, cells4, row4, rep4⟩ := hq
    rw [← hsz] at m4
    refine ⟨((u1.mono ?_).trans (u2.mono ?_)).trans ((u3.mono ?_).trans (u4.mono ?_)), by rw [e10]; exact r4, hmd2.trans m4 (by omega) (by omega), cells4, row4, ?_⟩
    · intro t ht; simp only [writes, List.mem_append]; exact .inl ht
    · intro t ht; simp only [writes, List.mem_append]; exact .inr (.inl ht)
    · intro t ht; simp only [writes, List.mem_append]; exact .inr (.inr (.inl ht))
    · intro t ht; simp only [writes, List.mem_append]; exact .inr (.inr (.inr ht))
    · rw [r10, e10]
      exact stable_repP (fun _ => rfl) stable_tagRep sub w4 w4 _ _ _ _ _ (fun _ _ _ => rfl) (Nat.le_refl _) (fun g hg => hg.imp (fun h => h) (fun h => Nat.le_trans g2.size h)) (fun j _ => rfl) rep4
  | ret =>
    obtain ⟨n4, s4, d4, v4, m4⟩ := hq
    rw [← hsz] at m4
    exact ⟨by rw [e10]; exact n4, s4, d4, v4, hmd2.trans m4 (by omega) (by omega)⟩
  | _ => exact hq
theorem EqZ_loc {z : Array Value} {n : Nat} (h : z.size = n) : ∀ c c' : Cells, (∀ j, j < n → c' j = c j) → EqZ z c → EqZ z c' := fun c c' hc hz j hj => by rw [hc j (by omega)]; exact hz j hj

/-! ## A message -/
/-- The octets of a message in which fields that may be read but once are read but once. -/
def onceM (needs : List Nat) (m : M) (v : Int) (bs : List UInt8) : Prop :=
  m.isFlex v = true → onceOk needs (rdV (plainR v m.fields (rds v (m.isFlex v) m.fields) (dfltOf m.fields) (some bs)).2).1 [] (rdV (plainR v m.fields (rds v (m.isFlex v) m.fields) (dfltOf m.fields) (some bs)).2).2
theorem onceM_nil (m : M) (v : Int) (bs : List UInt8) : onceM [] m v bs := fun _ => onceOk_nil _ _ _
def RdPEK (E : RE) (v : Int) (flex : Bool) (sp off : Nat) (fs : List F) (needs : List Nat) (c : Code) : Prop :=
  ∀ rb S st cb co cells T a w, Pre E v flex sp off (cellsP true fs) (iniD fs) rb S st cb co cells T a w → (flex = true → onceOk needs (rdV (plainR v fs (rds v flex fs) (dfltOf fs) st).2).1 [] (rdV (plainR v fs (rds v flex fs) (dfltOf fs) st).2).2) →
    c.wp Tryz.prog (PostE E off (cellsP true fs) (rdPart v flex fs) (repP TagRep v flex true fs) rb S st cb co T w) a w
theorem RdD.message {L cF c : Code} (h : RdD E v flex sp off fs (L.seq (cF.seq Code.ret)) c) (hL : TagsK E v flex sp off fs needs L) (hF : SFail E cF) (hcl : clear E.slots L = true) : RdPEK E v flex sp off fs needs c := by
  intro rb S st cb co cells T a w hp honce
  have hc := hp.ctx
  have hfit := hp.fit
  have ecp : cellsP true fs = cellsFs true fs + 1 := rfl
  rw [ecp] at hfit ⊢
  refine h rb S st cb co cells T a w _ { hp with fit := hfit } (fun a1 w1 cells1 u1 f1 p1 r1 m1 row1 R1 => ?_) (fun a1 w1 hn hs hd hv hm => ?_)
  · obtain ⟨c1', e1', z1, -⟩ := m1.row cells T hp.row
    rw [row1] at e1'
    cases e1'
    have her1 := hp.err.md m1 hp.rbe hp.cbe
    refine wp_seq (wp_mono (hL S rb _ cb co cells1 T a1 w1 w.heap.size _ f1 p1 r1 her1 hc m1.size row1 (by omega) R1 honce) ?_)
    intro e a2 w2 hq
    cases e with
    | normal =>
      obtain ⟨u2, r2, m2, cells2, row2, rep2⟩ := hq
      have f2 := f1.upd u2 (clear_iff hcl)
      have hm := m1.and m2
      refine wp_seq (hF a2 w2 _ S rb _ f2.size f2.rs r2 (hp.err.md hm hp.rbe hp.cbe) fun a3 u3 hv => wp_ret ?_)
      refine ⟨u3.size.trans f2.size, u3.defers.trans f2.defers, hm, ?_, fun _ => ⟨cells2, row2, ?_⟩⟩
      · rw [rdPart_tags]; exact hv
      · rw [rdPart_tags]; exact rep2
    | ret =>
      obtain ⟨hn, hs, hd, hv, hm⟩ := hq
      refine ⟨hs, hd, m1.and hm, ?_, fun h => ?_⟩
      · rw [rdPart_tags]
        show ErrV (allTags v flex fs _ _).2.2 _
        rw [hn]; simpa [ErrV] using hv
      · rw [rdPart_tags] at h
        have h : (allTags v flex fs (plainR v fs (rds v flex fs) (dfltOf fs) st).1 (plainR v fs (rds v flex fs) (dfltOf fs) st).2).2.2.isSome = true := h
        rw [hn] at h; cases h
    | _ => exact hq.elim
  · have e : (rdPart v flex fs st).2 = none := by
      rw [rdPart_tags]
      show (allTags v flex fs _ _).2.2 = none
      rw [hn]
      cases flex with
      | false => rfl
      | true => exact strict_tagsR fs (rds v true fs) _ _ _
    exact ⟨hs, hd, hm, by rw [e]; simpa [ErrV] using hv, fun h => by rw [e] at h; cases h⟩
end

/-- A function that reads a message with known tags. -/
def ReadsMsgK (f : Nat) (m : M) (needs : List Nat) (z : Array Value) (T : TypeId) : Prop :=
  hasBody Tryz.prog f = true ∧ ∀ (w : World) (S : Nat → Prop) (B : Nat) (v : Int) (bs : List UInt8) (p : Option Addr) (n k : Nat) (cells : Array Value), 0 ≤ v → w.heap[B]? = some (.cells cells T (0, 0)) → 1 + cellsP true m.fields ≤ cells.size → iniZ z v (fun j => cells[j]?) →
    BytesAt w S (.slice p n k) bs → ¬ S B → (∀ g, S g → g < w.heap.size) → ErrOk w → B ≠ 1 → onceM needs m v bs → Calls Tryz.prog f #[.pointer (some ⟨B, 0, none⟩), .slice p n k, .bool false] w fun e w' =>
      ∃ u, e = .returned u ∧ ErrV (m.read v (some bs)).2 u ∧ w.grownBy w' (some B) ∧ ((m.read v (some bs)).2.isSome = true → ∃ cells', w'.heap[B]? = some (.cells cells' T (0, 0)) ∧ cells'[0]? = some (.int .i16 v) ∧
        repP TagRep v (m.isFlex v) true m.fields w' (fun g => S g ∨ w.heap.size ≤ g) (fun j => cells'[1 + j]?) (m.read v (some bs)).1)
section
variable {m : M}
theorem read_startK {z : Array Value} {E : RE} {p0 p1 p2 p3 p4 rest : Code} (hN : 3 ≤ E.N) (h0 : SConst E.N E.res .nilIface p0) (h1 : ∀ v, SDefault2 E.N 0 (1 + cellsP true m.fields) (iniZ z v) (iniMD v m.fields) p1) (h2 : SReader E.N 1 E.rs p2) (h3 : SLoad E.N 0 0 E.vs p3) (h4 : SMove E.N p4)
    (hcl : clear [0, 1, 2] (p0.seq (p1.seq (p2.seq (p3.seq p4)))) = true) (hcr : clear [E.rs] (p3.seq p4) = true) (hcv : clear [E.vs] p4 = true)
    (w : World) (S : Nat → Prop) (B : Nat) (v : Int) (bs : List UInt8) (p : Option Addr) (n k : Nat) (cells : Array Value) (T : TypeId) (hrow : w.heap[B]? = some (.cells cells T (0, 0))) (hfit : 1 + cellsP true m.fields ≤ cells.size) (hini : iniZ z v (fun j => cells[j]?))
    (hbs : BytesAt w S (.slice p n k) bs) (hSB : ¬ S B) (hold : ∀ g, S g → g < w.heap.size) (her : ErrOk w) (hB : B ≠ 1) (Q : Exit → Act → World → Prop)
    (hq : ∀ (a : Act) (w1 : World) (cells1 : Array Value), a.tmps.size = E.N → a.defers = [] → sl a E.rs = .pointer (some ⟨w1.heap.size - 1, 0, none⟩) → sl a E.vs = .int .i16 v → sl a 2 = .bool false → sl a 0 = .pointer (some ⟨B, 0, none⟩) → RdIs w1 S (w1.heap.size - 1) (some bs) → ErrOk w1 →
      w.heap.size < w1.heap.size → w.grownBy w1 (some B) → w1.heap[B]? = some (.cells cells1 T (0, 0)) → cells1.size = cells.size → iniMD v m.fields (fun j => cells1[j]?) → rest.wp Tryz.prog Q a w1) :
    (p0.seq (p1.seq (p2.seq (p3.seq (p4.seq rest))))).wp Tryz.prog Q ⟨#[.pointer (some ⟨B, 0, none⟩), .slice p n k, .bool false] ++ Array.replicate (E.N - 3) undef, []⟩ w := by
  simp only [clear_seq] at hcl hcr
  obtain ⟨k0, k1, k2, k3, k4⟩ := hcl
  generalize ha : (⟨#[.pointer (some ⟨B, 0, none⟩), .slice p n k, .bool false] ++ Array.replicate (E.N - 3) undef, []⟩ : Act) = a
  have hsz : a.tmps.size = E.N := by subst ha; simp; omega
  have hd : a.defers = [] := by subst ha; rfl
  have s0 : sl a 0 = .pointer (some ⟨B, 0, none⟩) := by subst ha; simp [sl, Array.getD_eq_getD_getElem?, Array.getElem?_append]
  have s1 : sl a 1 = .slice p n k := by subst ha; simp [sl, Array.getD_eq_getD_getElem?, Array.getElem?_append]
  have s2 : sl a 2 = .bool false := by subst ha; simp [sl, Array.getD_eq_getD_getElem?, Array.getElem?_append]
  clear ha
  have hBlt : B < w.heap.size := (Array.getElem?_eq_some_iff.1 hrow).1
  refine wp_seq (h0 a w _ hsz fun a1 u1 _ => ?_)
  refine wp_seq (h1 v a1 w _ B 0 cells T (u1.size.trans hsz) (by rw [upd_of u1 k0 0 (by simp)]; exact s0) hrow (by omega) (by simpa using hini) fun a2 w2 cells2 u2 g2 row2 sz2 same2 ini2 => ?_)
  refine wp_seq (h2 a2 w2 _ p n k (u2.size.trans (u1.size.trans hsz)) (by rw [upd_of u2 k1 1 (by simp), upd_of u1 k0 1 (by simp)]; exact s1) fun a3 w3 u3 s3 hh3 ho3 ht3 hp3 => ?_)
  have hsz3 : w3.heap.size = w2.heap.size + 1 := by rw [hh3]; simp
  have hold3 : ∀ g, g < w2.heap.size → w3.heap[g]? = w2.heap[g]? := fun g hg => by rw [hh3, Array.getElem?_push]; simp; omega
  have hnew3 : w3.heap[w2.heap.size]? = some (.cells #[.slice p n k, .bool false] 168 (0, 0)) := by rw [hh3]; simp
  have g3 : w2.grownBy w3 none := ⟨ho3, ht3, hp3, by omega, fun g hg _ => hold3 g hg⟩
  have hB2 : B < w2.heap.size := Nat.lt_of_lt_of_le hBlt g2.size
  have row3 : w3.heap[B]? = some (.cells cells2 T (0, 0)) := by rw [hold3 B hB2]; exact row2
  have c3 : w3.cell? ⟨B, 0 + 0, none⟩ = some (.int .i16 v) := by rw [cell_of_row w3 B _ _ _ _ row3]; simpa using ini2.1
  have hrd3 : RdIs w3 S w2.heap.size (some bs) := by
    refine ⟨fun h => by have := hold _ h; have := g2.size; omega, .slice p n k, hnew3, ?_⟩
    refine stable_bytes (fun g hg hlt => ?_) (by have := g2.size; omega) (fun g hg => hg) hbs
    rw [hold3 g (Nat.lt_of_lt_of_le hlt g2.size), g2.block g hlt (fun e => hSB (by rw [← Option.some.inj e]; exact hg))]
  have her3 : ErrOk w3 := (her.kept g2 (fun e => hB (Option.some.inj e))).kept g3 (fun e => by cases e)
  refine wp_seq (h3 a3 w3 _ B 0 _ (u3.size.trans (u2.size.trans (u1.size.trans hsz))) (by rw [upd_of u3 k2 0 (by simp), upd_of u2 k1 0 (by simp), upd_of u1 k0 0 (by simp)]; exact s0) c3 fun a4 u4 s4 => ?_)
  refine wp_seq (h4 a4 w3 _ (u4.size.trans (u3.size.trans (u2.size.trans (u1.size.trans hsz)))) fun a5 u5 => ?_)
  have e1 : w3.heap.size - 1 = w2.heap.size := by omega
  refine hq a5 w3 cells2 (u5.size.trans (u4.size.trans (u3.size.trans (u2.size.trans (u1.size.trans hsz))))) (u5.defers.trans (u4.defers.trans (u3.defers.trans (u2.defers.trans (u1.defers.trans hd))))) ?_ ?_ ?_ ?_ (by rw [e1]; exact hrd3) her3 (by have := g2.size; omega)
    (World.grownBy.andThen g2 g3 (fun j e => by cases e)) row3 sz2 (by simpa using ini2)
  · rw [upd_of u5 hcr.2 E.rs (by simp), upd_of u4 hcr.1 E.rs (by simp), s3, e1]
  · rw [upd_of u5 hcv E.vs (by simp), s4]
  · rw [upd_of u5 k4 2 (by simp), upd_of u4 k3 2 (by simp), upd_of u3 k2 2 (by simp), upd_of u2 k1 2 (by simp), upd_of u1 k0 2 (by simp)]; exact s2
  · rw [upd_of u5 k4 0 (by simp), upd_of u4 k3 0 (by simp), upd_of u3 k2 0 (by simp), upd_of u2 k1 0 (by simp), upd_of u1 k0 0 (by simp)]; exact s0


theorem read_endK {needs : List Nat} {E : RE} {c body : Code} {f : Nat} {fn : Func} {s : Nat} {flex : Bool} {v : Int} (hf : Tryz.prog.funcs[f]? = some fn) (hb : fn.body = some c) (hnt : fn.ntmps = E.N) (hres : fn.results = #[.tmp E.res])
    {w : World} {S : Nat → Prop} {B : Nat} {bs : List UInt8} {p : Option Addr} {n k : Nat} {cells : Array Value} {T : TypeId} (hrow : w.heap[B]? = some (.cells cells T (0, 0))) (hfit : 1 + cellsP true m.fields ≤ cells.size) (hSB : ¬ S B)
    (hold : ∀ g, S g → g < w.heap.size) (hB : B ≠ 1) (hfl : flex = m.isFlex v) (hbody : RdPEK E v flex s 1 m.fields needs body) (honce : onceM needs m v bs) (hst : Stable (cellsP true m.fields) (repP TagRep v flex true m.fields))
    (hrun : ∀ (Q : Exit → Act → World → Prop), (∀ (a : Act) (w1 : World) (cells1 : Array Value), Fr E (w1.heap.size - 1) v flex a → sl a s = .pointer (some ⟨B, 0, none⟩) → RdIs w1 S (w1.heap.size - 1) (some bs) → ErrOk w1 → w.heap.size < w1.heap.size → w.grownBy w1 (some B) →
      w1.heap[B]? = some (.cells cells1 T (0, 0)) → cells1.size = cells.size → iniMD v m.fields (fun j => cells1[j]?) → body.wp Tryz.prog Q a w1) → c.wp Tryz.prog Q ⟨#[.pointer (some ⟨B, 0, none⟩), .slice p n k, .bool false] ++ Array.replicate (E.N - 3) undef, []⟩ w) :
    Calls Tryz.prog f #[.pointer (some ⟨B, 0, none⟩), .slice p n k, .bool false] w fun e w' =>
      ∃ u, e = .returned u ∧ ErrV (m.read v (some bs)).2 u ∧ w.grownBy w' (some B) ∧ ((m.read v (some bs)).2.isSome = true → ∃ cells', w'.heap[B]? = some (.cells cells' T (0, 0)) ∧ cells'[0]? = some (.int .i16 v) ∧
        repP TagRep v (m.isFlex v) true m.fields w' (fun g => S g ∨ w.heap.size ≤ g) (fun j => cells'[1 + j]?) (m.read v (some bs)).1) := by
  subst hfl
  have hBlt : B < w.heap.size := (Array.getElem?_eq_some_iff.1 hrow).1
  refine calls_of_wp hf hb ?_
  rw [hnt]
  refine hrun _ fun a w1 cells1 hfr hsp hrd her hlt hg hrow1 hsz1 hini1 => ?_
  refine wp_mono (hbody (w1.heap.size - 1) S (some bs) B 0 cells1 T a w1 { fr := hfr, ptr := hsp, rd := hrd, err := her, rbe := ?_, cbe := hB, ne := by omega, src := hSB, old := fun g h => Nat.lt_trans (hold g h) hlt, row := hrow1, fit := by omega, ini := ?_ } ?_) ?_
  · obtain ⟨t, x, hx⟩ := her
    have h1 : 1 < w1.heap.size := World.block_lt_of_cell? w1 _ hx
    intro e
    have hrow2 : ∃ vv q, w1.heap[w1.heap.size - 1]? = some (.cells #[vv, .bool q] 168 (0, 0)) := by
      obtain ⟨-, vv, hv, -⟩ := hrd
      exact ⟨vv, false, hv⟩
    obtain ⟨vv, q, hrow2⟩ := hrow2
    obtain ⟨-, v0, hv0, hb0⟩ := hrd
    have hx2 : w1.cell? ⟨w1.heap.size - 1, 0, none⟩ = some (.iface t x) := by rw [e]; exact hx
    rw [cell_of_row w1 _ _ _ _ _ hv0] at hx2
    simp at hx2
    subst hx2
    rcases hb0 with ⟨h, -⟩ | ⟨_, _, _, h, -⟩ <;> cases h
  · have := hini1.2
    simpa using this
  · exact honce
  · intro e a2 w2 hq
    cases e with
    | ret =>
      obtain ⟨h1, h2, h3, h4, h5⟩ := hq
      refine ⟨h2, _, results_tmp hres _ _ _, ?_⟩
      refine ⟨sl a2 E.res, rfl, h4, ⟨h3.os.trans hg.os, h3.tape.trans hg.tape, h3.output.trans hg.output, Nat.le_trans hg.size h3.size, fun j hj hjr => ?_⟩, fun hs => ?_⟩
      · rw [h3.block j (by omega) (by omega) (fun e => hjr (by rw [e]))]
        exact hg.block j hj hjr
      · obtain ⟨cells', hrow', hrep⟩ := h5 hs
        refine ⟨cells', hrow', ?_, ?_⟩
        · obtain ⟨cells2, hrow2, -, hsame⟩ := h3.row cells1 T hrow1
          rw [hrow'] at hrow2
          cases hrow2
          rw [hsame 0 (.inl (by omega))]
          exact hini1.1
        · refine hst w2 w2 _ _ _ _ _ (fun _ _ _ => rfl) (Nat.le_refl _) (fun g hg => hg.imp (fun h => h) (fun h => by omega)) (fun j _ => ?_) hrep
          show cells'[1 + j]? = cells'[0 + 1 + j]?
          rw [Nat.zero_add]
    | _ => exact hq.elim


theorem readsMsg_flexK {z : Array Value} {needs : List Nat} {E : RE} {p0 p1 p2 p3 p4 p5 p6 p7 body : Code} {f : Nat} {fn : Func} {s : Nat} {T : TypeId} {fs : Nat} (hfs : E.fs = some fs) (hfe : 0 ≤ m.flex) (hus : E.us = 2)
    (hf : Tryz.prog.funcs[f]? = some fn) (hb : fn.body = some (p0.seq (p1.seq (p2.seq (p3.seq (p4.seq (p5.seq (p6.seq (p7.seq body))))))))) (hnt : fn.ntmps = E.N) (hres : fn.results = #[.tmp E.res]) (hg : hasBody Tryz.prog f = true)
    (hN : 3 ≤ E.N) (h0 : SConst E.N E.res .nilIface p0) (h1 : ∀ v, SDefault2 E.N 0 (1 + cellsP true m.fields) (iniZ z v) (iniMD v m.fields) p1) (h2 : SReader E.N 1 E.rs p2) (h3 : SLoad E.N 0 0 E.vs p3) (h4 : SMove E.N p4) (h5 : SCmpV E.N E.vs fs m.flex p5) (h6 : SMove E.N p6) (h7 : SCopy E.N 0 s p7)
    (hcl : clear [0, 1, 2] (p0.seq (p1.seq (p2.seq (p3.seq p4)))) = true) (hcr : clear [E.rs] (p3.seq p4) = true) (hcv : clear [E.vs] p4 = true) (hc2 : clear [0, 2, E.rs, E.vs] (p5.seq (p6.seq p7)) = true) (hc3 : clear [fs] (p6.seq p7) = true) (hc0 : clear [0] (p5.seq p6) = true)
    (hbody : ∀ v : Int, 0 ≤ v → RdPEK E v (m.isFlex v) s 1 m.fields needs body) : ReadsMsgK f m needs z T := by
  refine ⟨hg, fun w S B v bs p n k cells hv hrow hfit hini hbs hSB hold her hB honce => ?_⟩
  simp only [clear_seq] at hc2 hc3 hc0
  refine read_endK hf hb hnt hres hrow hfit hSB hold hB rfl (hbody v hv) honce (stable_repP (fun _ => rfl) stable_tagRep _) fun Q hk => ?_
  refine read_startK hN h0 h1 h2 h3 h4 hcl hcr hcv w S B v bs p n k cells T hrow hfit hini hbs hSB hold her hB Q fun a w1 cells1 hsz hd hrs hvs hu hz hr1 he1 hlt hg1 hrow1 hsz1 hini1 => ?_
  refine wp_seq (h5 a w1 _ v hsz hvs fun a1 u1 s1 => ?_)
  refine wp_seq (h6 a1 w1 _ (u1.size.trans hsz) fun a2 u2 => ?_)
  refine wp_seq (h7 a2 w1 _ (u2.size.trans (u1.size.trans hsz)) fun a3 u3 s3 => ?_)
  have keep : ∀ t ∈ [0, 2, E.rs, E.vs], sl a3 t = sl a t := fun t ht => by rw [upd_of u3 hc2.2.2 t ht, upd_of u2 hc2.2.1 t ht, upd_of u1 hc2.1 t ht]
  refine hk a3 w1 cells1 { size := u3.size.trans (u2.size.trans (u1.size.trans hsz)), defers := u3.defers.trans (u2.defers.trans (u1.defers.trans hd)), rs := by rw [keep E.rs (by simp)]; exact hrs, vs := by rw [keep E.vs (by simp)]; exact hvs, us := by rw [hus, keep 2 (by simp)]; exact hu, fs := fun t ht => ?_ } ?_ hr1 he1 hlt hg1 hrow1 hsz1 hini1
  · rw [hfs] at ht
    cases ht
    rw [upd_of u3 hc3.2 fs (by simp), upd_of u2 hc3.1 fs (by simp), s1]
    simp [M.isFlex, hfe]
  · rw [s3, upd_of u2 hc0.2 0 (by simp), upd_of u1 hc0.1 0 (by simp)]; exact hz

end
/-- What the thin package's function does. -/
def AgainOkK (needs : List Nat) (f : Nat) (m : M) : Prop := hasBody Tryz.prog f = true ∧ ∀ (w : World) (v : Int) (S : Nat → Prop) (src : Value) (bs : List UInt8), 0 ≤ v → v < 32768 → BytesAt w S src bs → ErrOk w → bs.length ≤ lim2 →
  (∀ t r, m.read v (some bs) = (t, some r) → Fit t ∧ (write m v t).length ≤ lim2) → onceM needs m v bs →
  Calls Tryz.prog f #[.int .i64 v, src] w fun e w' => ∃ u, e = .returned (.tuple #[u, .bool (m.read v (some bs)).2.isSome]) ∧ Below w.heap.size w w' ∧
    if (m.read v (some bs)).2.isSome then OwnB w' w.heap.size u (write m v (m.read v (some bs)).1) else u = .slice none 0 0
theorem againOkK {needs : List Nat} {f np sv rf rd at' : Nat} {m : M} {T T3 T40 TE : Nat} {init : Array Value} {fn : Func} {i0 i1 i2 i3 i4 i5 : Nat} {y0 y1 y2 y3 y4 y5 y6 y7 y8 y9 y10 y11 y12 y13 y14 y15 y16 y17 y18 : TypeId} {q0 q1 q2 q3 q4 q5 q6 q7 q8 q9 q10 q11 q12 q13 q14 q15 q16 q17 q18 : String}
    {e0 e1 e2 e3 e4 e5 e6 e7 e8 e9 e10 e11 e12 e13 e14 e15 e16 e17 e18 : Array Edge} {tys1 tys2 tys3 tys4 : Array TypeId} (hf : Tryz.prog.funcs[f]? = some fn) (hb : fn.body = some
      ((Code.region i0 #[⟨some 4, .assign (.const (.slice none 0 0)), y0, q0, e0, none⟩, ⟨some 5, .assign (.const (.bool false)), y1, q1, e1, none⟩] false).seq
      ((Code.region i1 #[⟨some 7, .call { callee := .value (.func np), args := #[], argTypes := tys1 }, y2, q2, e2, none⟩, ⟨some 6, .assign (.tmp 7), y3, q3, e3, none⟩] false).seq
      ((Code.region i2 #[⟨some 8, .move (.tmp 6), y4, q4, e4, none⟩, ⟨some 9, .move (.tmp 0), y5, q5, e5, none⟩, ⟨some 10, .convert T3 T40 (.tmp 9), y6, q6, e6, none⟩, ⟨some 11, .call { callee := .value (.func sv), args := #[.tmp 8, .tmp 10], argTypes := tys2 }, y7, q7, e7, none⟩] false).seq
      (((Code.region i3 #[⟨some 12, .move (.tmp 6), y8, q8, e8, none⟩, ⟨some 13, .move (.tmp 1), y9, q9, e9, none⟩, ⟨some 14, .call { callee := .builtin .append, args := #[.const (.slice none 0 0), .tmp 13], argTypes := #[22, 22] }, y10, q10, e10, none⟩,
          ⟨some 15, .call { callee := .value (.func rf), args := #[.tmp 12, .tmp 14], argTypes := tys3 }, y11, q11, e11, none⟩, ⟨some 16, .binOp .neq TE (.tmp 15) (.const .nilIface) TE, y12, q12, e12, none⟩] false).seq
        (Code.cond (.tmp 16) ((Code.region i4 #[⟨some 4, .assign (.const (.slice none 0 0)), y13, q13, e13, none⟩, ⟨some 5, .assign (.const (.bool false)), y14, q14, e14, none⟩] false).seq Code.ret) Code.skip)).seq
      ((Code.region i5 #[⟨some 17, .move (.tmp 6), y15, q15, e15, none⟩, ⟨some 18, .call { callee := .value (.func at'), args := #[.tmp 17, .const (.slice none 0 0)], argTypes := tys4 }, y16, q16, e16, none⟩, ⟨some 4, .assign (.tmp 18), y17, q17, e17, none⟩, ⟨some 5, .assign (.const (.bool true)), y18, q18, e18, none⟩] false).seq Code.ret))))))
    (hnt : fn.ntmps = 19) (hres : fn.results = #[.tmp 4, .tmp 5]) (hg : hasBody Tryz.prog f = true) (hT3 : T3 = 3) (hT40 : T40 = 42) (hTE : TE = 52)
    (h1 : NewsMsg np T init) (h2 : SetsVersion sv) (h3 : ReadsFrom rf rd) (h4 : ReadsMsgK rd m needs init T) (h5 : WritesMsg TagRep at' m true) (hini : decide (1 + cellsP true m.fields ≤ init.size) = true) : AgainOkK needs f m := by
  subst hT3 hT40 hTE
  refine ⟨hg, fun w v S src bs hv hv2 hsrc her hlen hfit honce => ?_⟩
  obtain ⟨fn1, hf1, hb1, hn1⟩ := hasBody_ok h1.1
  obtain ⟨fn2, hf2, hb2, hn2⟩ := hasBody_ok h2.1
  obtain ⟨fn3, hf3, hb3, hn3⟩ := hasBody_ok h3.1
  obtain ⟨fn5, hf5, hb5, hn5⟩ := hasBody_ok h5.1
  have hini' := of_decide_eq_true hini
  have hpos : 0 < init.size := by omega
  have hew : 1 < w.heap.size := by obtain ⟨t, x, h⟩ := her; exact World.block_lt_of_cell? w _ h
  refine enter22 hf hb (by omega) hres fun a hN hd s0 s1 => ?_
  have hN' := hN.trans hnt
  refine wp_seq (wp_region_lit (st_assign (st_assign (wpList_nil ?_))))
  generalize hA1 : (a.put (some 4) _).put (some 5) _ = a1
  have u1 : Upd a a1 [4, 5] := by subst hA1; exact ((Upd.refl a _).put 4 _ (by simp)).put 5 _ (by simp)
  have hN1 := u1.size.trans hN'
  -- a new message
  refine wp_seq (wp_region_lit (st_call hf1 hb1 hn1 ?_))
  rw [Array.map_empty]
  refine Calls.mono (h1.2 w) ?_
  rintro e w1 ⟨rfl, rfl⟩
  refine ⟨_, rfl, st_assign (wpList_nil ?_)⟩
  generalize hA2 : (a1.put (some 7) _).put (some 6) _ = a2
  have u2 : Upd a1 a2 [7, 6] := by subst hA2; exact ((Upd.refl a1 _).put 7 _ (by simp)).put 6 _ (by simp)
  have k6 : sl a2 6 = .pointer (some ⟨w.heap.size, 0, none⟩) := by subst hA2; rw [sl_put_self _ _ _ (by simp only [put_size]; omega), eval_tmp, sl_put_self _ _ _ (by omega)]
  have hN2 := u2.size.trans hN1
  have k0 : sl a2 0 = .int .i64 v := (u2.same 0 (by decide)).trans ((u1.same 0 (by decide)).trans s0)
  have k1 : sl a2 1 = src := (u2.same 1 (by decide)).trans ((u1.same 1 (by decide)).trans s1)
  -- its version
  refine wp_seq (wp_region_lit (st_move (st_move (st_val (v := .int .i16 v) (w' := w.alloc (.cells init T)) (exec_conv (k := .i64) (n := v) Tryz.underlying3 Tryz.underlying42 ?_ (by rw [wrap_i16]; omega)) (st_call2 hf2 hb2 hn2 ?_)))))
  · rw [eval_tmp, sl_put_self _ _ _ (by simp only [put_size]; omega), eval_tmp, sl_put_other _ _ _ _ (by decide), k0]
  rw [eval_tmp, sl_put_other _ _ _ _ (by decide), sl_put_other _ _ _ _ (by decide), sl_put_self _ _ _ (by omega), eval_tmp, k6, eval_tmp, sl_put_self _ _ _ (by simp only [put_size]; omega)]
  refine Calls.mono (h2.2 (w.alloc (.cells init T)) w.heap.size v init T (alloc_new w _) hpos) ?_
  rintro e w2 ⟨⟨u, rfl⟩, hw2⟩
  refine ⟨u, rfl, wpList_nil ?_⟩
  generalize hA3 : ((((a2.put (some 8) _).put (some 9) _).put (some 10) _).put (some 11) _) = a3
  have u3 : Upd a2 a3 [8, 9, 10, 11] := by subst hA3; exact ((((Upd.refl a2 _).put 8 _ (by simp)).put 9 _ (by simp)).put 10 _ (by simp)).put 11 _ (by simp)
  have hN3 := u3.size.trans hN2
  have k63 : sl a3 6 = .pointer (some ⟨w.heap.size, 0, none⟩) := (u3.same 6 (by decide)).trans k6
  have k13 : sl a3 1 = src := (u3.same 1 (by decide)).trans k1
  have hrow2 : w2.heap[w.heap.size]? = some (.cells (init.setIfInBounds 0 (.int .i16 v)) T (0, 0)) := by rw [hw2]; exact heap_setCell_row (alloc_new w _)
  have hsz2 : w2.heap.size = w.heap.size + 1 := by rw [hw2]; exact size_newSet _ _ _ _
  have hbel2 : Below w.heap.size w w2 := by
    rw [hw2]
    exact ⟨rfl, rfl, rfl, by rw [size_newSet]; omega, fun k hk => by rw [Below.heap_setCell _ _ _ _ (by show k ≠ w.heap.size; omega), alloc_old _ _ _ hk]⟩
  have hsrc2 : BytesAt w2 S src bs := by
    rcases hsrc with h | ⟨g, o, c, e1, e2, e2', e3, e4, e5⟩
    · exact .inl h
    · exact .inr ⟨g, o, c, e1, e2, e2', e3, by omega, fun i b hi => by rw [cell_kept (hbel2.block g e4)]; exact e5 i b hi⟩
  -- the octets are copied
  refine wp_seq (wp_seq (wp_region_lit (st_move (st_move ?_))))
  refine wpList_append_octets rfl _ _ rfl (w.heap.size + 1) (.slice none 0 0) src [] bs S (eval_const _ _) (by rw [eval_tmp, sl_put_self _ _ _ (by simp only [put_size]; omega), eval_tmp, sl_put_other _ _ _ _ (by decide), k13]) (OwnB.nil _ _) hsrc2 (by simp only [List.length_nil, lim, lim2] at hlen ⊢; omega) (by omega) fun x w3 ho3 hg3 => ?_
  obtain ⟨px, nx, mx, rfl⟩ := own_slice ho3
  rw [List.nil_append] at ho3
  have hrow3 : w3.heap[w.heap.size]? = some (.cells (init.setIfInBounds 0 (.int .i16 v)) T (0, 0)) := (hg3.block _ (by omega) (by simp [Value.ownBlock])).trans hrow2
  have hbel3 : Below w.heap.size w w3 := ⟨hg3.os.trans hbel2.os, hg3.tape.trans hbel2.tape, hg3.output.trans hbel2.output, Nat.le_trans hbel2.size hg3.size, fun k hk => (hg3.block k (by omega) (by simp [Value.ownBlock])).trans (hbel2.block k hk)⟩
  have her3 : ErrOk w3 := by
    obtain ⟨t, x, h⟩ := her
    exact ⟨t, x, by rw [cell_kept (hbel3.block _ hew)]; exact h⟩
  have hby3 := own_bytes ho3
  have hlow : ∀ g, (Value.slice px nx mx).ownBlock = some g → w.heap.size + 1 ≤ g ∧ g < w3.heap.size := fun g hg => ⟨ho3.base g hg, (World.ownsRow.lt ho3 g hg).2⟩
  refine st_call2 hf3 hb3 hn3 ?_
  rw [eval_tmp, sl_put_other _ _ _ _ (by decide), sl_put_other _ _ _ _ (by decide), sl_put_self _ _ _ (by omega), eval_tmp, k63, eval_tmp, sl_put_self _ _ _ (by simp only [put_size]; omega)]
  refine h3.2 _ _ _ _ ?_
  have hI : iniZ init v (fun j => (init.setIfInBounds 0 (.int .i16 v))[j]?) := ⟨by simp [hpos], fun j h1 _ => Array.getElem?_setIfInBounds_ne (by omega)⟩
  refine Calls.mono (h4.2 w3 _ w.heap.size v bs px nx mx _ hv hrow3 (by simpa using hini') hI hby3 (fun hB => by have := (hlow _ hB).1; omega) (fun g hg => (hlow g hg).2) her3 (by omega) honce) ?_
  rintro e w4 ⟨u4, rfl, herr, hg4, hres4⟩
  refine ⟨u4, rfl, u4, rfl, ?_⟩
  have hbel4 : Below w.heap.size w w4 := ⟨hg4.os.trans hbel3.os, hg4.tape.trans hbel3.tape, hg4.output.trans hbel3.output, Nat.le_trans hbel3.size hg4.size, fun k hk => (hg4.block k (by have := hbel3.size; omega) (by simp; omega)).trans (hbel3.block k hk)⟩
  cases hst : (m.read v (some bs)).2 with
  | none =>
    rw [hst] at herr
    obtain ⟨t, x, rfl⟩ : ∃ t x, u4 = .iface t x := by simpa [ErrV] using herr
    refine st_val (v := .bool true) (w' := w4) (exec_binR (by rw [eval_tmp, sl_put_self _ _ _ (by simp only [put_size]; omega)]) (eval_const _ _) (eqGuard_at_iface ..) (neq_err _ _ _)) (wpList_nil ?_)
    refine wp_cond_true (by rw [eval_tmp, sl_put_self _ _ _ (by simp only [put_size]; omega)]) (wp_seq (wp_region_lit (st_assign (st_assign (wpList_nil (wp_ret ⟨rfl, ?_, .slice none 0 0, ?_, hbel4, ?_⟩))))))
    · simp only [put_defers]; exact u3.defers.trans (u2.defers.trans (u1.defers.trans hd))
    · rw [sl_put_self _ _ _ (by simp only [put_size]; omega), sl_put_other _ _ _ _ (by decide), sl_put_self _ _ _ (by simp only [put_size]; omega), eval_const, eval_const]
      rfl
    · simp
  | some r =>
    rw [hst] at herr
    obtain rfl : u4 = .nilIface := by simpa [ErrV] using herr
    obtain ⟨cells4, hrow4, hc0, hrep4⟩ := hres4 (by rw [hst]; rfl)
    have hft := hfit (m.read v (some bs)).1 r (by rw [← hst])
    refine st_val (v := .bool false) (w' := w4) (exec_binR (by rw [eval_tmp, sl_put_self _ _ _ (by simp only [put_size]; omega)]) (eval_const _ _) (eqGuard_nil_constR ..) (neq_nil _)) (wpList_nil ?_)
    refine wp_cond_false (by rw [eval_tmp, sl_put_self _ _ _ (by simp only [put_size]; omega)]) (wp_skip ?_)
    refine wp_seq (wp_region_lit (st_move (st_call2 hf5 hb5 hn5 ?_)))
    rw [eval_tmp, sl_put_self _ _ _ (by simp only [put_size]; omega), eval_tmp, eval_const]
    rw [sl_put_other _ _ _ _ (by decide), sl_put_other _ _ _ _ (by decide), sl_put_other _ _ _ _ (by decide), sl_put_other _ _ _ _ (by decide), sl_put_other _ _ _ _ (by decide), k63]
    have hb4 : w.heap.size < w4.heap.size := (Array.getElem?_eq_some_iff.1 hrow4).1
    refine Calls.mono (h5.2 w4.heap.size (inW w4 _) w4 v w.heap.size [] (.slice none 0 0) (m.read v (some bs)).1 hv (OwnB.nil _ _) (Nat.le_refl _) (fun g hg => hg.2) hb4 (by rw [cell_of_row w4 _ 0 _ _ _ hrow4]; exact hc0)
      (bnd_repP bnd_tagRep m.fields w4 _ _ _ (by
        have e : (fun j => w4.cell? ⟨w.heap.size, 1 + j, none⟩) = fun j => cells4[1 + j]? := by funext j; rw [cell_of_row w4 _ (1 + j) _ _ _ hrow4]
        rw [e]; exact hrep4)) hft.1 (by simpa using hft.2)) ?_
    rintro e w5 ⟨u5, rfl, ho5, hbel5⟩
    refine ⟨u5, rfl, st_assign (st_assign (wpList_nil (wp_ret ⟨rfl, ?_, u5, ?_, hbel4.trans ⟨hbel5.os, hbel5.tape, hbel5.output, hbel5.size, fun k hk => hbel5.block k (by omega)⟩, ?_⟩)))⟩
    · simp only [put_defers]; exact u3.defers.trans (u2.defers.trans (u1.defers.trans hd))
    · rw [sl_put_self _ _ _ (by simp only [put_size]; omega), sl_put_other _ _ _ _ (by decide), sl_put_self _ _ _ (by simp only [put_size]; omega), eval_tmp, sl_put_self _ _ _ (by simp only [put_size]; omega), eval_const]
      rfl
    · simp only [Option.isSome_some, if_true]
      rw [List.nil_append] at ho5
      exact ho5.lower (by omega)

theorem AgainOkK.all {f : Nat} {m : M} (h : AgainOkK [] f m) : AgainOk f m := ⟨h.1, fun w v S src bs h1 h2 h3 h4 h5 h6 => h.2 w v S src bs h1 h2 h3 h4 h5 h6 (onceM_nil m v bs)⟩
end Go.Proofs.YtoklbgdafnminaaGreatDoor
