/-
  Known tags, read: the loop over the tags; a part, a message that has known tags. Conditions: none.
-/
import Derived.Test.YtoklbgdafnminaaGreatDoorKn4
namespace Go.Proofs.YtoklbgdafnminaaGreatDoor
open Go.RowKit (Below)
open Kz

/-! ## Steps -/
def SUv (E : RE) (d : Nat) (c : Code) : Prop := ∀ (a : Act) (w : World) (Q : Exit → Act → World → Prop) (S : Nat → Prop) (rb : Nat) (st : St), a.tmps.size = E.N → sl a E.rs = .pointer (some ⟨rb, 0, none⟩) → RdIs w S rb st →
  (∀ a' w', Upd a a' (writes c) → sl a' d = .int .u32 ((rdV st).1 : Int) → RdIs w' S rb (rdV st).2 → w.grownBy w' (some rb) → Q .normal a' w') → c.wp Tryz.prog Q a w
def SMv (N x t : Nat) (c : Code) : Prop := ∀ (a : Act) (w : World) (Q : Exit → Act → World → Prop), a.tmps.size = N → (∀ a', Upd a a' (writes c) → sl a' t = sl a x → Q .normal a' w) → c.wp Tryz.prog Q a w
def SGtU (N x t : Nat) (c : Code) : Prop := ∀ (a : Act) (w : World) (Q : Exit → Act → World → Prop) (l : Nat), a.tmps.size = N → sl a x = .int .u32 (l : Int) → (∀ a', Upd a a' (writes c) → sl a' t = .bool (decide (0 < l)) → Q .normal a' w) → c.wp Tryz.prog Q a w
def SDecU (N x : Nat) (c : Code) : Prop := ∀ (a : Act) (w : World) (Q : Exit → Act → World → Prop) (l : Nat), a.tmps.size = N → sl a x = .int .u32 ((l + 1 : Nat) : Int) → l < 4294967295 → (∀ a', Upd a a' (writes c) → sl a' x = .int .u32 (l : Int) → Q .normal a' w) → c.wp Tryz.prog Q a w
theorem suv {E : RE} {id f d1 d : Nat} {tys : Array TypeId} {ty1 ty2 : TypeId} {p1 p2 : String} {e1 e2 : Array Edge} (hf : f = 141) (hn : [d1, d].all (· < E.N) = true) :
    SUv E d (Code.region id #[⟨some d1, .call { callee := .value (.func f), args := #[.tmp E.rs], argTypes := tys }, ty1, p1, e1, none⟩, ⟨some d, .assign (.tmp d1), ty2, p2, e2, none⟩] false) := by
  intro a w Q S rb st hN hrs hr hq
  subst hf
  simp only [List.all_cons, List.all_nil, Bool.and_true, Bool.and_eq_true, decide_eq_true_eq] at hn
  obtain ⟨fn, hfn, hb, hnn⟩ := hasBody_ok (P := Tryz.prog) (f := 141) (by kernel_rfl)
  refine reg_call1 hfn hb hnn (by omega) (by omega) ?_
  rw [hrs]
  refine Calls.mono (RUvarint_any w S rb st hr) ?_
  rintro e w' ⟨rfl, hr', hg⟩
  exact ⟨_, rfl, fun a' hu hs => hq a' w' hu hs hr' hg⟩
theorem smv {id N x t : Nat} {ty : TypeId} {p : String} {e : Array Edge} (hn : [t].all (· < N) = true) : SMv N x t (Code.region id #[⟨some t, .move (.tmp x), ty, p, e, none⟩] false) := by
  intro a w Q hN hq
  simp only [List.all_cons, List.all_nil, Bool.and_true, decide_eq_true_eq] at hn
  exact reg_move (by omega) hq
theorem sgtU {id N x t1 t2 : Nat} {T T' ty1 ty2 : TypeId} {p1 p2 : String} {e1 e2 : Array Edge} (hn : [t1, t2].all (· < N) = true) :
    SGtU N x t2 (Code.region id #[⟨some t1, .move (.tmp x), ty1, p1, e1, none⟩, ⟨some t2, .binOp .gtr T (.tmp t1) (.const (.int .u32 0)) T', ty2, p2, e2, none⟩] false) := by
  intro a w Q l hN hx hq
  simp only [List.all_cons, List.all_nil, Bool.and_true, Bool.and_eq_true, decide_eq_true_eq] at hn
  refine reg_cmp (r := decide (0 < l)) (by omega) (by omega) (fun y z => eqGuard_gtr ..) ?_ hq
  rw [hx, binOp_gtr]
  congr 2
  by_cases h : 0 < l
  · simp [h]
  · simp [h]
theorem sdecU {id N x t1 t2 : Nat} {T T' ty1 ty2 ty3 : TypeId} {p1 p2 p3 : String} {e1 e2 e3 : Array Edge} (hn : [t1, t2, x].all (· < N) = true) :
    SDecU N x (Code.region id #[⟨some t1, .move (.tmp x), ty1, p1, e1, none⟩, ⟨some t2, .binOp .sub T (.tmp t1) (.const (.int .u32 1)) T', ty2, p2, e2, none⟩, ⟨some x, .assign (.tmp t2), ty3, p3, e3, none⟩] false) := by
  intro a w Q l hN hx hl hq
  simp only [List.all_cons, List.all_nil, Bool.and_true, Bool.and_eq_true, decide_eq_true_eq] at hn
  refine wp_region_lit (st_move (st_val (v := .int .u32 (l : Int)) (w' := w) (exec_bin (u := .int .u32 ((l + 1 : Nat) : Int)) (by rw [eval_tmp, sl_put_self _ _ _ (by omega), eval_tmp, hx]) (eval_const _ _) (eqGuard_at_int ..) ?_)
    (st_assign (wpList_nil (hq _ ((((Upd.refl a _).put t1 _ (by simp [writes])).put t2 _ (by simp [writes])).put x _ (by simp [writes])) ?_)))))
  · rw [binOp_sub]
    have : IntKind.u32.wrap (((l + 1 : Nat) : Int) - 1) = (l : Int) := by rw [IntKind.wrap_u32]; omega
    simp only [Op.intArith, this]
  · rw [sl_put_self _ _ _ (by simp only [put_size]; omega), eval_tmp, sl_put_self _ _ _ (by simp only [put_size]; omega)]

/-! ## What new fields hold is what is to lie there -/
mutual
theorem ini_dF : ∀ (f : F) (c : Cells), dOkF f = true → Lies (dcF f) c → iniF true f c
  | .mk kind frm to null tag dflt of sub, c, h, hc => by
    simp only [dOkF, Bool.or_eq_true, Bool.and_eq_true, decide_eq_true_eq] at h
    simp only [dcF] at hc
    simp only [iniF]
    refine ⟨fun hk => ?_, fun hk => ?_, fun hk => ?_⟩
    · subst hk
      exact hc 0 _ rfl
    · obtain ⟨rfl, hn⟩ := hk
      simp only [show ¬ (10 : Nat) = 7 by decide, show ¬ (10 : Nat) = 8 by decide, if_false, if_true] at hc
      have : dOkFs sub = true := by
        rcases h with (((h | h) | h) | h) | h
        · omega
        · omega
        · omega
        · exact h.2
        · omega
      exact ini_dFs sub c this hc.left
    · omega
theorem ini_dFs : ∀ (fs : List F) (c : Cells), dOkFs fs = true → Lies (dcFs fs) c → iniFs true fs c
  | [], _, _, _ => trivial
  | f :: fs, c, h, hc => by
    simp only [dOkFs, Bool.and_eq_true] at h
    simp only [dcFs] at hc
    refine ⟨ini_dF f c h.1 hc.left, ?_⟩
    have h2 := hc.right
    rw [dcF_length f h.1] at h2
    exact ini_dFs fs _ h.2 h2
end
theorem repD_ini {v : Int} {flex : Bool} : ∀ (fs : List F) {w : World} {K : Nat → Prop} {c : Cells} {ts : List T}, tagOk fs = true → repD v flex fs w K c ts → ∀ i f, fs[i]? = some f → 0 ≤ f.tag → iniF true f (fun j => c (offI fs i + j))
  | [], _, _, _, _, _, _, _, _, h, _ => by cases h
  | f :: fs, w, K, c, ts, hk, h, i, g, hg, h0 => by
    simp only [tagOk, List.all_cons, Bool.and_eq_true, Bool.or_eq_true, decide_eq_true_eq] at hk
    obtain ⟨y, ys, -, h1, h2⟩ := h
    cases i with
    | zero =>
      cases hg
      rw [if_pos h0] at h1
      have := ini_dF f c (hk.1.resolve_left (by omega)) h1.1
      simpa [offI, cellsFs] using this
    | succ i =>
      have := repD_ini fs hk.2 h2 i g hg h0
      have e : (fun j => c (cellsF true f + (offI fs i + j))) = fun j => c (offI (f :: fs) (i + 1) + j) := by
        funext j
        show c (cellsF true f + (offI fs i + j)) = c (cellsF true f + offI fs i + j)
        rw [Nat.add_assoc]
      rw [← e]; exact this

/-! ## The loop -/
/-- Fields that may be read but once are read but once (or the second time in vain). -/
def onceOk (needs : List Nat) : Nat → List Nat → St → Prop
  | 0, _, _ => True
  | n + 1, seen, st => ((rdV st).1 ∈ needs → (rdV st).1 ∈ seen → (rdLen true (some (spanOf (rdV st).2).1)).2 = none) ∧ onceOk needs n ((rdV st).1 :: seen) (spanOf (rdV st).2).2
theorem onceOk_nil : ∀ (n : Nat) (seen : List Nat) (st : St), onceOk [] n seen st
  | 0, _, _ => trivial
  | n + 1, seen, st => ⟨fun h => absurd h (by simp), onceOk_nil n _ _⟩

/-- Behind the loop. -/
def PostK (E : RE) (v : Int) (flex : Bool) (fs : List F) (W : List Nat) (S : Nat → Prop) (rb cb p : Nat) (Ty : TypeId) (base : Nat) (a : Act) (w : World) (y : List T × List (Nat × List UInt8) × St) : Exit → Act → World → Prop
  | .normal, a', w' => Upd a a' W ∧ RdIs w' S rb y.2.2 ∧ MdB base w w' rb cb p (cellsFs true fs + 1) ∧ ∃ cells', w'.heap[cb]? = some (.cells cells' Ty (0, 0)) ∧ repP TagRep v flex true fs w' (fun g => S g ∨ base ≤ g) (fun j => cells'[p + j]?) (.mk 0 [] false y.1 y.2.1)
  | .ret, a', w' => y.2.2 = none ∧ a'.tmps.size = E.N ∧ a'.defers = [] ∧ (∃ t x, sl a' E.res = .iface t x) ∧ MdB base w w' rb cb p (cellsFs true fs + 1)
  | _, _, _ => False
/-- What the tags' code does. -/
def allTags (v : Int) (flex : Bool) (fs : List F) (ts : List T) (st : St) : List T × List (Nat × List UInt8) × St := if flex then tagsR fs (rds v flex fs) (rdV st).1 (ts, [], (rdV st).2) else (ts, [], st)
def TagsK (E : RE) (v : Int) (flex : Bool) (sp off : Nat) (fs : List F) (needs : List Nat) (c : Code) : Prop :=
  ∀ (S : Nat → Prop) (rb : Nat) (st : St) (cb co : Nat) (cells : Array Value) (Ty : TypeId) (a : Act) (w : World) (base : Nat) (ts : List T), Fr E rb v flex a → sl a sp = .pointer (some ⟨cb, co, none⟩) → RdIs w S rb st → ErrOk w → Ctx S rb cb base → base ≤ w.heap.size →
    w.heap[cb]? = some (.cells cells Ty (0, 0)) → co + off + cellsFs true fs + 1 ≤ cells.size → repD v flex fs w (fun g => S g ∨ base ≤ g) (fun j => cells[co + off + j]?) ts → (flex = true → onceOk needs (rdV st).1 [] (rdV st).2) →
    c.wp Tryz.prog (PostK E v flex fs (writes c) S rb cb (co + off) Ty base a w (allTags v flex fs ts st)) a w

section
variable {E : RE} {v : Int} {flex : Bool} {sp off : Nat} {fs : List F} {needs : List Nat}

theorem PostT.fromW {W W1 W2 : List Nat} {S : Nat → Prop} {rb cb p : Nat} {Ty : TypeId} {base n k : Nat} {seen : List Nat} {a a1 : Act} {w w1 : World} {sx : St} {y : List T × List (Nat × List UInt8) × St} (hu : Upd a a1 W1) (hm : MdB base w w1 rb cb p (cellsFs true fs + 1)) (h1 : ∀ t ∈ W1, t ∈ W) (h2 : ∀ t ∈ W2, t ∈ W)
    (e : Exit) (a' : Act) (w' : World) (hq : PostT E v fs W2 S rb cb p Ty base n k seen a1 w1 sx y e a' w') : PostT E v fs W S rb cb p Ty base n k seen a w sx y e a' w' := by
  cases e with
  | normal => exact ⟨(hu.mono h1).trans (hq.1.mono h2), hm.trans hq.2.1, hq.2.2⟩
  | ret => exact ⟨hq.1, hq.2.1, hq.2.2.1, hq.2.2.2.1, hm.trans hq.2.2.2.2⟩
  | _ => exact hq.elim
theorem MdB.of_grown {base : Nat} {w w' : World} {rb cb : Nat} (h : w.grownBy w' (some rb)) (hne : cb ≠ rb) (hb : base ≤ w.heap.size) (lo n : Nat) : MdB base w w' rb cb lo n := (Md.of_grown h hne lo n).low hb
theorem TI.grown {S : Nat → Prop} {rb cb p : Nat} {Ty : TypeId} {base : Nat} {w w' : World} {cells : Array Value} {ts : List T} {u : List (Nat × List UInt8)} {st st' : St} {n : Nat} {r : Option Nat} {seen : List Nat} (h : TI v fs S rb cb p Ty base w cells ts u st n r seen) (hc : Ctx S rb cb base) (hg : w.grownBy w' (some rb)) (hr : RdIs w' S rb st') :
    TI v fs S rb cb p Ty base w' cells ts u st' n r seen := by
  have hb : ∀ g, g < w.heap.size → g ≠ rb → w'.heap[g]? = w.heap[g]? := fun g hg' hgr => hg.block g hg' (fun e => hgr (Option.some.inj e))
  have hS : ∀ g, S g ∨ base ≤ g → g ≠ rb := fun g hg e => by
    rw [e] at hg
    rcases hg with h' | h'
    · exact h.rd.1 h'
    · have := hc.rbl; omega
  obtain ⟨l, hl, hta, hm⟩ := h.map
  exact { rd := hr, err := h.err.kept hg (fun e => hc.rbe (Option.some.inj e)), row := by rw [hb cb (Array.getElem?_eq_some_iff.1 h.row).1 hc.ne]; exact h.row, fit := h.fit, tag := h.tag,
          map := ⟨l, hl, tagsAt_kept (fun g hg' hgl => hb g hgl (hS g (.inl hg'))) hg.size (fun _ h => h) l u hta, hm.kept fun b _ hb1 hb2 => hb b hb1 (hS b (.inr hb2))⟩, keys := h.keys,
          reps := stable_plainF (fun _ => rfl) stable_tagRep fs w w' _ _ _ _ ts (fun g hg' hgl => hb g hgl (hS g hg'.1)) hg.size (fun _ h => h) (fun _ _ => rfl) h.reps, ini := h.ini, size := Nat.le_trans h.size hg.size }
/-- At the loop's end. -/
theorem TI.rep {S : Nat → Prop} {rb cb p : Nat} {Ty : TypeId} {base : Nat} {w : World} {cells : Array Value} {ts : List T} {u : List (Nat × List UInt8)} {st : St} {n : Nat} {r : Option Nat} {seen : List Nat} (h : TI v fs S rb cb p Ty base w cells ts u st n r seen) (hn : n < 4294967296) :
    repP TagRep v true true fs w (fun g => S g ∨ base ≤ g) (fun j => cells[p + j]?) (.mk 0 [] false ts u) := by
  refine ⟨stable_plainF (fun _ => rfl) stable_tagRep fs w w _ _ _ _ ts (fun _ _ _ => rfl) (Nat.le_refl _) (fun g hg => hg.1) (fun _ _ => rfl) h.reps, fun _ => ⟨⟨r, h.tag, ?_⟩, h.keys⟩⟩
  obtain ⟨l, hl, hta, hm⟩ := h.map
  cases r with
  | none =>
    have hm : l = [] := hm
    subst hm
    show u = []
    cases u with
    | nil => rfl
    | cons x u => exact hta.elim
  | some b => exact ⟨.inr hm.2.1, l, n, hm.1, hl, hm.2.2, by omega, tagsAt_kept (fun _ _ _ => rfl) (Nat.le_refl _) (fun g hg => .inl hg) l u hta⟩

set_option maxHeartbeats 1000000 in
theorem TagsK.mk {t0 t3 nm kk tk b1 b2 b3 : Nat} {c0 c1 c2 c3 c4 c5 cS : Code} (hT0 : Test E v flex t0 flex c0) (h1 : SUv E nm c1) (h2 : SGtU E.N nm t3 c2) (h3 : SUv E kk c3) (h4 : SMv E.N kk tk c4) (h5 : SDecU E.N nm c5) (hok : tagOk fs = true)
    (hcl : clear (sp :: E.slots) (c0.seq (c1.seq (c2.seq (c3.seq (c4.seq (cS.seq c5)))))) = true) (hcn : clear [nm] (c2.seq (c3.seq (c4.seq cS))) = true) (hck : clear [kk] c4 = true) (hS : flex = true → SwP E v sp off fs needs tk kk [] cS) :
    TagsK E v flex sp off fs needs (c0.seq (Code.cond (.tmp t0) (c1.seq (Code.block b1 (Code.loop ((c2.seq (Code.cond (.tmp t3) Code.skip (Code.exit b1))).seq ((Code.block b2 (c3.seq (c4.seq (Code.block b3 cS)))).seq c5))))) Code.skip)) := by
  intro S rb st cb co cells Ty a w base ts hfr hsp hrd herr hc hbase hrow hfit hrep honce
  simp only [clear_seq] at hcl hcn
  obtain ⟨k0, k1, k2, k3, k4, kS, k5⟩ := hcl
  obtain ⟨m2, m3, m4, mS⟩ := hcn
  generalize hWW : writes (c0.seq (Code.cond (.tmp t0) (c1.seq (Code.block b1 (Code.loop ((c2.seq (Code.cond (.tmp t3) Code.skip (Code.exit b1))).seq ((Code.block b2 (c3.seq (c4.seq (Code.block b3 cS)))).seq c5))))) Code.skip)) = WW
  have hW : ∀ t, t ∈ writes c0 ∨ t ∈ writes c1 ∨ t ∈ writes c2 ∨ t ∈ writes c3 ∨ t ∈ writes c4 ∨ t ∈ writes cS ∨ t ∈ writes c5 → t ∈ WW := by
    intro t ht
    rw [← hWW]
    simp only [writes, List.mem_append, List.append_nil]
    rcases ht with h | h | h | h | h | h | h <;> simp [h]
  refine wp_seq (hT0.2 rb a w _ hfr fun a1 u1 s1 => ?_)
  have f1 := hfr.upd u1 (clear_iff hT0.1)
  have p1 : sl a1 sp = .pointer (some ⟨cb, co, none⟩) := (u1.same _ (clear_iff k0 sp (by simp))).trans hsp
  cases flex with
  | false =>
    refine wp_cond_false (by rw [eval_tmp, s1]) (wp_skip ?_)
    refine ⟨u1.mono (fun t ht => hW t (.inl ht)), hrd, MdB.refl _ _ _ _ _ _, cells, hrow, repD_plain0 fs hrep, fun h => by cases h⟩
  | true =>
    have honce := honce rfl
    have hS := hS rfl
    refine wp_cond_true (by rw [eval_tmp, s1]) ?_
    refine wp_seq (h1 a1 w _ S rb st f1.size f1.rs hrd fun a2 w2 u2 s2 r2 g2 => ?_)
    have f2 := f1.upd u2 (fun t ht => clear_iff k1 t (List.mem_cons_of_mem _ ht))
    have p2 : sl a2 sp = .pointer (some ⟨cb, co, none⟩) := (u2.same _ (clear_iff k1 sp (by simp))).trans p1
    have hm2 : MdB base w w2 rb cb (co + off) (cellsFs true fs + 1) := MdB.of_grown g2 hc.ne hbase _ _
    have hpl := repD_plain fs hok hrep
    have hini : ∀ i f, fs[i]? = some f → 0 ≤ f.tag → f.tag.toNat ∉ ([] : List Nat) → iniF true f (fun j => cells[co + off + offI fs i + j]?) := fun i f hf h0 _ => by
      have := repD_ini fs hok hrep i f hf h0
      have e : (fun j => cells[co + off + (offI fs i + j)]?) = fun j => cells[co + off + offI fs i + j]? := by funext j; congr 1; omega
      rw [← e]; exact this
    have hti0 : TI v fs S rb cb (co + off) Ty base w cells ts [] st 0 none [] := { rd := hrd, err := herr, row := hrow, fit := by omega, tag := hpl.2, map := ⟨[], List.Pairwise.nil, trivial, rfl⟩, keys := fun x hx => absurd hx (by simp), reps := stable_plainF (fun _ => rfl) stable_tagRep fs w w _ _ _ _ ts (fun _ _ _ => rfl) (Nat.le_refl _) (fun g hg => ⟨hg, fun e => by cases e⟩) (fun _ _ => rfl) hpl.1, ini := hini, size := hbase }
    have hti2 := hti0.grown hc g2 r2
    have hbd := rdV_bounds st
    generalize hY : allTags v true fs ts st = Y
    have hY : tagsR fs (rds v true fs) (rdV st).1 (ts, [], (rdV st).2) = Y := by rw [← hY]; rfl
    refine wp_block ?_
    refine wp_loop (I := fun a' w' => ∃ (num : Nat) (cells : Array Value) (ts : List T) (u : List (Nat × List UInt8)) (st : St) (n : Nat) (r : Option Nat) (seen : List Nat), Upd a a' WW ∧ Fr E rb v true a' ∧ sl a' sp = .pointer (some ⟨cb, co, none⟩) ∧ sl a' nm = .int .u32 (num : Int) ∧ MdB base w w' rb cb (co + off) (cellsFs true fs + 1) ∧
        TI v fs S rb cb (co + off) Ty base w' cells ts u st n r seen ∧ n + num < 4294967296 ∧ tagsR fs (rds v true fs) num (ts, u, st) = Y ∧ onceOk needs num seen st) (μ := fun a' _ => match sl a' nm with | .int _ i => i.toNat | _ => 0)
      ⟨(rdV st).1, cells, ts, [], (rdV st).2, 0, none, [], (u1.mono (fun t ht => hW t (.inl ht))).trans (u2.mono (fun t ht => hW t (.inr (.inl ht)))), f2, p2, s2, hm2, hti2, by omega, hY, honce⟩ ?_
    rintro a3 w3 ⟨num, cells3, ts3, u3, st3, n3, r3, seen3, v3, f3, p3, s3, hm3, hti3, hn3, hY3, ho3⟩
    refine wp_seq (wp_seq (h2 a3 w3 _ num f3.size s3 fun a4 u4 s4 => ?_))
    have f4 := f3.upd u4 (fun t ht => clear_iff k2 t (List.mem_cons_of_mem _ ht))
    have p4 : sl a4 sp = .pointer (some ⟨cb, co, none⟩) := (u4.same _ (clear_iff k2 sp (by simp))).trans p3
    have n4 : sl a4 nm = .int .u32 (num : Int) := (upd_of u4 m2 nm (by simp)).trans s3
    have v4 := v3.trans (u4.mono (fun t ht => hW t (.inr (.inr (.inl ht)))))
    rcases Nat.eq_zero_or_pos num with hz | hpos
    · subst hz
      refine wp_cond_false (by rw [eval_tmp, s4]; rfl) (wp_exit ?_)
      simp only [Exit.then, Exit.inBlock, if_pos]
      have hY3 : (ts3, u3, st3) = Y := hY3
      subst hY3
      exact ⟨v4, hti3.rd, hm3, cells3, hti3.row, hti3.rep (by omega)⟩
    · obtain ⟨l, rfl⟩ : ∃ l, num = l + 1 := ⟨num - 1, by omega⟩
      refine wp_cond_true (by rw [eval_tmp, s4]; simp) (wp_skip ?_)
      have hbody : (Code.block b2 (c3.seq (c4.seq (Code.block b3 cS)))).wp Tryz.prog (PostT E v fs (writes (Code.block b2 (c3.seq (c4.seq (Code.block b3 cS))))) S rb cb (co + off) Ty base n3 (rdV st3).1 seen3 a4 w3 (spanOf (rdV st3).2).2 (tagK fs (rds v true fs) (rdV st3).1 (ts3, u3, (rdV st3).2))) a4 w3 := by
        refine wp_inBlock (wp_seq (h3 a4 w3 _ S rb st3 f4.size f4.rs hti3.rd fun a5 w5 u5 s5 r5 g5 => ?_)) (PostT.inBlock _)
        have f5 := f4.upd u5 (fun t ht => clear_iff k3 t (List.mem_cons_of_mem _ ht))
        have p5 : sl a5 sp = .pointer (some ⟨cb, co, none⟩) := (u5.same _ (clear_iff k3 sp (by simp))).trans p4
        refine wp_seq (h4 a5 w5 _ f5.size fun a6 u6 s6 => ?_)
        have f6 := f5.upd u6 (fun t ht => clear_iff k4 t (List.mem_cons_of_mem _ ht))
        have p6 : sl a6 sp = .pointer (some ⟨cb, co, none⟩) := (u6.same _ (clear_iff k4 sp (by simp))).trans p5
        refine wp_inBlock (wp_mono (hS S rb cb co Ty base a6 w5 cells3 ts3 u3 (rdV st3).2 n3 r3 seen3 (rdV st3).1 f6 p6 (by rw [s6, s5]) ((upd_of u6 hck kk (by simp)).trans s5) (rdV_bounds st3) (by simp) (hti3.grown hc g5 r5) hc (by omega) ho3.1) ?_) (PostT.inBlock _)
        refine PostT.fromW (W1 := writes c3 ++ writes c4) ((u5.mono (fun t ht => List.mem_append_left _ ht)).trans (u6.mono (fun t ht => List.mem_append_right _ ht))) (MdB.of_grown g5 hc.ne hti3.size _ _) (fun t ht => ?_) (fun t ht => ?_)
        · simp only [writes, List.mem_append] at ht ⊢; rcases ht with h | h <;> simp [h]
        · simp only [writes, List.mem_append]; simp [ht]
      refine wp_seq (wp_mono hbody ?_)
      have hstep : tagsR fs (rds v true fs) l (tagK fs (rds v true fs) (rdV st3).1 (ts3, u3, (rdV st3).2)) = Y := by
        rw [← hY3]
        show _ = tagsR fs (rds v true fs) l (tagR fs (rds v true fs) (ts3, u3, st3))
        rw [tagR_tagK]
      intro e a7 w7 hq
      cases e with
      | normal =>
        obtain ⟨v7, hm7, hsx, cells7, n7, r7, hn7, hti7⟩ := hq
        have hv7 : Upd a4 a7 (writes c3 ++ (writes c4 ++ writes cS)) := v7.mono (fun t ht => by simpa [writes] using ht)
        have keep7 : ∀ t, t ∈ sp :: E.slots → sl a7 t = sl a4 t := fun t ht => hv7.same t (fun h => by
          simp only [List.mem_append] at h
          rcases h with h | h | h
          · exact clear_iff k3 t ht h
          · exact clear_iff k4 t ht h
          · exact clear_iff kS t ht h)
        have s7 : sl a7 nm = .int .u32 ((l + 1 : Nat) : Int) := (hv7.same nm (fun h => by
          simp only [List.mem_append] at h
          rcases h with h | h | h
          · exact clear_iff m3 nm (by simp) h
          · exact clear_iff m4 nm (by simp) h
          · exact clear_iff mS nm (by simp) h)).trans n4
        have f7 : Fr E rb v true a7 := {
          size := v7.size.trans f4.size
          defers := v7.defers.trans f4.defers
          rs := (keep7 _ (by simp [RE.slots])).trans f4.rs
          vs := (keep7 _ (by simp [RE.slots])).trans f4.vs
          us := (keep7 _ (by simp [RE.slots])).trans f4.us
          fs := fun t ht => (keep7 _ (by simp [RE.slots, ht])).trans (f4.fs t ht) }
        refine h5 a7 w7 _ l f7.size s7 (by omega) fun a8 u8 s8 => ?_
        refine ⟨⟨l, cells7, _, _, _, n7, r7, _, (v4.trans (v7.mono (fun t ht => hW t ?_))).trans (u8.mono (fun t ht => hW t (by simp [ht]))), f7.upd u8 (fun t ht => clear_iff k5 t (List.mem_cons_of_mem _ ht)), ?_, s8, hm3.trans hm7, hti7, by omega, hstep, ?_⟩, ?_⟩
        · have : t ∈ writes c3 ∨ t ∈ writes c4 ∨ t ∈ writes cS := by simpa [writes] using ht
          rcases this with h | h | h <;> simp [h]
        · exact (u8.same _ (clear_iff k5 sp (by simp))).trans ((keep7 sp (by simp)).trans p4)
        · rw [hsx]; exact ho3.2
        · simp only [s8, s3]
          omega
      | ret =>
        obtain ⟨hn, hs7, hd7, hv7, hm7⟩ := hq
        refine ⟨?_, hs7, hd7, hv7, hm3.trans hm7⟩
        rw [← hstep]
        generalize tagK fs (rds v true fs) (rdV st3).1 (ts3, u3, (rdV st3).2) = y at hn ⊢
        obtain ⟨y1, y2, y3⟩ := y
        have hn : y3 = none := hn
        subst hn
        exact strict_tagsR fs (rds v true fs) l y1 y2
      | _ => exact hq.elim
end
end Go.Proofs.YtoklbgdafnminaaGreatDoor
