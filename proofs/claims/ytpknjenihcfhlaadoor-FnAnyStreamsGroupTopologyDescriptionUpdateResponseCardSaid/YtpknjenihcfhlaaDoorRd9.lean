/-
  A whole function that reads. Conditions: none.
-/
import Derived.Test.YtpknjenihcfhlaaDoorRd8
namespace Go.Proofs.YtpknjenihcfhlaaDoor
open Go.RowKit (Below)
open Kz

section
variable (tags : Rel (List (Nat × List UInt8))) (E : RE) (v : Int) (flex ht : Bool)
/-- The code of fields, of the tags behind them, and the function's end. -/
def RdTE (sp off : Nat) (fs : List F) (c : Code) : Prop :=
  RdE E v flex sp off (cellsP ht fs) (iniFs ht fs) (fun st => (((plainR v fs (rds v flex fs) (dfltOf fs) st).1, (if flex then rdTags (plainR v fs (rds v flex fs) (dfltOf fs) st).2 else ([], (plainR v fs (rds v flex fs) (dfltOf fs) st).2)).1),
      (if flex then rdTags (plainR v fs (rds v flex fs) (dfltOf fs) st).2 else ([], (plainR v fs (rds v flex fs) (dfltOf fs) st).2)).2))
    (fun w K cc x => plainRep v flex ht fs (repFs tags v flex ht fs) w K cc x.1 ∧ (flex = true → tags w K (fun j => cc (cellsFs ht fs + j)) x.2)) c
/-- The code of a part, and the function's end. -/
def RdPE (sp off : Nat) (fs : List F) (c : Code) : Prop := RdE E v flex sp off (cellsP ht fs) (iniFs ht fs) (rdPart v flex fs) (repP tags v flex ht fs) c
end

section
variable {tags : Rel (List (Nat × List UInt8))} {E : RE} {v : Int} {flex ht : Bool}

theorem RdTE.last {sp off : Nat} {fs : List F} {c cF : Code} (h : RdTl tags E v flex ht sp off fs c) (hF : SFail E cF) (hcl : clear E.slots c = true) : RdTE tags E v flex ht sp off fs (c.seq (cF.seq Code.ret)) := RdE.last h hF hcl
theorem RdTE.nil {sp off : Nat} {cF : Code} (hht : ht = false) (hfl : flex = false) (hF : SFail E cF) : RdTE tags E v flex ht sp off [] (cF.seq Code.ret) := by
  subst hht; subst hfl
  intro rb S st cb co cells T a w hp
  refine wp_seq (hF a w _ S rb _ hp.fr.size hp.fr.rs hp.rd hp.err fun a2 u2 hv => wp_ret ?_)
  exact ⟨u2.size.trans hp.fr.size, u2.defers.trans hp.fr.defers, Md.refl _ _ _ _ _, hv, fun _ => ⟨cells, hp.row, rfl, fun h => by cases h⟩⟩
theorem RdTE.cons (htg : flex = true → ht = true) (hT : Stable 1 tags) {sp off : Nat} {f : F} {fs : List F} {c1 c2 : Code} (h1 : RdF tags E v flex ht sp off f c1) (hcl : clear (sp :: E.slots) c1 = true) (h2 : RdTE tags E v flex ht sp (off + cellsF ht f) fs c2) :
    RdTE tags E v flex ht sp off (f :: fs) (c1.seq c2) := by
  have hst2 : Stable (cellsP ht fs) (fun w K cc (x : List T × List (Nat × List UInt8)) => plainRep v flex ht fs (repFs tags v flex ht fs) w K cc x.1 ∧ (flex = true → tags w K (fun j => cc (cellsFs ht fs + j)) x.2)) := by
    intro w w' K K' c c' x hk hs hK hc hx
    refine ⟨stable_plainF htg hT fs w w' K K' c c' x.1 hk hs hK (fun j hj => hc j (by simp only [cellsP]; omega)) hx.1, fun hf => hT w w' K K' _ _ _ hk hs hK (fun j hj => hc _ ?_) (hx.2 hf)⟩
    simp only [cellsP, htg hf, Bool.toNat_true]; omega
  have hs2 : Strict (fun st => (((plainR v fs (rds v flex fs) (dfltOf fs) st).1, (if flex then rdTags (plainR v fs (rds v flex fs) (dfltOf fs) st).2 else ([], (plainR v fs (rds v flex fs) (dfltOf fs) st).2)).1),
      (if flex then rdTags (plainR v fs (rds v flex fs) (dfltOf fs) st).2 else ([], (plainR v fs (rds v flex fs) (dfltOf fs) st).2)).2)) := by
    have h1 := strict_plainF v flex fs (dfltOf fs)
    unfold Strict at h1 ⊢
    simp only [h1]
    split
    · exact strict_rdTags
    · rfl
  have hloc : ∀ c c' : Cells, (∀ j, j < cellsP ht fs → c' j = c j) → iniFs ht fs c → iniFs ht fs c' := fun c c' hc => ini_locFs ht fs c c' (fun j hj => hc j (by simp only [cellsP]; omega))
  have h := RdE.seq h1 h2 hcl (fun w w' K K' c c' x hk hs hK hc hx ho => stable_repF htg hT f w w' K K' c c' x hk hs hK hc (hx ho)) hst2 hs2 hloc (fun x y => (x :: y.1, y.2))
  have e : cellsP ht (f :: fs) = cellsF ht f + cellsP ht fs := by simp only [cellsP, cellsFs]; omega
  unfold RdTE
  rw [e]
  refine RdE.conv h id (fun st => ?_) (fun w K cc x hx => ?_) (fun _ h => h)
  · simp only [rds, dfltOf, plainR, List.headD_cons, List.tail_cons, id]
  · obtain ⟨y, z, rfl, h1, h2, h3⟩ := hx
    refine ⟨⟨y, z.1, rfl, h1, h2⟩, fun hf => ?_⟩
    have := h3 hf
    simp only [cellsFs]
    simp only [Nat.add_assoc]
    exact this
theorem RdTE.part {sp off : Nat} {fs : List F} {c : Code} (hno : noTag fs = true) (h : RdTE tags E v flex ht sp off fs c) : RdPE tags E v flex ht sp off fs c := by
  refine RdE.conv h (fun x => ⟨0, [], false, x.1, x.2⟩) (fun st => ?_) (fun w K cc x hx => hx) (fun _ h => h)
  simp only [rdPart, asmR]
  cases flex with
  | true => simp only [if_true, tagsR_utags hno, rdTags]
  | false => simp
end

/-! ## The head of a function -/
def SReader (N src rs : Nat) (c : Code) : Prop := ∀ (a : Act) (w : World) (Q : Exit → Act → World → Prop) (p : Option Addr) (n m : Nat), a.tmps.size = N → sl a src = .slice p n m →
  (∀ a' w', Upd a a' (writes c) → sl a' rs = .pointer (some ⟨w.heap.size, 0, none⟩) → w'.heap = w.heap.push (.cells #[.slice p n m, .bool false] 82 (0, 0)) → w'.os = w.os → w'.tape = w.tape → w'.output = w.output → Q .normal a' w') → c.wp Tryd.prog Q a w
def SMove (N : Nat) (c : Code) : Prop := ∀ (a : Act) (w : World) (Q : Exit → Act → World → Prop), a.tmps.size = N → (∀ a', Upd a a' (writes c) → Q .normal a' w) → c.wp Tryd.prog Q a w
def SCmpV (N x d : Nat) (k : Int) (c : Code) : Prop := ∀ (a : Act) (w : World) (Q : Exit → Act → World → Prop) (v : Int), a.tmps.size = N → sl a x = .int .i16 v → (∀ a', Upd a a' (writes c) → sl a' d = .bool (decide (k ≤ v)) → Q .normal a' w) → c.wp Tryd.prog Q a w

theorem smove {id N t x : Nat} {ty : TypeId} {p : String} {e : Array Edge} (hn : [t].all (· < N) = true) : SMove N (Code.region id #[⟨some t, .move (.tmp x), ty, p, e, none⟩] false) := by
  intro a w Q hN hq
  simp only [List.all_cons, List.all_nil, Bool.and_true, decide_eq_true_eq] at hn
  exact reg_move (by omega) fun a' hu _ => hq a' hu
theorem scmpV {id N x t1 t2 d : Nat} {k : Int} {T T' ty1 ty2 ty3 : TypeId} {p1 p2 p3 : String} {e1 e2 e3 : Array Edge} (hn : [t1, t2, d].all (· < N) = true) :
    SCmpV N x d k (Code.region id #[⟨some t1, .move (.tmp x), ty1, p1, e1, none⟩, ⟨some t2, .binOp .geq T (.tmp t1) (.const (.int .i16 k)) T', ty2, p2, e2, none⟩, ⟨some d, .assign (.tmp t2), ty3, p3, e3, none⟩] false) := by
  intro a w Q v hN hx hq
  simp only [List.all_cons, List.all_nil, Bool.and_true, Bool.and_eq_true, decide_eq_true_eq] at hn
  exact reg_cmp_to (r := decide (k ≤ v)) (by omega) (by omega) (by omega) (fun y z => eqGuard_geq ..) (by rw [hx]; exact binOp_geq ..) hq

theorem build_reader (w : World) (p : Option Addr) (n m : Nat) : (Instr.build 82 #[(0, .slice p n m)]).run Tryd.prog w = .ok (.agg #[.slice p n m, .bool false]) w := by
  kernel_rfl
theorem alloc_reader (w : World) : (Instr.alloc 82 true (.tuple #[])).run Tryd.prog w = .ok (.pointer (some ⟨w.heap.size, 0, none⟩)) (w.alloc (.cells #[.slice none 0 0, .bool false] 82)) := by
  kernel_rfl
theorem sreader {id N src t1 t2 rs ty : Nat} {ty1 ty2 ty3 ty4 : TypeId} {p1 p2 p3 p4 : String} {e1 e2 e3 e4 : Array Edge} (hty : ty = 82) (hn : [t1, t2, rs].all (· < N) = true) (hd : decide (rs ≠ t2) = true) :
    SReader N src rs (Code.region id #[⟨some t1, .move (.tmp src), ty1, p1, e1, none⟩, ⟨some t2, .build ty #[(0, .tmp t1)], ty2, p2, e2, none⟩, ⟨some rs, .alloc ty, ty3, p3, e3, none⟩, ⟨none, .store ty (.tmp rs) (.tmp t2), ty4, p4, e4, none⟩] false) := by
  intro a w Q p n m hN hsrc hq
  subst hty
  simp only [List.all_cons, List.all_nil, Bool.and_true, Bool.and_eq_true, decide_eq_true_eq] at hn hd
  refine wp_region_lit (st_move (st_val (v := .agg #[.slice p n m, .bool false]) (w' := w) ?_ (st_val (v := .pointer (some ⟨w.heap.size, 0, none⟩)) (w' := w.alloc (.cells #[.slice none 0 0, .bool false] 82)) ?_ ?_)))
  · have : (a.put (some t1) (a.eval (.tmp src))).eval (.tmp t1) = .slice p n m := by rw [eval_tmp, sl_put_self _ _ _ (by omega), eval_tmp, hsrc]
    simp only [execOp, List.map_toArray, List.map_cons, List.map_nil, this, Sem.run_bind, build_reader, Result.andThen_ok, Sem.run_pure]
  · simp only [execOp, Sem.run_bind, alloc_reader, Result.andThen_ok, Sem.run_pure]
  · have hnew : (w.alloc (.cells #[.slice none 0 0, .bool false] 82)).heap[w.heap.size]? = some (.cells #[.slice none 0 0, .bool false] 82 (0, 0)) := alloc_new _ _
    refine wpList_store_mid rfl 82 _ _ rfl w.heap.size 0 #[.slice p n m, .bool false] ?_ ?_ ?_ (by kernel_rfl) (by simp [Value.oneCell']) (wpList_nil ?_)
    · rw [eval_tmp, sl_put_self _ _ _ (by simp only [put_size]; omega)]
    · rw [eval_tmp, sl_put_other _ _ _ _ hd, sl_put_self _ _ _ (by simp only [put_size]; omega)]
    · intro j hj
      simp at hj
      refine ⟨?_, by simp only [World.frozen?, hnew]; simp⟩
      rw [cell_of_row _ _ _ _ _ _ hnew]
      simp
      omega
    · refine hq _ _ (((Upd.refl a _).put t1 _ (by simp [writes])).put t2 _ (by simp [writes]) |>.put rs _ (by simp [writes])) ?_ ?_ rfl rfl rfl
      · rw [put_none, sl_put_self _ _ _ (by simp only [put_size]; omega)]
      · apply Array.ext_getElem?
        intro i
        simp only [World.setCells]
        by_cases hi : i = w.heap.size
        · subst hi
          rw [heap_setCell_row (heap_setCell_row hnew)]
          simp
        · rw [Below.heap_setCell _ _ _ _ hi, Below.heap_setCell _ _ _ _ hi]
          simp only [World.alloc, Array.getElem?_push, if_neg hi]

/-- 'Default' of the whole struct. -/
def iniM (ht : Bool) (v : Int) (fs : List F) (c : Cells) : Prop := c 0 = some (.int .i16 v) ∧ iniFs ht fs (fun j => c (1 + j))

/-- A function that reads a message. -/
def ReadsMsg (tags : Rel (List (Nat × List UInt8))) (f : Nat) (m : M) (ht : Bool) (T : TypeId) : Prop :=
  hasBody Tryd.prog f = true ∧ ∀ (w : World) (S : Nat → Prop) (B : Nat) (v : Int) (bs : List UInt8) (p : Option Addr) (n k : Nat) (cells : Array Value), 0 ≤ v → w.heap[B]? = some (.cells cells T (0, 0)) → 1 + cellsP ht m.fields ≤ cells.size → iniM ht v m.fields (fun j => cells[j]?) →
    BytesAt w S (.slice p n k) bs → ¬ S B → (∀ g, S g → g < w.heap.size) → ErrOk w → B ≠ 1 → Calls Tryd.prog f #[.pointer (some ⟨B, 0, none⟩), .slice p n k, .bool false] w fun e w' =>
      ∃ u, e = .returned u ∧ ErrV (m.read v (some bs)).2 u ∧ w.grownBy w' (some B) ∧ ((m.read v (some bs)).2.isSome = true → ∃ cells', w'.heap[B]? = some (.cells cells' T (0, 0)) ∧ cells'[0]? = some (.int .i16 v) ∧
        repP tags v (m.isFlex v) ht m.fields w' (fun g => S g ∨ w.heap.size ≤ g) (fun j => cells'[1 + j]?) (m.read v (some bs)).1)

section
variable {tags : Rel (List (Nat × List UInt8))} {m : M} {ht : Bool}
/-- What lies ahead of the fields' code. -/
theorem read_start {E : RE} {p0 p1 p2 p3 p4 rest : Code} (hN : 3 ≤ E.N) (h0 : SConst E.N E.res .nilIface p0) (h1 : ∀ v, SDefault E.N 0 (1 + cellsP ht m.fields) (iniM ht v m.fields) p1) (h2 : SReader E.N 1 E.rs p2) (h3 : SLoad E.N 0 0 E.vs p3) (h4 : SMove E.N p4)
    (hcl : clear [0, 1, 2] (p0.seq (p1.seq (p2.seq (p3.seq p4)))) = true) (hcr : clear [E.rs] (p3.seq p4) = true) (hcv : clear [E.vs] p4 = true)
    (w : World) (S : Nat → Prop) (B : Nat) (v : Int) (bs : List UInt8) (p : Option Addr) (n k : Nat) (cells : Array Value) (T : TypeId) (hrow : w.heap[B]? = some (.cells cells T (0, 0))) (hfit : 1 + cellsP ht m.fields ≤ cells.size) (hini : iniM ht v m.fields (fun j => cells[j]?))
    (hbs : BytesAt w S (.slice p n k) bs) (hSB : ¬ S B) (hold : ∀ g, S g → g < w.heap.size) (her : ErrOk w) (hB : B ≠ 1) (Q : Exit → Act → World → Prop)
    (hq : ∀ (a : Act) (w1 : World) (cells1 : Array Value), a.tmps.size = E.N → a.defers = [] → sl a E.rs = .pointer (some ⟨w1.heap.size - 1, 0, none⟩) → sl a E.vs = .int .i16 v → sl a 2 = .bool false → sl a 0 = .pointer (some ⟨B, 0, none⟩) → RdIs w1 S (w1.heap.size - 1) (some bs) → ErrOk w1 →
      w.heap.size < w1.heap.size → w.grownBy w1 (some B) → w1.heap[B]? = some (.cells cells1 T (0, 0)) → cells1.size = cells.size → iniM ht v m.fields (fun j => cells1[j]?) → rest.wp Tryd.prog Q a w1) :
    (p0.seq (p1.seq (p2.seq (p3.seq (p4.seq rest))))).wp Tryd.prog Q ⟨#[.pointer (some ⟨B, 0, none⟩), .slice p n k, .bool false] ++ Array.replicate (E.N - 3) undef, []⟩ w := by
  simp only [clear_seq] at hcl hcr
  obtain ⟨k0, k1, k2, k3, k4⟩ := hcl
  generalize ha : (⟨#[.pointer (some ⟨B, 0, none⟩), .slice p n k, .bool false] ++ Array.replicate (E.N - 3) undef, []⟩ : Act) = a
  have hsz : a.tmps.size = E.N := by subst ha; simp; omega
  have hd : a.defers = [] := by subst ha; rfl
  have s0 : sl a 0 = .pointer (some ⟨B, 0, none⟩) := by subst ha; simp [sl, Array.getD_eq_getD_getElem?, Array.getElem?_append]
  have s1 : sl a 1 = .slice p n k := by subst ha; simp [sl, Array.getD_eq_getD_getElem?, Array.getElem?_append]
  have s2 : sl a 2 = .bool false := by subst ha; simp [sl, Array.getD_eq_getD_getElem?, Array.getElem?_append]
  clear ha
  have hBlt : B < w.heap.size := (Array.getElem?_eq_some_iff.1 hrow).1
  refine wp_seq (h0 a w _ hsz fun a1 u1 _ => ?_)
  refine wp_seq (h1 v a1 w _ B 0 cells T (u1.size.trans hsz) (by rw [upd_of u1 k0 0 (by simp)]; exact s0) hrow (by omega) (by simpa using hini) fun a2 w2 cells2 u2 g2 row2 sz2 same2 ini2 => ?_)
  refine wp_seq (h2 a2 w2 _ p n k (u2.size.trans (u1.size.trans hsz)) (by rw [upd_of u2 k1 1 (by simp), upd_of u1 k0 1 (by simp)]; exact s1) fun a3 w3 u3 s3 hh3 ho3 ht3 hp3 => ?_)
  have hsz3 : w3.heap.size = w2.heap.size + 1 := by rw [hh3]; simp
  have hold3 : ∀ g, g < w2.heap.size → w3.heap[g]? = w2.heap[g]? := fun g hg => by rw [hh3, Array.getElem?_push]; simp; omega
  have hnew3 : w3.heap[w2.heap.size]? = some (.cells #[.slice p n k, .bool false] 82 (0, 0)) := by rw [hh3]; simp
  have g3 : w2.grownBy w3 none := ⟨ho3, ht3, hp3, by omega, fun g hg _ => hold3 g hg⟩
  have hB2 : B < w2.heap.size := Nat.lt_of_lt_of_le hBlt g2.size
  have row3 : w3.heap[B]? = some (.cells cells2 T (0, 0)) := by rw [hold3 B hB2]; exact row2
  have c3 : w3.cell? ⟨B, 0 + 0, none⟩ = some (.int .i16 v) := by rw [cell_of_row w3 B _ _ _ _ row3]; simpa using ini2.1
  have hrd3 : RdIs w3 S w2.heap.size (some bs) := by
    refine ⟨fun h => by have := hold _ h; have := g2.size; omega, .slice p n k, hnew3, ?_⟩
    refine stable_bytes (fun g hg hlt => ?_) (by have := g2.size; omega) (fun g hg => hg) hbs
    rw [hold3 g (Nat.lt_of_lt_of_le hlt g2.size), g2.block g hlt (fun e => hSB (by rw [← Option.some.inj e]; exact hg))]
  have her3 : ErrOk w3 := (her.kept g2 (fun e => hB (Option.some.inj e))).kept g3 (fun e => by cases e)
  refine wp_seq (h3 a3 w3 _ B 0 _ (u3.size.trans (u2.size.trans (u1.size.trans hsz))) (by rw [upd_of u3 k2 0 (by simp), upd_of u2 k1 0 (by simp), upd_of u1 k0 0 (by simp)]; exact s0) c3 fun a4 u4 s4 => ?_)
  refine wp_seq (h4 a4 w3 _ (u4.size.trans (u3.size.trans (u2.size.trans (u1.size.trans hsz)))) fun a5 u5 => ?_)
  have e1 : w3.heap.size - 1 = w2.heap.size := by omega
  refine hq a5 w3 cells2 (u5.size.trans (u4.size.trans (u3.size.trans (u2.size.trans (u1.size.trans hsz))))) (u5.defers.trans (u4.defers.trans (u3.defers.trans (u2.defers.trans (u1.defers.trans hd))))) ?_ ?_ ?_ ?_ (by rw [e1]; exact hrd3) her3 (by have := g2.size; omega)
    (World.grownBy.andThen g2 g3 (fun j e => by cases e)) row3 sz2 (by simpa using ini2)
  · rw [upd_of u5 hcr.2 E.rs (by simp), upd_of u4 hcr.1 E.rs (by simp), s3, e1]
  · rw [upd_of u5 hcv E.vs (by simp), s4]
  · rw [upd_of u5 k4 2 (by simp), upd_of u4 k3 2 (by simp), upd_of u3 k2 2 (by simp), upd_of u2 k1 2 (by simp), upd_of u1 k0 2 (by simp)]; exact s2
  · rw [upd_of u5 k4 0 (by simp), upd_of u4 k3 0 (by simp), upd_of u3 k2 0 (by simp), upd_of u2 k1 0 (by simp), upd_of u1 k0 0 (by simp)]; exact s0

theorem read_end {E : RE} {c body : Code} {f : Nat} {fn : Func} {s : Nat} {flex : Bool} {v : Int} (hf : Tryd.prog.funcs[f]? = some fn) (hb : fn.body = some c) (hnt : fn.ntmps = E.N) (hres : fn.results = #[.tmp E.res])
    {w : World} {S : Nat → Prop} {B : Nat} {bs : List UInt8} {p : Option Addr} {n k : Nat} {cells : Array Value} {T : TypeId} (hrow : w.heap[B]? = some (.cells cells T (0, 0))) (hfit : 1 + cellsP ht m.fields ≤ cells.size) (hSB : ¬ S B)
    (hold : ∀ g, S g → g < w.heap.size) (hB : B ≠ 1) (hfl : flex = m.isFlex v) (hbody : RdPE tags E v flex ht s 1 m.fields body) (hst : Stable (cellsP ht m.fields) (repP tags v flex ht m.fields))
    (hrun : ∀ (Q : Exit → Act → World → Prop), (∀ (a : Act) (w1 : World) (cells1 : Array Value), Fr E (w1.heap.size - 1) v flex a → sl a s = .pointer (some ⟨B, 0, none⟩) → RdIs w1 S (w1.heap.size - 1) (some bs) → ErrOk w1 → w.heap.size < w1.heap.size → w.grownBy w1 (some B) →
      w1.heap[B]? = some (.cells cells1 T (0, 0)) → cells1.size = cells.size → iniM ht v m.fields (fun j => cells1[j]?) → body.wp Tryd.prog Q a w1) → c.wp Tryd.prog Q ⟨#[.pointer (some ⟨B, 0, none⟩), .slice p n k, .bool false] ++ Array.replicate (E.N - 3) undef, []⟩ w) :
    Calls Tryd.prog f #[.pointer (some ⟨B, 0, none⟩), .slice p n k, .bool false] w fun e w' =>
      ∃ u, e = .returned u ∧ ErrV (m.read v (some bs)).2 u ∧ w.grownBy w' (some B) ∧ ((m.read v (some bs)).2.isSome = true → ∃ cells', w'.heap[B]? = some (.cells cells' T (0, 0)) ∧ cells'[0]? = some (.int .i16 v) ∧
        repP tags v (m.isFlex v) ht m.fields w' (fun g => S g ∨ w.heap.size ≤ g) (fun j => cells'[1 + j]?) (m.read v (some bs)).1) := by
  subst hfl
  have hBlt : B < w.heap.size := (Array.getElem?_eq_some_iff.1 hrow).1
  refine calls_of_wp hf hb ?_
  rw [hnt]
  refine hrun _ fun a w1 cells1 hfr hsp hrd her hlt hg hrow1 hsz1 hini1 => ?_
  refine wp_mono (hbody (w1.heap.size - 1) S (some bs) B 0 cells1 T a w1 { fr := hfr, ptr := hsp, rd := hrd, err := her, rbe := ?_, cbe := hB, ne := by omega, src := hSB, old := fun g h => Nat.lt_trans (hold g h) hlt, row := hrow1, fit := by omega, ini := ?_ }) ?_
  · obtain ⟨t, x, hx⟩ := her
    have h1 : 1 < w1.heap.size := World.block_lt_of_cell? w1 _ hx
    intro e
    have hrow2 : ∃ vv q, w1.heap[w1.heap.size - 1]? = some (.cells #[vv, .bool q] 82 (0, 0)) := by
      obtain ⟨-, vv, hv, -⟩ := hrd
      exact ⟨vv, false, hv⟩
    obtain ⟨vv, q, hrow2⟩ := hrow2
    obtain ⟨-, v0, hv0, hb0⟩ := hrd
    rw [← e, cell_of_row w1 _ _ _ _ _ hv0] at hx
    simp at hx
    subst hx
    rcases hb0 with ⟨h, -⟩ | ⟨_, _, _, h, -⟩ <;> cases h
  · have := hini1.2
    simpa using this
  · intro e a2 w2 hq
    cases e with
    | ret =>
      obtain ⟨h1, h2, h3, h4, h5⟩ := hq
      refine ⟨h2, _, results_tmp hres _ _ _, ?_⟩
      refine ⟨sl a2 E.res, rfl, h4, ⟨h3.os.trans hg.os, h3.tape.trans hg.tape, h3.output.trans hg.output, Nat.le_trans hg.size h3.size, fun j hj hjr => ?_⟩, fun hs => ?_⟩
      · rw [h3.block j (by omega) (by omega) (fun e => hjr (by rw [e]))]
        exact hg.block j hj hjr
      · obtain ⟨cells', hrow', hrep⟩ := h5 hs
        refine ⟨cells', hrow', ?_, ?_⟩
        · obtain ⟨cells2, hrow2, -, hsame⟩ := h3.row cells1 T hrow1
          rw [hrow'] at hrow2
          cases hrow2
          rw [hsame 0 (.inl (by omega))]
          exact hini1.1
        · refine hst w2 w2 _ _ _ _ _ (fun _ _ _ => rfl) (Nat.le_refl _) (fun g hg => hg.imp (fun h => h) (fun h => by omega)) (fun j _ => ?_) hrep
          show cells'[1 + j]? = cells'[0 + 1 + j]?
          rw [Nat.zero_add]
    | _ => exact hq.elim

/-- A message whose versions may be flexible. -/
theorem readsMsg_flex {E : RE} {p0 p1 p2 p3 p4 p5 p6 p7 body : Code} {f : Nat} {fn : Func} {s : Nat} {T : TypeId} (hht : ht = true) (hT : Stable 1 tags) {fs : Nat} (hfs : E.fs = some fs) (hfe : 0 ≤ m.flex) (hus : E.us = 2)
    (hf : Tryd.prog.funcs[f]? = some fn) (hb : fn.body = some (p0.seq (p1.seq (p2.seq (p3.seq (p4.seq (p5.seq (p6.seq (p7.seq body))))))))) (hnt : fn.ntmps = E.N) (hres : fn.results = #[.tmp E.res]) (hg : hasBody Tryd.prog f = true)
    (hN : 3 ≤ E.N) (h0 : SConst E.N E.res .nilIface p0) (h1 : ∀ v, SDefault E.N 0 (1 + cellsP ht m.fields) (iniM ht v m.fields) p1) (h2 : SReader E.N 1 E.rs p2) (h3 : SLoad E.N 0 0 E.vs p3) (h4 : SMove E.N p4) (h5 : SCmpV E.N E.vs fs m.flex p5) (h6 : SMove E.N p6) (h7 : SCopy E.N 0 s p7)
    (hcl : clear [0, 1, 2] (p0.seq (p1.seq (p2.seq (p3.seq p4)))) = true) (hcr : clear [E.rs] (p3.seq p4) = true) (hcv : clear [E.vs] p4 = true) (hc2 : clear [0, 2, E.rs, E.vs] (p5.seq (p6.seq p7)) = true) (hc3 : clear [fs] (p6.seq p7) = true) (hc0 : clear [0] (p5.seq p6) = true)
    (hbody : ∀ v : Int, 0 ≤ v → RdPE tags E v (m.isFlex v) ht s 1 m.fields body) : ReadsMsg tags f m ht T := by
  refine ⟨hg, fun w S B v bs p n k cells hv hrow hfit hini hbs hSB hold her hB => ?_⟩
  simp only [clear_seq] at hc2 hc3 hc0
  refine read_end hf hb hnt hres hrow hfit hSB hold hB rfl (hbody v hv) (stable_repP (fun _ => hht) hT _) fun Q hk => ?_
  refine read_start hN h0 h1 h2 h3 h4 hcl hcr hcv w S B v bs p n k cells T hrow hfit hini hbs hSB hold her hB Q fun a w1 cells1 hsz hd hrs hvs hu hz hr1 he1 hlt hg1 hrow1 hsz1 hini1 => ?_
  refine wp_seq (h5 a w1 _ v hsz hvs fun a1 u1 s1 => ?_)
  refine wp_seq (h6 a1 w1 _ (u1.size.trans hsz) fun a2 u2 => ?_)
  refine wp_seq (h7 a2 w1 _ (u2.size.trans (u1.size.trans hsz)) fun a3 u3 s3 => ?_)
  have keep : ∀ t ∈ [0, 2, E.rs, E.vs], sl a3 t = sl a t := fun t ht => by rw [upd_of u3 hc2.2.2 t ht, upd_of u2 hc2.2.1 t ht, upd_of u1 hc2.1 t ht]
  refine hk a3 w1 cells1 { size := u3.size.trans (u2.size.trans (u1.size.trans hsz)), defers := u3.defers.trans (u2.defers.trans (u1.defers.trans hd)), rs := by rw [keep E.rs (by simp)]; exact hrs, vs := by rw [keep E.vs (by simp)]; exact hvs, us := by rw [hus, keep 2 (by simp)]; exact hu, fs := fun t ht => ?_ } ?_ hr1 he1 hlt hg1 hrow1 hsz1 hini1
  · rw [hfs] at ht
    cases ht
    rw [upd_of u3 hc3.2 fs (by simp), upd_of u2 hc3.1 fs (by simp), s1]
    simp [M.isFlex, hfe]
  · rw [s3, upd_of u2 hc0.2 0 (by simp), upd_of u1 hc0.1 0 (by simp)]; exact hz
/-- A message that is never flexible. -/
theorem readsMsg_plain {E : RE} {p0 p1 p2 p3 p4 p7 body : Code} {f : Nat} {fn : Func} {s : Nat} {T : TypeId} (hT : Stable 1 tags) (hfs : E.fs = none) (hfe : m.flex < 0) (hus : E.us = 2)
    (hf : Tryd.prog.funcs[f]? = some fn) (hb : fn.body = some (p0.seq (p1.seq (p2.seq (p3.seq (p4.seq (p7.seq body))))))) (hnt : fn.ntmps = E.N) (hres : fn.results = #[.tmp E.res]) (hg : hasBody Tryd.prog f = true)
    (hN : 3 ≤ E.N) (h0 : SConst E.N E.res .nilIface p0) (h1 : ∀ v, SDefault E.N 0 (1 + cellsP ht m.fields) (iniM ht v m.fields) p1) (h2 : SReader E.N 1 E.rs p2) (h3 : SLoad E.N 0 0 E.vs p3) (h4 : SMove E.N p4) (h7 : SCopy E.N 0 s p7)
    (hcl : clear [0, 1, 2] (p0.seq (p1.seq (p2.seq (p3.seq p4)))) = true) (hcr : clear [E.rs] (p3.seq p4) = true) (hcv : clear [E.vs] p4 = true) (hc2 : clear [0, 2, E.rs, E.vs] p7 = true)
    (hbody : ∀ v : Int, 0 ≤ v → RdPE tags E v (m.isFlex v) ht s 1 m.fields body) : ReadsMsg tags f m ht T := by
  refine ⟨hg, fun w S B v bs p n k cells hv hrow hfit hini hbs hSB hold her hB => ?_⟩
  have hfl : m.isFlex v = false := by
    have : ¬ (0 ≤ m.flex) := by omega
    simp [M.isFlex, this]
  refine read_end hf hb hnt hres hrow hfit hSB hold hB rfl (hbody v hv) (stable_repP (fun h => by rw [hfl] at h; cases h) hT _) fun Q hk => ?_
  refine read_start hN h0 h1 h2 h3 h4 hcl hcr hcv w S B v bs p n k cells T hrow hfit hini hbs hSB hold her hB Q fun a w1 cells1 hsz hd hrs hvs hu hz hr1 he1 hlt hg1 hrow1 hsz1 hini1 => ?_
  refine wp_seq (h7 a w1 _ hsz fun a3 u3 s3 => ?_)
  have keep : ∀ t ∈ [0, 2, E.rs, E.vs], sl a3 t = sl a t := fun t ht => upd_of u3 hc2 t ht
  refine hk a3 w1 cells1 { size := u3.size.trans hsz, defers := u3.defers.trans hd, rs := by rw [keep E.rs (by simp)]; exact hrs, vs := by rw [keep E.vs (by simp)]; exact hvs, us := by rw [hus, keep 2 (by simp)]; exact hu, fs := fun t ht => by rw [hfs] at ht; cases ht } (by rw [s3]; exact hz) hr1 he1 hlt hg1 hrow1 hsz1 hini1
end
end Go.Proofs.YtpknjenihcfhlaaDoor
