/-
  Known tags, read: the steps of a switch over tags. Conditions: none.
-/
import Derived.Test.YtoklbgdafnminaaGreatDoorKn2
namespace Go.Proofs.YtoklbgdafnminaaGreatDoor
open Go.RowKit (Below)
open Kz

/-! ## Places of fields -/
def offI (fs : List F) (i : Nat) : Nat := cellsFs true (fs.take i)
theorem offI_fit : ∀ (fs : List F) (i : Nat) (f : F), fs[i]? = some f → offI fs i + cellsF true f ≤ cellsFs true fs
  | [], _, _, h => by cases h
  | f :: fs, 0, g, h => by
    cases h
    show 0 + cellsF true f ≤ cellsF true f + cellsFs true fs
    omega
  | f :: fs, i + 1, g, h => by
    have := offI_fit fs i g h
    show cellsF true f + cellsFs true (fs.take i) + cellsF true g ≤ cellsF true f + cellsFs true fs
    simp only [offI] at this
    omega
theorem offI_apart : ∀ (fs : List F) (i j : Nat) (f g : F), fs[i]? = some f → fs[j]? = some g → i < j → offI fs i + cellsF true f ≤ offI fs j
  | [], _, _, _, _, h, _, _ => by cases h
  | f :: fs, 0, j + 1, f', g, h, _, _ => by
    cases h
    show 0 + cellsF true f ≤ cellsF true f + cellsFs true (fs.take j)
    omega
  | f :: fs, i + 1, j + 1, f', g, h, h', hij => by
    have := offI_apart fs i j f' g h h' (by omega)
    show cellsF true f + cellsFs true (fs.take i) + cellsF true f' ≤ cellsF true f + cellsFs true (fs.take j)
    simp only [offI] at this
    omega
theorem plain_iff {v : Int} {w : World} {K : Nat → Prop} : ∀ (fs : List F) (ts : List T) (c : Cells), plainRep v true true fs (repFs TagRep v true true fs) w K c ts ↔
    ts.length = fs.length ∧ ∀ i f x, fs[i]? = some f → ts[i]? = some x → f.on v true = true → repF TagRep v true true f w K (fun j => c (offI fs i + j)) x
  | [], ts, c => by
    constructor
    · intro h
      have h : ts = [] := h
      subst h
      exact ⟨rfl, fun i f x hf => by cases hf⟩
    · rintro ⟨h, -⟩
      exact List.length_eq_zero_iff.1 h
  | f :: fs, ts, c => by
    constructor
    · rintro ⟨x, xs, rfl, h1, h2⟩
      obtain ⟨l, h⟩ := (plain_iff fs xs _).1 h2
      refine ⟨by simp [l], fun i g y hg hy ho => ?_⟩
      cases i with
      | zero =>
        cases hg; cases hy
        have := h1 ho
        simpa [offI, cellsFs] using this
      | succ i =>
        have := h i g y hg hy ho
        have e : (fun j => c (cellsF true f + (offI fs i + j))) = fun j => c (offI (f :: fs) (i + 1) + j) := by
          funext j
          show c (cellsF true f + (offI fs i + j)) = c (cellsF true f + offI fs i + j)
          rw [Nat.add_assoc]
        rw [← e]; exact this
    · rintro ⟨l, h⟩
      cases ts with
      | nil => simp at l
      | cons x xs =>
        refine ⟨x, xs, rfl, fun ho => ?_, (plain_iff fs xs _).2 ⟨by simpa using l, fun i g y hg hy ho => ?_⟩⟩
        · have := h 0 f x rfl rfl ho
          simpa [offI, cellsFs] using this
        · have := h (i + 1) g y hg hy ho
          have e : (fun j => c (cellsF true f + (offI fs i + j))) = fun j => c (offI (f :: fs) (i + 1) + j) := by
            funext j
            show c (cellsF true f + (offI fs i + j)) = c (cellsF true f + offI fs i + j)
            rw [Nat.add_assoc]
          rw [e]; exact this

/-- The place of a tag's field. -/
def tagIx (key : Nat) : List F → Option Nat
  | [] => none
  | f :: fs => if f.tag = key then some 0 else (tagIx key fs).map (· + 1)
theorem findTag_ix (v : Int) (flex : Bool) (key : Nat) : ∀ fs : List F, findTag key fs (rds v flex fs) = (tagIx key fs).bind fun i => (fs[i]?).map fun f => (i, rd v flex f)
  | [] => rfl
  | f :: fs => by
    simp only [rds, findTag, tagIx]
    by_cases h : f.tag = (key : Int)
    · simp [h]
    · rw [if_neg h, if_neg h, findTag_ix v flex key fs]
      cases tagIx key fs with
      | none => rfl
      | some i =>
        simp only [Option.bind_some, Option.map_some, List.getElem?_cons_succ]
        cases fs[i]? <;> rfl
theorem tagIx_some {key : Nat} : ∀ {fs : List F} {i : Nat} {f : F}, tagIx key fs = some i → fs[i]? = some f → f.tag = (key : Int)
  | [], _, _, h, _ => by cases h
  | g :: fs, i, f, h, hf => by
    simp only [tagIx] at h
    by_cases hk : g.tag = (key : Int)
    · rw [if_pos hk] at h
      cases h
      cases hf
      exact hk
    · rw [if_neg hk] at h
      cases hx : tagIx key fs with
      | none => rw [hx] at h; cases h
      | some j =>
        rw [hx] at h
        cases h
        exact tagIx_some hx hf
theorem tagIx_none {key : Nat} : ∀ {fs : List F}, (∀ f ∈ fs, f.tag ≠ (key : Int)) → tagIx key fs = none
  | [], _ => rfl
  | g :: fs, h => by
    simp only [tagIx]
    rw [if_neg (h g (by simp)), tagIx_none (fun f hf => h f (List.mem_cons_of_mem _ hf))]
    rfl
/-- One tag, its key read. -/
def tagK (fs : List F) (gs : List (St → T × St)) (k : Nat) (x : List T × List (Nat × List UInt8) × St) : List T × List (Nat × List UInt8) × St :=
  match findTag k fs gs with
  | some (i, g) => (x.1.set i (g (some (rdSpan (rdV x.2.2).1 (rdV x.2.2).2).1)).1, x.2.1, if (g (some (rdSpan (rdV x.2.2).1 (rdV x.2.2).2).1)).2.isNone then none else (rdSpan (rdV x.2.2).1 (rdV x.2.2).2).2)
  | none => (x.1, setTag k (rdSpan (rdV x.2.2).1 (rdV x.2.2).2).1 x.2.1, (rdSpan (rdV x.2.2).1 (rdV x.2.2).2).2)
theorem tagR_tagK (fs : List F) (gs : List (St → T × St)) (x : List T × List (Nat × List UInt8) × St) : tagR fs gs x = tagK fs gs (rdV x.2.2).1 (x.1, x.2.1, (rdV x.2.2).2) := by
  unfold tagR tagK
  simp only
  cases findTag (rdV x.2.2).1 fs gs with
  | none => rfl
  | some p => rfl
theorem setTag_keys (k : Nat) (v : List UInt8) : ∀ (l : List (Nat × List UInt8)) (x : Nat × List UInt8), x ∈ setTag k v l → x.1 = k ∨ x ∈ l
  | [], x, h => by simp [setTag] at h; exact .inl (by rw [h])
  | (j, w) :: r, x, h => by
    simp only [setTag] at h
    split at h
    · simp only [List.mem_cons] at h ⊢
      rcases h with h | h
      · exact .inr (.inl h)
      · exact (setTag_keys k v r x h).imp (fun h => h) .inr
    · split at h
      · simp only [List.mem_cons] at h ⊢
        rcases h with h | h
        · exact .inl (by rw [h])
        · exact .inr (.inr h)
      · simp only [List.mem_cons] at h ⊢
        rcases h with h | h
        · exact .inl (by rw [h])
        · exact .inr h

/-! ## What holds at each round -/
structure Ctx (S : Nat → Prop) (rb cb base : Nat) : Prop where
  hS : ∀ g, S g → g < base
  rbl : rb < base
  cbl : cb < base
  ne : cb ≠ rb
  src : ¬ S cb
  rbe : rb ≠ 1
  cbe : cb ≠ 1
  err : 1 < base
/-- Old blocks are as they were, but for the reader and some cells of the struct. -/
structure MdB (base : Nat) (w w' : World) (rb cb lo n : Nat) : Prop where
  os : w'.os = w.os
  tape : w'.tape = w.tape
  output : w'.output = w.output
  size : w.heap.size ≤ w'.heap.size
  block : ∀ k, k < base → k ≠ rb → k ≠ cb → w'.heap[k]? = w.heap[k]?
  row : ∀ cells T, w.heap[cb]? = some (.cells cells T (0, 0)) → ∃ cells', w'.heap[cb]? = some (.cells cells' T (0, 0)) ∧ cells'.size = cells.size ∧ ∀ i, (i < lo ∨ lo + n ≤ i) → cells'[i]? = cells[i]?
theorem MdB.refl (base : Nat) (w : World) (rb cb lo n : Nat) : MdB base w w rb cb lo n := ⟨rfl, rfl, rfl, Nat.le_refl _, fun _ _ _ _ => rfl, fun cells _ h => ⟨cells, h, rfl, fun _ _ => rfl⟩⟩
theorem MdB.trans {base : Nat} {w w1 w2 : World} {rb cb lo n : Nat} (h : MdB base w w1 rb cb lo n) (k : MdB base w1 w2 rb cb lo n) : MdB base w w2 rb cb lo n where
  os := k.os.trans h.os
  tape := k.tape.trans h.tape
  output := k.output.trans h.output
  size := Nat.le_trans h.size k.size
  block := fun i hi hr hc => (k.block i hi hr hc).trans (h.block i hi hr hc)
  row := fun cells T hw => by
    obtain ⟨c1, e1, s1, q1⟩ := h.row cells T hw
    obtain ⟨c2, e2, s2, q2⟩ := k.row c1 T e1
    exact ⟨c2, e2, s2.trans s1, fun i hi => (q2 i hi).trans (q1 i hi)⟩
theorem Md.low {base : Nat} {w w' : World} {rb cb lo n : Nat} (h : Md w w' rb cb lo n) (hb : base ≤ w.heap.size) : MdB base w w' rb cb lo n := ⟨h.os, h.tape, h.output, h.size, fun k hk => h.block k (Nat.lt_of_lt_of_le hk hb), h.row⟩
theorem Md.and {w w1 w2 : World} {rb cb lo n : Nat} (h : Md w w1 rb cb lo n) (k : MdB w.heap.size w1 w2 rb cb lo n) : Md w w2 rb cb lo n where
  os := k.os.trans h.os
  tape := k.tape.trans h.tape
  output := k.output.trans h.output
  size := Nat.le_trans h.size k.size
  block := fun i hi hr hc => (k.block i hi hr hc).trans (h.block i hi hr hc)
  row := fun cells T hw => by
    obtain ⟨c1, e1, s1, q1⟩ := h.row cells T hw
    obtain ⟨c2, e2, s2, q2⟩ := k.row c1 T e1
    exact ⟨c2, e2, s2.trans s1, fun i hi => (q2 i hi).trans (q1 i hi)⟩
theorem RdIs.mdx {w w' : World} {S : Nat → Prop} {rb rb' cb lo n : Nat} {st : St} (h : RdIs w S rb st) (hm : Md w w' rb' cb lo n) (h1 : rb ≠ rb') (h2 : rb ≠ cb) (hr : ¬ S rb') (hc : ¬ S cb) : RdIs w' S rb st := by
  have hb : w'.heap[rb]? = w.heap[rb]? := hm.block rb h.lt h1 h2
  refine ⟨h.1, ?_⟩
  cases st with
  | none => show w'.heap[rb]? = _; rw [hb]; exact h.2
  | some bs =>
    obtain ⟨v, hv, hbs⟩ := h.2
    exact ⟨v, by rw [hb]; exact hv, RdIs.md hbs hm hr hc⟩

structure TI (v : Int) (fs : List F) (S : Nat → Prop) (rb cb p : Nat) (Ty : TypeId) (base : Nat) (w : World) (cells : Array Value) (ts : List T) (u : List (Nat × List UInt8)) (st : St) (n : Nat) (r : Option Nat) (seen : List Nat) : Prop where
  rd : RdIs w S rb st
  err : ErrOk w
  row : w.heap[cb]? = some (.cells cells Ty (0, 0))
  fit : p + cellsFs true fs < cells.size
  tag : cells[p + cellsFs true fs]? = some (.map r)
  map : ∃ l, Rising l ∧ TagsAt w S l u ∧ MapIs w base n r l
  keys : ∀ x ∈ u, known fs ≤ x.1
  reps : plainRep v true true fs (repFs TagRep v true true fs) w (fun g => (S g ∨ base ≤ g) ∧ r ≠ some g) (fun j => cells[p + j]?) ts
  ini : ∀ i f, fs[i]? = some f → 0 ≤ f.tag → f.tag.toNat ∉ seen → iniF true f (fun j => cells[p + offI fs i + j]?)
  size : base ≤ w.heap.size

/-- Behind a round. -/
def PostT (E : RE) (v : Int) (fs : List F) (W : List Nat) (S : Nat → Prop) (rb cb p : Nat) (Ty : TypeId) (base n k : Nat) (seen : List Nat) (a : Act) (w : World) (sx : St) (y : List T × List (Nat × List UInt8) × St) : Exit → Act → World → Prop
  | .normal, a', w' => Upd a a' W ∧ MdB base w w' rb cb p (cellsFs true fs + 1) ∧ y.2.2 = sx ∧ ∃ cells' n' r', n' ≤ n + 1 ∧ TI v fs S rb cb p Ty base w' cells' y.1 y.2.1 y.2.2 n' r' (k :: seen)
  | .ret, a', w' => y.2.2 = none ∧ a'.tmps.size = E.N ∧ a'.defers = [] ∧ (∃ t x, sl a' E.res = .iface t x) ∧ MdB base w w' rb cb p (cellsFs true fs + 1)
  | _, _, _ => False
/-- The octets of a tag whose key has been read, and what is behind. -/
abbrev spanOf (st : St) : List UInt8 × St := rdSpan (rdV st).1 (rdV st).2
/-- A switch over a key that is none of some. -/
def SwP (E : RE) (v : Int) (sp off : Nat) (fs : List F) (needs : List Nat) (tk kk : Nat) (nots : List Nat) (c : Code) : Prop :=
  ∀ (S : Nat → Prop) (rb cb co : Nat) (Ty : TypeId) (base : Nat) (a : Act) (w : World) (cells : Array Value) (ts : List T) (u : List (Nat × List UInt8)) (st : St) (n : Nat) (r : Option Nat) (seen : List Nat) (k : Nat),
    Fr E rb v true a → sl a sp = .pointer (some ⟨cb, co, none⟩) → sl a tk = .int .u32 (k : Int) → sl a kk = .int .u32 (k : Int) → k < 4294967296 → k ∉ nots → TI v fs S rb cb (co + off) Ty base w cells ts u st n r seen → Ctx S rb cb base → n < 4294967296 →
    (k ∈ needs → k ∈ seen → (rdLen true (some (spanOf st).1)).2 = none) → c.wp Tryz.prog (PostT E v fs (writes c) S rb cb (co + off) Ty base n k seen a w (spanOf st).2 (tagK fs (rds v true fs) k (ts, u, st))) a w
/-- The code of one key. -/
def CaseP (E : RE) (v : Int) (sp off : Nat) (fs : List F) (needs : List Nat) (k : Nat) (c : Code) : Prop :=
  ∀ (S : Nat → Prop) (rb cb co : Nat) (Ty : TypeId) (base : Nat) (a : Act) (w : World) (cells : Array Value) (ts : List T) (u : List (Nat × List UInt8)) (st : St) (n : Nat) (r : Option Nat) (seen : List Nat),
    Fr E rb v true a → sl a sp = .pointer (some ⟨cb, co, none⟩) → TI v fs S rb cb (co + off) Ty base w cells ts u st n r seen → Ctx S rb cb base → n < 4294967296 →
    (k ∈ needs → k ∈ seen → (rdLen true (some (spanOf st).1)).2 = none) → c.wp Tryz.prog (PostT E v fs (writes c) S rb cb (co + off) Ty base n k seen a w (spanOf st).2 (tagK fs (rds v true fs) k (ts, u, st))) a w

theorem PostT.after {E : RE} {v : Int} {fs : List F} {W W1 W2 : List Nat} {S : Nat → Prop} {rb cb p : Nat} {Ty : TypeId} {base n k : Nat} {seen : List Nat} {a a1 : Act} {w : World} {sx : St} {y : List T × List (Nat × List UInt8) × St} (hu : Upd a a1 W1) (h1 : ∀ t ∈ W1, t ∈ W) (h2 : ∀ t ∈ W2, t ∈ W)
    (e : Exit) (a' : Act) (w' : World) (hq : PostT E v fs W2 S rb cb p Ty base n k seen a1 w sx y e a' w') : PostT E v fs W S rb cb p Ty base n k seen a w sx y e a' w' := by
  cases e with
  | normal => exact ⟨(hu.mono h1).trans (hq.1.mono h2), hq.2⟩
  | ret => exact hq
  | _ => exact hq.elim
theorem PostT.inBlock {E : RE} {v : Int} {fs : List F} {W : List Nat} {S : Nat → Prop} {rb cb p : Nat} {Ty : TypeId} {base n k : Nat} {seen : List Nat} {a : Act} {w : World} {sx : St} {y : List T × List (Nat × List UInt8) × St} (id : Nat) : ∀ a' w', ¬ PostT E v fs W S rb cb p Ty base n k seen a w sx y (.exit id) a' w' := fun _ _ h => h

section
variable {E : RE} {v : Int} {sp off : Nat} {fs : List F} {needs : List Nat} {tk kk : Nat}

theorem SwP.case {id t1 t2 key : Nat} {keyI : Int} {TT T' ty1 ty2 : TypeId} {p1 p2 : String} {e1 e2 : Array Edge} {nots : List Nat} {cC cR : Code} (hkey : decide (keyI = (key : Int)) = true) (hn : [t1, t2].all (· < E.N) = true) (hcl : [t1, t2].all (fun t => !(sp :: tk :: kk :: E.slots).contains t) = true)
    (hC : CaseP E v sp off fs needs key cC) (hR : SwP E v sp off fs needs tk kk (key :: nots) cR) :
    SwP E v sp off fs needs tk kk nots ((Code.region id #[⟨some t1, .binOp .eql TT (.tmp tk) (.const (.int .u32 keyI)) T', ty1, p1, e1, none⟩, ⟨some t2, .assign (.tmp t1), ty2, p2, e2, none⟩] false).seq (Code.cond (.tmp t2) cC cR)) := by
  intro S rb cb co Ty base a w cells ts u st n r seen k hfr hsp htk hkk hk hnot hti hc hn4 hneed
  obtain rfl := of_decide_eq_true hkey
  simp only [List.all_cons, List.all_nil, Bool.and_true, Bool.and_eq_true, decide_eq_true_eq] at hn
  have hclx : ∀ t ∈ sp :: tk :: kk :: E.slots, t ∉ [t1, t2] := by
    intro t ht hx
    have := List.all_eq_true.1 hcl t hx
    simp only [Bool.not_eq_true', List.contains_eq_mem, decide_eq_false_iff_not] at this
    exact this ht
  have hsz := hfr.size
  refine wp_seq (wp_region_lit (st_val (v := .bool (decide (k = key))) (w' := w) (exec_bin (u := .int .u32 (k : Int)) (z := .int .u32 (key : Int)) (by rw [eval_tmp, htk]) (eval_const _ _) (eqGuard_at_int ..) ?_) (st_assign (wpList_nil ?_))))
  · rw [binOp_eql]
    have : ((k : Int) == (key : Int)) = decide (k = key) := by
      by_cases h : k = key
      · simp [h]
      · have : ¬ ((k : Int) = (key : Int)) := by omega
        simp [h, this]
    rw [this]
  generalize hA : ((a.put (some t1) _).put (some t2) _) = a1
  have hu : Upd a a1 [t1, t2] := by subst hA; exact ((Upd.refl a _).put t1 _ (by simp)).put t2 _ (by simp)
  have hb : a1.eval (.tmp t2) = .bool (decide (k = key)) := by subst hA; rw [eval_tmp, sl_put_self _ _ _ (by rw [put_size]; omega), eval_tmp, sl_put_self _ _ _ (by omega)]
  have hfr1 : Fr E rb v true a1 := hfr.upd hu (fun t ht => hclx t (by simp [ht]))
  have hsp1 : sl a1 sp = .pointer (some ⟨cb, co, none⟩) := (hu.same sp (hclx sp (by simp))).trans hsp
  by_cases hkk' : k = key
  · subst hkk'
    refine wp_cond_true (by rw [hb]; simp) (wp_mono (hC S rb cb co Ty base a1 w cells ts u st n r seen hfr1 hsp1 hti hc hn4 hneed) ?_)
    exact PostT.after hu (fun t ht => by simp only [writes, List.mem_append]; exact .inl (by simpa [writes] using ht)) (fun t ht => by simp only [writes, List.mem_append]; exact .inr (.inl ht))
  · refine wp_cond_false (by rw [hb]; simp [hkk']) (wp_mono (hR S rb cb co Ty base a1 w cells ts u st n r seen k hfr1 hsp1 ((hu.same tk (hclx tk (by simp))).trans htk) ((hu.same kk (hclx kk (by simp))).trans hkk) hk (by simp [hkk', hnot]) hti hc hn4 hneed) ?_)
    exact PostT.after hu (fun t ht => by simp only [writes, List.mem_append]; exact .inl (by simpa [writes] using ht)) (fun t ht => by simp only [writes, List.mem_append]; exact .inr (.inr ht))

theorem known_le {k : Nat} : ∀ (fs : List F) (nots : List Nat), (List.range (known fs)).all (fun x => nots.contains x) = true → k ∉ nots → known fs ≤ k := by
  intro fs nots h hk
  rcases Nat.lt_or_ge k (known fs) with hlt | hge
  · have := List.all_eq_true.1 h k (List.mem_range.2 hlt)
    simp only [List.contains_eq_mem, decide_eq_true_eq] at this
    exact absurd this hk
  · exact hge

/-- An unknown tag. -/
theorem SwP.dflt {id t1 t2 t3 t4 t5 t6 t7 t8 TT k c1 c2 f1 f2 f3 : Nat} {nots : List Nat} {tys1 tys2 tys3 : Array TypeId} {y1 y2 y3 y4 y5 y6 y7 y8 : TypeId} {p1 p2 p3 p4 p5 p6 p7 p8 : String} {e1 e2 e3 e4 e5 e6 e7 e8 : Array Edge}
    (hf1 : f1 = 141) (hf2 : f2 = 143) (hf3 : f3 = 142) (hc1 : c1 = 61) (hc2 : c2 = 3) (hoff : offOf Tryz.prog TT k = some (off + cellsFs true fs))
    (hB : setOk #[⟨some t1, .move (.tmp sp), y1, p1, e1, none⟩, ⟨some t2, .nilCheck (.tmp t1), y2, p2, e2, none⟩, ⟨some t3, .fieldAddr TT (.tmp t2) k, y3, p3, e3, none⟩, ⟨some t4, .move (.tmp kk), y4, p4, e4, none⟩, ⟨some t5, .call { callee := .value (.func f1), args := #[.tmp E.rs], argTypes := tys1 }, y5, p5, e5, none⟩,
      ⟨some t6, .convert c1 c2 (.tmp t5), y6, p6, e6, none⟩, ⟨some t7, .call { callee := .value (.func f2), args := #[.tmp E.rs, .tmp t6], argTypes := tys2 }, y7, p7, e7, none⟩, ⟨some t8, .call { callee := .value (.func f3), args := #[.tmp t3, .tmp t4, .tmp t7], argTypes := tys3 }, y8, p8, e8, none⟩] = true)
    (hn : [t1, t2, t3, t4, t5, t6, t7, t8].all (· < E.N) = true) (hd : decide ([sp, kk, E.rs, t1, t2, t3, t4, t5, t6, t7, t8].Nodup) = true) (hnots : fs.all (fun f => decide (f.tag < 0) || nots.contains f.tag.toNat) = true) (hknown : (List.range (known fs)).all (fun x => nots.contains x) = true) :
    SwP E v sp off fs needs tk kk nots (Code.region id #[⟨some t1, .move (.tmp sp), y1, p1, e1, none⟩, ⟨some t2, .nilCheck (.tmp t1), y2, p2, e2, none⟩, ⟨some t3, .fieldAddr TT (.tmp t2) k, y3, p3, e3, none⟩, ⟨some t4, .move (.tmp kk), y4, p4, e4, none⟩, ⟨some t5, .call { callee := .value (.func f1), args := #[.tmp E.rs], argTypes := tys1 }, y5, p5, e5, none⟩,
      ⟨some t6, .convert c1 c2 (.tmp t5), y6, p6, e6, none⟩, ⟨some t7, .call { callee := .value (.func f2), args := #[.tmp E.rs, .tmp t6], argTypes := tys2 }, y7, p7, e7, none⟩, ⟨some t8, .call { callee := .value (.func f3), args := #[.tmp t3, .tmp t4, .tmp t7], argTypes := tys3 }, y8, p8, e8, none⟩] true) := by
  intro S rb cb co Ty base a w cells ts u st n r seen key hfr hsp htk hkk hk hnot hti hc hn4 hneed
  have hix : tagIx key fs = none := tagIx_none fun f hf e => by
    have := List.all_eq_true.1 hnots f hf
    simp only [Bool.or_eq_true, decide_eq_true_eq, List.contains_eq_mem] at this
    rcases this with h | h
    · omega
    · rw [e] at h; exact hnot (by simpa using h)
  have hfind : findTag key fs (rds v true fs) = none := by rw [findTag_ix, hix]; rfl
  have hy : tagK fs (rds v true fs) key (ts, u, st) = (ts, setTag key (spanOf st).1 u, (spanOf st).2) := by unfold tagK; rw [hfind]
  rw [hy]
  obtain ⟨l, hl, hta, hm⟩ := hti.map
  have hrb : ∀ b, r = some b → base ≤ b ∧ b < w.heap.size := fun b e => by subst e; exact ⟨hm.2.1, hm.2.2.lt⟩
  refine reg_setTag (N := E.N) (off := off + cellsFs true fs) (n := n) (base := base) hf1 hf2 hf3 hc1 hc2 hoff hB hn hd hfr.size hsp hkk hfr.rs hk (by unfold maxLen; omega) hti.rd hti.row (by rw [← Nat.add_assoc]; exact hti.tag) hm hl hta hti.size hc.cbl hc.rbl hc.hS hc.src hc.ne fun a' w' b' cells' hu hb' hr' hrow' hsz' hi' hj' hmx ho ht hp hsz hbl => ?_
  obtain ⟨l', hl', hta', hm'⟩ := hmx
  rw [← Nat.add_assoc] at hi' hj'
  have hbl' : ∀ g, g < w.heap.size → g ≠ cb → g ≠ rb → r ≠ some g → w'.heap[g]? = w.heap[g]? := hbl
  have hfit := hti.fit
  refine ⟨hu.mono (fun t ht => by simpa [writes] using ht), ⟨ho, ht, hp, hsz, fun k hk hr hcb => hbl k (Nat.lt_of_lt_of_le hk hti.size) hcb hr (fun e => by have := hrb k e; omega), fun cs T0 hw => ?_⟩, rfl, cells', n + 1, some b', Nat.le_refl _, ?_⟩
  · rw [hti.row] at hw
    cases hw
    exact ⟨cells', hrow', hsz', fun i hi => hj' i (by omega)⟩
  · refine { rd := hr', err := ?_, row := hrow', fit := by rw [hsz']; exact hti.fit, tag := hi', map := ⟨l', hl', hta', hm'⟩, keys := fun x hx => ?_, reps := ?_, ini := fun i f hf h0 hs => ?_, size := Nat.le_trans hti.size hsz }
    · obtain ⟨t, x, hx⟩ := hti.err
      exact ⟨t, x, by rw [World.cell?_of_block (w := w) (w' := w') (hbl _ (Nat.lt_of_lt_of_le hc.err hti.size) (fun e => hc.cbe e.symm) (fun e => hc.rbe e.symm) (fun e => absurd hc.err (Nat.not_lt.2 (hrb _ e).1)))]; exact hx⟩
    · rcases setTag_keys _ _ _ _ hx with h | h
      · rw [h]; exact known_le fs nots hknown hnot
      · exact hti.keys x h
    · have h1 := bnd_plain fs _ (bnd_repFs bnd_tagRep fs) w _ _ _ hti.reps
      refine stable_plainF (fun _ => rfl) stable_tagRep fs w w' _ _ _ _ ts (fun g hg hlt => hbl g hlt (fun e => ?_) (fun e => ?_) hg.1.2) hsz (fun g hg => ⟨hg.1.1, fun e => ?_⟩) (fun j hj => hj' _ (by omega)) h1
      · subst e; rcases hg.1.1 with h | h
        · exact hc.src h
        · have := hc.cbl; omega
      · subst e; rcases hg.1.1 with h | h
        · exact hti.rd.1 h
        · have := hc.rbl; omega
      · cases e
        rcases hb' with h | h
        · exact hg.1.2 h
        · have := hg.2; omega
    · have := offI_fit fs i f hf
      exact ini_locF true f _ _ (fun j hj => hj' _ (by omega)) (hti.ini i f hf h0 (fun h => hs (List.mem_cons_of_mem _ h)))
end
end Go.Proofs.YtoklbgdafnminaaGreatDoor
