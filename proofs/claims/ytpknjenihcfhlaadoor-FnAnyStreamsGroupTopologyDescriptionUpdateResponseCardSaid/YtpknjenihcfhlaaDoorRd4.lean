/-
  Lists, read: the loop over the elements. Conditions: none.
-/
import Derived.Test.YtpknjenihcfhlaaDoorRd3
namespace Go.Proofs.YtpknjenihcfhlaaDoor
open Go.RowKit (Below)
open Kz

/-- A list's element: the code that fills number i. -/
def ElB (E : RE) (v : Int) (flex : Bool) (da di sz : Nat) (g : St → T × St) (R : Rel T) (ini : Cells → Prop) (c : Code) : Prop :=
  ∀ (rb : Nat) (S : Nat → Prop) (st : St) (G o n m i : Nat) (cells : Array Value) (Ty : TypeId) (a : Act) (w : World), Fr E rb v flex a → RdIs w S rb st → ErrOk w → rb ≠ 1 → G ≠ 1 →
    G ≠ rb → ¬ S G → (∀ g, S g → g < w.heap.size) → sl a da = .slice (some ⟨G, o, none⟩) n m → sl a di = .int .i32 (i : Int) → i < n → w.heap[G]? = some (.cells cells Ty (0, 0)) → o + i * sz + sz ≤ cells.size → ini (fun j => cells[o + i * sz + j]?) →
    c.wp Tryd.prog (Post E 0 sz (writes c) g R rb S st G (o + i * sz) Ty a w) a w

/-- The loop of a list. -/
abbrev loopC (id i1 i2 di dl t1 t2 t3 u1 u2 : Nat) (T T' T2 T2' ty1 ty2 ty3 ty4 ty5 ty6 : TypeId) (p1 p2 p3 p4 p5 p6 : String) (e1 e2 e3 e4 e5 e6 : Array Edge) (body : Code) : Code :=
  Code.block id (Code.loop (((Code.region i1 #[⟨some t1, .move (.tmp di), ty1, p1, e1, none⟩, ⟨some t2, .move (.tmp dl), ty2, p2, e2, none⟩, ⟨some t3, .binOp .lss T (.tmp t1) (.tmp t2) T', ty3, p3, e3, none⟩] false).seq (Code.cond (.tmp t3) Code.skip (Code.exit id))).seq
    (body.seq (Code.region i2 #[⟨some u1, .move (.tmp di), ty4, p4, e4, none⟩, ⟨some u2, .binOp .add T2 (.tmp u1) (.const (.int .i32 1)) T2', ty5, p5, e5, none⟩, ⟨some di, .assign (.tmp u2), ty6, p6, e6, none⟩] false))))

theorem wp_inBlock {P : Program} {id : Nat} {c : Code} {Q : Exit → Act → World → Prop} {a : Act} {w : World} (h : c.wp P Q a w) (hx : ∀ a w, ¬ Q (.exit id) a w) : (Code.block id c).wp P Q a w := by
  refine wp_block (wp_mono h ?_)
  intro e a w hq
  cases e with
  | exit id' =>
    by_cases he : id' = id
    · subst he; exact absurd hq (hx _ _)
    · simp only [Exit.inBlock, if_neg he]; exact hq
  | _ => exact hq

theorem rdMany_split {g : St → T × St} {n i : Nat} {st sti : St} {ts : List T} (hi : i < n) (h : rdMany g n st = (ts ++ (rdMany g (n - i) sti).1, (rdMany g (n - i) sti).2)) :
    rdMany g n st = ((ts ++ [(g sti).1]) ++ (rdMany g (n - (i + 1)) (g sti).2).1, (rdMany g (n - (i + 1)) (g sti).2).2) := by
  obtain ⟨k, hk⟩ : ∃ k, n - i = k + 1 := ⟨n - i - 1, by omega⟩
  have hk2 : n - (i + 1) = k := by omega
  rw [hk2, h, hk]
  simp only [rdMany, List.append_assoc, List.singleton_append]

theorem rdMany_len (g : St → T × St) : ∀ (n : Nat) (st : St), (rdMany g n st).1.length = n
  | 0, _ => rfl
  | n + 1, st => by simp only [rdMany, List.length_cons]; rw [rdMany_len g n]

section
variable {E : RE} {v : Int} {flex : Bool}

theorem loop_list {id i1 i2 da di dl t1 t2 t3 u1 u2 sz : Nat} {T' TT T2 T2' ty1 ty2 ty3 ty4 ty5 ty6 : TypeId} {p1 p2 p3 p4 p5 p6 : String} {e1 e2 e3 e4 e5 e6 : Array Edge} {body : Code} {g : St → T × St} {R : Rel T} {ini : Cells → Prop}
    (hE : ElB E v flex da di sz g R ini body) (hs : Strict g) (hst : Stable sz R) (hb : clear (da :: dl :: di :: E.slots) body = true) (hn : [t1, t2, t3, u1, u2, di].all (· < E.N) = true) (hd : decide (t1 ≠ t2 ∧ t1 ≠ dl) = true)
    (hcl : [t1, t2, t3, u1, u2].all (fun t => !(da :: dl :: di :: E.slots).contains t) = true) (hdi : di ∉ da :: dl :: E.slots)
    {rb : Nat} {S : Nat → Prop} {st : St} {G o n m : Nat} {cells : Array Value} {Ty : TypeId} {a0 : Act} {w0 : World} (hfr : Fr E rb v flex a0) (hrd : RdIs w0 S rb st) (her : ErrOk w0) (hr1 : rb ≠ 1) (hG1 : G ≠ 1)
    (hG : G ≠ rb) (hSG : ¬ S G) (hold : ∀ g, S g → g < w0.heap.size) (hda : sl a0 da = .slice (some ⟨G, o, none⟩) n m) (hdl : sl a0 dl = .int .i32 (n : Int)) (hdi0 : sl a0 di = .int .i32 0) (hn31 : n ≤ 2147483647) (hrow : w0.heap[G]? = some (.cells cells Ty (0, 0))) (hfit : o + n * sz ≤ cells.size)
    (hini : ∀ i, i < n → ini (fun j => cells[o + i * sz + j]?)) (hloc : ∀ c c' : Cells, (∀ j, j < sz → c' j = c j) → ini c → ini c') {Q : Exit → Act → World → Prop}
    (hq : ∀ a' w', Upd a0 a' (writes (loopC id i1 i2 di dl t1 t2 t3 u1 u2 T' TT T2 T2' ty1 ty2 ty3 ty4 ty5 ty6 p1 p2 p3 p4 p5 p6 e1 e2 e3 e4 e5 e6 body)) → RdIs w' S rb (rdMany g n st).2 → Md w0 w' rb G o (n * sz) →
      (∀ (k : Nat) x, (rdMany g n st).1[k]? = some x → R w' (fun g => S g ∨ w0.heap.size ≤ g) (fun j => w'.cell? ⟨G, o + k * sz + j, none⟩) x) → Q .normal a' w')
    (hret : ∀ a' w', (rdMany g n st).2 = none → a'.tmps.size = E.N → a'.defers = [] → (∃ t x, sl a' E.res = .iface t x) → Md w0 w' rb G o (n * sz) → Q .ret a' w') :
    (loopC id i1 i2 di dl t1 t2 t3 u1 u2 T' TT T2 T2' ty1 ty2 ty3 ty4 ty5 ty6 p1 p2 p3 p4 p5 p6 e1 e2 e3 e4 e5 e6 body).wp Tryd.prog Q a0 w0 := by
  have hGlt : G < w0.heap.size := (Array.getElem?_eq_some_iff.1 hrow).1
  simp only [List.all_cons, List.all_nil, Bool.and_true, Bool.and_eq_true, decide_eq_true_eq] at hn hd
  obtain ⟨n1, n2, n3, n4, n5, n6⟩ := hn
  have hbc := clear_iff hb
  have hcl' : ∀ t ∈ da :: dl :: di :: E.slots, t ∉ [t1, t2, t3, u1, u2] := by
    intro t ht hx
    have := List.all_eq_true.1 hcl t hx
    simp only [Bool.not_eq_true', List.contains_eq_mem, decide_eq_false_iff_not] at this
    exact this ht
  have hup : ∀ {a a' : Act} {W : List Nat}, Upd a a' W → (∀ t ∈ W, t ∈ [t1, t2, t3, u1, u2] ∨ t = di ∨ t ∈ writes body) → ∀ t ∈ da :: dl :: E.slots, sl a' t = sl a t := by
    intro a a' W hu hW t ht
    refine hu.same t fun hx => ?_
    have ht' : t ∈ da :: dl :: di :: E.slots := by
      simp only [List.mem_cons] at ht ⊢
      rcases ht with h | h | h
      · exact .inl h
      · exact .inr (.inl h)
      · exact .inr (.inr (.inr h))
    rcases hW t hx with h | h | h
    · exact hcl' t ht' h
    · exact hdi (h ▸ ht)
    · exact hbc t ht' h
  let W := writes (loopC id i1 i2 di dl t1 t2 t3 u1 u2 T' TT T2 T2' ty1 ty2 ty3 ty4 ty5 ty6 p1 p2 p3 p4 p5 p6 e1 e2 e3 e4 e5 e6 body)
  have hW : ∀ t, t ∈ W ↔ (t = t1 ∨ t = t2 ∨ t = t3) ∨ t ∈ writes body ∨ (t = u1 ∨ t = u2 ∨ t = di) := by
    intro t; simp [W, writes, or_assoc]
  refine wp_block ?_
  refine wp_loop (I := fun a w => ∃ (i : Nat) (ts : List T) (sti : St), i ≤ n ∧ ts.length = i ∧ Upd a0 a W ∧ sl a di = .int .i32 (i : Int) ∧ RdIs w S rb sti ∧ Md w0 w rb G o (i * sz) ∧
      rdMany g n st = (ts ++ (rdMany g (n - i) sti).1, (rdMany g (n - i) sti).2) ∧ ∀ (k : Nat) x, ts[k]? = some x → R w (fun g => S g ∨ w0.heap.size ≤ g) (fun j => w.cell? ⟨G, o + k * sz + j, none⟩) x)
    (μ := fun a _ => match sl a di with | .int _ i => n - i.toNat | _ => 0)
    ⟨0, [], st, Nat.zero_le _, rfl, Upd.refl _ _, hdi0, hrd, by simpa using Md.refl w0 rb G o 0, by simp, by simp⟩ ?_
  rintro a w ⟨i, ts, sti, hi, hlen, hu, hdi', hrd', hm, hsp, hR⟩
  have hsz : a.tmps.size = E.N := hu.size.trans hfr.size
  have hkeep : ∀ t ∈ da :: dl :: E.slots, sl a t = sl a0 t := hup hu (fun t ht => by
    rcases (hW t).1 ht with (rfl | rfl | rfl) | h | (rfl | rfl | rfl)
    · exact .inl (by simp)
    · exact .inl (by simp)
    · exact .inl (by simp)
    · exact .inr (.inr h)
    · exact .inl (by simp)
    · exact .inl (by simp)
    · exact .inr (.inl rfl))
  have hfr1 : Fr E rb v flex a := {
    size := hsz
    defers := hu.defers.trans hfr.defers
    rs := (hkeep _ (by simp [RE.slots])).trans hfr.rs
    vs := (hkeep _ (by simp [RE.slots])).trans hfr.vs
    us := (hkeep _ (by simp [RE.slots])).trans hfr.us
    fs := fun t ht => (hkeep _ (by simp [RE.slots, ht])).trans (hfr.fs t ht) }
  refine wp_seq (wp_seq (reg_cmp2 (r := decide (i < n)) (by omega) (by omega) (by omega) hd.1 hd.2 (fun x y => eqGuard_lss ..) ?_ fun a1 hu1 hs1 => ?_))
  · rw [hdi', hkeep dl (by simp), hdl, binOp_lss]
    simp
  have hst1 : ∀ t ∈ da :: dl :: di :: E.slots, sl a1 t = sl a t := fun t ht => hu1.same t (fun hx => hcl' t ht (by
    simp only [List.mem_cons, List.not_mem_nil, or_false] at hx ⊢
    rcases hx with h | h | h <;> simp [h]))
  have hfr1' : Fr E rb v flex a1 := hfr1.upd hu1 (fun t ht hx => hcl' t (by simp [ht]) (by
    simp only [List.mem_cons, List.not_mem_nil, or_false] at hx ⊢
    rcases hx with h | h | h <;> simp [h]))
  by_cases hin : i < n
  · refine wp_cond_true (by rw [eval_tmp, hs1]; simp [hin]) (wp_skip ?_)
    have hrowi : ∃ cells', w.heap[G]? = some (.cells cells' Ty (0, 0)) ∧ cells'.size = cells.size ∧ ∀ j, (j < o ∨ o + i * sz ≤ j) → cells'[j]? = cells[j]? := hm.row cells Ty hrow
    obtain ⟨cells', hrow', hcs, hsame⟩ := hrowi
    have hmul : i * sz + sz ≤ n * sz := by rw [← Nat.succ_mul]; exact Nat.mul_le_mul_right _ hin
    refine wp_seq (wp_mono (hE rb S sti G o n m i cells' Ty a1 w hfr1' hrd' (her.md hm hr1 hG1) hr1 hG1 hG hSG (fun g hg => Nat.lt_of_lt_of_le (hold g hg) hm.size) ((hst1 da (by simp)).trans ((hkeep da (by simp)).trans hda)) ((hst1 di (by simp)).trans hdi') hin hrow' (by omega)
      (hloc (fun j => cells[o + i * sz + j]?) _ (fun j _ => hsame _ (.inr (by omega))) (hini i hin))) ?_)
    intro e a2 w2 hq2
    cases e with
    | normal =>
      obtain ⟨hu2, hr2, hm2, cells2, hrow2, hR2⟩ := hq2
      have hd2 : sl a2 di = .int .i32 (i : Int) := (hu2.same _ (hbc di (by simp))).trans ((hst1 di (by simp)).trans hdi')
      refine reg_incr (by rw [hu2.size, hu1.size]; omega) (by rw [hu2.size, hu1.size]; omega) (by rw [hu2.size, hu1.size]; omega) (j := i) (by omega) hd2 fun a3 hu3 hs3 => ?_
      have hm' : Md w0 w2 rb G o ((i + 1) * sz) := by
        have e1 : (i + 1) * sz = i * sz + sz := Nat.succ_mul _ _
        exact hm.trans hm2 (by omega) (by omega)
      refine ⟨⟨i + 1, ts ++ [(g sti).1], (g sti).2, hin, by simp [hlen], ?_, hs3, hr2, hm', rdMany_split hin hsp, ?_⟩, ?_⟩
      · refine ((hu.trans (hu1.mono ?_)).trans (hu2.mono ?_)).trans (hu3.mono ?_)
        · intro t ht; rw [hW]; simp only [List.mem_cons, List.not_mem_nil, or_false] at ht; exact .inl ht
        · intro t ht; rw [hW]; exact .inr (.inl ht)
        · intro t ht; rw [hW]; simp only [List.mem_cons, List.not_mem_nil, or_false] at ht; exact .inr (.inr ht)
      · intro k x hk
        rcases Nat.lt_or_ge k i with hki | hki
        · rw [List.getElem?_append_left (by omega)] at hk
          refine hst w w2 _ _ _ _ x (fun g' hg' hlt => ?_) hm2.size (fun _ h => h) (fun j hj => ?_) (hR k x hk)
          · refine hm2.block g' hlt ?_ ?_
            · rintro rfl
              rcases hg' with h | h
              · exact hrd.1 h
              · exact absurd hrd.lt (by omega)
            · rintro rfl
              rcases hg' with h | h
              · exact hSG h
              · omega
          · obtain ⟨c2, hc2, -, hsame2⟩ := hm2.row cells' Ty hrow'
            rw [cell_of_row w2 G _ _ _ _ hc2, cell_of_row w G _ _ _ _ hrow']
            have : k * sz + sz ≤ i * sz := by rw [← Nat.succ_mul]; exact Nat.mul_le_mul_right _ hki
            exact hsame2 _ (.inl (by omega))
        · rw [List.getElem?_append_right (by omega), hlen] at hk
          have hk0 : k - i = 0 := by
            rcases Nat.eq_zero_or_pos (k - i) with h | h
            · exact h
            · rw [List.getElem?_eq_none (by simp; omega)] at hk; cases hk
          have hki' : k = i := by omega
          subst hki'
          rw [hk0] at hk
          simp only [List.getElem?_cons_zero, Option.some.injEq] at hk
          subst hk
          refine hst w2 w2 _ _ _ _ _ (fun _ _ _ => rfl) (Nat.le_refl _) (fun g' h => h.imp (fun h => h) (fun h => Nat.le_trans hm.size h)) (fun j hj => ?_) hR2
          rw [cell_of_row w2 G _ _ _ _ hrow2]
          rfl
      · rw [hs3, hdi']
        simp only [Int.toNat_natCast]
        omega
    | ret =>
      obtain ⟨hn2, hs2, hd2, hv2, hm2⟩ := hq2
      refine hret a2 w2 ?_ hs2 hd2 hv2 (hm.trans hm2 (by constructor <;> omega) (by omega))
      rw [rdMany_split hin hsp, hn2]
      exact strict_rdMany g hs _
    | exit id => exact hq2.elim
    | goto l => exact hq2.elim
    | panic ch => exact hq2.elim
    | outgrown => exact hq2.elim
  · refine wp_cond_false (by rw [eval_tmp, hs1]; simp [hin]) (wp_exit ?_)
    simp only [Exit.then, Exit.inBlock, if_pos]
    have hin' : i = n := by omega
    subst hin'
    simp only [Nat.sub_self, rdMany, List.append_nil] at hsp
    refine hq a1 w ((hu.trans (hu1.mono ?_))) (by rw [hsp]; exact hrd') hm (by rw [hsp]; exact hR)
    intro t ht; rw [hW]; simp only [List.mem_cons, List.not_mem_nil, or_false] at ht; exact .inl ht
end
end Go.Proofs.YtpknjenihcfhlaaDoor
