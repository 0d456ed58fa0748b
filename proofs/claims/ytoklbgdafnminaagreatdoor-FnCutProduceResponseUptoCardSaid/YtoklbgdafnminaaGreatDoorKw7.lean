/-
  Known tags, written: a value that is written twice, first to measure it. Conditions: none.
-/
import Derived.Test.YtoklbgdafnminaaGreatDoorKw6
namespace Go.Proofs.YtoklbgdafnminaaGreatDoor
open Go.RowKit (Below)
open Kz

theorem uvF_some : ∀ (fuel n : Nat), 1 ≤ fuel → 1 ≤ (uvF fuel n).length
  | 0, _, h => by omega
  | k + 1, n, _ => by unfold uvF; split <;> simp
theorem uv_some (n : Nat) : 1 ≤ (uv n).length := uvF_some _ n (by decide)
section
variable {E : WE} {v : Int} {sp off : Nat}
/-- A slice's length into a variable. -/
def SLenD (E : WE) (la : Nat) (c : Code) : Prop := ∀ (a : Act) (w : World) (Q : Exit → Act → World → Prop) (p : Option Addr) (n m : Nat), a.tmps.size = E.N → sl a E.ds = .slice p n m → (∀ a', Upd a a' (writes c) → sl a' la = .int .i64 (n : Int) → Q .normal a' w) → c.wp Tryz.prog Q a w
theorem slenD {la id TT t1 t2 : Nat} {y1 y2 y3 : TypeId} {p1 p2 p3 : String} {e1 e2 e3 : Array Edge} (hT : TT = 22) (hn : [t1, t2, la].all (· < E.N) = true) :
    SLenD E la (Code.region id #[⟨some t1, .move (.tmp E.ds), y1, p1, e1, none⟩, ⟨some t2, .call { callee := .builtin .len, args := #[.tmp t1], argTypes := #[TT] }, y2, p2, e2, none⟩, ⟨some la, .assign (.tmp t2), y3, p3, e3, none⟩] false) := by
  intro a w Q p n m hN hds hq
  subst hT
  simp only [List.all_cons, List.all_nil, Bool.and_true, Bool.and_eq_true, decide_eq_true_eq] at hn
  refine wp_region_lit (st_move (st_val (v := .int .i64 (n : Int)) (w' := w) (exec_len_slice (p := p) (c := m) Tryz.underlying22 ?_) (st_assign (wpList_nil (hq _ ((((Upd.refl a _).put t1 _ (by simp [writes])).put t2 _ (by simp [writes])).put la _ (by simp [writes])) ?_)))))
  · rw [eval_tmp, sl_put_self _ _ _ (by omega), eval_tmp, hds]
  · rw [sl_put_self _ _ _ (by simp only [put_size]; omega), eval_tmp, sl_put_self _ _ _ (by simp only [put_size]; omega)]
/-- The test 'not yet', what is done then. -/
abbrev againC (id sz t1 t2 l : Nat) (T y1 y2 : TypeId) (p1 p2 : String) (e1 e2 : Array Edge) (cM cS : Code) : Code :=
  (Code.region id #[⟨some t1, .move (.tmp sz), y1, p1, e1, none⟩, ⟨some t2, .unOp .not T (.tmp t1), y2, p2, e2, none⟩] false).seq (Code.cond (.tmp t2) (cM.seq (cS.seq (Code.goto l))) Code.skip)
/-- What is written, with L behind it. -/
def XW (E : WE) (v : Int) (out : List UInt8) (base : Nat) (K : Nat → Prop) (Inv : Act → World → Prop) (WX : List Nat) (L X : Code) : Prop := ∀ (bs : List UInt8) (a : Act) (w : World) (Q : Exit → Act → World → Prop), PreA E v true base K bs a w → Inv a w → bs.length + out.length ≤ lim2 →
  (∀ a' w', Upd a a' WX → PreA E v true base K (bs ++ out) a' w' → Bel base w w' → Inv a' w' → L.wp Tryz.prog Q a' w') → X.wp Tryz.prog Q a w
theorem goto_wp {key la sz d id t1 t2 l : Nat} {T y1 y2 : TypeId} {p1 p2 : String} {e1 e2 : Array Edge} {c1 cK r1 r2 cM cS X : Code} {out : List UInt8} {base : Nat} {K : Nat → Prop} {Inv : Act → World → Prop} {WX : List Nat} {bs : List UInt8} {a : Act} {w : World}
    (_hp : PreA E v true base K bs a w) (hInv : ∀ a w a' w', Inv a w → sl a' d = sl a d → Bel base w w' → Inv a' w')
    (h1 : ∀ Q : Exit → Act → World → Prop, (∀ a1 w1, Upd a a1 (writes c1) → PreA E v true base K bs a1 w1 → Bel base w w1 → Inv a1 w1 → Q .normal a1 w1) → c1.wp Tryz.prog Q a w)
    (hK : Ac E v true (uv key) cK) (hr1 : SConst E.N sz (.bool false) r1) (hr2 : SLenD E la r2) (hM : SMeas E v la cM) (hS : SConst E.N sz (.bool true) cS)
    (hX : XW E v out base K Inv WX (againC id sz t1 t2 l T y1 y2 p1 p2 e1 e2 cM cS) X)
    (hfl : findLabel (c1.seq (cK.seq (r1.seq (r2.seq ((Code.label l).seq X))))) l = some (Code.skip.seq X))
    (hcK : clear (d :: E.slots) cK = true) (hc1' : clear (d :: E.ds :: E.slots) r1 = true) (hc2 : clear (d :: sz :: E.ds :: E.slots) r2 = true) (hcM : clear (d :: sz :: E.slots) cM = true) (hcS : clear (d :: E.ds :: E.slots) cS = true)
    (hWX : (d :: sz :: la :: E.slots).all (fun t => !WX.contains t) = true) (hT : [t1, t2].all (fun t => decide (t < E.N) && !(d :: sz :: la :: E.ds :: E.slots).contains t) = true)
    (hW1 : ∀ t ∈ WX, t ∈ writes X) (hW2 : ∀ t, t ∈ [t1, t2] ∨ t ∈ writes cM ∨ t ∈ writes cS → t ∈ writes X)
    (hl : bs.length + (tagB (key, out)).length ≤ lim2) (hl2 : out.length < 4294967296) :
    (Code.scope (c1.seq (cK.seq (r1.seq (r2.seq ((Code.label l).seq X)))))).wp Tryz.prog (PostA E (writes (Code.scope (c1.seq (cK.seq (r1.seq (r2.seq ((Code.label l).seq X))))))) base (bs ++ tagB (key, out)) a w) a w := by
  have hlen : (tagB (key, out)).length = (uv key).length + ((uv out.length).length + out.length) := by simp [tagB]
  rw [hlen] at hl
  generalize hWW : writes (Code.scope (c1.seq (cK.seq (r1.seq (r2.seq ((Code.label l).seq X)))))) = WW
  have hW : ∀ t, t ∈ writes c1 ∨ t ∈ writes cK ∨ t ∈ writes r1 ∨ t ∈ writes r2 ∨ t ∈ writes X → t ∈ WW := fun t ht => by
    rw [← hWW]
    simp only [writes, List.mem_append, List.nil_append]
    exact ht
  have hWX' : ∀ t ∈ d :: sz :: la :: E.slots, t ∉ WX := fun t ht hx => by
    have := List.all_eq_true.1 hWX t ht
    simp only [Bool.not_eq_true', List.contains_eq_mem, decide_eq_false_iff_not] at this
    exact this hx
  simp only [List.all_cons, List.all_nil, Bool.and_true, Bool.and_eq_true, decide_eq_true_eq, Bool.not_eq_true', List.contains_eq_mem, decide_eq_false_iff_not] at hT
  obtain ⟨⟨n1, c1x⟩, n2, c2x⟩ := hT
  have hcT : ∀ t ∈ d :: sz :: la :: E.ds :: E.slots, t ∉ [t1, t2] := fun t ht hx => by
    simp only [List.mem_cons, List.not_mem_nil, or_false] at hx
    rcases hx with rfl | rfl
    · exact c1x ht
    · exact c2x ht
  have kK := clear_iff hcK
  have k1 := clear_iff hc1'
  have k2 := clear_iff hc2
  have kM := clear_iff hcM
  have kS := clear_iff hcS
  -- the test
  have htest : ∀ (b : Bool) (a' : Act) (w' : World) (Q : Exit → Act → World → Prop), a'.tmps.size = E.N → sl a' sz = .bool b → (∀ a2, Upd a' a2 [t1, t2] → (Code.cond (.tmp t2) (cM.seq (cS.seq (Code.goto l))) Code.skip).wp Tryz.prog Q a2 w' ∨ True → True) →
      (∀ a2, Upd a' a2 [t1, t2] → sl a2 t2 = .bool (!b) → (Code.cond (.tmp t2) (cM.seq (cS.seq (Code.goto l))) Code.skip).wp Tryz.prog Q a2 w') → (againC id sz t1 t2 l T y1 y2 p1 p2 e1 e2 cM cS).wp Tryz.prog Q a' w' := by
    intro b a' w' Q hz hs _ h
    refine wp_seq (wp_region_lit (st_move (st_val (v := .bool (!b)) (w' := w') ?_ (wpList_nil ?_))))
    · unfold execOp
      simp only [eval_tmp, sl_put_self _ _ _ (show t1 < a'.tmps.size by omega), hs, Sem.run_bind, Sem.run_pure, Op.unary, Result.andThen_ok]
    · exact h _ (((Upd.refl a' _).put t1 _ (by simp)).put t2 _ (by simp)) (sl_put_self _ _ _ (by rw [put_size]; omega))
  refine wp_scope_jumps l (fun a' w' => Upd a a' WW ∧ PreA E v true base K (bs ++ uv key ++ uv out.length) a' w' ∧ Inv a' w' ∧ sl a' sz = .bool true ∧ Bel base w w') (fun _ _ => 0) hfl ?_ ?_
  · -- the first pass
    refine wp_seq (h1 _ fun a1 w1 u1 p1 b1 i1 => ?_)
    refine wp_seq (wp_mono (hK base K bs a1 w1 p1 (by omega)) ?_)
    intro e a2 w2 hq2
    cases e with
    | normal =>
      obtain ⟨u2, b2, o2⟩ := hq2
      have p2 : PreA E v true base K _ a2 w2 := p1.next u2 (fun t ht => kK t (by simp [ht])) b2 o2
      have i2 : Inv a2 w2 := hInv _ _ _ _ i1 (u2.same _ (kK _ (by simp))) b2
      refine wp_seq (hr1 a2 w2 _ p2.fr.size fun a3 u3 s3 => ?_)
      have p3 : PreA E v true base K _ a3 w2 := p2.next u3 (fun t ht => k1 t (by simp [ht])) (Bel.refl _ _) (by rw [u3.same _ (k1 _ (by simp))]; exact p2.own)
      have i3 : Inv a3 w2 := hInv _ _ _ _ i2 (u3.same _ (k1 _ (by simp))) (Bel.refl _ _)
      obtain ⟨p, m, hds⟩ : ∃ p m, sl a3 E.ds = .slice p (bs ++ uv key).length m := by
        rcases p3.own.2 with ⟨h, h0⟩ | ⟨g, cap, cur, h, -⟩
        · exact ⟨none, 0, by rw [h, h0]⟩
        · exact ⟨_, _, h⟩
      refine wp_seq (hr2 a3 w2 _ p _ m p3.fr.size hds fun a4 u4 s4 => ?_)
      have p4 : PreA E v true base K _ a4 w2 := p3.next u4 (fun t ht => k2 t (by simp [ht])) (Bel.refl _ _) (by rw [u4.same _ (k2 _ (by simp))]; exact p3.own)
      have i4 : Inv a4 w2 := hInv _ _ _ _ i3 (u4.same _ (k2 _ (by simp))) (Bel.refl _ _)
      have z4 : sl a4 sz = .bool false := (u4.same _ (k2 _ (by simp))).trans s3
      refine wp_seq (wp_label (hX _ a4 w2 _ p4 i4 (by rw [List.length_append]; omega) fun a5 w5 u5 p5 b5 i5 => ?_))
      have z5 : sl a5 sz = .bool false := (u5.same _ (hWX' _ (by simp))).trans z4
      have la5 : sl a5 la = .int .i64 ((bs ++ uv key).length : Int) := (u5.same _ (hWX' _ (by simp))).trans s4
      refine htest false a5 w5 _ p5.fr.size z5 (fun _ _ _ => trivial) fun a6 u6 s6 => ?_
      have p6 : PreA E v true base K _ a6 w5 := p5.next u6 (fun t ht => hcT t (by simp [ht])) (Bel.refl _ _) (by rw [u6.same _ (hcT _ (by simp))]; exact p5.own)
      have i6 : Inv a6 w5 := hInv _ _ _ _ i5 (u6.same _ (hcT _ (by simp))) (Bel.refl _ _)
      have la6 : sl a6 la = .int .i64 ((bs ++ uv key).length : Int) := (u6.same _ (hcT _ (by simp))).trans la5
      have hne : bs ++ uv key ≠ [] := fun h => by
        have := congrArg List.length h
        have h2 := uv_some key
        simp only [List.length_append, List.length_nil] at this
        omega
      refine wp_cond_true (by rw [eval_tmp, s6]; rfl) (wp_seq (wp_mono (hM base K (bs ++ uv key) out a6 w5 p6 hne la6 (by simp only [List.length_append, lim, lim2] at hl ⊢; omega) hl2) ?_))
      intro e a7 w7 hq7
      cases e with
      | normal =>
        obtain ⟨u7, b7, o7⟩ := hq7
        have p7 : PreA E v true base K _ a7 w7 := p6.next u7 (fun t ht => kM t (by simp [ht])) b7 o7
        have i7 : Inv a7 w7 := hInv _ _ _ _ i6 (u7.same _ (kM _ (by simp))) b7
        refine wp_seq (hS a7 w7 _ p7.fr.size fun a8 u8 s8 => wp_goto ⟨rfl, ?_, ?_, ?_, s8, ?_⟩)
        · exact (((((((u1.mono (fun t ht => hW t (.inl ht))).trans (u2.mono (fun t ht => hW t (.inr (.inl ht))))).trans (u3.mono (fun t ht => hW t (.inr (.inr (.inl ht)))))).trans (u4.mono (fun t ht => hW t (.inr (.inr (.inr (.inl ht))))))).trans (u5.mono (fun t ht => hW t (.inr (.inr (.inr (.inr (hW1 t ht)))))))).trans (u6.mono (fun t ht => hW t (.inr (.inr (.inr (.inr (hW2 t (.inl ht))))))))).trans (u7.mono (fun t ht => hW t (.inr (.inr (.inr (.inr (hW2 t (.inr (.inl ht)))))))))).trans (u8.mono (fun t ht => hW t (.inr (.inr (.inr (.inr (hW2 t (.inr (.inr ht)))))))))
        · exact p7.next u8 (fun t ht => kS t (by simp [ht])) (Bel.refl _ _) (by rw [u8.same _ (kS _ (by simp))]; exact p7.own)
        · exact hInv _ _ _ _ i7 (u8.same _ (kS _ (by simp))) (Bel.refl _ _)
        · exact ((b1.trans b2).trans b5).trans b7
      | _ => exact hq7.elim
    | _ => exact hq2.elim
  · -- the second
    rintro a1 w1 ⟨u1, p1, i1, z1, b1⟩
    refine wp_seq (wp_skip (hX _ a1 w1 _ p1 i1 (by simp only [List.length_append]; omega) fun a2 w2 u2 p2 b2 i2 => ?_))
    have z2 : sl a2 sz = .bool true := (u2.same _ (hWX' _ (by simp))).trans z1
    refine htest true a2 w2 _ p2.fr.size z2 (fun _ _ _ => trivial) fun a3 u3 s3 => ?_
    refine wp_cond_false (by rw [eval_tmp, s3]; rfl) (wp_skip ⟨(u1.trans (u2.mono (fun t ht => hW t (.inr (.inr (.inr (.inr (hW1 t ht)))))))).trans (u3.mono (fun t ht => hW t (.inr (.inr (.inr (.inr (hW2 t (.inl ht)))))))), b1.trans b2, ?_⟩)
    rw [u3.same _ (hcT _ (by simp))]
    have := p2.own
    simp only [tagB]
    simpa only [List.append_assoc] using this
/-- A value that a slot holds. -/
theorem FW.measured {f : F} {key la sz d id t1 t2 l : Nat} {T y1 y2 : TypeId} {p1 p2 : String} {e1 e2 : Array Edge} {c1 cK r1 r2 cM cS cV : Code} (h1 : SLoad E.N sp off d c1) (hK : Ac E v true (uv key) cK) (hr1 : SConst E.N sz (.bool false) r1) (hr2 : SLenD E la r2) (hV : FA TagRep E v true true f d cV) (h1f : oneF f = true)
    (hM : SMeas E v la cM) (hS : SConst E.N sz (.bool true) cS)
    (hfl : findLabel (c1.seq (cK.seq (r1.seq (r2.seq ((Code.label l).seq (cV.seq (againC id sz t1 t2 l T y1 y2 p1 p2 e1 e2 cM cS))))))) l = some (Code.skip.seq (cV.seq (againC id sz t1 t2 l T y1 y2 p1 p2 e1 e2 cM cS))))
    (hcl : clear (E.ds :: E.slots) c1 = true) (hcK : clear (d :: E.slots) cK = true) (hc1' : clear (d :: E.ds :: E.slots) r1 = true) (hc2 : clear (d :: sz :: E.ds :: E.slots) r2 = true) (hcM : clear (d :: sz :: E.slots) cM = true) (hcS : clear (d :: E.ds :: E.slots) cS = true)
    (hcV : clear (d :: sz :: la :: E.slots) cV = true) (hT : [t1, t2].all (fun t => decide (t < E.N) && !(d :: sz :: la :: E.ds :: E.slots).contains t) = true) :
    FW E v sp off f key (Code.scope (c1.seq (cK.seq (r1.seq (r2.seq ((Code.label l).seq (cV.seq (againC id sz t1 t2 l T y1 y2 p1 p2 e1 e2 cM cS)))))))) := by
  intro base K bs a w cb co x hp hsp hcb hr hft hu hl hl2
  obtain ⟨u, hu0, hru⟩ := rep_one h1f hr
  have kV := clear_iff hcV
  have kc := clear_iff hcl
  refine goto_wp (id := id) (t1 := t1) (t2 := t2) (l := l) (T := T) (y1 := y1) (y2 := y2) (p1 := p1) (p2 := p2) (e1 := e1) (e2 := e2) (d := d) (Inv := fun a' w' => sl a' d = u ∧ repF TagRep v true true f w' K (fun _ => some u) x) (WX := writes cV) hp ?_ ?_ hK hr1 hr2 hM hS ?_ hfl hcK hc1' hc2 hcM hcS hcV hT (fun t ht => by simp only [writes, List.mem_append]; exact .inl ht) (fun t ht => ?_) hl hl2
  · rintro a w a' w' ⟨s, r⟩ hs hb
    exact ⟨hs.trans s, stable_repF (fun _ => rfl) stable_tagRep f w w' K K _ _ x (fun g hg _ => hb.block g (hp.kb g hg)) hb.size (fun _ h => h) (fun _ _ => rfl) r⟩
  · intro Q hq
    refine h1 a w _ cb co u hp.fr.size hsp (by simpa using hu0) fun a1 u1 s1 => ?_
    exact hq a1 w u1 (hp.next u1 (fun t ht => kc t (by simp [ht])) (Bel.refl _ _) (by rw [u1.same _ (kc _ (by simp))]; exact hp.own)) (Bel.refl _ _) ⟨s1, hru⟩
  · intro bs a w Q hp1 hi hl1 hq
    refine wp_seq (wp_mono (hV base K bs a w x hp1 ⟨by rw [hi.1]; exact hi.2, hft⟩ hl1) ?_)
    intro e a2 w2 hq2
    cases e with
    | normal =>
      obtain ⟨u2, b2, o2⟩ := hq2
      refine hq a2 w2 u2 (hp1.next u2 (fun t ht => kV t (by simp [ht])) b2 o2) b2 ⟨(u2.same _ (kV _ (by simp))).trans hi.1, ?_⟩
      exact stable_repF (fun _ => rfl) stable_tagRep f w w2 K K _ _ x (fun g hg _ => b2.block g (hp.kb g hg)) b2.size (fun _ h => h) (fun _ _ => rfl) hi.2
    | _ => exact hq2.elim
  · simp only [writes, List.mem_append, List.append_nil, List.mem_cons, List.not_mem_nil, or_false, List.filterMap] at ht ⊢
    rcases ht with h | h | h
    · exact .inr (.inl (by simpa using h))
    · exact .inr (.inr (.inl h))
    · exact .inr (.inr (.inr h))
end
end Go.Proofs.YtoklbgdafnminaaGreatDoor
