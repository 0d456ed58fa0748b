/-
  Elements of lists; tags; the end of a function that reads. Conditions: none.
-/
import Derived.Test.YtpknjenihcfhlaaDoorRd6
namespace Go.Proofs.YtpknjenihcfhlaaDoor
open Go.RowKit (Below)
open Kz

section
variable {tags : Rel (List (Nat × List UInt8))} {E : RE} {v : Int} {flex ht : Bool}

/-- 'Default' of a part: it sets cells of the part alone, and lets nil lists nil. -/
def DefOk (f sz : Nat) (ini : Cells → Prop) : Prop :=
  hasBody Tryd.prog f = true ∧ ∀ (w : World) (G p : Nat) (cells : Array Value) (Ty : TypeId), w.heap[G]? = some (.cells cells Ty (0, 0)) → p + sz ≤ cells.size → ini (fun j => cells[p + j]?) →
    Calls Tryd.prog f #[.pointer (some ⟨G, p, none⟩)] w fun e w' => (∃ u, e = .returned u) ∧ w.grownBy w' (some G) ∧ ∃ cells', w'.heap[G]? = some (.cells cells' Ty (0, 0)) ∧ cells'.size = cells.size ∧ (∀ i, (i < p ∨ p + sz ≤ i) → cells'[i]? = cells[i]?) ∧ ini (fun j => cells'[p + j]?)

def SIndex (N x i d sz : Nat) (c : Code) : Prop := ∀ (a : Act) (w : World) (Q : Exit → Act → World → Prop) (g o n m j : Nat), a.tmps.size = N → sl a x = .slice (some ⟨g, o, none⟩) n m → sl a i = .int .i32 (j : Int) → j < n →
  (∀ a', Upd a a' (writes c) → sl a' d = .pointer (some ⟨g, o + j * sz, none⟩) → Q .normal a' w) → c.wp Tryd.prog Q a w
def SDefault (N x sz : Nat) (ini : Cells → Prop) (c : Code) : Prop := ∀ (a : Act) (w : World) (Q : Exit → Act → World → Prop) (G p : Nat) (cells : Array Value) (Ty : TypeId), a.tmps.size = N → sl a x = .pointer (some ⟨G, p, none⟩) →
  w.heap[G]? = some (.cells cells Ty (0, 0)) → p + sz ≤ cells.size → ini (fun j => cells[p + j]?) →
  (∀ a' w' cells', Upd a a' (writes c) → w.grownBy w' (some G) → w'.heap[G]? = some (.cells cells' Ty (0, 0)) → cells'.size = cells.size → (∀ i, (i < p ∨ p + sz ≤ i) → cells'[i]? = cells[i]?) → ini (fun j => cells'[p + j]?) → Q .normal a' w') → c.wp Tryd.prog Q a w
def SStoreIdx (N x i y sz : Nat) (c : Code) : Prop := ∀ (a : Act) (w : World) (Q : Exit → Act → World → Prop) (g o n m j : Nat) (u : Value), a.tmps.size = N → sl a x = .slice (some ⟨g, o, none⟩) n m → sl a i = .int .i32 (j : Int) → j < n → (sl a y).oneCell' = true →
  w.cell? ⟨g, o + j * sz, none⟩ = some u → w.frozen? ⟨g, o + j * sz, none⟩ = false → (∀ a', Upd a a' (writes c) → Q .normal a' (w.setCell ⟨g, o + j * sz, none⟩ (sl a y))) → c.wp Tryd.prog Q a w

theorem sindex {id N x i d t1 t2 t3 T e sz : Nat} {ty1 ty2 ty3 ty4 : TypeId} {p1 p2 p3 p4 : String} {e1 e2 e3 e4 : Array Edge} (hT : sliceOf Tryd.prog T = some e) (hs : sizeIs Tryd.prog e sz = true) (hn : [t1, t2, t3, d].all (· < N) = true) (hd : decide (t1 ≠ t2 ∧ t1 ≠ i) = true) :
    SIndex N x i d sz (Code.region id #[⟨some t1, .move (.tmp x), ty1, p1, e1, none⟩, ⟨some t2, .move (.tmp i), ty2, p2, e2, none⟩, ⟨some t3, .indexAddr T (.tmp t1) (.tmp t2), ty3, p3, e3, none⟩, ⟨some d, .assign (.tmp t3), ty4, p4, e4, none⟩] false) := by
  intro a w Q g o n m j hN hx hi hj hq
  obtain ⟨i', hi', hs'⟩ := sizeIs_ok hs
  simp only [List.all_cons, List.all_nil, Bool.and_true, Bool.and_eq_true, decide_eq_true_eq] at hn hd
  exact reg_index (indexOff_of (sliceOf_ok hT) hi' hs') (by omega) (by omega) (by omega) (by omega) hd.1 hd.2 hx hi hj hq
theorem sdefault {id N x f d1 d2 sz : Nat} {ini : Cells → Prop} {tys : Array TypeId} {ty1 ty2 : TypeId} {p1 p2 : String} {e1 e2 : Array Edge} (hf : DefOk f sz ini) (hn : [d1].all (· < N) = true) :
    SDefault N x sz ini (Code.region id #[⟨some d1, .move (.tmp x), ty1, p1, e1, none⟩, ⟨some d2, .call { callee := .value (.func f), args := #[.tmp d1], argTypes := tys }, ty2, p2, e2, none⟩] false) := by
  intro a w Q G p cells Ty hN hx hrow hfit hini hq
  simp only [List.all_cons, List.all_nil, Bool.and_true, decide_eq_true_eq] at hn
  obtain ⟨fn, hfn, hb, hnn⟩ := hasBody_ok hf.1
  refine reg_callp hfn hb hnn (by omega) ?_
  rw [hx]
  refine Calls.mono (hf.2 w G p cells Ty hrow hfit hini) ?_
  rintro e w' ⟨hv, hg, cells', h1, h2, h3, h4⟩
  exact ⟨hv, fun a' hu => hq a' w' cells' hu hg h1 h2 h3 h4⟩
theorem sstoreIdx {id N x i y t1 t2 t3 t4 T e sz ty : Nat} {ty1 ty2 ty3 ty4 ty5 : TypeId} {p1 p2 p3 p4 p5 : String} {e1 e2 e3 e4 e5 : Array Edge} (hT : sliceOf Tryd.prog T = some e) (hs : sizeIs Tryd.prog e sz = true) (hty : sizeIs Tryd.prog ty 1 = true)
    (hn : [t1, t2, t3, t4].all (· < N) = true) (hd : decide ([y, i, t1, t2, t3, t4].Nodup) = true) :
    SStoreIdx N x i y sz (Code.region id #[⟨some t1, .move (.tmp x), ty1, p1, e1, none⟩, ⟨some t2, .move (.tmp i), ty2, p2, e2, none⟩, ⟨some t3, .move (.tmp y), ty3, p3, e3, none⟩, ⟨some t4, .indexAddr T (.tmp t1) (.tmp t2), ty4, p4, e4, none⟩,
      ⟨none, .store ty (.tmp t4) (.tmp t3), ty5, p5, e5, none⟩] false) := by
  intro a w Q g o n m j u hN hx hi hj ho hc hfz hq
  obtain ⟨i', hi', hs'⟩ := sizeIs_ok hs
  simp only [List.all_cons, List.all_nil, Bool.and_true, Bool.and_eq_true, decide_eq_true_eq] at hn
  exact reg_storeIdx (indexOff_of (sliceOf_ok hT) hi' hs') (store1_ok hty ho) (by omega) (by omega) (by omega) (by omega) (of_decide_eq_true hd) hx hi hj rfl hc hfz hq

/-- A block about an element's code. -/
theorem ElB.block {da di sz id : Nat} {g : St → T × St} {R : Rel T} {ini : Cells → Prop} {c : Code} (h : ElB E v flex da di sz g R ini c) : ElB E v flex da di sz g R ini (Code.block id c) :=
  fun rb S st G o n m i cells Ty a w hfr hrd her hr1 hG1 hG hSG hold hda hdi hin hrow hfit hini => wp_inBlock (h rb S st G o n m i cells Ty a w hfr hrd her hr1 hG1 hG hSG hold hda hdi hin hrow hfit hini) (fun _ _ hq => hq)
/-- A part of a list. -/
theorem ElB.struct (htg : flex = true → ht = true) (hT : Stable 1 tags) {da di d s sz : Nat} {sub : List F} {c1 c2 c3 c : Code} (h1 : SIndex E.N da di d sz c1) (h2 : SDefault E.N d sz (iniFs ht sub) c2) (h3 : SCopy E.N d s c3) (h : RdP tags E v flex ht s 0 sub c) (hsz : sz = cellsP ht sub)
    (hcl : clear E.slots (c1.seq (c2.seq c3)) = true) (hd : clear [d] c2 = true) :
    ElB E v flex da di sz (elG v flex 10 sub) (elR tags v flex ht 10 sub) (elIni ht 10 sub) (c1.seq (c2.seq (c3.seq c))) := by
  intro rb S st G o n m i cells Ty a w hfr hrd her hr1 hG1 hG hSG hold hda hdi hin hrow hfit hini
  simp only [clear_seq] at hcl
  obtain ⟨k1, k2, k3⟩ := hcl
  refine wp_seq (h1 a w _ G o n m i hfr.size hda hdi hin fun a1 u1 s1 => ?_)
  have f1 := hfr.upd u1 (clear_iff k1)
  refine wp_seq (h2 a1 w _ G _ cells Ty f1.size s1 hrow hfit (hini rfl) fun a2 w2 cells2 u2 g2 row2 sz2 same2 ini2 => ?_)
  have f2 := f1.upd u2 (clear_iff k2)
  refine wp_seq (h3 a2 w2 _ f2.size fun a3 u3 s3 => ?_)
  have f3 := f2.upd u3 (clear_iff k3)
  have hrd2 : RdIs w2 S rb st := hrd.kept g2 (fun g hg e => hSG (by rw [← Option.some.inj e]; exact hg)) (fun e => hG (Option.some.inj e).symm)
  have her2 : ErrOk w2 := her.kept g2 (fun e => hG1 (Option.some.inj e))
  have hmd2 : Md w w2 rb G (o + i * sz) sz := ⟨g2.os, g2.tape, g2.output, g2.size, fun k hk _ hc => g2.block k hk (fun e => hc (Option.some.inj e)), fun cs T hw => by
    rw [hrow] at hw
    cases hw
    exact ⟨cells2, row2, sz2, same2⟩⟩
  have e10 : elG v flex 10 sub = rdPart v flex sub := by funext st; simp [elG, valR]
  have r10 : elR tags v flex ht 10 sub = repP tags v flex ht sub := by funext w K c t; simp [elR, valRep]
  refine wp_mono (h rb S st G (o + i * sz) cells2 Ty a3 w2 { fr := f3, ptr := by rw [s3, upd_of u2 hd d (by simp), s1], rd := hrd2, err := her2, rbe := hr1, cbe := hG1, ne := hG, src := hSG, old := fun g hg => Nat.lt_of_lt_of_le (hold g hg) g2.size, row := row2, fit := by rw [sz2, ← hsz]; omega, ini := ini2 }) ?_
  intro e a4 w4 hq
  cases e with
  | normal =>
    obtain ⟨u4, r4, m4, cells4, row4, rep4⟩ := hq
    rw [← hsz] at m4
    refine ⟨((u1.mono ?_).trans (u2.mono ?_)).trans ((u3.mono ?_).trans (u4.mono ?_)), by rw [e10]; exact r4, hmd2.trans m4 (by omega) (by omega), cells4, row4, ?_⟩
    · intro t ht; simp only [writes, List.mem_append]; exact .inl ht
    · intro t ht; simp only [writes, List.mem_append]; exact .inr (.inl ht)
    · intro t ht; simp only [writes, List.mem_append]; exact .inr (.inr (.inl ht))
    · intro t ht; simp only [writes, List.mem_append]; exact .inr (.inr (.inr ht))
    · rw [r10, e10]
      exact stable_repP htg hT sub w4 w4 _ _ _ _ _ (fun _ _ _ => rfl) (Nat.le_refl _) (fun g hg => hg.imp (fun h => h) (fun h => Nat.le_trans g2.size h)) (fun j _ => rfl) rep4
  | ret =>
    obtain ⟨n4, s4, d4, v4, m4⟩ := hq
    rw [← hsz] at m4
    exact ⟨by rw [e10]; exact n4, s4, d4, v4, hmd2.trans m4 (by omega) (by omega)⟩
  | exit id => exact hq
  | goto l => exact hq
  | panic ch => exact hq
  | outgrown => exact hq

/-- A number, a text of a list. -/
theorem ElB.prim {da di d of : Nat} {sub : List F} {c cs : Code} (h : FV E v flex (.mk of 0 0 (-1) 0 0 0 sub) d c) (hof : decide (of ≠ 7 ∧ of ≠ 10 ∧ of ≠ 11) = true) (h2 : SStoreIdx E.N da di d 1 cs) (hcl : clear (da :: di :: E.slots) c = true) :
    ElB E v flex da di 1 (elG v flex of sub) (elR tags v flex ht of sub) (elIni ht of sub) (c.seq cs) := by
  intro rb S st G o n m i cells Ty a w hfr hrd her hr1 hG1 hG hSG hold hda hdi hin hrow hfit hini
  simp only [decide_eq_true_eq] at hof
  obtain ⟨o7, o10, o11⟩ := hof
  obtain ⟨α, g, Ret, k, hv, hst, hg, hrep⟩ := h
  have hkc := clear_iff hcl
  refine wp_seq (wp_mono (hv rb S st a w hfr hrd her) ?_)
  intro e a1 w1 hq
  cases e with
  | normal => ?_
  | _ => exact hq.elim
  obtain ⟨u1, r1, g1, one1, ret1⟩ := hq
  have hGlt : G < w.heap.size := (Array.getElem?_eq_some_iff.1 hrow).1
  have row1 : w1.heap[G]? = some (.cells cells Ty (0, 0)) := by rw [g1.block G hGlt (fun e => hG (Option.some.inj e))]; exact hrow
  have hlt : o + i * 1 < cells.size := by omega
  have hce : w1.cell? ⟨G, o + i * 1, none⟩ = some cells[o + i * 1] := by rw [cell_of_row w1 G _ _ _ _ row1]; exact Array.getElem?_eq_getElem hlt
  refine h2 a1 w1 _ G o n m i _ (u1.size.trans hfr.size) ((u1.same _ (hkc _ (by simp))).trans hda) ((u1.same _ (hkc _ (by simp))).trans hdi) hin one1 hce (by simp [World.frozen?, row1]) fun a2 u2 => ?_
  have eG : elG v flex of sub = rd v flex (.mk of 0 0 (-1) 0 0 0 sub) := by
    funext st; simp [elG, rd, fieldR, o11, F.may]; rfl
  have eR : elR tags v flex ht of sub = repF tags v flex ht (.mk of 0 0 (-1) 0 0 0 sub) := by
    funext w K c t; simp [elR, repF, fieldRep, o11, repP]
  refine ⟨(u1.mono ?_).trans (u2.mono ?_), ?_, (Md.of_grown g1 hG (o + i * 1) 1).trans (Md.of_set (lo := o + i * 1) (n := 1) _ (by omega)) (by omega) (by omega), cells.setIfInBounds (o + i * 1) (sl a1 d), heap_setCell_row row1, ?_⟩
  · intro t ht; simp only [writes, List.mem_append]; exact .inl ht
  · intro t ht; simp only [writes, List.mem_append]; exact .inr ht
  · rw [eG, hg]
    exact r1.kept (row := some G) ⟨rfl, rfl, rfl, by simp [World.setCell], fun k _ hk => Below.heap_setCell _ _ _ _ (fun e => hk (by rw [e]))⟩ (fun g hg e => hSG (by rw [← Option.some.inj e]; exact hg)) (fun e => hG (Option.some.inj e).symm)
  · rw [eG, eR, hg]
    refine hrep _ _ _ _ _ _ (sl a1 d) (by show (cells.setIfInBounds (o + i * 1) (sl a1 d))[o + i * 1]? = _; rw [Array.getElem?_setIfInBounds, if_pos rfl, if_pos hlt]) (hst w1 _ _ _ _ _ (fun g hg hl => ?_) (by simp [World.setCell]) (fun g hg => hg) ret1)
    refine Below.heap_setCell _ _ _ _ ?_
    rintro rfl
    rcases hg with hg | hg
    · exact hSG hg
    · omega
theorem ElB.empty {da di d of sz : Nat} {u : Value} {i1 : Nat} {ty : TypeId} {p : String} {eg : Array Edge} {sub : List F} {c : Code} (hd : d < E.N) (hcl : clear (da :: di :: E.slots) (Code.region i1 #[⟨some d, .assign (.const u), ty, p, eg, none⟩] false) = true)
    (h : ElB E v flex da di sz (elG v flex of sub) (elR tags v flex ht of sub) (elIni ht of sub) c) :
    ElB E v flex da di sz (elG v flex of sub) (elR tags v flex ht of sub) (elIni ht of sub) ((Code.region i1 #[⟨some d, .assign (.const u), ty, p, eg, none⟩] false).seq c) := by
  intro rb S st G o n m i cells Ty a w hfr hrd her hr1 hG1 hG hSG hold hda hdi hin hrow hfit hini
  have hk := clear_iff hcl
  refine wp_seq (reg_const (by rw [hfr.size]; exact hd) fun a1 u1 _ => ?_)
  refine wp_mono (h rb S st G o n m i cells Ty a1 w (hfr.upd u1 (fun t ht => hk t (List.mem_cons_of_mem _ (List.mem_cons_of_mem _ ht)))) hrd her hr1 hG1 hG hSG hold ((u1.same _ (hk _ (by simp))).trans hda) ((u1.same _ (hk _ (by simp))).trans hdi) hin hrow hfit hini) ?_
  intro e a2 w2 hq
  cases e with
  | normal => exact ⟨(u1.mono (fun t ht => List.mem_append_left _ ht)).trans (hq.1.mono (fun t ht => List.mem_append_right _ ht)), hq.2⟩
  | ret => exact hq
  | exit id => exact hq
  | goto l => exact hq
  | panic ch => exact hq
  | outgrown => exact hq
end
end Go.Proofs.YtpknjenihcfhlaaDoor
