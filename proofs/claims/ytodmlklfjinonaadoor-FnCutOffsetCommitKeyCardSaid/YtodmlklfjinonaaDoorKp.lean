/-
  What is kept within: a version of two octets, then the fields: read and written. Conditions: none.
-/
import Derived.Test.YtodmlklfjinonaaDoorY5
namespace Go.Proofs.YtodmlklfjinonaaDoor
open Go.RowKit (Below)
open Kz

/-- The version, then the part. -/
def Kz.M.readK (m : M) (st : St) : Int × T × St := ((rdI 2 st).1, rdPart (rdI 2 st).1 false m.fields (rdI 2 st).2)
def Kz.writeK (m : M) (v : Int) (t : T) : List UInt8 := fixed v 2 ++ Kz.part v false m.fields t

/-- A function that reads it. -/
def ReadsKept (tags : Rel (List (Nat × List UInt8))) (f : Nat) (m : M) (T : TypeId) : Prop :=
  hasBody Tryd.prog f = true ∧ ∀ (w : World) (S : Nat → Prop) (B : Nat) (bs : List UInt8) (p : Option Addr) (n k : Nat) (cells : Array Value), w.heap[B]? = some (.cells cells T (0, 0)) → 1 + cellsP false m.fields ≤ cells.size → iniM false 0 m.fields (fun j => cells[j]?) →
    BytesAt w S (.slice p n k) bs → ¬ S B → (∀ g, S g → g < w.heap.size) → ErrOk w → B ≠ 1 → Calls Tryd.prog f #[.pointer (some ⟨B, 0, none⟩), .slice p n k, .bool false] w fun e w' =>
      ∃ u, e = .returned u ∧ ErrV (m.readK (some bs)).2.2 u ∧ w.grownBy w' (some B) ∧ ((m.readK (some bs)).2.2.isSome = true → ∃ cells', w'.heap[B]? = some (.cells cells' T (0, 0)) ∧ cells'[0]? = some (.int .i16 (m.readK (some bs)).1) ∧
        repP tags (m.readK (some bs)).1 false false m.fields w' (fun g => S g ∨ w.heap.size ≤ g) (fun j => cells'[1 + j]?) (m.readK (some bs)).2.1)

/-- 's.Version = b.Int16()'. -/
def SVer (E : RE) (c : Code) : Prop := ∀ (a : Act) (w : World) (Q : Exit → Act → World → Prop) (S : Nat → Prop) (rb : Nat) (st : St) (b : Nat) (cells : Array Value) (T : TypeId), a.tmps.size = E.N → sl a E.rs = .pointer (some ⟨rb, 0, none⟩) → sl a 0 = .pointer (some ⟨b, 0, none⟩) → RdIs w S rb st → ErrOk w →
  w.heap[b]? = some (.cells cells T (0, 0)) → 0 < cells.size → b ≠ rb → (∀ a' w1, Upd a a' (writes c) → w.grownBy w1 (some rb) → RdIs w1 S rb (rdI 2 st).2 → Q .normal a' (w1.setCell ⟨b, 0, none⟩ (.int .i16 (rdI 2 st).1))) → c.wp Tryd.prog Q a w
theorem sver {E : RE} {id f t1 t2 t3 t4 T k ty : Nat} {tys : Array TypeId} {y1 y2 y3 y4 y5 : TypeId} {p1 p2 p3 p4 p5 : String} {e1 e2 e3 e4 e5 : Array Edge} (hf : Reads f (rdI 2) (IsInt .i16)) (hoff : offOf Tryd.prog T k = some 0) (hty : sizeIs Tryd.prog ty 1 = true) (hn : [t1, t2, t3, t4].all (· < E.N) = true)
    (hd : decide (t1 ≠ E.rs ∧ t1 ≠ t2 ∧ t2 ≠ t3 ∧ t2 ≠ t4) = true) :
    SVer E (Code.region id #[⟨some t1, .move (.tmp 0), y1, p1, e1, none⟩, ⟨some t2, .call { callee := .value (.func f), args := #[.tmp E.rs], argTypes := tys }, y2, p2, e2, none⟩, ⟨some t3, .nilCheck (.tmp t1), y3, p3, e3, none⟩, ⟨some t4, .fieldAddr T (.tmp t3) k, y4, p4, e4, none⟩, ⟨none, .store ty (.tmp t4) (.tmp t2), y5, p5, e5, none⟩] false) := by
  intro a w Q S rb st b cells Ty hN hrs h0 hr he hrow hsz hne hq
  simp only [List.all_cons, List.all_nil, Bool.and_true, Bool.and_eq_true, decide_eq_true_eq] at hn hd
  obtain ⟨n1, n2, n3, n4⟩ := hn
  obtain ⟨d1, d2, d3, d4⟩ := hd
  obtain ⟨fn, hfn, hb, hnn⟩ := hasBody_ok hf.1
  refine wp_region_lit (st_move (st_call1 hfn hb hnn ?_))
  rw [eval_tmp, sl_put_other _ _ _ _ d1, hrs]
  refine Calls.mono (hf.2 w S rb st hr he) ?_
  rintro e w1 ⟨u, rfl, -, hr', hg, hret⟩
  simp only [IsInt] at hret
  subst hret
  refine ⟨_, rfl, ?_⟩
  have hrow1 : w1.heap[b]? = some (.cells cells Ty (0, 0)) := by rw [hg.block b (Array.getElem?_eq_some_iff.1 hrow).1 (fun e => hne (Option.some.inj e))]; exact hrow
  refine st_nil (p := ⟨b, 0, none⟩) ?_ (st_field (b := b) (o := 0) (fieldOff_ok hoff) ?_ (st_store (b := b) (o := 0) (u := cells[0]) (v := .int .i16 (rdI 2 st).1) ?_ ?_ (store1_ok hty rfl) ?_ ?_ (wpList_nil (hq _ w1 ?_ hg hr'))))
  · rw [eval_tmp, sl_put_other _ _ _ _ (fun e => d2 e.symm), sl_put_self _ _ _ (by omega), eval_tmp, h0]
  · rw [eval_tmp, sl_put_self _ _ _ (by simp only [put_size]; omega)]
  · rw [eval_tmp, sl_put_self _ _ _ (by simp only [put_size]; omega)]
  · rw [eval_tmp, sl_put_other _ _ _ _ (fun e => d4 e.symm), sl_put_other _ _ _ _ (fun e => d3 e.symm), sl_put_self _ _ _ (by simp only [put_size]; omega)]
  · rw [cell_of_row w1 b 0 _ _ _ hrow1]; exact Array.getElem?_eq_getElem hsz
  · simp [World.frozen?, hrow1]
  · exact ((((Upd.refl a _).put t1 _ (by simp [writes])).put t2 _ (by simp [writes])).put t3 _ (by simp [writes])).put t4 _ (by simp [writes])

section
variable {tags : Rel (List (Nat × List UInt8))} {m : M}
theorem readsKept {E : RE} {p0 p1 p2 pV p3 p4 p7 body : Code} {f : Nat} {fn : Func} {s : Nat} {T : TypeId} (hT : Stable 1 tags) (hfs : E.fs = none) (hus : E.us = 2)
    (hf : Tryd.prog.funcs[f]? = some fn) (hb : fn.body = some (p0.seq (p1.seq (p2.seq (pV.seq (p3.seq (p4.seq (p7.seq body)))))))) (hnt : fn.ntmps = E.N) (hres : fn.results = #[.tmp E.res]) (hg : hasBody Tryd.prog f = true)
    (hN : 3 ≤ E.N) (h0 : SConst E.N E.res .nilIface p0) (h1 : SDefault E.N 0 (1 + cellsP false m.fields) (iniM false 0 m.fields) p1) (h2 : SReader E.N 1 E.rs p2) (hV : SVer E pV) (h3 : SLoad E.N 0 0 E.vs p3) (h4 : SMove E.N p4) (h7 : SCopy E.N 0 s p7)
    (hcl : clear [0, 1, 2] (p0.seq (p1.seq (p2.seq (pV.seq (p3.seq p4))))) = true) (hcr : clear [E.rs] (pV.seq (p3.seq p4)) = true) (hcv : clear [E.vs] p4 = true) (hc2 : clear [0, 2, E.rs, E.vs] p7 = true)
    (hbody : ∀ v : Int, -32768 ≤ v → RdPE tags E v false false s 1 m.fields body) : ReadsKept tags f m T := by
  refine ⟨hg, fun w S B bs p n k cells hrow hfit hini hbs hSB hold her hB => ?_⟩
  simp only [clear_seq] at hcl hcr
  obtain ⟨k0, k1, k2, kV, k3, k4⟩ := hcl
  obtain ⟨rV, r3, r4⟩ := hcr
  have hBlt : B < w.heap.size := (Array.getElem?_eq_some_iff.1 hrow).1
  refine calls_of_wp hf hb ?_
  rw [hnt]
  generalize ha : (⟨#[.pointer (some ⟨B, 0, none⟩), .slice p n k, .bool false] ++ Array.replicate (E.N - (#[.pointer (some ⟨B, 0, none⟩), .slice p n k, .bool false] : Array Value).size) undef, []⟩ : Act) = a
  have hsz : a.tmps.size = E.N := by subst ha; simp; omega
  have hd : a.defers = [] := by subst ha; rfl
  have s0 : sl a 0 = .pointer (some ⟨B, 0, none⟩) := by subst ha; simp [sl, Array.getD_eq_getD_getElem?, Array.getElem?_append]
  have s1 : sl a 1 = .slice p n k := by subst ha; simp [sl, Array.getD_eq_getD_getElem?, Array.getElem?_append]
  have s2 : sl a 2 = .bool false := by subst ha; simp [sl, Array.getD_eq_getD_getElem?, Array.getElem?_append]
  clear ha
  refine wp_seq (h0 a w _ hsz fun a1 u1 _ => ?_)
  refine wp_seq (h1 a1 w _ B 0 cells T (u1.size.trans hsz) (by rw [upd_of u1 k0 0 (by simp)]; exact s0) hrow (by omega) (by simpa using hini) fun a2 w2 cells2 u2 g2 row2 sz2 same2 ini2 => ?_)
  refine wp_seq (h2 a2 w2 _ p n k (u2.size.trans (u1.size.trans hsz)) (by rw [upd_of u2 k1 1 (by simp), upd_of u1 k0 1 (by simp)]; exact s1) fun a3 w3 u3 q3 hh3 ho3 ht3 hp3 => ?_)
  have hsz3 : w3.heap.size = w2.heap.size + 1 := by rw [hh3]; simp
  have hold3 : ∀ g, g < w2.heap.size → w3.heap[g]? = w2.heap[g]? := fun g hg => by rw [hh3, Array.getElem?_push]; simp; omega
  have hnew3 : w3.heap[w2.heap.size]? = some (.cells #[.slice p n k, .bool false] 98 (0, 0)) := by rw [hh3]; simp
  have g3 : w2.grownBy w3 none := ⟨ho3, ht3, hp3, by omega, fun g hg _ => hold3 g hg⟩
  have hB2 : B < w2.heap.size := Nat.lt_of_lt_of_le hBlt g2.size
  have row3 : w3.heap[B]? = some (.cells cells2 T (0, 0)) := by rw [hold3 B hB2]; exact row2
  have hrd3 : RdIs w3 S w2.heap.size (some bs) := by
    refine ⟨fun h => by have := hold _ h; have := g2.size; omega, .slice p n k, hnew3, ?_⟩
    refine stable_bytes (fun g hg hlt => ?_) (by have := g2.size; omega) (fun g hg => hg) hbs
    rw [hold3 g (Nat.lt_of_lt_of_le hlt g2.size), g2.block g hlt (fun e => hSB (by rw [← Option.some.inj e]; exact hg))]
  have her3 : ErrOk w3 := (her.kept g2 (fun e => hB (Option.some.inj e))).kept g3 (fun e => by cases e)
  have hsa3 : a3.tmps.size = E.N := u3.size.trans (u2.size.trans (u1.size.trans hsz))
  have s03 : sl a3 0 = .pointer (some ⟨B, 0, none⟩) := by rw [upd_of u3 k2 0 (by simp), upd_of u2 k1 0 (by simp), upd_of u1 k0 0 (by simp)]; exact s0
  refine wp_seq (hV a3 w3 _ S w2.heap.size (some bs) B cells2 T hsa3 q3 s03 hrd3 her3 row3 (by omega) (by omega) fun a4 w4 u4 g4 r4' => ?_)
  -- the version stands in the struct
  generalize hv : (rdI 2 (some bs)).1 = v at *
  generalize hst : (rdI 2 (some bs)).2 = st at *
  have hv0 : -32768 ≤ v := by rw [← hv]; exact (rdI2_b _).1
  have hrdb : w2.heap.size ≠ 1 := by
    intro e
    obtain ⟨t, x, hx⟩ := her3
    have e0 : w3.cell? ⟨w2.heap.size, 0, none⟩ = some (.slice p n k) := by rw [cell_of_row w3 _ 0 _ _ _ hnew3]; rfl
    rw [e, hx] at e0
    cases e0
  have row4 : w4.heap[B]? = some (.cells cells2 T (0, 0)) := by rw [g4.block B (by omega) (fun e => by have := Option.some.inj e; omega)]; exact row3
  generalize hw5 : w4.setCell ⟨B, 0, none⟩ (.int .i16 v) = w5
  have row5 : w5.heap[B]? = some (.cells (cells2.setIfInBounds 0 (.int .i16 v)) T (0, 0)) := by rw [← hw5]; exact heap_setCell_row row4
  have g5 : w4.grownBy w5 (some B) := by rw [← hw5]; exact ⟨rfl, rfl, rfl, by simp [World.setCell], fun k _ hk => Below.heap_setCell _ _ _ _ (fun e => hk (by rw [e]))⟩
  clear hw5
  have hsz5 : w5.heap.size = w4.heap.size ∨ w4.heap.size ≤ w5.heap.size := .inr g5.size
  have hrd5 : RdIs w5 S w2.heap.size st := r4'.kept g5 (fun g hg e => hSB (by rw [← Option.some.inj e]; exact hg)) (fun e => by have := Option.some.inj e; omega)
  have her5 : ErrOk w5 := (her3.kept g4 (fun e => hrdb (Option.some.inj e))).kept g5 (fun e => hB (Option.some.inj e))
  have hsa4 : a4.tmps.size = E.N := u4.size.trans hsa3
  have h00 : 0 < cells2.size := by omega
  have c5 : w5.cell? ⟨B, 0 + 0, none⟩ = some (.int .i16 v) := by rw [cell_of_row w5 B _ _ _ _ row5]; simp [h00]
  refine wp_seq (h3 a4 w5 _ B 0 _ hsa4 (by rw [upd_of u4 kV 0 (by simp)]; exact s03) c5 fun a5 u5 s5 => ?_)
  refine wp_seq (h4 a5 w5 _ (u5.size.trans hsa4) fun a6 u6 => ?_)
  refine wp_seq (h7 a6 w5 _ (u6.size.trans (u5.size.trans hsa4)) fun a7 u7 s7 => ?_)
  have keep : ∀ t ∈ [0, 2, E.rs, E.vs], sl a7 t = sl a6 t := fun t ht => upd_of u7 hc2 t ht
  have k06 : sl a6 0 = .pointer (some ⟨B, 0, none⟩) := by rw [upd_of u6 k4 0 (by simp), upd_of u5 k3 0 (by simp), upd_of u4 kV 0 (by simp)]; exact s03
  have k26 : sl a6 2 = .bool false := by rw [upd_of u6 k4 2 (by simp), upd_of u5 k3 2 (by simp), upd_of u4 kV 2 (by simp), upd_of u3 k2 2 (by simp), upd_of u2 k1 2 (by simp), upd_of u1 k0 2 (by simp)]; exact s2
  have kr6 : sl a6 E.rs = .pointer (some ⟨w2.heap.size, 0, none⟩) := by rw [upd_of u6 r4 E.rs (by simp), upd_of u5 r3 E.rs (by simp), upd_of u4 rV E.rs (by simp)]; exact q3
  have kv6 : sl a6 E.vs = .int .i16 v := by rw [upd_of u6 hcv E.vs (by simp), s5]
  have hd7 : a7.defers = [] := u7.defers.trans (u6.defers.trans (u5.defers.trans (u4.defers.trans (u3.defers.trans (u2.defers.trans (u1.defers.trans hd))))))
  have hfr : Fr E w2.heap.size v false a7 := { size := u7.size.trans (u6.size.trans (u5.size.trans hsa4)), defers := hd7, rs := by rw [keep E.rs (by simp)]; exact kr6, vs := by rw [keep E.vs (by simp)]; exact kv6, us := by rw [hus, keep 2 (by simp)]; exact k26, fs := fun t ht => by rw [hfs] at ht; cases ht }
  have g24 := g4.size
  have hg5 : w.grownBy w5 (some B) ∧ True := by
    refine ⟨⟨g5.os.trans (g4.os.trans (g3.os.trans g2.os)), g5.tape.trans (g4.tape.trans (g3.tape.trans g2.tape)), g5.output.trans (g4.output.trans (g3.output.trans g2.output)), by have := g5.size; have := g2.size; omega, fun j hj hjr => ?_⟩, trivial⟩
    rw [g5.block j (by have := g2.size; omega) hjr, g4.block j (by have := g2.size; omega) (fun e => by have := Option.some.inj e; have := g2.size; omega), hold3 j (by have := g2.size; omega), g2.block j hj hjr]
  have hini5 : iniFs false m.fields (fun j => (cells2.setIfInBounds 0 (.int .i16 v))[1 + j]?) := by
    have := ini2.2
    simp only [Nat.zero_add] at this
    refine ini_locFs false m.fields _ _ (fun j _ => ?_) this
    rw [Array.getElem?_setIfInBounds_ne (by omega)]
  refine wp_mono (hbody v hv0 w2.heap.size S st B 0 (cells2.setIfInBounds 0 (.int .i16 v)) T a7 w5 { fr := hfr, ptr := by rw [s7]; exact k06, rd := hrd5, err := her5, rbe := hrdb, cbe := hB, ne := by omega, src := hSB, old := fun g h => by have := hold g h; have := g2.size; have := g5.size; omega, row := row5, fit := by simp; omega, ini := by simpa using hini5 }) ?_
  intro e a8 w8 hq
  have hread : m.readK (some bs) = (v, rdPart v false m.fields st) := by simp only [M.readK, hv, hst]
  cases e with
  | ret =>
    obtain ⟨z1, z2, z3, z4, z5⟩ := hq
    refine ⟨z2, _, results_tmp hres _ _ _, ?_⟩
    rw [hread]
    refine ⟨sl a8 E.res, rfl, z4, ⟨z3.os.trans hg5.1.os, z3.tape.trans hg5.1.tape, z3.output.trans hg5.1.output, Nat.le_trans hg5.1.size z3.size, fun j hj hjr => ?_⟩, fun hs => ?_⟩
    · rw [z3.block j (Nat.lt_of_lt_of_le hj hg5.1.size) (by have := g2.size; omega) (fun e => hjr (by rw [e]))]
      exact hg5.1.block j hj hjr
    · obtain ⟨cells', hrow', hrep⟩ := z5 hs
      refine ⟨cells', hrow', ?_, ?_⟩
      · obtain ⟨cells9, hrow9, -, hsame⟩ := z3.row _ T row5
        rw [hrow'] at hrow9
        cases hrow9
        rw [hsame 0 (.inl (by omega))]
        simp [h00]
      · refine stable_repP (fun h => by cases h) hT m.fields w8 w8 _ _ _ _ _ (fun _ _ _ => rfl) (Nat.le_refl _) (fun g hg => hg.imp (fun h => h) (fun h => by have := hg5.1.size; omega)) (fun j _ => ?_) hrep
        show cells'[1 + j]? = cells'[0 + 1 + j]?
        rw [Nat.zero_add]
  | _ => exact hq.elim

/-- A function that writes it. -/
def WritesKept (tags : Rel (List (Nat × List UInt8))) (f : Nat) (m : M) : Prop :=
  hasBody Tryd.prog f = true ∧ ∀ (base : Nat) (K : Nat → Prop) (w : World) (v : Int) (cb : Nat) (bs : List UInt8) (u : Value) (t : T), -32768 ≤ v → OwnB w base u bs → base ≤ w.heap.size → (∀ g, K g → g < base) → cb < base → w.cell? ⟨cb, 0, none⟩ = some (.int .i16 v) →
    repP tags v false false m.fields w K (fun j => w.cell? ⟨cb, 1 + j, none⟩) t → Fit t → bs.length + (writeK m v t).length ≤ lim2 → Calls Tryd.prog f #[.pointer (some ⟨cb, 0, none⟩), u] w fun e w' => ∃ u', e = .returned u' ∧ OwnB w' base u' (bs ++ writeK m v t) ∧ Below base w w'
theorem writesKept {E : WE} {res d : Nat} {p0 p1 p2 c1 c2 body : Code} {f : Nat} {fn : Func} (hT : Stable 1 tags) (hfs : E.fs = none) (hds : E.ds = 1)
    (hf : Tryd.prog.funcs[f]? = some fn) (hb : fn.body = some (p0.seq (p1.seq (p2.seq ((c1.seq c2).seq body))))) (hnt : fn.ntmps = E.N) (hres : fn.results = #[.tmp res]) (hg : hasBody Tryd.prog f = true) (hN : 2 ≤ E.N)
    (h0 : SConst E.N res (.slice none 0 0) p0) (h1 : SLoad E.N 0 0 E.vs p1) (h2 : SMove E.N p2) (hv1 : SLoad E.N 0 0 d c1) (hv2 : ∀ v : Int, Av E v false d (fun x => fixed x 2) (IsInt .i16) c2) (hcl : clear [0, 1] (p0.seq (p1.seq p2)) = true) (hcv : clear [E.vs] p2 = true) (hcl2 : clear (0 :: E.slots) (c1.seq c2) = true) (hclv : clear (E.ds :: E.slots) c1 = true)
    (hbody : ∀ v : Int, -32768 ≤ v → ApPE tags E v false false res 0 1 m.fields body) : WritesKept tags f m := by
  refine ⟨hg, fun base K w v cb bs u t hv ho hbase hK hcb hc0 hr hfit hl => ?_⟩
  simp only [writeK, List.length_append] at hl
  have h := writes_start (m := m) (flex := false) (t := t) (base := base) (bs := bs ++ fixed v 2) hf hb hnt hres hN h0 h1 h2 hcl hcv hc0 (u := u) fun a hsz hd hvs s0 s1 => ?_
  · refine h.mono ?_
    rintro e w' ⟨u', rfl, h1, h2⟩
    exact ⟨u', rfl, by rw [writeK, ← List.append_assoc]; exact h1, h2⟩
  · have hp : PreA E v false base K bs a w := ⟨⟨hsz, hd, hvs, fun s hs => by rw [hfs] at hs; cases hs⟩, hbase, hK, by rw [hds, s1]; exact ho⟩
    have hver : Ap E v false 0 0 (fun x : Int => fixed x 2) (fun w K cc x => ∃ u, cc 0 = some u ∧ IsInt .i16 w K u x) (c1.seq c2) := Ap.load hv1 (hv2 v) hclv
    refine wp_seq (wp_mono (hver base K bs a w cb 0 v hp s0 hcb ⟨_, hc0, rfl⟩ (by show bs.length + (fixed v 2).length ≤ lim2; omega)) ?_)
    intro e a1 w1 hq
    cases e with
    | normal => ?_
    | _ => exact hq.elim
    obtain ⟨u1, b1, o1⟩ := hq
    have hclx := clear_iff hcl2
    have hp1 : PreA E v false base K (bs ++ fixed v 2) a1 w1 := hp.next u1 (fun t ht => hclx t (List.mem_cons_of_mem _ ht)) b1 o1
    have hr1 : repP tags v false false m.fields w1 K (fun j => w1.cell? ⟨cb, 0 + 1 + j, none⟩) t := by
      refine stable_repP (fun h => by cases h) hT m.fields w w1 K K _ _ _ (fun g' hg _ => b1.block g' (hK g' hg)) b1.size (fun g' hg => hg) (fun j _ => ?_) hr
      rw [below_cell b1 hcb, Nat.zero_add]
    refine wp_mono (hbody v hv base K (bs ++ fixed v 2) a1 w1 cb 0 t hp1 (by rw [upd_of u1 hcl2 0 (by simp)]; exact s0) hcb ⟨hr1, hfit⟩ (by rw [List.length_append]; omega)) ?_
    intro e a2 w2 hq2
    cases e with
    | ret => exact ⟨hq2.1, b1.trans hq2.2.1, hq2.2.2⟩
    | _ => exact hq2.elim
end
end Go.Proofs.YtodmlklfjinonaaDoor
