/-
  Known tags, written: sixteen octets, a struct. Conditions: none.
-/
import Derived.Test.YtoklbgdafnminaaGreatDoorKw7
import Derived.Test.YtoklbgdafnminaaGreatDoorUu
namespace Go.Proofs.YtoklbgdafnminaaGreatDoor
open Go.RowKit (Below)
open Kz

section
variable {E : WE} {v : Int} {sp off : Nat}
theorem FW.sixteen {id1 id2 d t1 t2 t3 t4 t5 t6 t7 T k key T1 T2 T3 T4 f : Nat} {tys : Array TypeId} {y1 y2 y3 y4 y5 y6 y7 y8 y9 y10 : TypeId} {q1 q2 q3 q4 q5 q6 q7 q8 q9 q10 : String} {e1 e2 e3 e4 e5 e6 e7 e8 e9 e10 : Array Edge} {frm to null tag dflt : Int} {of : Nat} {sub : List F} {cK cN : Code}
    (hT1 : T1 = 109) (hT2 : T2 = 109) (hT3 : T3 = 109) (hT4 : T4 = 109) (hfn : f = 83) (hf : offOf Tryz.prog T k = some off) (hK : Ac E v true (uv key) cK) (hN : Ac E v true (uv 16) cN)
    (hn : [t1, t2, t3, t4, d, t5, t6, t7, E.ds].all (· < E.N) = true) (hd : decide (d ≠ t4 ∧ t5 ≠ d ∧ t6 ≠ t5) = true) (hcl : (E.ds :: E.slots).all (fun t => ![t1, t2, t3, t4, d].contains t) = true) (hck : clear (d :: E.slots) cK = true) (hcn : clear (d :: E.slots) cN = true) :
    FW E v sp off (.mk 7 frm to null tag dflt of sub) key ((Code.region id1 #[⟨some t1, .move (.tmp sp), y1, q1, e1, none⟩, ⟨some t2, .nilCheck (.tmp t1), y2, q2, e2, none⟩, ⟨some t3, .fieldAddr T (.tmp t2) k, y3, q3, e3, none⟩, ⟨some t4, .load T1 (.tmp t3), y4, q4, e4, none⟩, ⟨some d, .alloc T2, y5, q5, e5, none⟩, ⟨none, .store T3 (.tmp d) (.tmp t4), y6, q6, e6, none⟩] false).seq
      (cK.seq (cN.seq (Code.region id2 #[⟨some t5, .move (.tmp E.ds), y7, q7, e7, none⟩, ⟨some t6, .load T4 (.tmp d), y8, q8, e8, none⟩, ⟨some t7, .call { callee := .value (.func f), args := #[.tmp t5, .tmp t6], argTypes := tys }, y9, q9, e9, none⟩, ⟨some E.ds, .assign (.tmp t7), y10, q10, e10, none⟩] false)))) := by
  intro base K bs a w cb co x hp hsp hcb hr hft hu hl hl2
  subst hT1 hT2 hT3 hT4 hfn
  have hd := of_decide_eq_true hd
  simp only [List.all_cons, List.all_nil, Bool.and_true, Bool.and_eq_true, decide_eq_true_eq] at hn
  obtain ⟨n1, n2, n3, n4, nd, n5, n6, n7, nds⟩ := hn
  obtain ⟨d1, d2, d3⟩ := hd
  have hclx : ∀ t ∈ E.ds :: E.slots, t ∉ [t1, t2, t3, t4, d] := fun t ht hx => by
    have := List.all_eq_true.1 hcl t ht
    simp only [Bool.not_eq_true', List.contains_eq_mem, decide_eq_false_iff_not] at this
    exact this hx
  have kK := clear_iff hck
  have kN := clear_iff hcn
  have hsz := hp.fr.size
  have h16 := uuid_length x.s
  have hcells : ∀ i b, (Kz.uuid x.s)[i]? = some b → w.cell? ⟨cb, co + off + i, none⟩ = some (bv b) := hr
  have hw : wr v true (.mk 7 frm to null tag dflt of sub) x = Kz.uuid x.s := by
    simp only [wr, fieldW, valW]
    simp only [show ¬ (7 : Nat) = 11 by decide, show ¬ (7 : Nat) = 0 by decide, show ¬ (7 : Nat) = 10 by decide, if_false, if_true, false_and]
  rw [hw] at hl ⊢
  have htb : tagB (key, Kz.uuid x.s) = uv key ++ (uv 16 ++ Kz.uuid x.s) := by simp only [tagB, h16, List.append_assoc]
  rw [htb] at hl ⊢
  simp only [List.length_append] at hl
  have hbody : hasBody Tryz.prog 83 = true := by kernel_rfl
  obtain ⟨fn, hfn, hb, hnn⟩ := hasBody_ok hbody
  have hcl : ((Kz.uuid x.s).map bv).length = 16 := by rw [List.length_map, h16]
  have h1 : ((Kz.uuid x.s).map bv).toArray.all (·.oneCell') = true := Go.all_oneCell_toArray fun u hu => by
    simp only [List.mem_map] at hu
    obtain ⟨b, -, rfl⟩ := hu
    rfl
  have hrg : w.rangeAt cb (co + off) ((Kz.uuid x.s).map bv) := fun j u hu => by
    simp only [List.getElem?_map, Option.map_eq_some_iff] at hu
    obtain ⟨b, hb, rfl⟩ := hu
    exact hcells j b hb
  generalize hcs : (Kz.uuid x.s).map bv = cs at hcl h1 hrg
  refine wp_seq (wp_region_lit (reg_at hf (by rw [hsz]; exact ⟨n1, n2, n3⟩) hsp fun a0 u0 s0 => st_load16 (b := cb) (o := co + off) (cs := cs) hcl (by rw [eval_tmp, s0]) hrg (st_alloc16 (st_store16 (b := w.heap.size) (o := 0) (cs := cs) hcl h1 ?_ ?_ (box16_there w) (wpList_nil ?_)))))
  · rw [eval_tmp, sl_put_self _ _ _ (by rw [put_size, u0.size]; omega)]
  · rw [eval_tmp, sl_put_other _ _ _ _ d1, sl_put_self _ _ _ (by rw [u0.size]; omega)]
  have hgb := box16 w cs
  have hrg2 := box16_range w cs hcl
  obtain ⟨cs', hrow, -, -⟩ := setCells_row w.heap.size cs 0 (w.alloc (.cells uuZ 109)) uuZ (T := 109) Array.getElem?_push_size
  generalize (w.alloc (.cells uuZ 109)).setCells w.heap.size 0 cs = w1 at hgb hrg2 hrow ⊢
  generalize hA : ((a0.put (some t4) (Value.agg cs.toArray)).put (some d) (.pointer (some ⟨w.heap.size, 0, none⟩))) = a1
  have hup : Upd a a1 [t1, t2, t3, t4, d] := by subst hA; exact (u0.mono (fun t ht => by simp only [List.mem_cons, List.not_mem_nil, or_false] at ht ⊢; rcases ht with h | h | h <;> simp [h])).trans (((Upd.refl a0 _).put t4 _ (by simp)).put d _ (by simp))
  have hdd : sl a1 d = .pointer (some ⟨w.heap.size, 0, none⟩) := by subst hA; exact sl_put_self _ _ _ (by rw [put_size, u0.size]; omega)
  clear hA
  have b1 : Bel base w w1 := ⟨⟨hgb.os, hgb.tape, hgb.output, hgb.size, fun k hk => hgb.block k (Nat.lt_of_lt_of_le hk hp.le) (by simp)⟩, Keep.of_old fun k hk => hgb.block k hk (by simp)⟩
  have hp1 : PreA E v true base K bs a1 w1 := hp.next hup (fun t ht => hclx t (by simp [ht])) b1 (by rw [hup.same _ (hclx _ (by simp))]; exact hp.own.grown fun k hk => hgb.block k hk (by simp))
  refine wp_seq (wp_mono (hK base K bs a1 w1 hp1 (by omega)) ?_)
  intro e a2 w2 hq2
  cases e with
  | normal =>
    obtain ⟨u2, b2, o2⟩ := hq2
    have hp2 : PreA E v true base K _ a2 w2 := hp1.next u2 (fun t ht => kK t (by simp [ht])) b2 o2
    refine wp_seq (wp_mono (hN base K _ a2 w2 hp2 (by rw [List.length_append]; omega)) ?_)
    intro e a3 w3 hq3
    cases e with
    | normal =>
      obtain ⟨u3, b3, o3⟩ := hq3
      have hp3 : PreA E v true base K _ a3 w3 := hp2.next u3 (fun t ht => kN t (by simp [ht])) b3 o3
      have s3 : sl a3 d = .pointer (some ⟨w.heap.size, 0, none⟩) := (u3.same _ (kN _ (by simp))).trans ((u2.same _ (kK _ (by simp))).trans hdd)
      have hrow3 : w3.heap[w.heap.size]? = w1.heap[w.heap.size]? := by rw [(b2.trans b3).keep 109 (by decide) (by decide) _ _ _ hrow, hrow]
      have hrg3 : w3.rangeAt w.heap.size 0 cs := fun j u hj => by rw [cell_kept hrow3]; exact hrg2 j u hj
      have hz3 := hp3.fr.size
      refine wp_region_lit (st_move (st_load16 (b := w.heap.size) (o := 0) (cs := cs) hcl ?_ hrg3 (st_call2 hfn hb hnn ?_)))
      · rw [eval_tmp, sl_put_other _ _ _ _ d2, s3]
      rw [eval_tmp, sl_put_other _ _ _ _ d3, sl_put_self _ _ _ (by omega), eval_tmp, eval_tmp, sl_put_self _ _ _ (by simp only [put_size]; omega)]
      refine (AppendUuid_any w3 base (sl a3 E.ds) _ (Kz.uuid x.s) cs.toArray (by rw [hcs]) h16 o3 hp3.le (by simp only [List.length_append, lim, lim2] at hl ⊢; omega)).mono ?_
      rintro e w4 ⟨v', rfl, ho, hbel⟩
      refine ⟨v', rfl, st_assign (wpList_nil ⟨?_, ((b1.trans b2).trans b3).trans hbel, ?_⟩)⟩
      · refine (((hup.mono (fun t ht => ?_)).trans (u2.mono (fun t ht => ?_))).trans (u3.mono (fun t ht => ?_))).trans ((((Upd.refl a3 _).put t5 _ (by simp [writes])).put t6 _ (by simp [writes])).put t7 _ (by simp [writes]) |>.put E.ds _ (by simp [writes]))
        · simp only [List.mem_cons, List.not_mem_nil, or_false] at ht
          rcases ht with h | h | h | h | h <;> simp [writes, h]
        · simp only [writes, List.mem_append]; exact .inr (.inl ht)
        · simp only [writes, List.mem_append]; exact .inr (.inr (.inl ht))
      · rw [sl_put_self _ _ _ (by simp only [put_size]; omega), eval_tmp, sl_put_self _ _ _ (by simp only [put_size]; omega), ← List.append_assoc, ← List.append_assoc]
        exact ho
    | _ => exact hq3.elim
  | _ => exact hq2.elim
end
end Go.Proofs.YtoklbgdafnminaaGreatDoor
