/-
  Lists that may be null, structs: read and written. Conditions: none.
-/
import Derived.Test.YtoklbgdafnminaaGreatDoorY5
import Derived.Laws.Pointers
/-
  Lists that may be null, read. Conditions: none.
-/
namespace Go.Proofs.YtoklbgdafnminaaGreatDoor
open Go.RowKit (Below)
open Kz

section
variable {tags : Rel (List (Nat × List UInt8))} {E : RE} {v : Int} {flex ht : Bool}

end
end Go.Proofs.YtoklbgdafnminaaGreatDoor
/-
  Structs, read: those that may be null, those that lie in the struct itself. Conditions: none.
-/
namespace Go.Proofs.YtoklbgdafnminaaGreatDoor
open Go.RowKit (Below)
open Kz

/-- 'v := &s.F'. -/
def SAddr (N sp off d : Nat) (c : Code) : Prop := ∀ (a : Act) (w : World) (Q : Exit → Act → World → Prop) (b o : Nat), a.tmps.size = N → sl a sp = .pointer (some ⟨b, o, none⟩) →
  (∀ a', Upd a a' (writes c) → sl a' d = .pointer (some ⟨b, o + off, none⟩) → Q .normal a' w) → c.wp Tryz.prog Q a w

section
variable {tags : Rel (List (Nat × List UInt8))} {E : RE} {v : Int} {flex ht : Bool}

theorem rd_structV {frm to null tag dflt : Int} {of : Nat} {sub : List F} (hnull : null < 0) : rd v flex (.mk 10 frm to null tag dflt of sub) = rdPart v flex sub := by
  funext st
  have : ¬ (0 ≤ null) := by omega
  simp [rd, fieldR, this, rdPart, valR]
theorem repF_structV {frm to null tag dflt : Int} {of : Nat} {sub : List F} (hnull : null < 0) : repF tags v flex ht (.mk 10 frm to null tag dflt of sub) = repP tags v flex ht sub := by
  funext w K c t
  have : ¬ (0 ≤ null) := by omega
  simp [repF, fieldRep, valRep, this, repP]

/-- A struct that lies in the struct itself. -/
theorem RdV.structV (htg : flex = true → ht = true) (hT : Stable 1 tags) {sp off dn s : Nat} {frm to null tag dflt : Int} {of : Nat} {sub : List F} {cA cD cS c : Code} (hnull : null < 0)
    (hA : SAddr E.N sp off dn cA) (hD : SDefault E.N dn (cellsP ht sub) (iniFs ht sub) cD) (hS : SCopy E.N dn s cS) (h : RdP tags E v flex ht s 0 sub c)
    (hcl : clear (sp :: E.slots) (cA.seq (cD.seq cS)) = true) (hdn : clear [dn] cD = true) :
    RdV tags E v flex ht sp off (.mk 10 frm to null tag dflt of sub) (cA.seq (cD.seq (cS.seq c))) := by
  intro rb S st cb co cells Ty a w hp
  simp only [clear_seq] at hcl
  obtain ⟨kA, kD, kS⟩ := hcl
  have hn0 : ¬ (0 ≤ null) := by omega
  have hone : cellsF ht (.mk 10 frm to null tag dflt of sub) = cellsP ht sub := by simp [cellsF, fieldCells, valCells, hn0, cellsP]
  have hfit := hp.fit
  rw [hone] at hfit
  have hini0 : iniFs ht sub (fun j => cells[co + off + j]?) := by have := hp.ini; simp only [iniF] at this; exact this.2.1 ⟨trivial, hnull⟩
  refine wp_seq (hA a w _ cb co hp.fr.size hp.ptr fun a1 u1 s1 => ?_)
  have f1 := hp.fr.upd u1 (fun t ht => clear_iff kA t (List.mem_cons_of_mem _ ht))
  refine wp_seq (hD a1 w _ cb (co + off) cells Ty f1.size s1 hp.row (by omega) hini0 fun a2 w2 cells2 u2 g2 row2 sz2 same2 ini2 => ?_)
  have f2 := f1.upd u2 (fun t ht => clear_iff kD t (List.mem_cons_of_mem _ ht))
  refine wp_seq (hS a2 w2 _ f2.size fun a3 u3 s3 => ?_)
  have f3 := f2.upd u3 (fun t ht => clear_iff kS t (List.mem_cons_of_mem _ ht))
  have hrd2 : RdIs w2 S rb st := hp.rd.kept g2 (fun g hg e => hp.src (by rw [← Option.some.inj e]; exact hg)) (fun e => hp.ne (Option.some.inj e).symm)
  have her2 : ErrOk w2 := hp.err.kept g2 (fun e => hp.cbe (Option.some.inj e))
  have hmd2 : Md w w2 rb cb (co + off) (cellsP ht sub) := ⟨g2.os, g2.tape, g2.output, g2.size, fun k hk _ hc => g2.block k hk (fun e => hc (Option.some.inj e)), fun cs T hw => by
    rw [hp.row] at hw
    cases hw
    exact ⟨cells2, row2, sz2, same2⟩⟩
  have hrdg := rd_structV (v := v) (flex := flex) (frm := frm) (to := to) (tag := tag) (dflt := dflt) (of := of) (sub := sub) hnull
  have hrep := repF_structV (tags := tags) (v := v) (flex := flex) (ht := ht) (frm := frm) (to := to) (tag := tag) (dflt := dflt) (of := of) (sub := sub) hnull
  refine wp_mono (h rb S st cb (co + off) cells2 Ty a3 w2 { fr := f3, ptr := ?_, rd := hrd2, err := her2, rbe := hp.rbe, cbe := hp.cbe, ne := hp.ne, src := hp.src, old := fun g hg => Nat.lt_of_lt_of_le (hp.old g hg) g2.size, row := row2, fit := by omega, ini := by simpa using ini2 }) ?_
  · rw [s3, upd_of u2 hdn dn (by simp), s1]
  · intro e a4 w4 hq
    cases e with
    | normal =>
      obtain ⟨u4, r4, m4, cells4, row4, rep4⟩ := hq
      rw [Nat.add_zero] at m4 rep4
      refine ⟨((u1.mono ?_).trans (u2.mono ?_)).trans ((u3.mono ?_).trans (u4.mono ?_)), by rw [hrdg]; exact r4, by rw [hone]; exact hmd2.trans m4 (by omega) (by omega), cells4, row4, ?_⟩
      · intro t ht; simp only [mem_writes_seq, ht]; simp
      · intro t ht; simp only [mem_writes_seq, ht]; simp
      · intro t ht; simp only [mem_writes_seq, ht]; simp
      · intro t ht; simp only [mem_writes_seq, ht]; simp
      · rw [hrdg, hrep]
        exact stable_repP htg hT sub w4 w4 _ _ _ _ _ (fun _ _ _ => rfl) (Nat.le_refl _) (fun g hg => hg.imp (fun h => h) (fun h => Nat.le_trans g2.size h)) (fun j _ => rfl) rep4
    | ret =>
      obtain ⟨n4, s4, d4, v4, m4⟩ := hq
      rw [Nat.add_zero] at m4
      exact ⟨by rw [hrdg]; exact n4, s4, d4, v4, by rw [hone]; exact hmd2.trans m4 (by omega) (by omega)⟩
    | exit id => exact hq
    | goto l => exact hq
    | panic ch => exact hq
    | outgrown => exact hq
end
end Go.Proofs.YtoklbgdafnminaaGreatDoor
/-
  Structs, written: those that may be null, those that lie in the struct itself. Conditions: none.
-/
namespace Go.Proofs.YtoklbgdafnminaaGreatDoor
open Go.RowKit (Below)
open Kz

section
variable {tags : Rel (List (Nat × List UInt8))} {E : WE} {v : Int} {flex ht : Bool}

theorem wr_structV {frm to null tag dflt : Int} {of : Nat} {sub : List F} (hnull : null < 0) : wr v flex (.mk 10 frm to null tag dflt of sub) = Kz.part v flex sub := by
  funext t
  have : ¬ (0 ≤ null) := by omega
  simp [wr, fieldW, this, valW, Kz.part]

/-- A struct that lies in the struct itself. -/
theorem ApV.structV {sp off d : Nat} {frm to null tag dflt : Int} {of : Nat} {sub : List F} {c1 c : Code} (hnull : null < 0) (h1 : SAddr E.N sp off d c1) (h : ApP tags E v flex ht d 0 sub c) (hcl : clear (E.ds :: E.slots) c1 = true) :
    ApV tags E v flex ht sp off (.mk 10 frm to null tag dflt of sub) (c1.seq c) := by
  intro base K bs a w cb co x hp hsp hcb hr hl
  rw [wr_structV hnull] at hl ⊢
  rw [repF_structV hnull] at hr
  refine wp_seq (h1 a w _ cb co hp.fr.size hsp fun a1 u1 s1 => ?_)
  have hp1 : PreA E v flex base K bs a1 w := hp.next u1 (fun t ht => clear_iff hcl t (List.mem_cons_of_mem _ ht)) (Bel.refl _ _) (by rw [upd_of u1 hcl E.ds (by simp)]; exact hp.own)
  refine wp_mono (h base K bs a1 w cb (co + off) x hp1 s1 hcb (by simpa using hr) hl) ?_
  intro e a2 w2 hq
  exact PostA.after u1 (Bel.refl _ _) (fun t ht => List.mem_append_left _ ht) (fun t ht => List.mem_append_right _ ht) e a2 w2 hq
end
end Go.Proofs.YtoklbgdafnminaaGreatDoor
/-
  The code pieces of structs: their addresses, new ones, are they there, the octet ahead of them. Conditions: none.
-/
namespace Go.Proofs.YtoklbgdafnminaaGreatDoor
open Go.RowKit (Below)
open Kz

section
variable {P : Program} {ops : Array Oper} {Q : Exit → Act → World → Prop} {rest : List Oper} {a : Act} {w : World} {d : Nat} {ty : TypeId} {pos : String} {aft : Array Edge} {j t : Nat} {want : Bool}
end

/-- 'v := &s.F'. -/
theorem saddr {id N sp off d t1 t2 t3 T k : Nat} {y1 y2 y3 y4 : TypeId} {p1 p2 p3 p4 : String} {e1 e2 e3 e4 : Array Edge} (hf : offOf Tryz.prog T k = some off) (hn : [t1, t2, t3, d].all (· < N) = true) :
    SAddr N sp off d (Code.region id #[⟨some t1, .move (.tmp sp), y1, p1, e1, none⟩, ⟨some t2, .nilCheck (.tmp t1), y2, p2, e2, none⟩, ⟨some t3, .fieldAddr T (.tmp t2) k, y3, p3, e3, none⟩, ⟨some d, .assign (.tmp t3), y4, p4, e4, none⟩] false) := by
  intro a w Q b o hN hsp hq
  simp only [List.all_cons, List.all_nil, Bool.and_true, Bool.and_eq_true, decide_eq_true_eq] at hn
  refine wp_region_lit (st_move (st_nil (p := ⟨b, o, none⟩) ?_ (st_field (b := b) (o := o) (fieldOff_ok hf) ?_ (st_assign (wpList_nil (hq _ ?_ ?_))))))
  · rw [eval_tmp, sl_put_self _ _ _ (by omega), eval_tmp, hsp]
  · rw [eval_tmp, sl_put_self _ _ _ (by simp only [put_size]; omega)]
  · exact ((((Upd.refl a _).put t1 _ (by simp [writes])).put t2 _ (by simp [writes])).put t3 _ (by simp [writes])).put d _ (by simp [writes])
  · rw [sl_put_self _ _ _ (by simp only [put_size]; omega), eval_tmp, sl_put_self _ _ _ (by simp only [put_size]; omega)]

end Go.Proofs.YtoklbgdafnminaaGreatDoor
