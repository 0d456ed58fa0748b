/-
  The reference: unknown tags, parts, messages; a tree that came in. Conditions: none.
-/
import Derived.Test.YtoklbgdafnminaaGreatDoorY6
import Derived.Test.YtoklbgdafnminaaGreatDoorY5
import Derived.Deep.RegionHeld3
import Derived.Test.YtoklbgdafnminaaGreatDoorY1
import Derived.Deep.Slices
import Derived.Deep.Fields
import Derived.ChangeSame
import Derived.Lib.SmallJoins
/-
  The reference's unknown tags. Conditions: none.
-/
namespace Go.Proofs.YtoklbgdafnminaaGreatDoor
open Go.RowKit
open Kz

/-- A slice of tags, place by place. -/
theorem UTagsV.cell {w : World} {n0 n1 : Nat} {v : Value} {us : List (Nat × List UInt8)} (h : UTagsV w n0 n1 v us) : ∃ p c, v = .slice p us.length c ∧ us.length ≤ c ∧ c ≤ 9223372036854775807 ∧ (p = none → c = 0) ∧ (us ≠ [] → ∃ ad, p = some ad) ∧ ∀ ad, us ≠ [] → p = some ad → ∃ g o, ad = ⟨g, o, none⟩ ∧ n1 ≤ g ∧ g < w.heap.size ∧
    ∀ (i : Nat) k b, us[i]? = some (k, b) → ∃ q d, w.cell? ⟨g, o + i * 2, none⟩ = some (.int .u32 (k : Int)) ∧ w.cell? ⟨g, o + i * 2 + 1, none⟩ = some (.slice q b.length d) ∧ BL w n0 (.slice q b.length d) b ∧ k < 4294967296 := by
  rcases h with ⟨ad, rfl, rfl⟩ | ⟨g, o, c, rfl, h2, h3, h3', h4, h5⟩
  · exact ⟨ad, 0, rfl, Nat.le_refl _, by decide, fun _ => rfl, fun h => absurd rfl h, fun _ h => absurd rfl h⟩
  · refine ⟨_, _, rfl, h2, h3, (fun h => by cases h), fun _ => ⟨_, rfl⟩, fun ad _ h => ?_⟩
    cases h
    refine ⟨g, o, rfl, h3', h4, fun i k b hi => ?_⟩
    obtain ⟨s, e1, e2, e3, e4⟩ := h5 i k b hi
    obtain ⟨q, d, rfl⟩ := e3.bt.len
    exact ⟨q, d, e1, e2, e3, e4⟩
/-- One round of what the unknown tags are. -/
def stepU (least : Nat) (out : List (Nat × List UInt8)) (t : Nat × List UInt8) : List (Nat × List UInt8) := if t.1 < least then out else insTag t.1 t.2 out
theorem unknown_eq (least : Nat) (us : List (Nat × List UInt8)) : unknown least us = (us.take most).foldl (stepU least) [] := rfl

theorem row_form {w : World} {base : Nat} {e : TypeId} {s : Nat} {v : Value} {n : Nat} {xs : List Value} (h : w.ownsRow base e s v n xs) : ∃ p cap, v = .slice p n cap ∧ ∀ i, i < n → ∃ g, p = some ⟨g, 0, none⟩ := by
  rcases h.2 with ⟨rfl, rfl⟩ | ⟨g, cap, cur, rfl, -⟩
  · exact ⟨_, _, rfl, fun i hi => absurd hi (by omega)⟩
  · exact ⟨_, _, rfl, fun _ _ => ⟨g, rfl⟩⟩
theorem below_drewN {n m : Nat} {w w2 : World} (h : Below n w w2) : Below n w (w2.drewN m) := ⟨h.os, h.tape, h.output, h.size, h.block⟩
theorem row_kept {w w' : World} {base : Nat} {e : TypeId} {s n : Nat} {v : Value} {xs : List Value} (h : w.ownsRow base e s v n xs) (hb : Below w.heap.size w w') : w'.ownsRow base e s v n xs :=
  World.ownsRow.kept h (below_grown hb none) (by
    cases v.ownBlock with
    | none => exact .inl rfl
    | some z => exact .inr (by simp))
theorem size_box (w : World) (m : Nat) (o : Obj) : ((w.drewN m).alloc o).heap.size = w.heap.size + 1 := by show (w.heap.push o).size = _; simp
theorem row_lt {w : World} {base : Nat} {e : TypeId} {s g n cap : Nat} {xs : List Value} (h : w.ownsRow base e s (.slice (some ⟨g, 0, none⟩) n cap) n xs) : g < w.heap.size := (World.ownsRow.lt h g rfl).2

theorem set_mid (a b : Ps) (z x : Nat × Value) : (a ++ z :: b).set a.length x = a ++ x :: b := by
  induction a with
  | nil => rfl
  | cons y a ih => simp [ih]
theorem shift_ps (ps : Ps) (k : Nat) (z : Nat × Value) (h : k < ps.length) : (ps.take (k + 1) ++ z :: ps.drop (k + 1)).set (k + 1) ps[k] = ps.take k ++ ps[k] :: ps.drop k := by
  have h1 : (ps.take (k + 1)).length = k + 1 := by rw [List.length_take]; omega
  have h2 := set_mid (ps.take (k + 1)) (ps.drop (k + 1)) z ps[k]
  rw [h1] at h2
  have e1 : ps.take (k + 1) = ps.take k ++ [ps[k]] := List.take_succ_eq_append_getElem h
  have e2 : ps.drop k = ps[k] :: ps.drop (k + 1) := List.drop_eq_getElem_cons h
  rw [h2, e1, e2, List.append_assoc]
  rfl
theorem put_ps (ps : Ps) (k : Nat) (z x : Nat × Value) (h : k ≤ ps.length) : (ps.take k ++ z :: ps.drop k).set k x = ps.take k ++ x :: ps.drop k := by
  have h1 : (ps.take k).length = k := by rw [List.length_take]; omega
  have h2 := set_mid (ps.take k) (ps.drop k) z x
  rw [h1] at h2
  exact h2
theorem row_put {w : World} {base g n cap : Nat} {ps : Ps} (h : w.ownsRow base 63 2 (.slice (some ⟨g, 0, none⟩) n cap) n (tc ps)) (i k : Nat) (s : Value) :
    ((w.setCell ⟨g, i * 2, none⟩ (.int .u32 (k : Int))).setCell ⟨g, i * 2 + 1, none⟩ s).ownsRow base 63 2 (.slice (some ⟨g, 0, none⟩) n cap) n (tc (ps.set i (k, s))) := by
  rw [← tc_set]
  exact (World.ownsRow.stored (World.ownsRow.stored h (i * 2) _).1 (i * 2 + 1) _).1
theorem put2_cell {w : World} {g b o o' j : Nat} {u u' : Value} (hne : b ≠ g) : ((w.setCell ⟨g, o, none⟩ u).setCell ⟨g, o', none⟩ u').cell? ⟨b, j, none⟩ = w.cell? ⟨b, j, none⟩ :=
  (World.cell?_of_block (Below.heap_setCell _ _ _ b hne)).trans (World.cell?_of_block (Below.heap_setCell _ _ _ b hne))
theorem bl_over {w a b : World} {n0 : Nat} {v : Value} {bs : List UInt8} (h : BL a n0 v bs) (h1 : Below n0 w a) (h2 : Below n0 w b) (hn : n0 ≤ w.heap.size) : BL b n0 v bs := by
  rcases h with h | ⟨h, h'⟩ | ⟨g, o, c, e1, e2, e3, e4, e5, e6⟩
  · exact .inl h
  · exact .inl ⟨_, h, h'⟩
  · exact .inr (.inr ⟨g, o, c, e1, e2, e3, e4, by have := h2.size; show g < _; have e4' : g < n0 := e4; omega, fun i x hi => by
      rw [World.cell?_of_block (w := a) (w' := b) ((h2.block g e4).trans (h1.block g e4).symm)]
      exact e6 i x hi⟩)
theorem PRel.form {w : World} {n0 : Nat} {ps : Ps} {us : List (Nat × List UInt8)} (h : PRel w n0 ps us) (i : Nat) (x : Nat × Value) (hi : ps[i]? = some x) : ∃ a n c, x.2 = .slice a n c := by
  induction h generalizing i with
  | nil => simp at hi
  | cons hk hs _ ih =>
    cases i with
    | zero =>
      simp only [List.getElem?_cons_zero, Option.some.injEq] at hi
      subst hi
      obtain ⟨ad, c, h⟩ := hs.bt.len
      exact ⟨_, _, _, h⟩
    | succ i => exact ih i (by simpa using hi)
theorem PRel.over {w a b : World} {n0 : Nat} {ps : Ps} {us : List (Nat × List UInt8)} (h : PRel a n0 ps us) (h1 : Below n0 w a) (h2 : Below n0 w b) (hn : n0 ≤ w.heap.size) : PRel b n0 ps us := by
  induction h with
  | nil => exact .nil
  | cons hk hs _ ih => exact .cons hk (bl_over hs h1 h2 hn) ih

set_option maxRecDepth 8000 in
set_option maxHeartbeats 4000000 in
theorem unknown_any (w : World) (n0 : Nat) (hn0 : n0 ≤ w.heap.size) (fv lv : Value) (fs : List F) (us : List (Nat × List UInt8)) (hf : FL w fv fs) (ht : ∀ f ∈ fs, f.tag < 4294967295) (hu : UTagsV w n0 0 lv us) :
    Calls Tryz.prog 61 #[fv, lv] w fun e w' => ∃ v', e = .returned v' ∧ UTagsV w' n0 w.heap.size v' (unknown (known fs) us) ∧ Below w.heap.size w w' := by
  obtain ⟨p, c, rfl, hc1, hc2, hpn, hp0, hp⟩ := hu.cell
  have HF := Lib.hid hf
  have HT := Lib.hid ht
  have HU := Lib.hid hp
  have HZ := Lib.hid hp0
  clear hf ht hp hp0 hu
  go_enter Tryz.func61, Tryz.ntmps61
  go_wp2_with fail
  refine (known_any w fv fs HF.out HT.out).mono ?_
  rintro e w1 ⟨rfl, hb1⟩
  have H1 := Lib.hid hb1
  clear hb1
  by_cases hue : us = []
  · subst hue
    clear HU HZ
    rcases p with _ | ⟨pg, po, psp⟩
    all_goals
      try obtain rfl := hpn rfl
      clear hpn
      go_wp2
      go_loopw [6, 19] (fun x i wr => i = .int .i64 0 ∧ x = .slice none 0 0 ∧ wr = w1) (fun _ _ _ => 0)
      case atStart => exact ⟨rfl, rfl, rfl⟩
      case round =>
        obtain ⟨rfl, rfl, rfl⟩ := hrel
        go_wp2
        go_ret
        exact ⟨_, rfl, .inl ⟨none, rfl, by simp [unknown_eq]⟩, H1.out⟩
  · obtain ⟨ad, rfl⟩ := HZ.out hue
    clear hpn
    obtain ⟨g, o, rfl, -, hg, hcell⟩ := HU.out ad hue rfl
    have HC := Lib.hid hcell
    have hmn : (min (us.length : Int) 32767).toNat = min us.length most := min_most us.length
    have htl : (us.take most).length = min us.length most := by rw [List.length_take, Nat.min_comm]
    generalize hn : min us.length most = n at *
    have hn1 : n ≤ us.length := by omega
    have hnm : n ≤ most := by omega
    clear HU HZ hcell
    go_wp2
    go_loopw [6, 19] (fun x i wr => ∃ (j : Nat) (ps : Ps), i = .int .i64 (j : Int) ∧ j ≤ n ∧ ps.length ≤ j ∧ wr.ownsRow w.heap.size 63 2 x ps.length (tc ps) ∧ PRel wr n0 ps (((us.take most).take j).foldl (stepU (known fs)) []) ∧ Below w.heap.size w wr) (fun _ i _ => n - (intOf i).toNat)
    case atStart => exact ⟨0, [], rfl, Nat.zero_le _, Nat.le_refl _, World.ownsRow_nil _ _ _ _, .nil, H1.out⟩
    case round =>
      rename World => wo
      obtain ⟨j, ps, rfl, hj, hpl, hown, hrel', hbel⟩ := hrel
      by_cases hjl : j < n
      · have hji : (j : Int) < (n : Int) := by omega
        have hju : j < us.length := by omega
        obtain ⟨q, d, e0, e1, hbv, hk32⟩ := HC.out j us[j].1 us[j].2 (List.getElem?_eq_getElem hju)
        rw [← (bcell hbel).1 _ _ hg] at e0 e1
        have hgj : ((us.take most).take (j + 1)).foldl (stepU (known fs)) [] = stepU (known fs) (((us.take most).take j).foldl (stepU (known fs)) []) us[j] := by
          have hjt : j < (us.take most).length := by omega
          rw [List.take_succ_eq_append_getElem hjt, List.foldl_append]
          simp
        generalize hx : us[j] = x at *
        obtain ⟨k, b⟩ := x
        simp only at e0 e1 hbv hk32
        have K1 := Lib.hid hown
        have K2 := Lib.hid hrel'
        have K3 := Lib.hid hbel
        have K4 := Lib.hid hgj
        have K5 := Lib.hid (bl_stay hbv (hbel.lower hn0))
        clear hown hrel' hbel hgj hbv hx HC
        obtain ⟨p6, cap, rfl, hp6⟩ := row_form K1.out
        have hP6 := Lib.hid hp6
        clear hp6
        generalize hW : wo.alloc (.cells #[.int .u32 (k : Int), .slice q b.length d] 63) = W
        have c0 : W.cell? ⟨wo.heap.size, 0, none⟩ = some (.int .u32 (k : Int)) := by rw [← hW]; exact cell_of_row _ _ _ _ _ _ (alloc_last wo _)
        have c1 : W.cell? ⟨wo.heap.size, 1, none⟩ = some (.slice q b.length d) := by rw [← hW]; exact cell_of_row _ _ _ _ _ _ (alloc_last wo _)
        have hWb : Below w.heap.size w W := K3.out.trans (hW ▸ below_push _ K3.out.size _ rfl)
        have hWo : W.ownsRow w.heap.size 63 2 (.slice p6 ps.length cap) ps.length (tc ps) := hW ▸ K1.out.alloc _
        have hWs : W.heap.size = wo.heap.size + 1 := by rw [← hW]; simp
        have K7 := Lib.hid hWb
        have K8 := Lib.hid hWo
        have K9 := Lib.hid hW
        clear hWb hWo
        go_wp2
        go_loopw [9] (fun i wx => ∃ i0 : Nat, i = .int .i64 (i0 : Int) ∧ i0 ≤ ps.length ∧ (∀ x ∈ ps.take i0, x.1 < k) ∧ Below W.heap.size W wx) (fun i _ => ps.length - (intOf i).toNat)
        case atStart => exact ⟨0, rfl, Nat.zero_le _, by simp, Below.refl _ _⟩
        case round =>
          obtain ⟨i0, rfl, hi0, hlt, hbx⟩ := hrel
          have d0 : wr.cell? ⟨wo.heap.size, 0, none⟩ = some (.int .u32 (k : Int)) := ((bcell hbx).1 _ _ (by omega)).trans c0
          have d1 : wr.cell? ⟨wo.heap.size, 1, none⟩ = some (.slice q b.length d) := ((bcell hbx).1 _ _ (by omega)).trans c1
          have M1 := Lib.hid hlt
          have M2 := Lib.hid hbx
          have M5 : Hid (∀ m, Below w.heap.size w (wr.drewN m)) := Lib.hid fun m => below_drewN (K7.out.trans (hbx.lower (m := w.heap.size) K7.out.size))
          have M3 : Hid (∀ m, (wr.drewN m).ownsRow w.heap.size 63 2 (.slice p6 ps.length cap) ps.length (tc ps)) := Lib.hid fun m => row_kept K8.out (below_drewN hbx)
          have M4 : Hid (∀ m, PRel (wr.drewN m) n0 ps (((us.take most).take j).foldl (stepU (known fs)) [])) := Lib.hid fun m => (K2.out.stay (K9.out ▸ below_push n0 (Nat.le_trans hn0 K3.out.size) _ rfl)).stay (below_drewN (hbx.lower (m := n0) (Nat.le_trans hn0 K7.out.size)))
          clear hlt hbx
          by_cases hil : i0 < ps.length
          · have hili : (i0 : Int) < (ps.length : Int) := by omega
            obtain ⟨gq, rfl⟩ := hP6.out i0 hil
            have f0 : wr.cell? ⟨gq, i0 * 2, none⟩ = some (.int .u32 (ps[i0].1 : Int)) := by
              rw [(bcell M2.out).1 _ _ (row_lt K8.out), World.ownsRow.cellAt K8.out (i0 * 2) (by omega), tc_key, List.getElem?_eq_getElem hil]
              rfl
            generalize hy : ps[i0] = y at *
            by_cases hyk : y.1 < k
            · have hyki : (y.1 : Int) < (k : Int) := by omega
              have hi63 : ps.length ≤ 9223372036854775807 := by omega
              go_wp2
              go_quiet (fail)
              go_wp2
              go_roundw
              case rel =>
                refine ⟨i0 + 1, by first | rfl | (congr 1; omega), by omega, fun x hx => ?_, below_drewN M2.out⟩
                rw [List.take_succ_eq_append_getElem hil, List.mem_append, List.mem_singleton] at hx
                rcases hx with hx | rfl
                · exact M1.out x hx
                · rw [hy]; exact hyk
              case measure => simp only [intOf]; omega
            · have hyki : ¬ ((y.1 : Int) < (k : Int)) := by omega
              go_wp2
              go_quiet (fail)
              go_wp2_with fail
              by_cases hkl : k < known fs
              · have hkli : (k : Int) < (known fs : Int) := by omega
                go_quiet (fail)
                go_wp2
                go_roundw
                case rel => exact ⟨j + 1, ps, by first | rfl | (congr 1; omega), by omega, by omega, M3.out _, by rw [K4.out, stepU, if_pos hkl]; exact M4.out _, M5.out _⟩
                case measure => simp only [intOf]; omega
              · have hkli : ¬ ((k : Int) < (known fs : Int)) := by omega
                have M6 : Hid (∀ m, BL (wr.drewN m) n0 (.slice q b.length d) b) := Lib.hid fun m => bl_stay (bl_stay K5.out (K9.out ▸ below_push n0 (Nat.le_trans hn0 K3.out.size) _ rfl)) (below_drewN (M2.out.lower (m := n0) (Nat.le_trans hn0 K7.out.size)))
                have hsplit := insP_split k (.slice q b.length d) ps i0 hi0 M1.out (fun x hx => by rw [List.getElem?_eq_getElem hil, Option.some.injEq] at hx; rw [← hx, hy]; exact hyk)
                have M7 := Lib.hid hsplit
                clear hsplit
                by_cases hye : y.1 = k
                · have hyei : (y.1 : Int) = (k : Int) := by omega
                  have M8 : Hid (insP k (.slice q b.length d) ps = ps) := Lib.hid (by rw [M7.out, List.getElem?_eq_getElem hil, hy, Option.map_some, hye, if_pos rfl])
                  go_quiet (fail)
                  go_wp2
                  go_roundw
                  case rel => exact ⟨j + 1, ps, by first | rfl | (congr 1; omega), by omega, by omega, M3.out _, by
                    have h9 := fun m => (M4.out m).ins k _ b hk32 (M6.out m)
                    simp only [M8.out] at h9
                    rw [K4.out, stepU, if_neg hkl]
                    exact h9 _, M5.out _⟩
                  case measure => simp only [intOf]; omega
                · have hyei : ¬ ((y.1 : Int) = (k : Int)) := by omega
                  have M8 : Hid (insP k (.slice q b.length d) ps = ps.take i0 ++ (k, .slice q b.length d) :: ps.drop i0) := Lib.hid (by rw [M7.out, List.getElem?_eq_getElem hil, hy, Option.map_some, if_neg (by simpa using hye)])
                  go_quiet (fail)
                  go_wp2_with (at_builtin; refine wpList_append_tag rfl _ _ rfl w.heap.size _ ps wr.heap.size rfl rfl (World.ownsRow.alloc (M3.out _) _) ?_ ?_ ?_ ?_)
                  · exact fun j => by simpa using cell_of_row _ _ _ _ _ _ (alloc_last (wr.drewN _) (.cells #[.int .u32 0, .slice none 0 0] 63))
                  · omega
                  · have := (M5.out 0).size
                    have h0 : (wr.drewN 0).heap.size = wr.heap.size := rfl
                    omega
                  · intro g7 cap7 w6 hown6 hg6 hwhich
                    have hlt := fun g h => World.ownsRow.lt K1.out g h
                    have hwr : wo.heap.size + 1 ≤ wr.heap.size := by have := M2.out.size; omega
                    have hwo : w.heap.size ≤ wo.heap.size := K3.out.size
                    have hg7 : wo.heap.size ≠ g7 := by
                      rcases hwhich with h | h
                      · have := (hlt g7 h).2
                        omega
                      · have h' : g7 = wr.heap.size + 1 := h
                        omega
                    have b0 : w6.cell? ⟨wo.heap.size, 0, none⟩ = some (.int .u32 (k : Int)) := by
                      rw [World.cell?_of_block (hg6.block wo.heap.size (by rw [size_box]; omega) (fun e => by have := (hlt _ e.symm).2; omega))]
                      rw [World.cell?_of_block (alloc_old _ _ _ (by show wo.heap.size < wr.heap.size; omega))]
                      exact d0
                    have b1 : w6.cell? ⟨wo.heap.size, 1, none⟩ = some (.slice q b.length d) := by
                      rw [World.cell?_of_block (hg6.block wo.heap.size (by rw [size_box]; omega) (fun e => by have := (hlt _ e.symm).2; omega))]
                      rw [World.cell?_of_block (alloc_old _ _ _ (by show wo.heap.size < wr.heap.size; omega))]
                      exact d1
                    have hb6 : Below w.heap.size w w6 := by
                      have h0 := M5.out 0
                      exact ⟨hg6.os.trans h0.os, hg6.tape.trans h0.tape, hg6.output.trans h0.output, by have := hg6.size; rw [size_box] at this; omega, fun x hx => (hg6.block x (by rw [size_box]; omega) (fun e => by have := (hlt _ e.symm).1; omega)).trans ((alloc_old _ _ _ (by show x < wr.heap.size; omega)).trans (h0.block x hx))⟩
                    have N1 := Lib.hid hown6
                    have N2 := Lib.hid hb6
                    have N3 := Lib.hid hg7
                    clear hown6 hg6 hwhich hb6 hlt hg7
                    go_wp2
                    go_loopw [10] (fun x wx => ∃ (kk : Nat) (y : Nat × Value), x = .int .i64 (kk : Int) ∧ i0 ≤ kk ∧ kk ≤ ps.length ∧ wx.ownsRow w.heap.size 63 2 (.slice (some ⟨g7, 0, none⟩) (ps.length + 1) cap7) (ps.length + 1) (tc (ps.take kk ++ y :: ps.drop kk)) ∧ Below w.heap.size w wx ∧ wx.cell? ⟨wo.heap.size, 0, none⟩ = some (.int .u32 (k : Int)) ∧ wx.cell? ⟨wo.heap.size, 1, none⟩ = some (.slice q b.length d)) (fun x _ => (intOf x).toNat)
                    case atStart => exact ⟨ps.length, (0, .slice none 0 0), by first | rfl | (congr 1; omega), by omega, Nat.le_refl _, by simpa using N1.out, N2.out, b0, b1⟩
                    case round =>
                      rename World => wx
                      obtain ⟨kk, z, rfl, hk1, hk2, hro, hbw, b0, b1⟩ := hrel
                      have P1 := Lib.hid hro
                      have P2 := Lib.hid hbw
                      have P3 : Hid (w.heap.size ≤ g7) := Lib.hid (World.ownsRow.lt hro g7 rfl).1
                      clear hro hbw
                      by_cases hki : i0 < kk
                      · obtain ⟨k', rfl⟩ : ∃ k', kk = k' + 1 := ⟨kk - 1, by omega⟩
                        have hkii : (i0 : Int) < ((k' + 1 : Nat) : Int) := by omega
                        have hkl' : k' < ps.length := by omega
                        have hLk : (ps.take (k' + 1) ++ z :: ps.drop (k' + 1))[k']? = some ps[k'] := by
                          rw [List.getElem?_append_left (by rw [List.length_take]; omega), List.getElem?_take, if_pos (by omega), List.getElem?_eq_getElem hkl']
                        have s0 := World.ownsRow.cellAt P1.out (k' * 2) (by omega)
                        have s1 := World.ownsRow.cellAt P1.out (k' * 2 + 1) (by omega)
                        rw [tc_key, hLk, Option.map_some] at s0
                        rw [tc_val, hLk, Option.map_some] at s1
                        have s2 := World.ownsRow.frozenAt P1.out ((k' + 1) * 2)
                        have s3 := World.ownsRow.frozenAt P1.out ((k' + 1) * 2 + 1)
                        have hLz : (ps.take (k' + 1) ++ z :: ps.drop (k' + 1))[k' + 1]? = some z := by
                          rw [List.getElem?_append_right (by rw [List.length_take]; omega), List.length_take, Nat.min_eq_left (by omega), Nat.sub_self]
                          rfl
                        have s4 := World.ownsRow.cellAt P1.out ((k' + 1) * 2) (by omega)
                        have s5 := World.ownsRow.cellAt P1.out ((k' + 1) * 2 + 1) (by omega)
                        rw [tc_key, hLz, Option.map_some] at s4
                        rw [tc_val, hLz, Option.map_some] at s5
                        clear hLz
                        have P4 := Lib.hid (shift_ps ps k' z hkl')
                        obtain ⟨a9, n9, c9, hx9⟩ := K2.out.form k' _ (List.getElem?_eq_getElem hkl')
                        generalize hps : ps[k'] = x9 at *
                        obtain ⟨x1, x2⟩ := x9
                        simp only at hx9 s0 s1
                        subst hx9
                        have P5 := Lib.hid hps
                        clear hps
                        clear hLk
                        go_wp2
                        go_roundw
                        case rel =>
                          refine ⟨k', (x1, .slice a9 n9 c9), by first | rfl | (congr 1; omega), by omega, by omega, ?_, ?_, ?_, ?_⟩
                          · have h := row_put P1.out (k' + 1) x1 (.slice a9 n9 c9)
                            have h4 := P4.out
                            rw [h4] at h
                            exact h
                          · exact (P2.out.setCell P3.out (p := ⟨g7, (k' + 1) * 2, none⟩) (.int .u32 (x1 : Int))).setCell P3.out (p := ⟨g7, (k' + 1) * 2 + 1, none⟩) (.slice a9 n9 c9)
                          · rw [put2_cell N3.out]; exact b0
                          · rw [put2_cell N3.out]; exact b1
                        case measure => simp only [intOf]; omega
                      · have hkii : ¬ ((i0 : Int) < (kk : Int)) := by omega
                        obtain rfl : kk = i0 := by omega
                        have hLk : (ps.take kk ++ z :: ps.drop kk)[kk]? = some z := by
                          rw [List.getElem?_append_right (by rw [List.length_take]; omega), List.length_take, Nat.min_eq_left (by omega), Nat.sub_self]
                          rfl
                        have s0 := World.ownsRow.cellAt P1.out (kk * 2) (by omega)
                        have s1 := World.ownsRow.cellAt P1.out (kk * 2 + 1) (by omega)
                        rw [tc_key, hLk, Option.map_some] at s0
                        rw [tc_val, hLk, Option.map_some] at s1
                        have s2 := World.ownsRow.frozenAt P1.out (kk * 2)
                        have s3 := World.ownsRow.frozenAt P1.out (kk * 2 + 1)
                        clear hLk
                        go_wp2
                        go_roundw
                        case rel =>
                          refine ⟨j + 1, ps.take kk ++ (k, .slice q b.length d) :: ps.drop kk, by first | rfl | (congr 1; omega), by omega, by first | (simp; done) | (simp; omega), ?_, ?_, ?_⟩
                          · have h := row_put P1.out kk k (.slice q b.length d)
                            rw [put_ps ps kk z _ hk2] at h
                            have hl : (ps.take kk ++ (k, Value.slice q b.length d) :: ps.drop kk).length = ps.length + 1 := by first | (simp; done) | (simp; omega)
                            rw [hl]
                            exact h
                          · have h9 := (K2.out.over (K3.out.lower hn0) ((P2.out.setCell P3.out (p := ⟨g7, kk * 2, none⟩) (.int .u32 (k : Int)) |>.setCell P3.out (p := ⟨g7, kk * 2 + 1, none⟩) (.slice q b.length d)).lower hn0) hn0).ins k (.slice q b.length d) b hk32 (bl_over K5.out (K3.out.lower hn0) ((P2.out.setCell P3.out (p := ⟨g7, kk * 2, none⟩) (.int .u32 (k : Int)) |>.setCell P3.out (p := ⟨g7, kk * 2 + 1, none⟩) (.slice q b.length d)).lower hn0) hn0)
                            rw [M8.out] at h9
                            rw [K4.out, stepU, if_neg hkl]
                            exact h9
                          · exact (P2.out.setCell P3.out (p := ⟨g7, kk * 2, none⟩) (.int .u32 (k : Int))).setCell P3.out (p := ⟨g7, kk * 2 + 1, none⟩) (.slice q b.length d)
                        case measure => simp only [intOf]; omega
          · have hili : ¬ ((i0 : Int) < (ps.length : Int)) := by omega
            obtain rfl : i0 = ps.length := by omega
            have hi63 : ps.length ≤ 9223372036854775807 := by omega
            go_wp2
            go_quiet (fail)
            go_wp2_with fail
            by_cases hkl : k < known fs
            · have hkli : (k : Int) < (known fs : Int) := by omega
              go_quiet (fail)
              go_wp2
              go_roundw
              case rel => exact ⟨j + 1, ps, by first | rfl | (congr 1; omega), by omega, by omega, M3.out _, by rw [K4.out, stepU, if_pos hkl]; exact M4.out _, M5.out _⟩
              case measure => simp only [intOf]; omega
            · have hkli : ¬ ((k : Int) < (known fs : Int)) := by omega
              have hsplit := insP_split k (.slice q b.length d) ps ps.length (Nat.le_refl _) M1.out (fun x hx => by rw [List.getElem?_eq_none (Nat.le_refl _)] at hx; cases hx)
              have M8 : Hid (insP k (.slice q b.length d) ps = ps.take ps.length ++ (k, .slice q b.length d) :: ps.drop ps.length) := Lib.hid (by rw [hsplit, List.getElem?_eq_none (Nat.le_refl _)]; rfl)
              clear hsplit
              go_quiet (fail)
              go_wp2_with (at_builtin; refine wpList_append_tag rfl _ _ rfl w.heap.size _ ps wr.heap.size rfl rfl (World.ownsRow.alloc (M3.out _) _) ?_ ?_ ?_ ?_)
              · exact fun j => by simpa using cell_of_row _ _ _ _ _ _ (alloc_last (wr.drewN _) (.cells #[.int .u32 0, .slice none 0 0] 63))
              · omega
              · have := (M5.out 0).size
                have h0 : (wr.drewN 0).heap.size = wr.heap.size := rfl
                omega
              · intro g7 cap7 w6 hown6 hg6 hwhich
                have hlt := fun g h => World.ownsRow.lt K1.out g h
                have hwr : wo.heap.size + 1 ≤ wr.heap.size := by have := M2.out.size; omega
                have hwo : w.heap.size ≤ wo.heap.size := K3.out.size
                have hg7 : wo.heap.size ≠ g7 := by
                  rcases hwhich with h | h
                  · have := (hlt g7 h).2
                    omega
                  · have h' : g7 = wr.heap.size + 1 := h
                    omega
                have b0 : w6.cell? ⟨wo.heap.size, 0, none⟩ = some (.int .u32 (k : Int)) := by
                  rw [World.cell?_of_block (hg6.block wo.heap.size (by rw [size_box]; omega) (fun e => by have := (hlt _ e.symm).2; omega))]
                  rw [World.cell?_of_block (alloc_old _ _ _ (by show wo.heap.size < wr.heap.size; omega))]
                  exact d0
                have b1 : w6.cell? ⟨wo.heap.size, 1, none⟩ = some (.slice q b.length d) := by
                  rw [World.cell?_of_block (hg6.block wo.heap.size (by rw [size_box]; omega) (fun e => by have := (hlt _ e.symm).2; omega))]
                  rw [World.cell?_of_block (alloc_old _ _ _ (by show wo.heap.size < wr.heap.size; omega))]
                  exact d1
                have hb6 : Below w.heap.size w w6 := by
                  have h0 := M5.out 0
                  exact ⟨hg6.os.trans h0.os, hg6.tape.trans h0.tape, hg6.output.trans h0.output, by have := hg6.size; rw [size_box] at this; omega, fun x hx => (hg6.block x (by rw [size_box]; omega) (fun e => by have := (hlt _ e.symm).1; omega)).trans ((alloc_old _ _ _ (by show x < wr.heap.size; omega)).trans (h0.block x hx))⟩
                have N1 := Lib.hid hown6
                have N2 := Lib.hid hb6
                have N3 := Lib.hid hg7
                clear hown6 hg6 hwhich hb6 hlt hg7
                go_wp2
                go_loopw [10] (fun x wx => ∃ (kk : Nat) (y : Nat × Value), x = .int .i64 (kk : Int) ∧ ps.length ≤ kk ∧ kk ≤ ps.length ∧ wx.ownsRow w.heap.size 63 2 (.slice (some ⟨g7, 0, none⟩) (ps.length + 1) cap7) (ps.length + 1) (tc (ps.take kk ++ y :: ps.drop kk)) ∧ Below w.heap.size w wx ∧ wx.cell? ⟨wo.heap.size, 0, none⟩ = some (.int .u32 (k : Int)) ∧ wx.cell? ⟨wo.heap.size, 1, none⟩ = some (.slice q b.length d)) (fun x _ => (intOf x).toNat)
                case atStart => exact ⟨ps.length, (0, .slice none 0 0), by first | rfl | (congr 1; omega), by omega, Nat.le_refl _, by simpa using N1.out, N2.out, b0, b1⟩
                case round =>
                  rename World => wx
                  obtain ⟨kk, z, rfl, hk1, hk2, hro, hbw, b0, b1⟩ := hrel
                  have P1 := Lib.hid hro
                  have P2 := Lib.hid hbw
                  have P3 : Hid (w.heap.size ≤ g7) := Lib.hid (World.ownsRow.lt hro g7 rfl).1
                  clear hro hbw
                  by_cases hki : ps.length < kk
                  · exact absurd hk2 (by omega)
                  · have hkii : ¬ ((ps.length : Int) < (kk : Int)) := by omega
                    obtain rfl : kk = ps.length := by omega
                    have hLk : (ps.take ps.length ++ z :: ps.drop ps.length)[ps.length]? = some z := by
                      rw [List.getElem?_append_right (by rw [List.length_take]; omega), List.length_take, Nat.min_eq_left (by omega), Nat.sub_self]
                      rfl
                    have s0 := World.ownsRow.cellAt P1.out (ps.length * 2) (by omega)
                    have s1 := World.ownsRow.cellAt P1.out (ps.length * 2 + 1) (by omega)
                    rw [tc_key, hLk, Option.map_some] at s0
                    rw [tc_val, hLk, Option.map_some] at s1
                    have s2 := World.ownsRow.frozenAt P1.out (ps.length * 2)
                    have s3 := World.ownsRow.frozenAt P1.out (ps.length * 2 + 1)
                    clear hLk
                    go_wp2
                    go_roundw
                    case rel =>
                      refine ⟨j + 1, ps.take ps.length ++ (k, .slice q b.length d) :: ps.drop ps.length, by first | rfl | (congr 1; omega), by omega, by first | (simp; done) | (simp; omega), ?_, ?_, ?_⟩
                      · have h := row_put P1.out ps.length k (.slice q b.length d)
                        rw [put_ps ps ps.length z _ hk2] at h
                        have hl : (ps.take ps.length ++ (k, Value.slice q b.length d) :: ps.drop ps.length).length = ps.length + 1 := by first | (simp; done) | (simp; omega)
                        rw [hl]
                        exact h
                      · have h9 := (K2.out.over (K3.out.lower hn0) ((P2.out.setCell P3.out (p := ⟨g7, ps.length * 2, none⟩) (.int .u32 (k : Int)) |>.setCell P3.out (p := ⟨g7, ps.length * 2 + 1, none⟩) (.slice q b.length d)).lower hn0) hn0).ins k (.slice q b.length d) b hk32 (bl_over K5.out (K3.out.lower hn0) ((P2.out.setCell P3.out (p := ⟨g7, ps.length * 2, none⟩) (.int .u32 (k : Int)) |>.setCell P3.out (p := ⟨g7, ps.length * 2 + 1, none⟩) (.slice q b.length d)).lower hn0) hn0)
                        rw [M8.out] at h9
                        rw [K4.out, stepU, if_neg hkl]
                        exact h9
                      · exact (P2.out.setCell P3.out (p := ⟨g7, ps.length * 2, none⟩) (.int .u32 (k : Int))).setCell P3.out (p := ⟨g7, ps.length * 2 + 1, none⟩) (.slice q b.length d)
                    case measure => simp only [intOf]; omega
      · have hji : ¬ ((j : Int) < (n : Int)) := by omega
        obtain rfl : j = n := by omega
        have K1 := Lib.hid hown
        have K2 := Lib.hid hrel'
        have K3 := Lib.hid hbel
        clear hown hrel' hbel
        go_wp2
        go_ret
        refine ⟨_, rfl, ?_, K3.out⟩
        have := K2.out
        rw [List.take_of_length_le (by omega)] at this
        rw [unknown_eq]
        exact this.tagsV K1.out
end Go.Proofs.YtoklbgdafnminaaGreatDoor
/-
  The reference's 'as by default'. Conditions: none.
-/
namespace Go.Proofs.YtoklbgdafnminaaGreatDoor
open Go.RowKit
open Kz

/-- A field that is judged as it ought to be. -/
def UsualOk (f : F) : Prop := ∀ (w : World) (fv tv : Value) (t : T), FieldV w fv f → TreeV w tv t →
  Calls Tryz.prog 59 #[fv, tv] w fun e w' => e = .returned (.bool (Kz.usual f t)) ∧ Below w.heap.size w w'
theorem usual_eq (f : F) (t : T) : Kz.usual f t = if f.kind = 0 then decide (t.n % 2 = f.dflt) else if f.kind = 7 then (t.s.take 16).all (· == 0) else if f.kind = 8 ∨ f.kind = 9 then (if 0 ≤ f.null then t.null else t.s.isEmpty)
    else if f.kind = 11 then t.l.isEmpty else if f.kind = 10 then allUsual (usuals f.sub) t.l && (unknown (known f.sub) t.u).isEmpty else fixed t.n (width f.kind) == fixed f.dflt (width f.kind) := by
  cases f
  rw [Kz.usual]
theorem allUsual_all : ∀ (fs : List F) (l : List T), (∀ (k : Nat) f, fs[k]? = some f → Kz.usual f (l.getD k T.zero) = true) → allUsual (usuals fs) l = true
  | [], _, _ => by simp [usuals, allUsual]
  | f :: fs, l, h => by
    have h0 := h 0 f rfl
    have h1 := allUsual_all fs l.tail (fun k g hg => by
      have := h (k + 1) g hg
      cases l with
      | nil => simpa using this
      | cons a l => simpa using this)
    simp only [usuals, allUsual, h1, Bool.and_true]
    cases l with
    | nil => simpa using h0
    | cons a l => simpa using h0
theorem allUsual_none : ∀ (fs : List F) (l : List T) (k : Nat) f, fs[k]? = some f → Kz.usual f (l.getD k T.zero) = false → allUsual (usuals fs) l = false
  | [], _, _, _, h, _ => by simp at h
  | f :: fs, l, 0, g, h, hu => by
    simp only [List.getElem?_cons_zero, Option.some.injEq] at h
    subst h
    have : Kz.usual f (l.headD T.zero) = false := by
      cases l with
      | nil => simpa using hu
      | cons a l => simpa using hu
    simp only [usuals, allUsual, this, Bool.false_and]
  | f :: fs, l, k + 1, g, h, hu => by
    have h1 := allUsual_none fs l.tail k g (by simpa using h) (by
      cases l with
      | nil => simpa using hu
      | cons a l => simpa using hu)
    simp only [usuals, allUsual, h1, Bool.and_false]

set_option maxRecDepth 8000 in
set_option maxHeartbeats 4000000 in
theorem usual_bool (f : F) (h0 : f.kind = 0) : UsualOk f := by
  intro w fv tv t hf ht
  rw [usual_eq, if_pos h0]
  obtain ⟨sv, rfl, hsub⟩ := hf
  obtain ⟨s, l, u, rfl, h1, h2, h3⟩ := ht
  have ek : (f.kind : Int) = 0 := by omega
  have ha := and1_i64 t.n
  clear hsub h1 h2 h3 h0
  go_enter Tryz.func59, Tryz.ntmps59
  go_wp2
  go_ret
  exact ⟨rfl, below_push2 _ (Nat.le_refl _) _ _ rfl⟩

set_option maxRecDepth 8000 in
set_option maxHeartbeats 4000000 in
theorem usual_text (f : F) (h8 : f.kind = 8 ∨ f.kind = 9) : UsualOk f := by
  intro w fv tv t hf ht
  rw [usual_eq, if_neg (by omega), if_neg (by omega), if_pos h8]
  obtain ⟨sv, rfl, hsub⟩ := hf
  obtain ⟨s, l, u, rfl, h1, h2, h3⟩ := ht
  obtain ⟨a1, c1, rfl⟩ := h1.len
  clear hsub h1 h2 h3
  have hem : ((t.s.length : Int) == 0) = t.s.isEmpty := by
    cases t.s with
    | nil => rfl
    | cons a l => rw [Bool.eq_iff_iff]; simp; omega
  have HE := Lib.hid hem
  clear hem
  generalize t.s.isEmpty = em at *
  rcases h8 with h8 | h8
  · have ek : (f.kind : Int) = 8 := by omega
    clear h8
    by_cases hn : 0 ≤ f.null
    · rw [if_pos hn]
      go_enter Tryz.func59, Tryz.ntmps59
      go_wp2
      go_ret
      exact ⟨rfl, below_push2 _ (Nat.le_refl _) _ _ rfl⟩
    · rw [if_neg hn]
      go_enter Tryz.func59, Tryz.ntmps59
      go_wp2
      go_ret
      exact ⟨by show Ending.returned (Value.bool ((t.s.length : Int) == 0)) = _; rw [HE.out], below_push2 _ (Nat.le_refl _) _ _ rfl⟩
  · have ek : (f.kind : Int) = 9 := by omega
    clear h8
    by_cases hn : 0 ≤ f.null
    · rw [if_pos hn]
      go_enter Tryz.func59, Tryz.ntmps59
      go_wp2
      go_ret
      exact ⟨rfl, below_push2 _ (Nat.le_refl _) _ _ rfl⟩
    · rw [if_neg hn]
      go_enter Tryz.func59, Tryz.ntmps59
      go_wp2
      go_ret
      exact ⟨by show Ending.returned (Value.bool ((t.s.length : Int) == 0)) = _; rw [HE.out], below_push2 _ (Nat.le_refl _) _ _ rfl⟩

set_option maxRecDepth 8000 in
set_option maxHeartbeats 4000000 in
theorem usual_list (f : F) (h11 : f.kind = 11) : UsualOk f := by
  intro w fv tv t hf ht
  rw [usual_eq, if_neg (by omega), if_neg (by omega), if_neg (by omega), if_pos h11]
  obtain ⟨sv, rfl, hsub⟩ := hf
  obtain ⟨s, l, u, rfl, h1, h2, h3⟩ := ht
  obtain ⟨a2, c2, rfl⟩ := h2.len
  clear hsub h1 h2 h3
  have hem : ((t.l.length : Int) == 0) = t.l.isEmpty := by
    cases t.l with
    | nil => rfl
    | cons a l => rw [Bool.eq_iff_iff]; simp; omega
  have HE := Lib.hid hem
  clear hem
  generalize t.l.isEmpty = em at *
  have ek : (f.kind : Int) = 11 := by omega
  clear h11
  go_enter Tryz.func59, Tryz.ntmps59
  go_wp2
  go_ret
  exact ⟨by show Ending.returned (Value.bool ((t.l.length : Int) == 0)) = _; rw [HE.out], below_push2 _ (Nat.le_refl _) _ _ rfl⟩

theorem dec_beq (a b : List UInt8) : decide (a = b) = (a == b) := by
  rw [Bool.eq_iff_iff]
  simp
set_option maxRecDepth 8000 in
set_option maxHeartbeats 4000000 in
theorem usual_num (f : F) (h : f.kind ≠ 0 ∧ f.kind ≠ 7 ∧ f.kind ≠ 8 ∧ f.kind ≠ 9 ∧ f.kind ≠ 10 ∧ f.kind ≠ 11) : UsualOk f := by
  intro w fv tv t hf ht
  obtain ⟨k0, k7, k8, k9, k10, k11⟩ := h
  rw [usual_eq, if_neg k0, if_neg k7, if_neg (by omega), if_neg k11, if_neg k10]
  obtain ⟨sv, rfl, hsub⟩ := hf
  obtain ⟨s, l, u, rfl, h1, h2, h3⟩ := ht
  have e0 : ¬ ((f.kind : Int) = 0) := by omega
  have e7 : ¬ ((f.kind : Int) = 7) := by omega
  have e8 : ¬ ((f.kind : Int) = 8) := by omega
  have e9 : ¬ ((f.kind : Int) = 9) := by omega
  have e10 : ¬ ((f.kind : Int) = 10) := by omega
  have e11 : ¬ ((f.kind : Int) = 11) := by omega
  have w8 : width f.kind ≤ 8 := by simp only [width]; repeat' split <;> try omega
  have H8 := Lib.hid w8
  clear h1 h2 h3 hsub k0 k7 k8 k9 k10 k11 w8
  obtain ⟨q1, q2, q3⟩ := two_boxes (Below.refl _ ((w.alloc (.cells #[iv f.kind, iv f.frm, iv f.to, iv f.null, iv f.tag, iv f.dflt, iv f.of, sv] 48)).alloc (.cells #[iv t.n, s, .bool t.null, l, u] 26)))
  have hB := below_push2 w.heap.size (Nat.le_refl _) (.cells #[iv f.kind, iv f.frm, iv f.to, iv f.null, iv f.tag, iv f.dflt, iv f.of, sv] 48) (.cells #[iv t.n, s, .bool t.null, l, u] 26) rfl
  generalize hW : (w.alloc (.cells #[iv f.kind, iv f.frm, iv f.to, iv f.null, iv f.tag, iv f.dflt, iv f.of, sv] 48)).alloc (.cells #[iv t.n, s, .bool t.null, l, u] 26) = W at *
  have HB := Lib.hid hB
  clear hB
  have r0 : W.cell? ⟨w.heap.size + 1, 0, none⟩ = some (iv t.n) := q2 0
  have r1 : W.cell? ⟨w.heap.size, 0, none⟩ = some (iv f.kind) := q1 0
  have r2 : W.cell? ⟨w.heap.size, 5, none⟩ = some (iv f.dflt) := q1 5
  clear q1 q2
  go_enter Tryz.func59, Tryz.ntmps59
  go_wp2_with fail
  clear hW
  go_region_held3 (fun w' => w'.cell? ⟨w.heap.size + 1, 0, none⟩ = some (iv t.n) ∧ w'.cell? ⟨w.heap.size, 0, none⟩ = some (iv f.kind) ∧ w'.cell? ⟨w.heap.size, 5, none⟩ = some (iv f.dflt)) (first | assumption | (refine ⟨?_, ?_, ?_⟩ <;> assumption)) (first
    | (go_at_call 102; refine (width_any _ f.kind).mono ?_; rintro e w1 ⟨rfl, rfl⟩)
    | (go_at_call 101; (with_reducible refine (specFixed_any _ t.n (width f.kind) H8.out).mono ?_); rintro e w2 ⟨v2, rfl, hown, hbel'⟩; have hbel := below_undrew hbel'; clear hbel';
       have r0' := ((bcell hbel).1 (w.heap.size + 1) 0 (show w.heap.size + 1 < W.heap.size by omega)).trans r0;
       have r1' := ((bcell hbel).1 w.heap.size 0 (show w.heap.size < W.heap.size by omega)).trans r1;
       have r2' := ((bcell hbel).1 w.heap.size 5 (show w.heap.size < W.heap.size by omega)).trans r2;
       have q3' : w.heap.size + 2 ≤ w2.heap.size := Nat.le_trans q3 hbel.size;
       have H2 := Lib.hid (HB.out.trans (hbel.lower (m := w.heap.size) HB.out.size));
       have H1 := Lib.hid hown; clear hown hbel)
    | (go_at_call 101; (with_reducible refine (specFixed_any _ f.dflt (width f.kind) H8.out).mono ?_); rintro e w3 ⟨v3, rfl, hown, hbel⟩;
       have s0' := ((bcell hbel).1 (w.heap.size + 1) 0 (by omega)).trans r0';
       have s1' := ((bcell hbel).1 w.heap.size 0 (by omega)).trans r1';
       have s2' := ((bcell hbel).1 w.heap.size 5 (by omega)).trans r2';
       have H5 := Lib.hid (H2.out.trans (hbel.lower (m := w.heap.size) H2.out.size));
       have H4 := Lib.hid (H1.out.grown (fun k hk => hbel.block k hk));
       have H3 := Lib.hid hown; clear hown hbel)
    | (go_at_call 16; refine (Same_any _ _ _ _ _ _ _ (own_bytes H4.out) (own_bytes H3.out) (by rw [fixed_length]; have := H8.out; omega)).mono ?_; rintro e w4 ⟨rfl, hg⟩;
       have t0' := hg.cell s0' (by simp);
       have t1' := hg.cell s1' (by simp);
       have t2' := hg.cell s2' (by simp);
       have H6 := Lib.hid (H5.out.trans (show Below w.heap.size w3 w4 from ⟨hg.os, hg.tape, hg.output, hg.size, fun k hk => hg.block k (Nat.lt_of_lt_of_le hk H5.out.size) (by simp)⟩)); clear hg))
  go_wp2
  go_ret
  refine ⟨?_, H6.out⟩
  show Ending.returned (Value.bool (decide (fixed t.n (width f.kind) = fixed f.dflt (width f.kind)))) = _
  rw [dec_beq]

/-- Octets of what came in, by their places. -/
theorem BT.cell {w : World} {v : Value} {bs : List UInt8} (h : BT w v bs) : ∃ p c, v = .slice p bs.length c ∧ (bs ≠ [] → ∃ g o, p = some ⟨g, o, none⟩ ∧ ∀ (i : Nat) (b : UInt8), bs[i]? = some b → w.cell? ⟨g, o + i, none⟩ = some (bv b)) := by
  rcases h with ⟨ad, rfl, rfl⟩ | h
  · exact ⟨_, _, rfl, fun h => absurd rfl h⟩
  · exact bytes_cell h

set_option maxRecDepth 8000 in
set_option maxHeartbeats 4000000 in
theorem usual_uuid (f : F) (h7 : f.kind = 7) : UsualOk f := by
  intro w fv tv t hf ht
  rw [usual_eq, if_neg (by omega), if_pos h7]
  obtain ⟨sv, rfl, hsub⟩ := hf
  obtain ⟨s, l, u, rfl, h1, h2, h3⟩ := ht
  obtain ⟨p, c, rfl, hp⟩ := h1.cell
  have ek : (f.kind : Int) = 7 := by omega
  obtain ⟨q1, q2, q3⟩ := two_boxes (Below.refl _ ((w.alloc (.cells #[iv f.kind, iv f.frm, iv f.to, iv f.null, iv f.tag, iv f.dflt, iv f.of, sv] 48)).alloc (.cells #[iv t.n, .slice p t.s.length c, .bool t.null, l, u] 26)))
  have hB := below_push2 w.heap.size (Nat.le_refl _) (.cells #[iv f.kind, iv f.frm, iv f.to, iv f.null, iv f.tag, iv f.dflt, iv f.of, sv] 48) (.cells #[iv t.n, .slice p t.s.length c, .bool t.null, l, u] 26) rfl
  generalize hW : (w.alloc (.cells #[iv f.kind, iv f.frm, iv f.to, iv f.null, iv f.tag, iv f.dflt, iv f.of, sv] 48)).alloc (.cells #[iv t.n, .slice p t.s.length c, .bool t.null, l, u] 26) = W at *
  have r1 : W.cell? ⟨w.heap.size, 0, none⟩ = some (iv f.kind) := q1 0
  have r2 : W.cell? ⟨w.heap.size + 1, 1, none⟩ = some (.slice p t.s.length c) := q2 1
  clear q1 q2 q3
  have hp' : t.s ≠ [] → ∃ g o, p = some ⟨g, o, none⟩ ∧ ∀ (i : Nat) (b : UInt8), t.s[i]? = some b → W.cell? ⟨g, o + i, none⟩ = some (bv b) := fun hne => by
    obtain ⟨g, o, e, hc⟩ := hp hne
    refine ⟨g, o, e, fun i b hi => ?_⟩
    rw [(bcell hB).1 _ _ (World.block_lt_of_cell? w _ (hc i b hi))]
    exact hc i b hi
  have HP := Lib.hid hp'
  have HB := Lib.hid hB
  have H63 : t.s.length ≤ 9223372036854775807 := by
    rcases h1 with ⟨ad, -, e⟩ | ⟨-, e⟩ | ⟨g, o, c, e, h2, h3, -⟩
    · rw [e]; decide
    · rw [e]; decide
    · omega
  rw [ek] at hW r1
  clear hsub h1 h2 h3 h7 hp hp' hB
  go_enter Tryz.func59, Tryz.ntmps59
  go_wp2
  go_loop [24] (fun i => ∃ j : Nat, i = .int .i64 (j : Int) ∧ j ≤ t.s.length ∧ ∀ (k : Nat) (b : UInt8), k < j → k < 16 → t.s[k]? = some b → b = 0) (fun i => t.s.length - (intOf i).toNat)
  case atStart => exact ⟨0, rfl, Nat.zero_le _, fun k b hk => absurd hk (by omega)⟩
  case round =>
    obtain ⟨j, rfl, hj, hall⟩ := hrel
    have HA := Lib.hid hall
    clear hall
    by_cases hjl : j < t.s.length
    · have hji : (j : Int) < (t.s.length : Int) := by omega
      obtain ⟨g, o, rfl, hc⟩ := HP.out (by intro e; rw [e] at hjl; simp at hjl)
      have hcj := hc j _ (List.getElem?_eq_getElem hjl)
      have hb : t.s[j]? = some t.s[j] := List.getElem?_eq_getElem hjl
      generalize t.s[j] = b at *
      have HJ := Lib.hid hb
      simp only [bv] at hcj
      clear hc hb
      by_cases h16 : j < 16
      · have h16i : (j : Int) < 16 := by omega
        by_cases hb0 : b = 0
        · subst hb0
          have hz : (((0 : UInt8).toNat : Nat) : Int) = 0 := rfl
          rw [hz] at hcj
          go_wp2
          go_round
          case rel =>
            refine ⟨j + 1, by first | rfl | (congr 1; omega), by omega, fun k b hk hk16 hkb => ?_⟩
            rcases Nat.lt_or_ge k j with h | h
            · exact HA.out k b h hk16 hkb
            · obtain rfl : k = j := by omega
              rw [HJ.out, Option.some.injEq] at hkb
              exact hkb.symm
          case measure => simp only [intOf]; omega
        · have hbn : ¬ ((b.toNat : Int) = 0) := by
            intro e
            exact hb0 (UInt8.toNat_inj.1 (by simpa using e))
          have hfin : (t.s.take 16).all (· == 0) = false := by
            rw [Bool.eq_false_iff]
            intro h
            rw [List.all_eq_true] at h
            have hm : b ∈ t.s.take 16 := by
              rw [List.mem_iff_getElem?]
              exact ⟨j, by rw [List.getElem?_take, if_pos h16]; exact HJ.out⟩
            have := h b hm
            simp at this
            exact hb0 this
          have HF := Lib.hid hfin
          clear hfin
          go_wp2
          go_ret
          exact ⟨by rw [HF.out]; rfl, HB.out⟩
      · have h16i : ¬ ((j : Int) < 16) := by omega
        go_wp2
        go_round
        case rel =>
          refine ⟨j + 1, by first | rfl | (congr 1; omega), by omega, fun k b hk hk16 hkb => ?_⟩
          exact HA.out k b (by omega) hk16 hkb
        case measure => simp only [intOf]; omega
    · have hji : ¬ ((j : Int) < (t.s.length : Int)) := by omega
      have hfin : (t.s.take 16).all (· == 0) = true := by
        rw [List.all_eq_true]
        intro b hb
        rw [List.mem_iff_getElem?] at hb
        obtain ⟨k, hk⟩ := hb
        rw [List.getElem?_take] at hk
        split at hk
        · rename_i h16
          have hkl : k < t.s.length := (List.getElem?_eq_some_iff.1 hk).1
          have := HA.out k b (by omega) h16 hk
          simp [this]
        · cases hk
      have HF := Lib.hid hfin
      clear hfin
      go_wp2
      go_ret
      exact ⟨by rw [HF.out]; rfl, HB.out⟩

theorem below_box {w wr : World} {n : Nat} {o : Obj} (h : Below n w wr) (hn : n ≤ w.heap.size) : Below n w (wr.alloc o) := h.trans (below_push n (Nat.le_trans hn h.size) o rfl)
/-- A box made last. -/
theorem last_box {w w1 : World} {cs : Array Value} {t : TypeId} (hb : Below (w.alloc (.cells cs t)).heap.size (w.alloc (.cells cs t)) w1) : (∀ j, w1.cell? ⟨w.heap.size, j, none⟩ = cs[j]?) ∧ w.heap.size + 1 ≤ w1.heap.size := by
  refine ⟨fun j => ?_, by have := hb.size; simpa using this⟩
  exact cell_of_row _ _ _ _ _ _ ((hb.block _ (by simp)).trans (alloc_last w _))

set_option maxRecDepth 8000 in
set_option maxHeartbeats 4000000 in
theorem usual_struct (f : F) (h10 : f.kind = 10) (hsub : ∀ (k : Nat) g, f.sub[k]? = some g → UsualOk g) (htg : ∀ g ∈ f.sub, g.tag < 4294967295) : UsualOk f := by
  intro w fv tv t hf ht
  rw [usual_eq, if_neg (by omega), if_neg (by omega), if_neg (by omega), if_neg (by omega), if_pos h10]
  obtain ⟨sv, rfl, hfl⟩ := hf
  obtain ⟨s, l, u, rfl, h1, h2, h3⟩ := ht
  obtain ⟨p, c, rfl, h63, hp⟩ := hfl.cell
  obtain ⟨a1, c1, rfl⟩ := h1.len
  obtain ⟨a2, c2, rfl⟩ := h2.len
  obtain ⟨a3, c3, rfl⟩ := h3.len
  have HT : Hid (TreeV w (treV t.n t.null (.slice a1 t.s.length c1) (.slice a2 t.l.length c2) (.slice a3 t.u.length c3)) t) := Lib.hid ⟨_, _, _, rfl, h1, h2, h3⟩
  have HF := Lib.hid hfl
  have HU := Lib.hid h3
  have HP := Lib.hid hp
  have HS := Lib.hid hsub
  have HG := Lib.hid htg
  have ek : (f.kind : Int) = 10 := by omega
  obtain ⟨q1, q2, q3⟩ := two_boxes (Below.refl _ ((w.alloc (.cells #[iv f.kind, iv f.frm, iv f.to, iv f.null, iv f.tag, iv f.dflt, iv f.of, .slice p f.sub.length c] 48)).alloc (.cells #[iv t.n, .slice a1 t.s.length c1, .bool t.null, .slice a2 t.l.length c2, .slice a3 t.u.length c3] 26)))
  have hB := below_push2 w.heap.size (Nat.le_refl _) (.cells #[iv f.kind, iv f.frm, iv f.to, iv f.null, iv f.tag, iv f.dflt, iv f.of, .slice p f.sub.length c] 48) (.cells #[iv t.n, .slice a1 t.s.length c1, .bool t.null, .slice a2 t.l.length c2, .slice a3 t.u.length c3] 26) rfl
  generalize hW : (w.alloc (.cells #[iv f.kind, iv f.frm, iv f.to, iv f.null, iv f.tag, iv f.dflt, iv f.of, .slice p f.sub.length c] 48)).alloc (.cells #[iv t.n, .slice a1 t.s.length c1, .bool t.null, .slice a2 t.l.length c2, .slice a3 t.u.length c3] 26) = W at *
  have HB := Lib.hid hB
  have r1 : W.cell? ⟨w.heap.size, 0, none⟩ = some (iv f.kind) := q1 0
  have r7 : W.cell? ⟨w.heap.size, 7, none⟩ = some (.slice p f.sub.length c) := q1 7
  have Q2 := Lib.hid q2
  rw [ek] at hW r1
  clear hfl h1 h2 h3 hp hB q1 q2 hsub htg h10
  go_enter Tryz.func59, Tryz.ntmps59
  go_wp2
  clear hW
  go_loopw [59] (fun i wr => ∃ j : Nat, i = .int .i64 (j : Int) ∧ j ≤ f.sub.length ∧ (∀ (k : Nat) g, k < j → f.sub[k]? = some g → Kz.usual g (t.l.getD k T.zero) = true) ∧ Below W.heap.size W wr) (fun i _ => f.sub.length - (intOf i).toNat)
  case atStart => exact ⟨0, rfl, Nat.zero_le _, fun k g hk => absurd hk (by omega), Below.refl _ _⟩
  case round =>
    obtain ⟨j, rfl, hj, hall, hbel⟩ := hrel
    have K1 := Lib.hid hall
    have K2 := Lib.hid hbel
    have hsz : W.heap.size ≤ wr.heap.size := hbel.size
    have hwz : w.heap.size ≤ W.heap.size := HB.out.size
    have K3 : Hid (Below w.heap.size w wr) := Lib.hid (HB.out.trans (hbel.lower (m := w.heap.size) hwz))
    clear hall hbel
    by_cases hjl : j < f.sub.length
    · have hji : (j : Int) < (f.sub.length : Int) := by omega
      obtain ⟨g, o, rfl, hg, hpc⟩ := HP.out (by intro e; rw [e] at hjl; simp at hjl)
      obtain ⟨q, d, e0, e1, e2, e3, e4, e5, e6, e7, hfs⟩ := hpc j _ (List.getElem?_eq_getElem hjl)
      have hx : f.sub[j]? = some f.sub[j] := List.getElem?_eq_getElem hjl
      rw [← (bcell K3.out).1 _ _ hg] at e0 e1 e2 e3 e4 e5 e6 e7
      generalize f.sub[j] = x at *
      have K4 := Lib.hid hx
      have K5 : Hid (FL wr (.slice q x.sub.length d) x.sub) := Lib.hid (hfs.stay K3.out)
      obtain ⟨b1, b2⟩ := last_box (Below.refl _ (wr.alloc (.cells #[iv x.kind, iv x.frm, iv x.to, iv x.null, iv x.tag, iv x.dflt, iv x.of, .slice q x.sub.length d] 48)))
      have hB2 : Below wr.heap.size wr (wr.alloc (.cells #[iv x.kind, iv x.frm, iv x.to, iv x.null, iv x.tag, iv x.dflt, iv x.of, .slice q x.sub.length d] 48)) := below_push _ (Nat.le_refl _) _ rfl
      have y2' : ∀ k, wr.cell? ⟨w.heap.size + 1, k, none⟩ = _ := fun k => ((bcell K2.out).1 _ _ (by omega)).trans (Q2.out k)
      have y2 : ∀ k, (wr.alloc (.cells #[iv x.kind, iv x.frm, iv x.to, iv x.null, iv x.tag, iv x.dflt, iv x.of, .slice q x.sub.length d] 48)).cell? ⟨w.heap.size + 1, k, none⟩ = _ := fun k => ((bcell hB2).1 _ _ (by omega)).trans (y2' k)
      generalize hV : wr.alloc (.cells #[iv x.kind, iv x.frm, iv x.to, iv x.null, iv x.tag, iv x.dflt, iv x.of, .slice q x.sub.length d] 48) = V at *
      have K6 : Hid (Below W.heap.size W V) := Lib.hid (K2.out.trans (hB2.lower (m := W.heap.size) hsz))
      have K7 : Hid (Below w.heap.size w V) := Lib.hid (K3.out.trans (hB2.lower (m := w.heap.size) (by omega)))
      have K8 : Hid (FieldV V (fldV x (.slice q x.sub.length d)) x) := Lib.hid ⟨_, rfl, K5.out.stay hB2⟩
      have K9 : Hid (UsualOk x) := Lib.hid (HS.out j x K4.out)
      have hVs : V.heap.size = wr.heap.size + 1 := by rw [← hV]; simp
      clear hpc hfs hB2 y2' hx
      go_wp2_with fail
      clear hV
      by_cases hu : Kz.usual x (t.l.getD j T.zero) = true
      · go_region_held3 (fun w' => (∀ k, w'.cell? ⟨wr.heap.size, k, none⟩ = (#[iv x.kind, iv x.frm, iv x.to, iv x.null, iv x.tag, iv x.dflt, iv x.of, .slice q x.sub.length d] : Array Value)[k]?) ∧ (∀ k, w'.cell? ⟨w.heap.size + 1, k, none⟩ = (#[iv t.n, .slice a1 t.s.length c1, .bool t.null, .slice a2 t.l.length c2, .slice a3 t.u.length c3] : Array Value)[k]?)) (first | assumption | (refine ⟨?_, ?_⟩ <;> assumption)) (first
          | (go_at_call 57; refine (at_any _ _ t j (HT.out.stay (below_todrew K7.out))).mono ?_; rintro e w2 ⟨v2, rfl, htv, hbel'⟩; have hbel := below_undrew hbel'; clear hbel';
             have b1' := fun k => ((bcell hbel).1 wr.heap.size k (show wr.heap.size < V.heap.size by omega)).trans (b1 k);
             have y2' := fun k => ((bcell hbel).1 (w.heap.size + 1) k (show w.heap.size + 1 < V.heap.size by omega)).trans (y2 k);
             have L1 := Lib.hid htv; have L2 := Lib.hid (K6.out.trans (hbel.lower (m := W.heap.size) (show W.heap.size ≤ V.heap.size by omega))); have L3 := Lib.hid (K8.out.stay hbel); have L4 : V.heap.size ≤ w2.heap.size := hbel.size; clear htv hbel)
          | (go_at_call 59; refine (K9.out _ _ _ _ L3.out L1.out).mono ?_; rintro e w3 ⟨he, hbel⟩; rw [hu] at he; subst he;
             have b1'' := fun k => ((bcell hbel).1 wr.heap.size k (show wr.heap.size < w2.heap.size by omega)).trans (b1' k);
             have y2'' := fun k => ((bcell hbel).1 (w.heap.size + 1) k (show w.heap.size + 1 < w2.heap.size by omega)).trans (y2' k);
             have L5 := Lib.hid (L2.out.trans (hbel.lower (m := W.heap.size) (show W.heap.size ≤ w2.heap.size by omega))); clear hbel))
        go_wp2
        go_roundw
        case rel =>
          refine ⟨j + 1, by first | rfl | (congr 1; omega), by omega, fun k y hk hy => ?_, L5.out⟩
          rcases Nat.lt_or_ge k j with h | h
          · exact K1.out k y h hy
          · obtain rfl : k = j := by omega
            rw [K4.out, Option.some.injEq] at hy
            rw [← hy]
            exact hu
        case measure => simp only [intOf]; omega
      · have hu' : Kz.usual x (t.l.getD j T.zero) = false := by simpa using hu
        have hfin : allUsual (usuals f.sub) t.l = false := allUsual_none f.sub t.l j x K4.out hu'
        have M1 := Lib.hid hfin
        clear hfin hu
        go_region_held3 (fun w' => (∀ k, w'.cell? ⟨wr.heap.size, k, none⟩ = (#[iv x.kind, iv x.frm, iv x.to, iv x.null, iv x.tag, iv x.dflt, iv x.of, .slice q x.sub.length d] : Array Value)[k]?) ∧ (∀ k, w'.cell? ⟨w.heap.size + 1, k, none⟩ = (#[iv t.n, .slice a1 t.s.length c1, .bool t.null, .slice a2 t.l.length c2, .slice a3 t.u.length c3] : Array Value)[k]?)) (first | assumption | (refine ⟨?_, ?_⟩ <;> assumption)) (first
          | (go_at_call 57; refine (at_any _ _ t j (HT.out.stay (below_todrew K7.out))).mono ?_; rintro e w2 ⟨v2, rfl, htv, hbel'⟩; have hbel := below_undrew hbel'; clear hbel';
             have b1' := fun k => ((bcell hbel).1 wr.heap.size k (show wr.heap.size < V.heap.size by omega)).trans (b1 k);
             have y2' := fun k => ((bcell hbel).1 (w.heap.size + 1) k (show w.heap.size + 1 < V.heap.size by omega)).trans (y2 k);
             have L1 := Lib.hid htv; have L2 := Lib.hid (K6.out.trans (hbel.lower (m := W.heap.size) (show W.heap.size ≤ V.heap.size by omega))); have L3 := Lib.hid (K8.out.stay hbel); have L4 : V.heap.size ≤ w2.heap.size := hbel.size; clear htv hbel)
          | (go_at_call 59; refine (K9.out _ _ _ _ L3.out L1.out).mono ?_; rintro e w3 ⟨he, hbel⟩; rw [hu'] at he; subst he;
             have b1'' := fun k => ((bcell hbel).1 wr.heap.size k (show wr.heap.size < w2.heap.size by omega)).trans (b1' k);
             have y2'' := fun k => ((bcell hbel).1 (w.heap.size + 1) k (show w.heap.size + 1 < w2.heap.size by omega)).trans (y2' k);
             have L5 := Lib.hid (L2.out.trans (hbel.lower (m := W.heap.size) (show W.heap.size ≤ w2.heap.size by omega))); clear hbel))
        go_wp2
        go_ret
        exact ⟨by rw [M1.out]; rfl, HB.out.trans (L5.out.lower (m := w.heap.size) hwz)⟩
    · have hji : ¬ ((j : Int) < (f.sub.length : Int)) := by omega
      have hfin : allUsual (usuals f.sub) t.l = true := allUsual_all f.sub t.l fun k y hy => K1.out k y (by have := (List.getElem?_eq_some_iff.1 hy).1; omega) hy
      have M1 := Lib.hid hfin
      have y2 : wr.cell? ⟨w.heap.size + 1, 4, none⟩ = some (.slice a3 t.u.length c3) := ((bcell K2.out).1 _ _ (by omega)).trans (Q2.out 4)
      have c1 : wr.cell? ⟨w.heap.size, 7, none⟩ = some (.slice p f.sub.length c) := ((bcell K2.out).1 _ _ (by omega)).trans r7
      clear hfin
      go_wp2_with fail
      refine (unknown_any wr wr.heap.size (Nat.le_refl _) _ _ f.sub t.u (HF.out.stay K3.out) HG.out (HU.out.stay K3.out).v).mono ?_
      rintro e w2 ⟨v2, rfl, huv, hbel⟩
      obtain ⟨a9, c9, rfl⟩ := huv.len
      have hem : (((unknown (known f.sub) t.u).length : Int) == 0) = (unknown (known f.sub) t.u).isEmpty := by
        cases unknown (known f.sub) t.u with
        | nil => rfl
        | cons a l => rw [Bool.eq_iff_iff]; simp; omega
      have M2 := Lib.hid hem
      have M3 := Lib.hid (K3.out.trans (hbel.lower (m := w.heap.size) (by omega)))
      clear hem huv hbel
      go_wp2
      go_ret
      exact ⟨by rw [M1.out, Bool.true_and, ← M2.out]; rfl, M3.out⟩

mutual
/-- The tags' numbers fit, at every depth. -/
def tagsF : F → Bool
  | .mk _ _ _ _ _ _ _ sub => tagsFs sub
def tagsFs : List F → Bool
  | [] => true
  | f :: fs => decide (f.tag < 4294967295) && tagsF f && tagsFs fs
end
theorem tagsFs_tag {fs : List F} (h : tagsFs fs = true) : ∀ f ∈ fs, f.tag < 4294967295 := by
  induction fs with
  | nil => intro f hf; cases hf
  | cons a fs ih =>
    simp only [tagsFs, Bool.and_eq_true, decide_eq_true_eq] at h
    intro f hf
    rcases List.mem_cons.1 hf with rfl | hf
    · exact h.1.1
    · exact ih h.2 f hf
theorem usual_step (f : F) (hsub : ∀ (k : Nat) g, f.sub[k]? = some g → UsualOk g) (htg : ∀ g ∈ f.sub, g.tag < 4294967295) : UsualOk f := by
  by_cases h0 : f.kind = 0
  · exact usual_bool f h0
  by_cases h7 : f.kind = 7
  · exact usual_uuid f h7
  by_cases h8 : f.kind = 8
  · exact usual_text f (.inl h8)
  by_cases h9 : f.kind = 9
  · exact usual_text f (.inr h9)
  by_cases h11 : f.kind = 11
  · exact usual_list f h11
  by_cases h10 : f.kind = 10
  · exact usual_struct f h10 hsub htg
  · exact usual_num f ⟨h0, h7, h8, h9, h10, h11⟩
mutual
theorem usual_ok : ∀ f : F, tagsF f = true → UsualOk f
  | .mk kind frm to null tag dflt of sub, h => by
    rw [tagsF] at h
    exact usual_step _ (usuals_ok sub h) (tagsFs_tag h)
theorem usuals_ok : ∀ fs : List F, tagsFs fs = true → ∀ (k : Nat) g, fs[k]? = some g → UsualOk g
  | [], _, _, _, h => by simp at h
  | f :: fs, h, k, g, hg => by
    simp only [tagsFs, Bool.and_eq_true] at h
    cases k with
    | zero =>
      simp only [List.getElem?_cons_zero, Option.some.injEq] at hg
      subst hg
      exact usual_ok f h.1.2
    | succ k => exact usuals_ok fs h.2 k g (by simpa using hg)
end
end Go.Proofs.YtoklbgdafnminaaGreatDoor
/-
  What is written of a part, piece by piece. Conditions: none.
-/
namespace Go.Proofs.YtoklbgdafnminaaGreatDoor
open Kz

theorem plainW_snoc (v : Int) (flex : Bool) : ∀ (fs : List F) (f : F) (ts : List T), plainW v (fs ++ [f]) (wrs v flex (fs ++ [f])) ts = plainW v fs (wrs v flex fs) ts ++ (if f.tag < 0 ∧ f.has v then wr v flex f (ts.getD fs.length T.zero) else [])
  | [], f, ts => by
    cases ts <;> simp [plainW, wrs]
  | g :: fs, f, ts => by
    have ih := plainW_snoc v flex fs f ts.tail
    simp only [List.cons_append, wrs, plainW, ih, List.append_assoc, List.length_cons]
    cases ts <;> simp
theorem tagW_snoc (v : Int) (flex : Bool) (tag : Nat) : ∀ (fs : List F) (f : F) (ts : List T), tagW tag (fs ++ [f]) (wrs v flex (fs ++ [f])) (usuals (fs ++ [f])) ts =
    tagW tag fs (wrs v flex fs) (usuals fs) ts ++ (if f.tag = tag ∧ ¬ Kz.usual f (ts.getD fs.length T.zero) = true then [(tag, wr v flex f (ts.getD fs.length T.zero))] else [])
  | [], f, ts => by
    cases ts <;> simp [tagW, wrs, usuals]
  | g :: fs, f, ts => by
    have ih := tagW_snoc v flex tag fs f ts.tail
    simp only [List.cons_append, wrs, usuals, tagW, ih, List.append_assoc, List.length_cons]
    cases ts <;> simp
/-- The plain fields, as far as number j. -/
def plainTo (v : Int) (flex : Bool) (fs : List F) (ts : List T) (j : Nat) : List UInt8 := plainW v (fs.take j) (wrs v flex (fs.take j)) ts
theorem plainTo_zero (v : Int) (flex : Bool) (fs : List F) (ts : List T) : plainTo v flex fs ts 0 = [] := by simp [plainTo, plainW, wrs]
theorem plainTo_all (v : Int) (flex : Bool) (fs : List F) (ts : List T) : plainTo v flex fs ts fs.length = plainW v fs (wrs v flex fs) ts := by simp [plainTo]
theorem plainTo_step (v : Int) (flex : Bool) (fs : List F) (ts : List T) (j : Nat) (h : j < fs.length) :
    plainTo v flex fs ts (j + 1) = plainTo v flex fs ts j ++ (if fs[j].tag < 0 ∧ fs[j].has v then wr v flex fs[j] (ts.getD j T.zero) else []) := by
  unfold plainTo
  rw [List.take_succ_eq_append_getElem h, plainW_snoc, List.length_take, Nat.min_eq_left (by omega)]
/-- The known tags below a number, and of that number as far as field number j. -/
def tagsTo (v : Int) (flex : Bool) (fs : List F) (ts : List T) (k j : Nat) : List (Nat × List UInt8) :=
  ((List.range k).flatMap fun tag => tagW tag fs (wrs v flex fs) (usuals fs) ts) ++ tagW k (fs.take j) (wrs v flex (fs.take j)) (usuals (fs.take j)) ts
theorem tagsTo_zero (v : Int) (flex : Bool) (fs : List F) (ts : List T) : tagsTo v flex fs ts 0 0 = [] := by simp [tagsTo, tagW, wrs, usuals]
theorem tagsTo_next (v : Int) (flex : Bool) (fs : List F) (ts : List T) (k : Nat) : tagsTo v flex fs ts (k + 1) 0 = tagsTo v flex fs ts k fs.length := by
  simp [tagsTo, List.range_succ, tagW, wrs, usuals]
theorem tagsTo_all (v : Int) (flex : Bool) (fs : List F) (ts : List T) : tagsTo v flex fs ts (known fs) 0 = knownW fs (wrs v flex fs) (usuals fs) ts := by
  simp [tagsTo, knownW, tagW, wrs, usuals]
theorem tagsTo_step (v : Int) (flex : Bool) (fs : List F) (ts : List T) (k j : Nat) (h : j < fs.length) :
    tagsTo v flex fs ts k (j + 1) = tagsTo v flex fs ts k j ++ (if fs[j].tag = k ∧ ¬ Kz.usual fs[j] (ts.getD j T.zero) = true then [(k, wr v flex fs[j] (ts.getD j T.zero))] else []) := by
  unfold tagsTo
  rw [List.take_succ_eq_append_getElem h, tagW_snoc, List.length_take, Nat.min_eq_left (by omega), List.append_assoc]
theorem rise {L : Nat → Nat} {n : Nat} (h : ∀ j, j < n → L j ≤ L (j + 1)) : ∀ d j, j + d = n → L j ≤ L n
  | 0, j, e => by rw [show j = n by omega]; exact Nat.le_refl _
  | d + 1, j, e => Nat.le_trans (h j (by omega)) (rise h d (j + 1) (by omega))
theorem plainTo_le (v : Int) (flex : Bool) (fs : List F) (ts : List T) (j : Nat) (h : j ≤ fs.length) : (plainTo v flex fs ts j).length ≤ (plainW v fs (wrs v flex fs) ts).length := by
  rw [← plainTo_all]
  refine rise (L := fun j => (plainTo v flex fs ts j).length) (fun j hj => ?_) (fs.length - j) j (by omega)
  simp only [plainTo_step v flex fs ts j hj, List.length_append]
  omega
/-- How many octets tags have. -/
def tlen (l : List (Nat × List UInt8)) : Nat := (l.flatMap tagB).length
theorem tlen_append (a b : List (Nat × List UInt8)) : tlen (a ++ b) = tlen a + tlen b := by simp [tlen, List.flatMap_append]
theorem uvF_pos (k n : Nat) : 1 ≤ (uvF (k + 1) n).length := by
  rw [uvF]
  split <;> simp
theorem uv_pos (n : Nat) : 1 ≤ (uv n).length := uvF_pos 9 n
theorem tlen_many (l : List (Nat × List UInt8)) : l.length ≤ tlen l := by
  induction l with
  | nil => simp
  | cons a l ih =>
    have h1 := uv_pos a.1
    have e : a :: l = [a] ++ l := rfl
    rw [e, tlen_append]
    simp only [tlen, List.flatMap_cons, List.flatMap_nil, List.append_nil, tagB, List.length_append, List.length_cons, List.length_nil] at ih ⊢
    omega
theorem tagsTo_rise (v : Int) (flex : Bool) (fs : List F) (ts : List T) (k j : Nat) (h : j ≤ fs.length) : tlen (tagsTo v flex fs ts k j) ≤ tlen (tagsTo v flex fs ts (k + 1) 0) := by
  rw [tagsTo_next]
  refine rise (L := fun j => tlen (tagsTo v flex fs ts k j)) (fun j hj => ?_) (fs.length - j) j (by omega)
  simp only [tagsTo_step v flex fs ts k j hj, tlen_append]
  omega
theorem tagsTo_le (v : Int) (flex : Bool) (fs : List F) (ts : List T) (k j : Nat) (hk : k < known fs) (h : j ≤ fs.length) : tlen (tagsTo v flex fs ts k j) ≤ tlen (knownW fs (wrs v flex fs) (usuals fs) ts) := by
  refine Nat.le_trans (tagsTo_rise v flex fs ts k j h) ?_
  rw [← tagsTo_all]
  exact rise (L := fun k => tlen (tagsTo v flex fs ts k 0)) (fun k _ => tagsTo_rise v flex fs ts k 0 (Nat.zero_le _)) (known fs - (k + 1)) (k + 1) (by omega)
theorem part_eq (v : Int) (flex : Bool) (fs : List F) (t : T) : Kz.part v flex fs t = plainW v fs (wrs v flex fs) t.l ++ if flex then tagsB (knownW fs (wrs v flex fs) (usuals fs) t.l ++ (unknown (known fs) t.u).map whole2) else [] := rfl
theorem tagsB_eq (l : List (Nat × List UInt8)) : tagsB l = uv l.length ++ l.flatMap tagB := rfl
end Go.Proofs.YtoklbgdafnminaaGreatDoor
/-
  The reference's parts. Conditions: none.
-/
namespace Go.Proofs.YtoklbgdafnminaaGreatDoor
open Go.RowKit
open Kz

theorem cell_grown {w w' : World} {r : Option Nat} {b k : Nat} (hg : w.grownBy w' r) (h : some b ≠ r) (hb : b < w.heap.size) : w'.cell? ⟨b, k, none⟩ = w.cell? ⟨b, k, none⟩ := World.cell?_of_block (hg.block b hb h)
theorem OwnB.lt {w : World} {base : Nat} {v : Value} {bs : List UInt8} (h : OwnB w base v bs) : ∀ k, v.ownBlock = some k → base ≤ k ∧ k < w.heap.size := fun k hk => World.ownsRow.lt h k hk
/-- What is one's own there. -/
theorem OwnB.stay {w w' : World} {base : Nat} {v : Value} {bs : List UInt8} (h : OwnB w base v bs) (hb : Below w.heap.size w w') : OwnB w' base v bs := h.grown fun k hk => hb.block k hk

/-- Octets are appended; where the row lies behind it. -/
theorem append_at {w : World} {base : Nat} {v u : Value} {bs out : List UInt8} {ty : TypeId} (h : OwnB w base v bs) (hu : BT w u out) (hl : bs.length + out.length ≤ lim) (hb : base ≤ w.heap.size) :
    ∃ v' w', (Builtin.append_ #[22, 22] ty #[v, u]).run Tryz.prog w = .ok v' w' ∧ OwnB w' base v' (bs ++ out) ∧ w.grownBy w' v.ownBlock ∧ ∀ g, v'.ownBlock = some g → v.ownBlock = some g ∨ g = w.heap.size := by
  have hi : (Tryz.prog.info? 5).map (fun i => (i.zero, i.size, i.bytes)) = some (some (.int .u8 0), 1, 1) := by kernel_rfl
  obtain ⟨i, hi, hz, hsz, hby⟩ := info_parts hi
  have main : ∀ (ad : Addr) (c : Nat), (∀ (j : Nat) b, out[j]? = some b → w.cell? (ad.add j) = some (bv b)) → u = .slice (some ad) out.length c →
      ∃ v' w', (Builtin.append_ #[22, 22] ty #[v, u]).run Tryz.prog w = .ok v' w' ∧ OwnB w' base v' (bs ++ out) ∧ w.grownBy w' v.ownBlock ∧ ∀ g, v'.ownBlock = some g → v.ownBlock = some g ∨ g = w.heap.size := by
    rintro ad c hc rfl
    simp only [lim] at hl
    obtain ⟨v', w', h1, h2, h3, -, h5⟩ := run_append_own_at (P := Tryz.prog) w base 22 ty 5 i (.int .u8 0) 1 1 Tryz.underlying22 hi hz hsz hby rfl (by decide) v bs.length (bs.map bv) h ad out.length c (out.map bv) (by simp)
      (fun j u hu => by
        rw [List.getElem?_map, Option.map_eq_some_iff] at hu
        obtain ⟨b, hb, rfl⟩ := hu
        exact hc j b hb)
      (fun u hu => by
        simp only [List.mem_map] at hu
        obtain ⟨b, -, rfl⟩ := hu
        rfl) (by simp only [maxLen]; omega) (by omega) hb
    refine ⟨v', w', h1, ?_, h3, fun g hg => ?_⟩
    · unfold OwnB
      rw [List.length_append, List.map_append]
      exact h2
    · rcases h5 with h5 | h5
      · exact .inl (h5 ▸ hg)
      · right
        rw [h5] at hg
        exact (Option.some.inj hg).symm
  rcases hu with ⟨ad, rfl, rfl⟩ | ⟨rfl, rfl⟩ | ⟨g, o, c, rfl, -, -, -, -, hc⟩
  · rcases ad with _ | ad
    · exact ⟨v, w, run_append_owned_none w base _ _ 5 i 1 Tryz.underlying22 hi v _ _ h, by rw [List.append_nil]; exact h, grownBy_refl _ _, fun g hg => .inl hg⟩
    · exact main ad 0 (fun j b hj => by simp at hj) rfl
  · exact ⟨v, w, run_append_owned_none w base _ _ 5 i 1 Tryz.underlying22 hi v _ _ h, by rw [List.append_nil]; exact h, grownBy_refl _ _, fun g hg => .inl hg⟩
  · exact main ⟨g, o, none⟩ c (fun j b hj => by rw [Addr.add_mid]; exact hc j b hj) rfl
theorem wpList_append_at {w : World} {ops : Array Oper} {rest : List Oper} {o : Oper} {a : Act} {Q : Exit → Act → World → Prop} (hgd : o.guard = none) (s x : Operand)
    (ho : o.op = .call { callee := .builtin .append, args := #[s, x], argTypes := #[22, 22] }) (base : Nat) (v u : Value) (bs out : List UInt8) (hs : a.eval s = v) (hx : a.eval x = u) (h : OwnB w base v bs) (hu : BT w u out)
    (hl : bs.length + out.length ≤ lim) (hb : base ≤ w.heap.size) (hk : ∀ v' w', OwnB w' base v' (bs ++ out) → w.grownBy w' v.ownBlock → (∀ g, v'.ownBlock = some g → v.ownBlock = some g ∨ g = w.heap.size) → wpList Tryz.prog ops Q rest (a.put o.dst v') w') : wpList Tryz.prog ops Q (o :: rest) a w := by
  obtain ⟨v', w', h1, h2, h3, h4⟩ := append_at (ty := o.type) h hu hl hb
  exact Lib.wpList_append_run w hgd s x _ _ ho _ _ hs hx v' w' h1 (hk v' w' h2 h3 h4)
theorem own_bt {w : World} {base : Nat} {v : Value} {bs : List UInt8} (h : OwnB w base v bs) : BT w v bs := .inr (own_at_bytes h)
/-- What is one's own lies between two numbers. -/
theorem own_between {w : World} {base : Nat} {v : Value} {bs : List UInt8} (h : OwnB w base v bs) : BytesAt w (fun g => base ≤ g ∧ g < w.heap.size) v bs := by
  rcases own_bytes h with h0 | ⟨g, o, c, h1, h2, h2', h3, h4, h5⟩
  · exact .inl h0
  · exact .inr ⟨g, o, c, h1, h2, h2', ⟨h.base g h3, h4⟩, h4, h5⟩
theorem BytesAt.on {w w' : World} {S : Nat → Prop} {v : Value} {bs : List UInt8} (h : BytesAt w S v bs) (hb : Below w.heap.size w w') : BytesAt w' S v bs := h.kept (row := none) (below_grown hb none) (fun _ _ => by simp)
theorem BytesAt.bt' {w : World} {S : Nat → Prop} {v : Value} {bs : List UInt8} (h : BytesAt w S v bs) : BT w v bs := .inr (h.mono fun _ _ => trivial)
theorem tagB_split (l : List (Nat × List UInt8)) (k : Nat) (B : List UInt8) : (l ++ [(k, B)]).flatMap tagB = l.flatMap tagB ++ uv k ++ uv B.length ++ B := by
  simp [List.flatMap_append, tagB]
theorem whole_bl (w : World) (n0 : Nat) (v : Value) (bs : List UInt8) (h : BL w n0 v bs) :
    Calls Tryz.prog 62 #[v] w fun e w' => ∃ v', e = .returned v' ∧ BL w n0 v' (bs.take most) ∧ w' = w := by
  rcases h with ⟨ad, rfl, rfl⟩ | ⟨rfl, rfl⟩ | ⟨g, o, c, rfl, h2, h2', h3, h4, h5⟩
  · exact (whole_zero w ad).mono fun e w' ⟨ad', he, hw⟩ => ⟨_, he, .inl ⟨ad', rfl, by simp⟩, hw⟩
  · exact (whole_zero w none).mono fun e w' ⟨ad', he, hw⟩ => ⟨_, he, .inl ⟨ad', rfl, by simp⟩, hw⟩
  · refine (whole_any w g o bs.length c h2).mono fun e w' ⟨he, hw⟩ => ⟨_, he, .inr (.inr ⟨g, o, c, ?_, ?_, h2', h3, h4, fun i b hi => ?_⟩), hw⟩
    · rw [List.length_take, Nat.min_comm]
    · rw [List.length_take]; omega
    · rw [List.getElem?_take] at hi
      split at hi
      · exact h5 i b hi
      · cases hi

theorem known_lt {fs : List F} (h : ∀ f ∈ fs, f.tag < 4294967295) : known fs < 4294967296 := by
  induction fs with
  | nil => simp [known]
  | cons f fs ih =>
    have h1 := h f (by simp)
    have h2 := ih fun g hg => h g (List.mem_cons_of_mem _ hg)
    rw [known]
    split <;> omega
theorem tlen_le {v : Int} {fs : List F} {t : T} (h : (Kz.part v true fs t).length ≤ lim) : (plainW v fs (wrs v true fs) t.l).length + (uv (knownW fs (wrs v true fs) (usuals fs) t.l ++ (unknown (known fs) t.u).map whole2).length).length + tlen (knownW fs (wrs v true fs) (usuals fs) t.l ++ (unknown (known fs) t.u).map whole2) ≤ lim := by
  rw [part_eq] at h
  simp only [if_true, tagsB_eq, List.length_append] at h
  simp only [tlen, List.length_append]
  omega
theorem tagB_len (a : Nat × List UInt8) : (tagB a).length = (uv a.1).length + (uv a.2.length).length + a.2.length := by simp only [tagB, List.length_append]

set_option maxRecDepth 100000 in
set_option maxHeartbeats 8000000 in
theorem part_step (fs : List F) (hF : ∀ (k : Nat) g, fs[k]? = some g → PartOk g.sub) (hU : ∀ (k : Nat) g, fs[k]? = some g → UsualOk g) (htg : ∀ g ∈ fs, g.tag < 4294967295) : PartOk fs := by
  intro w sv tv v flex t hf ht hl
  obtain ⟨p, c, rfl, h63, hp⟩ := hf.cell
  obtain ⟨s, l, u, rfl, h1, h2, h3⟩ := ht
  obtain ⟨a1, c1, rfl⟩ := h1.len
  obtain ⟨a2, c2, rfl⟩ := h2.len
  obtain ⟨a3, c3, rfl⟩ := h3.len
  have HT : Hid (TreeV w (treV t.n t.null (.slice a1 t.s.length c1) (.slice a2 t.l.length c2) (.slice a3 t.u.length c3)) t) := Lib.hid ⟨_, _, _, rfl, h1, h2, h3⟩
  have HUT := Lib.hid h3
  have HFL := Lib.hid hf
  have HP := Lib.hid hp
  have HL := Lib.hid hl
  have HPart := Lib.hid hF
  have HUs := Lib.hid hU
  have HTg := Lib.hid htg
  obtain ⟨q1, q3⟩ := last_box (Below.refl _ (w.alloc (.cells #[iv t.n, .slice a1 t.s.length c1, .bool t.null, .slice a2 t.l.length c2, .slice a3 t.u.length c3] 26)))
  have hB := below_push w.heap.size (Nat.le_refl _) (.cells #[iv t.n, .slice a1 t.s.length c1, .bool t.null, .slice a2 t.l.length c2, .slice a3 t.u.length c3] 26) rfl
  generalize hW : w.alloc (.cells #[iv t.n, .slice a1 t.s.length c1, .bool t.null, .slice a2 t.l.length c2, .slice a3 t.u.length c3] 26) = W at *
  have HB := Lib.hid hB
  have Q1 := Lib.hid q1
  have hwz : w.heap.size ≤ W.heap.size := hB.size
  clear hf h1 h2 h3 hp hB hF hU htg q1 hl
  go_enter Tryz.func26, Tryz.ntmps26
  go_wp2
  clear hW
  go_loopw [9, 23] (fun x i wr => ∃ j : Nat, i = .int .i64 (j : Int) ∧ j ≤ fs.length ∧ OwnB wr W.heap.size x (plainTo v flex fs t.l j) ∧ Below W.heap.size W wr) (fun _ i _ => fs.length - (intOf i).toNat)
  case atStart => exact ⟨0, rfl, Nat.zero_le _, by rw [plainTo_zero]; exact OwnB.nil _ _, Below.refl _ _⟩
  case round =>
    obtain ⟨j, rfl, hj, hown, hbel⟩ := hrel
    have K1 := Lib.hid hown
    have K2 := Lib.hid hbel
    have hsz : W.heap.size ≤ wr.heap.size := hbel.size
    have K3 : Hid (Below w.heap.size w wr) := Lib.hid (HB.out.trans (hbel.lower (m := w.heap.size) hwz))
    clear hown hbel
    by_cases hjl : j < fs.length
    · have hji : (j : Int) < (fs.length : Int) := by omega
      obtain ⟨g, o, rfl, hg, hpc⟩ := HP.out (by intro e; rw [e] at hjl; simp at hjl)
      obtain ⟨q, d, e0, e1, e2, e3, e4, e5, e6, e7, hfs⟩ := hpc j _ (List.getElem?_eq_getElem hjl)
      have hx : fs[j]? = some fs[j] := List.getElem?_eq_getElem hjl
      have hstep := plainTo_step v flex fs t.l j hjl
      rw [← (bcell K3.out).1 _ _ hg] at e0 e1 e2 e3 e4 e5 e6 e7
      generalize fs[j] = x at *
      have K4 := Lib.hid hx
      have K5 : Hid (FL wr (.slice q x.sub.length d) x.sub) := Lib.hid (hfs.stay K3.out)
      have KS := Lib.hid hstep
      obtain ⟨b1, b2⟩ := last_box (Below.refl _ (wr.alloc (.cells #[iv x.kind, iv x.frm, iv x.to, iv x.null, iv x.tag, iv x.dflt, iv x.of, .slice q x.sub.length d] 48)))
      have hB2 : Below wr.heap.size wr (wr.alloc (.cells #[iv x.kind, iv x.frm, iv x.to, iv x.null, iv x.tag, iv x.dflt, iv x.of, .slice q x.sub.length d] 48)) := below_push _ (Nat.le_refl _) _ rfl
      have y2' : ∀ k, wr.cell? ⟨w.heap.size, k, none⟩ = _ := fun k => ((bcell K2.out).1 _ _ (by omega)).trans (Q1.out k)
      have y2 : ∀ k, (wr.alloc (.cells #[iv x.kind, iv x.frm, iv x.to, iv x.null, iv x.tag, iv x.dflt, iv x.of, .slice q x.sub.length d] 48)).cell? ⟨w.heap.size, k, none⟩ = _ := fun k => ((bcell hB2).1 _ _ (by omega)).trans (y2' k)
      generalize hV : wr.alloc (.cells #[iv x.kind, iv x.frm, iv x.to, iv x.null, iv x.tag, iv x.dflt, iv x.of, .slice q x.sub.length d] 48) = V at *
      have K6 : Hid (Below W.heap.size W V) := Lib.hid (K2.out.trans (hB2.lower (m := W.heap.size) hsz))
      have K7 : Hid (Below w.heap.size w V) := Lib.hid (K3.out.trans (hB2.lower (m := w.heap.size) (by omega)))
      have K8 : Hid (FieldV V (fldV x (.slice q x.sub.length d)) x) := Lib.hid ⟨_, rfl, K5.out.stay hB2⟩
      have K9 : Hid (PartOk x.sub) := Lib.hid (HPart.out j x K4.out)
      have K10 : Hid (OwnB V W.heap.size u9 (plainTo v flex fs t.l j)) := Lib.hid (K1.out.stay hB2)
      have hVs : V.heap.size = wr.heap.size + 1 := by rw [← hV]; simp
      clear hpc hfs hB2 y2' hx hstep
      by_cases hc : x.tag < 0
      · by_cases hh : x.has v = true
        · have hst : plainTo v flex fs t.l (j + 1) = plainTo v flex fs t.l j ++ fieldW v flex x (Kz.part v flex x.sub) (t.l.getD j T.zero) := by rw [KS.out, if_pos ⟨hc, hh⟩, wr_field]
          have hle : (plainTo v flex fs t.l j).length + (fieldW v flex x (Kz.part v flex x.sub) (t.l.getD j T.zero)).length ≤ lim := by
            have k1 := plainTo_le v flex fs t.l (j + 1) hjl
            have k2 := HL.out
            rw [hst, List.length_append] at k1
            rw [part_eq, List.length_append] at k2
            omega
          have M1 := Lib.hid hst
          have M2 := Lib.hid hle
          clear hst hle
          go_wp2_with fail
          clear hV
          refine (has_any V x _ v).mono ?_
          rintro e V2 ⟨rfl, hb2⟩
          rw [hh]
          have b1' := fun k => ((bcell hb2).1 wr.heap.size k (show wr.heap.size < V.heap.size by omega)).trans (b1 k)
          have y2' := fun k => ((bcell hb2).1 w.heap.size k (show w.heap.size < V.heap.size by omega)).trans (y2 k)
          have L6 : Hid (Below W.heap.size W V2) := Lib.hid (K6.out.trans (hb2.lower (m := W.heap.size) (by omega)))
          have L7 : Hid (Below w.heap.size w V2) := Lib.hid (K7.out.trans (hb2.lower (m := w.heap.size) (by omega)))
          have L8 := Lib.hid (K8.out.stay hb2)
          have L10 := Lib.hid (K10.out.stay hb2)
          have L11 : V.heap.size ≤ V2.heap.size := hb2.size
          clear hb2 b1 y2
          go_wp2_with fail
          go_region_held3 (fun w' => (∀ k, w'.cell? ⟨wr.heap.size, k, none⟩ = (#[iv x.kind, iv x.frm, iv x.to, iv x.null, iv x.tag, iv x.dflt, iv x.of, .slice q x.sub.length d] : Array Value)[k]?) ∧ (∀ k, w'.cell? ⟨w.heap.size, k, none⟩ = (#[iv t.n, .slice a1 t.s.length c1, .bool t.null, .slice a2 t.l.length c2, .slice a3 t.u.length c3] : Array Value)[k]?)) (first | assumption | (refine ⟨?_, ?_⟩ <;> assumption)) (first
            | (refine step_append_octets rfl (.tmp 36) (.tmp 43) rfl W.heap.size u9 v4 (plainTo v flex fs t.l j) (fieldW v flex x (Kz.part v flex x.sub) (t.l.getD j T.zero)) rfl rfl N10.out (own_at_bytes N1.out) M2.out N2.out.size (fun v5 w5 hown5 hg5 => ?_);
               have hlt := N10.out.lt;
               have b1'''' := fun k => (cell_grown hg5 (fun e => by have := hlt _ e.symm; have := L10.out.lt _ e.symm; have := K1.out.lt _ e.symm; omega) (show wr.heap.size < w4.heap.size by omega)).trans (b1''' k);
               have y2'''' := fun k => (cell_grown hg5 (fun e => by have := hlt _ e.symm; omega) (show w.heap.size < w4.heap.size by omega)).trans (y2''' k);
               have P1 := Lib.hid hown5; have P2 := Lib.hid (N2.out.trans (below_growB N10.out N2.out.size hg5)); clear hown5 hg5)
            | (go_at_call 57; refine (at_any _ _ t j (HT.out.stay (below_todrew L7.out))).mono ?_; rintro e w3 ⟨v3, rfl, htv, hbel'⟩; have hbel := below_undrew hbel'; clear hbel';
               have b1'' := fun k => ((bcell hbel).1 wr.heap.size k (show wr.heap.size < V2.heap.size by omega)).trans (b1' k);
               have y2'' := fun k => ((bcell hbel).1 w.heap.size k (show w.heap.size < V2.heap.size by omega)).trans (y2' k);
               have O1 := Lib.hid htv; have O2 := Lib.hid (L6.out.trans (hbel.lower (m := W.heap.size) (show W.heap.size ≤ V2.heap.size by omega))); have O8 := Lib.hid (L8.out.stay hbel); have O10 := Lib.hid (L10.out.stay hbel); have O4 : V2.heap.size ≤ w3.heap.size := hbel.size; clear htv hbel)
            | (go_at_call 56; refine (field_any _ _ _ x v flex _ O8.out O1.out K9.out (Nat.le_trans (Nat.le_add_left _ _) M2.out)).mono ?_; rintro e w4 ⟨v4, rfl, hown, hbel⟩;
               have b1''' := fun k => ((bcell hbel).1 wr.heap.size k (show wr.heap.size < w3.heap.size by omega)).trans (b1'' k);
               have y2''' := fun k => ((bcell hbel).1 w.heap.size k (show w.heap.size < w3.heap.size by omega)).trans (y2'' k);
               have N1 := Lib.hid hown; have N2 := Lib.hid (O2.out.trans (hbel.lower (m := W.heap.size) (show W.heap.size ≤ w3.heap.size by omega))); have N10 := Lib.hid (O10.out.stay hbel); have N4 : w3.heap.size ≤ w4.heap.size := hbel.size; clear hown hbel))
          go_wp2
          go_roundw
          case rel => exact ⟨j + 1, by first | rfl | (congr 1; omega), by omega, by rw [M1.out]; exact P1.out, P2.out⟩
          case measure => simp only [intOf]; omega
        · have hh' : x.has v = false := by simpa using hh
          have hst : plainTo v flex fs t.l (j + 1) = plainTo v flex fs t.l j := by rw [KS.out, if_neg (by simp [hh']), List.append_nil]
          have M1 := Lib.hid hst
          clear hst hh
          go_wp2_with fail
          clear hV
          refine (has_any V x _ v).mono ?_
          rintro e V2 ⟨rfl, hb2⟩
          rw [hh']
          have L6 : Hid (Below W.heap.size W V2) := Lib.hid (K6.out.trans (hb2.lower (m := W.heap.size) (by omega)))
          have L10 := Lib.hid (K10.out.stay hb2)
          clear hb2 b1 y2
          go_wp2
          go_roundw
          case rel => exact ⟨j + 1, by first | rfl | (congr 1; omega), by omega, by rw [M1.out]; exact L10.out, L6.out⟩
          case measure => simp only [intOf]; omega
      · have hst : plainTo v flex fs t.l (j + 1) = plainTo v flex fs t.l j := by rw [KS.out, if_neg (by simp [hc]), List.append_nil]
        have M1 := Lib.hid hst
        clear hst
        go_wp2
        go_roundw
        case rel => exact ⟨j + 1, by first | rfl | (congr 1; omega), by omega, by rw [M1.out]; exact K10.out, K6.out⟩
        case measure => simp only [intOf]; omega
    · have hji : ¬ ((j : Int) < (fs.length : Int)) := by omega
      obtain rfl : j = fs.length := by omega
      have K4 : Hid (OwnB wr W.heap.size u9 (plainW v fs (wrs v flex fs) t.l)) := Lib.hid (by rw [← plainTo_all]; exact K1.out)
      clear K1
      cases flex with
      | false =>
        go_wp2
        go_ret
        refine ⟨u9, rfl, ?_, K3.out⟩
        have h := K4.out.low hwz
        rw [part_eq]
        simpa using h
      | true =>
        have HL2 := Lib.hid (tlen_le HL.out)
        have hkn := known_lt HTg.out
        go_wp2_with fail
        refine (known_any wr _ fs (HFL.out.stay K3.out) HTg.out).mono ?_
        rintro e W2 ⟨rfl, hb⟩
        have T1 := Lib.hid (K4.out.stay hb)
        have T2 : Hid (Below W.heap.size W W2) := Lib.hid (K2.out.trans (hb.lower (m := W.heap.size) hsz))
        have T3 : Hid (Below w.heap.size w W2) := Lib.hid (K3.out.trans (hb.lower (m := w.heap.size) (by omega)))
        have T4 : W.heap.size ≤ W2.heap.size := Nat.le_trans hsz hb.size
        have Q2 : Hid (∀ k, W2.cell? ⟨w.heap.size, k, none⟩ = (#[iv t.n, .slice a1 t.s.length c1, .bool t.null, .slice a2 t.l.length c2, .slice a3 t.u.length c3] : Array Value)[k]?) := Lib.hid fun k => ((bcell T2.out).1 _ _ (by omega)).trans (Q1.out k)
        clear hb K2 K3 K4 Q1
        go_wp2
        go_loopw [10, 11, 52] (fun x y i wr => ∃ k : Nat, i = .int .i64 (k : Int) ∧ k ≤ known fs ∧ OwnB wr W2.heap.size x ((tagsTo v true fs t.l k 0).flatMap tagB) ∧ y = .int .i64 ((tagsTo v true fs t.l k 0).length : Int) ∧ Below W2.heap.size W2 wr) (fun _ _ i _ => known fs - (intOf i).toNat)
        case atStart => exact ⟨0, rfl, Nat.zero_le _, by rw [tagsTo_zero]; exact OwnB.nil _ _, by rw [tagsTo_zero]; rfl, Below.refl _ _⟩
        case round =>
          obtain ⟨k, rfl, hk, hown, rfl, hbel⟩ := hrel
          have K1 := Lib.hid hown
          have K2 := Lib.hid hbel
          clear hown hbel
          by_cases hkl : k < known fs
          · have hkli : (k : Int) < (known fs : Int) := by omega
            go_wp2
            go_loopw [10, 11, 57] (fun x y i wr => ∃ j : Nat, i = .int .i64 (j : Int) ∧ j ≤ fs.length ∧ OwnB wr W2.heap.size x ((tagsTo v true fs t.l k j).flatMap tagB) ∧ y = .int .i64 ((tagsTo v true fs t.l k j).length : Int) ∧ Below W2.heap.size W2 wr) (fun _ _ i _ => fs.length - (intOf i).toNat)
            case atStart => exact ⟨0, rfl, Nat.zero_le _, K1.out, rfl, K2.out⟩
            case round =>
              obtain ⟨j, rfl, hj, hown, rfl, hbel⟩ := hrel
              have K1 := Lib.hid hown
              have K2 := Lib.hid hbel
              have hsz : W2.heap.size ≤ wr.heap.size := hbel.size
              have K3 : Hid (Below w.heap.size w wr) := Lib.hid (T3.out.trans (hbel.lower (m := w.heap.size) (by omega)))
              clear hown hbel
              by_cases hjl : j < fs.length
              · have hji : (j : Int) < (fs.length : Int) := by omega
                obtain ⟨g, o, rfl, hg, hpc⟩ := HP.out (by intro e; rw [e] at hjl; simp at hjl)
                obtain ⟨q, d, e0, e1, e2, e3, e4, e5, e6, e7, hfs⟩ := hpc j _ (List.getElem?_eq_getElem hjl)
                have hx : fs[j]? = some fs[j] := List.getElem?_eq_getElem hjl
                have hstep := tagsTo_step v true fs t.l k j hjl
                have hle := tagsTo_le v true fs t.l k (j + 1) hkl hjl
                rw [← (bcell K3.out).1 _ _ hg] at e0 e1 e2 e3 e4 e5 e6 e7
                generalize fs[j] = x at *
                have K4 := Lib.hid hx
                have K5 : Hid (FL wr (.slice q x.sub.length d) x.sub) := Lib.hid (hfs.stay K3.out)
                have KS := Lib.hid hstep
                have KL := Lib.hid hle
                obtain ⟨b1, b2⟩ := last_box (Below.refl _ (wr.alloc (.cells #[iv x.kind, iv x.frm, iv x.to, iv x.null, iv x.tag, iv x.dflt, iv x.of, .slice q x.sub.length d] 48)))
                have hB2 : Below wr.heap.size wr (wr.alloc (.cells #[iv x.kind, iv x.frm, iv x.to, iv x.null, iv x.tag, iv x.dflt, iv x.of, .slice q x.sub.length d] 48)) := below_push _ (Nat.le_refl _) _ rfl
                have y2' : ∀ k, wr.cell? ⟨w.heap.size, k, none⟩ = _ := fun k => ((bcell K2.out).1 _ _ (by omega)).trans (Q2.out k)
                have y2 : ∀ k, (wr.alloc (.cells #[iv x.kind, iv x.frm, iv x.to, iv x.null, iv x.tag, iv x.dflt, iv x.of, .slice q x.sub.length d] 48)).cell? ⟨w.heap.size, k, none⟩ = _ := fun k => ((bcell hB2).1 _ _ (by omega)).trans (y2' k)
                generalize hV : wr.alloc (.cells #[iv x.kind, iv x.frm, iv x.to, iv x.null, iv x.tag, iv x.dflt, iv x.of, .slice q x.sub.length d] 48) = V at *
                have K6 : Hid (Below W2.heap.size W2 V) := Lib.hid (K2.out.trans (hB2.lower (m := W2.heap.size) hsz))
                have K7 : Hid (Below w.heap.size w V) := Lib.hid (K3.out.trans (hB2.lower (m := w.heap.size) (by omega)))
                have K8 : Hid (FieldV V (fldV x (.slice q x.sub.length d)) x) := Lib.hid ⟨_, rfl, K5.out.stay hB2⟩
                have K9 : Hid (PartOk x.sub) := Lib.hid (HPart.out j x K4.out)
                have KU : Hid (UsualOk x) := Lib.hid (HUs.out j x K4.out)
                have K10 : Hid (OwnB V W2.heap.size u10 ((tagsTo v true fs t.l k j).flatMap tagB)) := Lib.hid (K1.out.stay hB2)
                have hVs : V.heap.size = wr.heap.size + 1 := by rw [← hV]; simp
                clear hpc hfs hB2 y2' hx hstep hle
                by_cases hc : x.tag = (k : Int)
                · have HC := Lib.hid hc
                  have hcb : (x.tag == (k : Int)) = true := by simp [hc]
                  have hcd : decide (x.tag = (k : Int)) = true := by simp [hc]
                  clear hc
                  cases hu : Kz.usual x (t.l.getD j T.zero) with
                  | true =>
                    have hst : tagsTo v true fs t.l k (j + 1) = tagsTo v true fs t.l k j := by rw [KS.out, if_neg (fun h => h.2 hu), List.append_nil]
                    have M1 := Lib.hid hst
                    clear hst
                    go_wp2_with fail
                    clear hV
                    go_region_held3 (fun w' => (∀ k, w'.cell? ⟨wr.heap.size, k, none⟩ = (#[iv x.kind, iv x.frm, iv x.to, iv x.null, iv x.tag, iv x.dflt, iv x.of, .slice q x.sub.length d] : Array Value)[k]?) ∧ (∀ k, w'.cell? ⟨w.heap.size, k, none⟩ = (#[iv t.n, .slice a1 t.s.length c1, .bool t.null, .slice a2 t.l.length c2, .slice a3 t.u.length c3] : Array Value)[k]?)) (first | assumption | (refine ⟨?_, ?_⟩ <;> assumption)) (first
                      | (go_at_call 57; refine (at_any _ _ t j (HT.out.stay (below_todrew K7.out))).mono ?_; rintro e w2 ⟨v2, rfl, htv, hbel'⟩; have hbel := below_undrew hbel'; clear hbel';
                         have b1' := fun k => ((bcell hbel).1 wr.heap.size k (show wr.heap.size < V.heap.size by omega)).trans (b1 k);
                         have y2' := fun k => ((bcell hbel).1 w.heap.size k (show w.heap.size < V.heap.size by omega)).trans (y2 k);
                         have L1 := Lib.hid htv; have L2 := Lib.hid (K6.out.trans (hbel.lower (m := W2.heap.size) (show W2.heap.size ≤ V.heap.size by omega))); have L3 := Lib.hid (K8.out.stay hbel); have L5 := Lib.hid (K10.out.stay hbel); have L4 : V.heap.size ≤ w2.heap.size := hbel.size; clear htv hbel)
                      | (go_at_call 59; refine (KU.out _ _ _ _ L3.out L1.out).mono ?_; rintro e w3 ⟨he, hbel⟩; rw [hu] at he; subst he;
                         have b1'' := fun k => ((bcell hbel).1 wr.heap.size k (show wr.heap.size < w2.heap.size by omega)).trans (b1' k);
                         have y2'' := fun k => ((bcell hbel).1 w.heap.size k (show w.heap.size < w2.heap.size by omega)).trans (y2' k);
                         have L6 := Lib.hid (L5.out.stay hbel); have L7 := Lib.hid (L2.out.trans (hbel.lower (m := W2.heap.size) (show W2.heap.size ≤ w2.heap.size by omega))); clear hbel))
                    go_wp2
                    go_roundw
                    case rel => exact ⟨j + 1, by first | rfl | (congr 1; omega), by omega, by rw [M1.out]; exact L6.out, by rw [M1.out], L7.out⟩
                    case measure => simp only [intOf]; omega
                  | false =>
                    have hst : tagsTo v true fs t.l k (j + 1) = tagsTo v true fs t.l k j ++ [(k, fieldW v true x (Kz.part v true x.sub) (t.l.getD j T.zero))] := by rw [KS.out, if_pos ⟨HC.out, by rw [hu]; exact Bool.false_ne_true⟩, wr_field]
                    have M1 := Lib.hid hst
                    have hlen : tlen (tagsTo v true fs t.l k j) + ((uv k).length + (uv (fieldW v true x (Kz.part v true x.sub) (t.l.getD j T.zero)).length).length + (fieldW v true x (Kz.part v true x.sub) (t.l.getD j T.zero)).length) ≤ lim := by
                      have k1 := KL.out
                      have k2 := HL2.out
                      rw [hst, tlen_append] at k1
                      rw [tlen_append] at k2
                      have k3 : tlen [(k, fieldW v true x (Kz.part v true x.sub) (t.l.getD j T.zero))] = (tagB (k, fieldW v true x (Kz.part v true x.sub) (t.l.getD j T.zero))).length := by simp [tlen]
                      rw [k3, tagB_len] at k1
                      simp only at k1
                      omega
                    have M2 := Lib.hid hlen
                    clear hst hlen
                    go_wp2_with fail
                    clear hV
                    go_region_held3 (fun w' => (∀ k, w'.cell? ⟨wr.heap.size, k, none⟩ = (#[iv x.kind, iv x.frm, iv x.to, iv x.null, iv x.tag, iv x.dflt, iv x.of, .slice q x.sub.length d] : Array Value)[k]?) ∧ (∀ k, w'.cell? ⟨w.heap.size, k, none⟩ = (#[iv t.n, .slice a1 t.s.length c1, .bool t.null, .slice a2 t.l.length c2, .slice a3 t.u.length c3] : Array Value)[k]?)) (first | assumption | (refine ⟨?_, ?_⟩ <;> assumption)) (first
                      | (go_at_call 57; refine (at_any _ _ t j (HT.out.stay (below_todrew K7.out))).mono ?_; rintro e w2 ⟨v2, rfl, htv, hbel'⟩; have hbel := below_undrew hbel'; clear hbel';
                         have b1' := fun k => ((bcell hbel).1 wr.heap.size k (show wr.heap.size < V.heap.size by omega)).trans (b1 k);
                         have y2' := fun k => ((bcell hbel).1 w.heap.size k (show w.heap.size < V.heap.size by omega)).trans (y2 k);
                         have L1 := Lib.hid htv; have L2 := Lib.hid (K6.out.trans (hbel.lower (m := W2.heap.size) (show W2.heap.size ≤ V.heap.size by omega))); have L3 := Lib.hid (K8.out.stay hbel); have L5 := Lib.hid (K10.out.stay hbel); have L4 : V.heap.size ≤ w2.heap.size := hbel.size; clear htv hbel)
                      | (go_at_call 59; refine (KU.out _ _ _ _ L3.out L1.out).mono ?_; rintro e w3 ⟨he, hbel⟩; rw [hu] at he; subst he;
                         have b1'' := fun k => ((bcell hbel).1 wr.heap.size k (show wr.heap.size < w2.heap.size by omega)).trans (b1' k);
                         have y2'' := fun k => ((bcell hbel).1 w.heap.size k (show w.heap.size < w2.heap.size by omega)).trans (y2' k);
                         have L6 := Lib.hid (L5.out.stay hbel); have L7 := Lib.hid (L2.out.trans (hbel.lower (m := W2.heap.size) (show W2.heap.size ≤ w2.heap.size by omega))); have L8 := Lib.hid (L3.out.stay hbel); have L9 : w2.heap.size ≤ w3.heap.size := hbel.size; clear hbel))
                    have L10 : Hid (Below w.heap.size w w3) := Lib.hid (T3.out.trans (L7.out.lower (m := w.heap.size) (by omega)))
                    clear b1 y2 b1' y2'
                    go_wp2_with fail
                    go_region_held3 (fun w' => (∀ k, w'.cell? ⟨wr.heap.size, k, none⟩ = (#[iv x.kind, iv x.frm, iv x.to, iv x.null, iv x.tag, iv x.dflt, iv x.of, .slice q x.sub.length d] : Array Value)[k]?) ∧ (∀ k, w'.cell? ⟨w.heap.size, k, none⟩ = (#[iv t.n, .slice a1 t.s.length c1, .bool t.null, .slice a2 t.l.length c2, .slice a3 t.u.length c3] : Array Value)[k]?)) (first | assumption | (refine ⟨?_, ?_⟩ <;> assumption)) (first
                      | (go_at_call 57; refine (at_any _ _ t j (HT.out.stay (below_todrew L10.out))).mono ?_; rintro e w4 ⟨v4, rfl, htv, hbel'⟩; have hbel := below_undrew hbel'; clear hbel';
                         have z1' := fun k => ((bcell hbel).1 wr.heap.size k (show wr.heap.size < w3.heap.size by omega)).trans (b1'' k);
                         have z2' := fun k => ((bcell hbel).1 w.heap.size k (show w.heap.size < w3.heap.size by omega)).trans (y2'' k);
                         have O1 := Lib.hid htv; have O2 := Lib.hid (L7.out.trans (hbel.lower (m := W2.heap.size) (show W2.heap.size ≤ w3.heap.size by omega))); have O3 := Lib.hid (L8.out.stay hbel); have O5 := Lib.hid (L6.out.stay hbel); have O4 : w3.heap.size ≤ w4.heap.size := hbel.size; clear htv hbel)
                      | (go_at_call 56; refine (field_any _ _ _ x v true _ O3.out O1.out K9.out (by have := M2.out; omega)).mono ?_; rintro e w5 ⟨v5, rfl, hown, hbel⟩;
                         have z1'' := fun k => ((bcell hbel).1 wr.heap.size k (show wr.heap.size < w4.heap.size by omega)).trans (z1' k);
                         have z2'' := fun k => ((bcell hbel).1 w.heap.size k (show w.heap.size < w4.heap.size by omega)).trans (z2' k);
                         have N1 := Lib.hid (own_between hown); have N2 := Lib.hid (O2.out.trans (hbel.lower (m := W2.heap.size) (show W2.heap.size ≤ w4.heap.size by omega))); have N10 := Lib.hid (O5.out.stay hbel); have N4 : w4.heap.size ≤ w5.heap.size := hbel.size; have N5 := Lib.hid (row_form hown); clear hown hbel))
                    obtain ⟨p5, c5, rfl, -⟩ := N5.out
                    generalize fieldW v true x (Kz.part v true x.sub) (t.l.getD j T.zero) = B at *
                    have hB63 : B.length ≤ 9223372036854775807 := by have := M2.out; simp only [lim] at this; omega
                    clear b1'' y2'' z1' z2' z1'' z2'' e0 e1 e2 e3 e4 e5 e6 e7
                    go_wp2_with fail
                    refine (specUv_any _ k (by omega)).mono ?_
                    rintro e w6 ⟨v6, rfl, hown6, hbel6⟩
                    have R1 := Lib.hid (N10.out.stay hbel6)
                    have R2 := Lib.hid (own_bt hown6)
                    have R3 := Lib.hid (N1.out.on hbel6)
                    have R4 := Lib.hid (N2.out.trans (hbel6.lower (m := W2.heap.size) N2.out.size))
                    have R5 : w5.heap.size ≤ w6.heap.size := hbel6.size
                    clear hown6 hbel6
                    go_wp2_with (at_builtin; refine wpList_append_at rfl _ _ rfl W2.heap.size u10 v6 ((tagsTo v true fs t.l k j).flatMap tagB) (uv k) rfl rfl R1.out R2.out ?_ ?_ ?_)
                    · have := M2.out
                      simp only [tlen] at this
                      omega
                    · exact R4.out.size
                    · intro v7 w7 hown7 hg7 hat7
                      have hlt := K10.out.lt
                      have S1 := Lib.hid hown7
                      have S3 := Lib.hid (R3.out.kept hg7 (fun g hg e => by have := hlt g e.symm; have := hg.1; omega))
                      have S4 := Lib.hid (R4.out.trans (below_growB R1.out R4.out.size hg7))
                      have S5 := Lib.hid hat7
                      have S6 : w6.heap.size ≤ w7.heap.size := hg7.size
                      clear hown7 hg7 hat7 hlt
                      go_wp2_with fail
                      refine (specUv_any _ B.length (by omega)).mono ?_
                      rintro e w8 ⟨v8, rfl, hown8, hbel8⟩
                      have X1 := Lib.hid (S1.out.stay hbel8)
                      have X2 := Lib.hid (own_bt hown8)
                      have X3 := Lib.hid (S3.out.on hbel8)
                      have X4 := Lib.hid (S4.out.trans (hbel8.lower (m := W2.heap.size) S4.out.size))
                      clear hown8 hbel8
                      go_wp2_with (at_builtin; refine wpList_append_at rfl _ _ rfl W2.heap.size v7 v8 ((tagsTo v true fs t.l k j).flatMap tagB ++ uv k) (uv B.length) rfl rfl X1.out X2.out ?_ ?_ ?_)
                      · have := M2.out
                        simp only [tlen] at this
                        rw [List.length_append]
                        omega
                      · exact X4.out.size
                      · intro v9 w9 hown9 hg9 hat9
                        have hlt := K10.out.lt
                        have Y1 : Hid (OwnB w9 W2.heap.size v9 ((tagsTo v true fs t.l k j).flatMap tagB ++ uv k ++ uv B.length)) := Lib.hid (by simpa only [List.append_assoc] using hown9)
                        have Y3 := Lib.hid (X3.out.kept hg9 (fun g hg e => by
                          have h1 := hg.1
                          have h2 := hg.2
                          rcases S5.out g e.symm with h | h
                          · have := hlt g h; omega
                          · omega)).bt'
                        have Y4 := Lib.hid (X4.out.trans (below_growB X1.out X4.out.size hg9))
                        clear hown9 hg9 hat9 hlt
                        go_wp2_with (at_builtin; refine wpList_append_at rfl _ _ rfl W2.heap.size v9 (.slice p5 B.length c5) ((tagsTo v true fs t.l k j).flatMap tagB ++ uv k ++ uv B.length) B rfl rfl Y1.out Y3.out ?_ ?_ ?_)
                        · have := M2.out
                          simp only [tlen] at this
                          rw [List.length_append, List.length_append]
                          omega
                        · exact Y4.out.size
                        · intro v10 w10 hown10 hg10 hat10
                          have Z1 : Hid (OwnB w10 W2.heap.size v10 ((tagsTo v true fs t.l k j).flatMap tagB ++ uv k ++ uv B.length ++ B)) := Lib.hid (by simpa only [List.append_assoc] using hown10)
                          have Z4 := Lib.hid (Y4.out.trans (below_growB Y1.out Y4.out.size hg10))
                          have hmany : (tagsTo v true fs t.l k j).length ≤ 9223372036854775806 := by
                            have h1 := tlen_many (tagsTo v true fs t.l k j)
                            have h2 := M2.out
                            simp only [lim] at h2
                            omega
                          clear hown10 hg10 hat10
                          go_wp2
                          go_roundw
                          case rel => exact ⟨j + 1, by first | rfl | (congr 1; omega), by omega, by rw [M1.out, tagB_split]; exact Z1.out, by rw [M1.out]; simp, Z4.out⟩
                          case measure => simp only [intOf]; omega
                · have hst : tagsTo v true fs t.l k (j + 1) = tagsTo v true fs t.l k j := by rw [KS.out, if_neg (by simp [hc]), List.append_nil]
                  have M1 := Lib.hid hst
                  have hcb : (x.tag == (k : Int)) = false := by simp [hc]
                  have hcd : decide (x.tag = (k : Int)) = false := by simp [hc]
                  clear hst hc
                  go_wp2_with fail
                  clear hV
                  go_quiet (fail)
                  go_wp2
                  go_roundw
                  case rel => exact ⟨j + 1, by first | rfl | (congr 1; omega), by omega, by rw [M1.out]; exact K10.out, by rw [M1.out], below_drewN K6.out⟩
                  case measure => simp only [intOf]; omega
              · have hji : ¬ ((j : Int) < (fs.length : Int)) := by omega
                obtain rfl : j = fs.length := by omega
                go_wp2
                go_roundw
                case rel => exact ⟨k + 1, by first | rfl | (congr 1; omega), by omega, by rw [tagsTo_next]; exact K1.out, by rw [tagsTo_next], K2.out⟩
                case measure => simp only [intOf]; omega
          · have hkli : ¬ ((k : Int) < (known fs : Int)) := by omega
            obtain rfl : k = known fs := by omega
            obtain ⟨W3, hW3⟩ : ∃ x, x = wr := ⟨wr, rfl⟩
            subst hW3
            have G1 : Hid (OwnB W3 W2.heap.size u10 ((knownW fs (wrs v true fs) (usuals fs) t.l).flatMap tagB)) := Lib.hid (by rw [← tagsTo_all]; exact K1.out)
            have G0 := Lib.hid (congrArg List.length (tagsTo_all v true fs t.l))
            have hsz : W2.heap.size ≤ W3.heap.size := K2.out.size
            have K3 : Hid (Below w.heap.size w W3) := Lib.hid (T3.out.trans (K2.out.lower (m := w.heap.size) (by omega)))
            have y4 : W3.cell? ⟨w.heap.size, 4, none⟩ = some (.slice a3 t.u.length c3) := ((bcell K2.out).1 _ _ (by omega)).trans (Q2.out 4)
            have huv : UTagsV W3 w.heap.size 0 (.slice a3 t.u.length c3) t.u := HUT.out.v.stay K3.out (Nat.le_refl _)
            have HV := Lib.hid huv
            clear huv K1 Q2
            generalize hkw : knownW fs (wrs v true fs) (usuals fs) t.l = KW at *
            rw [G0.out]
            go_wp2_with fail
            refine (unknown_any W3 w.heap.size K3.out.size _ _ fs t.u (HFL.out.stay K3.out) HTg.out HV.out).mono ?_
            rintro e W4 ⟨v4, rfl, hres, hb⟩
            have hmost := unknown_len (known fs) t.u
            generalize hL : unknown (known fs) t.u = L at *
            obtain ⟨p4, c4, rfl, hc41, hc42, -, hpn, hpp⟩ := hres.cell
            have HPP := Lib.hid hpp
            have HPN : Hid (L ≠ [] → ∃ ad, p4 = some ad) := Lib.hid hpn
            have F1 := Lib.hid (G1.out.stay hb)
            have F2 : Hid (Below W2.heap.size W2 W4) := Lib.hid (K2.out.trans (hb.lower (m := W2.heap.size) hsz))
            have F3 : W3.heap.size ≤ W4.heap.size := hb.size
            have F4 := Lib.hid G1.out.lt
            have hL63 : L.length ≤ 9223372036854775807 := by simp only [most] at hmost; omega
            clear hres hpp hb HV y4 hpn
            go_wp2
            go_loopw [10, 11, 102] (fun x y i wx => ∃ j : Nat, i = .int .i64 (j : Int) ∧ j ≤ L.length ∧ OwnB wx W2.heap.size x ((KW ++ (L.take j).map whole2).flatMap tagB) ∧ y = .int .i64 ((KW.length + j : Nat) : Int) ∧ Below W2.heap.size W2 wx ∧ (∀ b, x.ownBlock = some b → b < W3.heap.size ∨ W4.heap.size ≤ b) ∧
              (∀ b, W3.heap.size ≤ b → b < W4.heap.size → wx.heap[b]? = W4.heap[b]?) ∧ W4.heap.size ≤ wx.heap.size) (fun _ _ i _ => L.length - (intOf i).toNat)
            case atStart => exact ⟨0, rfl, Nat.zero_le _, by simpa using F1.out, rfl, F2.out, fun b hb => .inl (F4.out b hb).2, fun _ _ _ => rfl, Nat.le_refl _⟩
            case round =>
              obtain ⟨j, rfl, hj, hown, rfl, hbel, hav, hrow, hgt⟩ := hrel
              have K1 := Lib.hid hown
              have K2 := Lib.hid hbel
              have KA := Lib.hid hav
              have KR := Lib.hid hrow
              have KO := Lib.hid hown.lt
              have hw2 : w.heap.size ≤ W2.heap.size := by omega
              clear hown hbel hav hrow
              by_cases hjl : j < L.length
              · have hji : (j : Int) < (L.length : Int) := by omega
                have hne : L ≠ [] := by intro e; rw [e] at hjl; simp at hjl
                obtain ⟨ad, rfl⟩ := HPN.out hne
                obtain ⟨g, o, rfl, hg1, hg2, hpc⟩ := HPP.out ad hne rfl
                have hx : L[j]? = some L[j] := List.getElem?_eq_getElem hjl
                have htk : (L.take (j + 1)).map whole2 = (L.take j).map whole2 ++ [(L[j].1, L[j].2.take most)] := by rw [List.take_succ_eq_append_getElem hjl, List.map_append]; rfl
                have hlen : tlen (KW ++ (L.take (j + 1)).map whole2) ≤ tlen (KW ++ L.map whole2) := by
                  have e : L.map whole2 = (L.take (j + 1)).map whole2 ++ (L.drop (j + 1)).map whole2 := by rw [← List.map_append, List.take_append_drop]
                  rw [e, ← List.append_assoc, tlen_append (KW ++ _)]
                  omega
                generalize hxx : L[j] = x at *
                obtain ⟨k, b⟩ := x
                simp only at htk
                obtain ⟨q, d, e0, e1, hbl, hk32⟩ := hpc j k b hx
                have e0 : wr.cell? ⟨g, o + j * 2, none⟩ = _ := (World.cell?_of_block (KR.out g hg1 hg2)).trans e0
                have e1 : wr.cell? ⟨g, o + j * 2 + 1, none⟩ = _ := (World.cell?_of_block (KR.out g hg1 hg2)).trans e1
                have K3 : Hid (Below w.heap.size w wr) := Lib.hid (T3.out.trans (K2.out.lower (m := w.heap.size) hw2))
                have K4 : Hid (Below w.heap.size w W4) := Lib.hid (T3.out.trans (F2.out.lower (m := w.heap.size) hw2))
                have K5 := Lib.hid (bl_over hbl K4.out K3.out (Nat.le_refl _))
                have M1 := Lib.hid htk
                have hle : tlen (KW ++ (L.take j).map whole2) + ((uv k).length + (uv (b.take most).length).length + (b.take most).length) ≤ lim := by
                  have k2 := HL2.out
                  rw [htk, ← List.append_assoc, tlen_append (KW ++ _)] at hlen
                  have k3 : tlen [(k, b.take most)] = (tagB (k, b.take most)).length := by simp [tlen]
                  rw [k3, tagB_len] at hlen
                  simp only at hlen
                  omega
                have hmany : KW.length + j ≤ 9223372036854775806 := by
                  have h1 := tlen_many (KW ++ (L.take j).map whole2)
                  rw [List.length_append, List.length_map, List.length_take, Nat.min_eq_left (by omega)] at h1
                  simp only [lim] at hle
                  omega
                have hle : ((KW ++ (L.take j).map whole2).flatMap tagB).length + ((uv k).length + (uv (b.take most).length).length + (b.take most).length) ≤ lim := hle
                have hsp : (KW ++ (L.take (j + 1)).map whole2).flatMap tagB = (KW ++ (L.take j).map whole2).flatMap tagB ++ uv k ++ uv (b.take most).length ++ b.take most := by rw [M1.out, ← List.append_assoc, tagB_split]
                have M3 := Lib.hid hsp
                clear hsp
                generalize (KW ++ (L.take j).map whole2).flatMap tagB = Pre at *
                have M2 := Lib.hid hle
                generalize hV : wr.alloc (.cells #[.int .u32 (k : Int), .slice q b.length d] 63) = V
                have hVb : Below wr.heap.size wr V := hV ▸ below_push _ (Nat.le_refl _) _ rfl
                have c0 : V.cell? ⟨wr.heap.size, 0, none⟩ = some (.int .u32 (k : Int)) := by rw [← hV]; exact cell_of_row _ _ _ _ _ _ (alloc_last wr _)
                have c1 : V.cell? ⟨wr.heap.size, 1, none⟩ = some (.slice q b.length d) := by rw [← hV]; exact cell_of_row _ _ _ _ _ _ (alloc_last wr _)
                have hVs : V.heap.size = wr.heap.size + 1 := by rw [← hV]; simp
                have K6 : Hid (Below W2.heap.size W2 V) := Lib.hid (K2.out.trans (hVb.lower (m := W2.heap.size) K2.out.size))
                have K7 : Hid (Below w.heap.size w V) := Lib.hid (K3.out.trans (hVb.lower (m := w.heap.size) K3.out.size))
                have K8 := Lib.hid (bl_over K5.out K3.out K7.out (Nat.le_refl _))
                have K9 := Lib.hid (K1.out.stay hVb)
                have K10 : Hid (∀ b, W3.heap.size ≤ b → b < W4.heap.size → V.heap[b]? = W4.heap[b]?) := Lib.hid fun b h1 h2 => (hVb.block b (by omega)).trans (KR.out b h1 h2)
                clear hpc hx htk hlen hbl hle hxx hVb
                go_wp2_with fail
                clear hV
                refine (whole_bl V _ _ b K8.out).mono ?_
                rintro e w2 ⟨v2, rfl, hv2, rfl⟩
                obtain ⟨p5, c5, rfl⟩ := hv2.bt.len
                have K11 := Lib.hid hv2
                have hB : (b.take most).length ≤ 32767 := by rw [List.length_take]; simp only [most]; omega
                generalize b.take most = B at *
                clear hv2
                go_wp2_with fail
                refine (specUv_any _ k (by omega)).mono ?_
                rintro e w6 ⟨v6, rfl, hown6, hbel6⟩
                have R1 := Lib.hid (K9.out.stay hbel6)
                have R2 := Lib.hid (own_bt hown6)
                have R4 := Lib.hid (K6.out.trans (hbel6.lower (m := W2.heap.size) K6.out.size))
                have R5 : w2.heap.size ≤ w6.heap.size := hbel6.size
                have R6 : Hid (∀ b, W3.heap.size ≤ b → b < W4.heap.size → w6.heap[b]? = W4.heap[b]?) := Lib.hid fun b h1 h2 => (hbel6.block b (by omega)).trans (K10.out b h1 h2)
                clear hown6 hbel6
                go_wp2_with (at_builtin; refine wpList_append_at rfl _ _ rfl W2.heap.size u10 v6 Pre (uv k) rfl rfl R1.out R2.out ?_ ?_ ?_)
                · have := M2.out
                  omega
                · exact R4.out.size
                · intro v7 w7 hown7 hg7 hat7
                  have S1 := Lib.hid hown7
                  have S4 := Lib.hid (R4.out.trans (below_growB R1.out R4.out.size hg7))
                  have S5 : Hid (∀ b, v7.ownBlock = some b → b < W3.heap.size ∨ W4.heap.size ≤ b) := Lib.hid fun b hb => by
                    rcases hat7 b hb with h | h
                    · exact KA.out b h
                    · right; omega
                  have S6 : w6.heap.size ≤ w7.heap.size := hg7.size
                  have S7 : Hid (∀ b, W3.heap.size ≤ b → b < W4.heap.size → w7.heap[b]? = W4.heap[b]?) := Lib.hid fun b h1 h2 => (hg7.block b (by omega) (fun e => by have := KA.out b e.symm; omega)).trans (R6.out b h1 h2)
                  clear hown7 hg7 hat7
                  go_wp2_with fail
                  refine (specUv_any _ B.length (by omega)).mono ?_
                  rintro e w8 ⟨v8, rfl, hown8, hbel8⟩
                  have X1 := Lib.hid (S1.out.stay hbel8)
                  have X2 := Lib.hid (own_bt hown8)
                  have X4 := Lib.hid (S4.out.trans (hbel8.lower (m := W2.heap.size) S4.out.size))
                  have X5 : w7.heap.size ≤ w8.heap.size := hbel8.size
                  have X7 : Hid (∀ b, W3.heap.size ≤ b → b < W4.heap.size → w8.heap[b]? = W4.heap[b]?) := Lib.hid fun b h1 h2 => (hbel8.block b (by omega)).trans (S7.out b h1 h2)
                  clear hown8 hbel8
                  go_wp2_with (at_builtin; refine wpList_append_at rfl _ _ rfl W2.heap.size v7 v8 (Pre ++ uv k) (uv B.length) rfl rfl X1.out X2.out ?_ ?_ ?_)
                  · have := M2.out
                    rw [List.length_append]
                    omega
                  · exact X4.out.size
                  · intro v9 w9 hown9 hg9 hat9
                    have Y1 : Hid (OwnB w9 W2.heap.size v9 (Pre ++ uv k ++ uv B.length)) := Lib.hid (by simpa only [List.append_assoc] using hown9)
                    have Y4 := Lib.hid (X4.out.trans (below_growB X1.out X4.out.size hg9))
                    have Y5 : Hid (∀ b, v9.ownBlock = some b → b < W3.heap.size ∨ W4.heap.size ≤ b) := Lib.hid fun b hb => by
                      rcases hat9 b hb with h | h
                      · exact S5.out b h
                      · right; omega
                    have Y6 : w8.heap.size ≤ w9.heap.size := hg9.size
                    have Y7 : Hid (∀ b, W3.heap.size ≤ b → b < W4.heap.size → w9.heap[b]? = W4.heap[b]?) := Lib.hid fun b h1 h2 => (hg9.block b (by omega) (fun e => by have := S5.out b e.symm; omega)).trans (X7.out b h1 h2)
                    have Y8 : Hid (Below w.heap.size w w9) := Lib.hid (T3.out.trans (Y4.out.lower (m := w.heap.size) hw2))
                    have Y3 := Lib.hid (bl_over K11.out K7.out Y8.out (Nat.le_refl _)).bt
                    clear hown9 hg9 hat9
                    go_wp2_with (at_builtin; refine wpList_append_at rfl _ _ rfl W2.heap.size v9 (.slice p5 B.length c5) (Pre ++ uv k ++ uv B.length) B rfl rfl Y1.out Y3.out ?_ ?_ ?_)
                    · have := M2.out
                      rw [List.length_append, List.length_append]
                      omega
                    · exact Y4.out.size
                    · intro v10 w10 hown10 hg10 hat10
                      have Z1 : Hid (OwnB w10 W2.heap.size v10 (Pre ++ uv k ++ uv B.length ++ B)) := Lib.hid (by simpa only [List.append_assoc] using hown10)
                      have Z4 := Lib.hid (Y4.out.trans (below_growB Y1.out Y4.out.size hg10))
                      have Z5 : Hid (∀ b, v10.ownBlock = some b → b < W3.heap.size ∨ W4.heap.size ≤ b) := Lib.hid fun b hb => by
                        rcases hat10 b hb with h | h
                        · exact Y5.out b h
                        · right; omega
                      have Z6 : w9.heap.size ≤ w10.heap.size := hg10.size
                      have Z7 : Hid (∀ b, W3.heap.size ≤ b → b < W4.heap.size → w10.heap[b]? = W4.heap[b]?) := Lib.hid fun b h1 h2 => (hg10.block b (by omega) (fun e => by have := Y5.out b e.symm; omega)).trans (Y7.out b h1 h2)
                      clear hown10 hg10 hat10
                      go_wp2
                      go_roundw
                      case rel => exact ⟨j + 1, by first | rfl | (congr 1; omega), by omega, by rw [M3.out]; exact Z1.out, by first | rfl | (congr 1; omega), Z4.out, Z5.out, Z7.out, by omega⟩
                      case measure => simp only [intOf]; omega
              · have hji : ¬ ((j : Int) < (L.length : Int)) := by omega
                obtain rfl : j = L.length := by omega
                have E1 : Hid (OwnB wr W2.heap.size u10 ((KW ++ L.map whole2).flatMap tagB)) := Lib.hid (by have := K1.out; rwa [List.take_length] at this)
                have hmany : KW.length + L.length ≤ 9223372036854775806 := by
                  have h1 := tlen_many (KW ++ L.map whole2)
                  have h2 := HL2.out
                  rw [List.length_append, List.length_map] at h1
                  simp only [lim] at h2
                  omega
                have hml : (KW ++ L.map whole2).length = KW.length + L.length := by rw [List.length_append, List.length_map]
                have HML := Lib.hid hml
                have hlen : (plainW v fs (wrs v true fs) t.l).length + (uv (KW.length + L.length)).length + ((KW ++ L.map whole2).flatMap tagB).length ≤ lim := by
                  have := HL2.out
                  rw [hml] at this
                  exact this
                have HLN := Lib.hid hlen
                clear hml hlen
                generalize hPost : (KW ++ L.map whole2).flatMap tagB = Post at *
                have HPost := Lib.hid hPost
                clear hPost
                go_wp2_with fail
                refine (specUv_any _ (KW.length + L.length) (by omega)).mono ?_
                rintro e w5 ⟨v5, rfl, hown5, hbel5⟩
                have A0 : Hid (Below W2.heap.size W2 w5) := Lib.hid (K2.out.trans (hbel5.lower (m := W2.heap.size) K2.out.size))
                have A1 := Lib.hid (T1.out.stay A0.out)
                have A2 := Lib.hid (own_bt hown5)
                have A3 := Lib.hid ((own_between E1.out).on hbel5)
                have A4 : Hid (Below W.heap.size W w5) := Lib.hid (T2.out.trans (A0.out.lower (m := W.heap.size) T4))
                have A5 := Lib.hid T1.out.lt
                clear hown5 hbel5
                go_wp2_with (at_builtin; refine wpList_append_at rfl _ _ rfl W.heap.size u9 v5 (plainW v fs (wrs v true fs) t.l) (uv (KW.length + L.length)) rfl rfl A1.out A2.out ?_ ?_ ?_)
                · have := HLN.out
                  omega
                · exact A4.out.size
                · intro v6 w6 hown6 hg6 hat6
                  have B1 := Lib.hid hown6
                  have B3 := Lib.hid (A3.out.kept hg6 (fun g hg e => by have := A5.out g e.symm; have := hg.1; omega)).bt'
                  have B4 := Lib.hid (A4.out.trans (below_growB A1.out A4.out.size hg6))
                  clear hown6 hg6 hat6
                  go_wp2_with (at_builtin; refine wpList_append_at rfl _ _ rfl W.heap.size v6 u10 (plainW v fs (wrs v true fs) t.l ++ uv (KW.length + L.length)) Post rfl rfl B1.out B3.out ?_ ?_ ?_)
                  · have := HLN.out
                    rw [List.length_append]
                    omega
                  · exact B4.out.size
                  · intro v7 w7 hown7 hg7 hat7
                    have C1 : Hid (OwnB w7 W.heap.size v7 (plainW v fs (wrs v true fs) t.l ++ uv (KW.length + L.length) ++ Post)) := Lib.hid (by simpa only [List.append_assoc] using hown7)
                    have C4 := Lib.hid (B4.out.trans (below_growB B1.out B4.out.size hg7))
                    clear hown7 hg7 hat7
                    go_wp2
                    go_ret
                    refine ⟨v7, rfl, ?_, HB.out.trans (C4.out.lower (m := w.heap.size) hwz)⟩
                    rw [part_eq, if_pos rfl, tagsB_eq, hkw, hL, HML.out, HPost.out, ← List.append_assoc]
                    exact C1.out.low hwz
end Go.Proofs.YtoklbgdafnminaaGreatDoor
/-
  The reference's Write, Kept; the bounds. Conditions: none.
-/
namespace Go.Proofs.YtoklbgdafnminaaGreatDoor
open Go.RowKit
open Kz

mutual
theorem partF : ∀ f : F, tagsF f = true → PartOk f.sub
  | .mk kind frm to null tag dflt of sub, h => by
    rw [tagsF] at h
    exact part_step sub (partFs sub h) (usuals_ok sub h) (tagsFs_tag h)
theorem partFs : ∀ fs : List F, tagsFs fs = true → ∀ (k : Nat) g, fs[k]? = some g → PartOk g.sub
  | [], _, _, _, h => by simp at h
  | f :: fs, h, k, g, hg => by
    simp only [tagsFs, Bool.and_eq_true] at h
    cases k with
    | zero =>
      simp only [List.getElem?_cons_zero, Option.some.injEq] at hg
      subst hg
      exact partF f h.1.2
    | succ k => exact partFs fs h.2 k g (by simpa using hg)
end
/-- Every part is written as it ought to be. -/
theorem part_ok (fs : List F) (h : tagsFs fs = true) : PartOk fs := part_step fs (partFs fs h) (usuals_ok fs h) (tagsFs_tag h)

/-- A message as a value. -/
def MsgV (w : World) (v : Value) (m : M) : Prop := ∃ sv, v = .agg #[sv, iv m.flex] ∧ FL w sv m.fields
theorem MsgV.stay {w w' : World} {v : Value} {m : M} (h : MsgV w v m) (hb : Below w.heap.size w w') : MsgV w' v m := by
  obtain ⟨sv, e, h⟩ := h
  exact ⟨sv, e, h.stay hb⟩

set_option maxRecDepth 8000 in
set_option maxHeartbeats 4000000 in
theorem Write_any (w : World) (mv tv : Value) (m : M) (v : Int) (t : T) (hm : MsgV w mv m) (ht : TreeV w tv t) (htg : tagsFs m.fields = true) (hl : (write m v t).length ≤ lim) :
    Calls Tryz.prog 9 #[mv, iv v, tv] w fun e w' => ∃ v', e = .returned v' ∧ OwnB w' w.heap.size v' (write m v t) ∧ Below w.heap.size w w' := by
  obtain ⟨sv, rfl, hf⟩ := hm
  obtain ⟨s, l, u, rfl, h1, h2, h3⟩ := ht
  obtain ⟨a0, c0, rfl⟩ := hf.len
  obtain ⟨a1, c1, rfl⟩ := h1.len
  obtain ⟨a2, c2, rfl⟩ := h2.len
  obtain ⟨a3, c3, rfl⟩ := h3.len
  have HT : Hid (TreeV w (treV t.n t.null (.slice a1 t.s.length c1) (.slice a2 t.l.length c2) (.slice a3 t.u.length c3)) t) := Lib.hid ⟨_, _, _, rfl, h1, h2, h3⟩
  have HF := Lib.hid hf
  have HL := Lib.hid hl
  have HG := Lib.hid (part_ok m.fields htg)
  clear hf h1 h2 h3 hl htg
  have fin : ∀ q : Bool, m.isFlex v = q → ∀ W, Below w.heap.size w W → Calls Tryz.prog 26 #[.slice a0 m.fields.length c0, iv v, .bool q, treV t.n t.null (.slice a1 t.s.length c1) (.slice a2 t.l.length c2) (.slice a3 t.u.length c3)] W fun e w' => ∃ v', e = .returned v' ∧ OwnB w' w.heap.size v' (write m v t) ∧ Below w.heap.size w w' := by
    rintro q rfl W hb
    refine (HG.out W _ _ v _ t (HF.out.stay hb) (HT.out.stay hb) HL.out).mono ?_
    rintro e w' ⟨v', rfl, hown, hbel⟩
    exact ⟨v', rfl, hown.low hb.size, hb.trans (hbel.lower hb.size)⟩
  have FIN := Lib.hid fin
  clear fin
  by_cases hfl : 0 ≤ m.flex
  · by_cases hfv : m.flex ≤ v
    · have hq : m.isFlex v = true := by simp [M.isFlex, hfl, hfv]
      have HQ := Lib.hid hq
      clear hq
      go_enter Tryz.func9, Tryz.ntmps9
      go_wp2_with fail
      refine (FIN.out true HQ.out _ (below_push2 _ (Nat.le_refl _) _ _ rfl)).mono ?_
      rintro e w' ⟨v', rfl, hown, hbel⟩
      have H1 := Lib.hid hown
      have H2 := Lib.hid hbel
      clear hown hbel
      go_wp2
      go_ret
      exact ⟨v', rfl, H1.out, H2.out⟩
    · have hq : m.isFlex v = false := by simp [M.isFlex]; omega
      have HQ := Lib.hid hq
      clear hq
      go_enter Tryz.func9, Tryz.ntmps9
      go_wp2_with fail
      refine (FIN.out false HQ.out _ (below_push2 _ (Nat.le_refl _) _ _ rfl)).mono ?_
      rintro e w' ⟨v', rfl, hown, hbel⟩
      have H1 := Lib.hid hown
      have H2 := Lib.hid hbel
      clear hown hbel
      go_wp2
      go_ret
      exact ⟨v', rfl, H1.out, H2.out⟩
  · have hq : m.isFlex v = false := by simp [M.isFlex]; omega
    have HQ := Lib.hid hq
    clear hq
    go_enter Tryz.func9, Tryz.ntmps9
    go_wp2_with fail
    refine (FIN.out false HQ.out _ (below_push2 _ (Nat.le_refl _) _ _ rfl)).mono ?_
    rintro e w' ⟨v', rfl, hown, hbel⟩
    have H1 := Lib.hid hown
    have H2 := Lib.hid hbel
    clear hown hbel
    go_wp2
    go_ret
    exact ⟨v', rfl, H1.out, H2.out⟩


/-! ## The bounds -/
/-- Some truth is handed back. -/
def SomeBool (e : Ending) : Prop := ∃ q, e = .returned (.bool q)
theorem SomeBool.of {e : Ending} (q : Bool) (h : e = .returned (.bool q)) : SomeBool e := ⟨q, h⟩
set_option maxRecDepth 8000 in
set_option maxHeartbeats 1000000 in
theorem fits4_any (w : World) (k : Int) (p : Option Addr) (n c : Nat) :
    Calls Tryz.prog 53 #[.agg #[.int .u32 k, .slice p n c]] w fun e w' => SomeBool e ∧ Below w.heap.size w w' := by
  by_cases hn : (n : Int) > 2147483647
  · go_enter Tryz.func53, Tryz.ntmps53
    go_wp2
    go_ret
    exact ⟨.of false rfl, below_push _ (Nat.le_refl _) _ rfl⟩
  · go_enter Tryz.func53, Tryz.ntmps53
    go_wp2
    go_ret
    exact ⟨.of true rfl, below_push _ (Nat.le_refl _) _ rfl⟩
set_option maxRecDepth 8000 in
set_option maxHeartbeats 2000000 in
theorem fits3_any (w : World) (v : Value) (us : List (Nat × List UInt8)) (h : UTags w v us) :
    Calls Tryz.prog 23 #[v] w fun e w' => SomeBool e ∧ Below w.heap.size w w' := by
  obtain ⟨p, c, rfl, hc1, hc2, -, hp0, hpp⟩ := h.v.cell
  have HPN := Lib.hid hp0
  have HPP := Lib.hid hpp
  clear h hp0 hpp
  by_cases hn : (us.length : Int) > 2147483647
  · go_enter Tryz.func23, Tryz.ntmps23
    go_wp2
    go_ret
    exact ⟨.of false rfl, Below.refl _ _⟩
  · go_enter Tryz.func23, Tryz.ntmps23
    go_wp2
    go_loopw [10] (fun i wr => ∃ j : Nat, i = .int .i64 (j : Int) ∧ j ≤ us.length ∧ Below w.heap.size w wr) (fun i _ => us.length - (intOf i).toNat)
    case atStart => exact ⟨0, rfl, Nat.zero_le _, Below.refl _ _⟩
    case round =>
      obtain ⟨j, rfl, hj, hbel⟩ := hrel
      have K1 := Lib.hid hbel
      by_cases hjl : j < us.length
      · have hji : (j : Int) < (us.length : Int) := by omega
        have hne : us ≠ [] := by intro e; rw [e] at hjl; simp at hjl
        obtain ⟨ad, rfl⟩ := HPN.out hne
        obtain ⟨g, o, rfl, -, hg, hpc⟩ := HPP.out ad hne rfl
        obtain ⟨q, d, e0, e1, -, -⟩ := hpc j us[j].1 us[j].2 (List.getElem?_eq_getElem hjl)
        rw [← (bcell hbel).1 _ _ hg] at e0 e1
        generalize us[j] = x at *
        generalize hV : wr.alloc (.cells #[.int .u32 (x.1 : Int), .slice q x.2.length d] 63) = V
        have c0 : V.cell? ⟨wr.heap.size, 0, none⟩ = some (.int .u32 (x.1 : Int)) := by rw [← hV]; exact cell_of_row _ _ _ _ _ _ (alloc_last wr _)
        have c1 : V.cell? ⟨wr.heap.size, 1, none⟩ = some (.slice q x.2.length d) := by rw [← hV]; exact cell_of_row _ _ _ _ _ _ (alloc_last wr _)
        have K2 : Hid (Below w.heap.size w V) := Lib.hid (hV ▸ hbel.trans (below_push _ hbel.size _ rfl))
        clear hbel hpc
        go_wp2_with fail
        clear hV
        refine (fits4_any V _ _ _ _).mono ?_
        rintro e w2 ⟨⟨qq, rfl⟩, hb2⟩
        have K3 := Lib.hid (K2.out.trans (hb2.lower (m := w.heap.size) K2.out.size))
        clear hb2
        cases qq
        · go_wp2
          go_ret
          exact ⟨.of false rfl, K3.out⟩
        · go_wp2
          go_roundw
          case rel => exact ⟨j + 1, by first | rfl | (congr 1; omega), by omega, K3.out⟩
          case measure => simp only [intOf]; omega
      · have hji : ¬ ((j : Int) < (us.length : Int)) := by omega
        clear hbel
        go_wp2
        go_ret
        exact ⟨.of true rfl, K1.out⟩
set_option maxRecDepth 8000 in
set_option maxHeartbeats 1000000 in
theorem fits2_any (w : World) (tv : Value) (t : T) (ht : TreeV w tv t) :
    Calls Tryz.prog 7 #[tv] w fun e w' => SomeBool e ∧ Below w.heap.size w w' := by
  obtain ⟨s, l, u, rfl, h1, h2, h3⟩ := ht
  obtain ⟨a1, c1, rfl⟩ := h1.len
  obtain ⟨a2, c2, rfl⟩ := h2.len
  obtain ⟨a3, c3, rfl⟩ := h3.len
  have HU := Lib.hid h3
  clear h1 h2 h3
  by_cases hs : (t.s.length : Int) > 2147483647
  · go_enter Tryz.func7, Tryz.ntmps7
    go_wp2
    go_ret
    exact ⟨.of false rfl, below_push _ (Nat.le_refl _) _ rfl⟩
  by_cases hl : (t.l.length : Int) > 2147483647
  · go_enter Tryz.func7, Tryz.ntmps7
    go_wp2
    go_ret
    exact ⟨.of false rfl, below_push _ (Nat.le_refl _) _ rfl⟩
  go_enter Tryz.func7, Tryz.ntmps7
  go_wp2_with fail
  have hB := below_push w.heap.size (Nat.le_refl _) (.cells #[iv t.n, .slice a1 t.s.length c1, .bool t.null, .slice a2 t.l.length c2, .slice a3 t.u.length c3] 26) rfl
  have HB := Lib.hid hB
  clear hB
  refine (fits3_any _ _ t.u (HU.out.stay HB.out)).mono ?_
  rintro e w2 ⟨⟨q, rfl⟩, hb⟩
  have H2 := Lib.hid (HB.out.trans (hb.lower (m := w.heap.size) HB.out.size))
  clear hb
  cases q
  · go_wp2
    go_ret
    exact ⟨.of false rfl, H2.out⟩
  · go_wp2
    go_ret
    exact ⟨.of true rfl, H2.out⟩
end Go.Proofs.YtoklbgdafnminaaGreatDoor
/-
  Fields made by the reference: a row of them. Conditions: none.
-/
namespace Go.Proofs.YtoklbgdafnminaaGreatDoor
open Go.RowKit
open Kz

def fcells (f : F) (s : Value) : List Value := [iv f.kind, iv f.frm, iv f.to, iv f.null, iv f.tag, iv f.dflt, iv f.of, s]
def rowOf : List F → List Value → List Value
  | f :: fs, s :: ss => fcells f s ++ rowOf fs ss
  | _, _ => []
theorem rowOf_get : ∀ (fs : List F) (ss : List Value) (i k : Nat) f s, fs[i]? = some f → ss[i]? = some s → k < 8 → (rowOf fs ss)[i * 8 + k]? = (fcells f s)[k]?
  | [], _, i, _, _, _, h, _, _ => by simp at h
  | _ :: _, [], i, _, _, _, _, h, _ => by simp at h
  | f :: fs, s :: ss, 0, k, f', s', h, h', hk => by
    simp only [List.getElem?_cons_zero, Option.some.injEq] at h h'
    subst h h'
    rw [rowOf, Nat.zero_mul, Nat.zero_add, List.getElem?_append_left (by simp [fcells]; omega)]
  | f :: fs, s :: ss, i + 1, k, f', s', h, h', hk => by
    have e : (i + 1) * 8 + k = (fcells f s).length + (i * 8 + k) := by simp [fcells]; omega
    rw [rowOf, e, List.getElem?_append_right (by omega), Nat.add_sub_cancel_left]
    exact rowOf_get fs ss i k f' s' (by simpa using h) (by simpa using h') hk
/-- A row of fields in memory. -/
theorem FL.of_row {w : World} {g : Nat} {cs : Array Value} {ty : TypeId} {fs : List F} {ss : List Value} (hg : w.heap[g]? = some (.cells cs ty (0, 0))) (hc : cs = (rowOf fs ss).toArray) (hl : ss.length = fs.length) (hn : decide (fs.length ≤ 1000) = true)
    (hs : ∀ (i : Nat) f s, fs[i]? = some f → ss[i]? = some s → FL w s f.sub) {n : Nat} (hnn : n = fs.length) : FL w (.slice (some ⟨g, 0, none⟩) n n) fs := by
  subst hnn
  have hn' := of_decide_eq_true hn
  have hss : ∀ (i : Nat) f, fs[i]? = some f → ∃ s, ss[i]? = some s := fun i f hi => by
    have := (List.getElem?_eq_some_iff.1 hi).1
    exact ⟨_, List.getElem?_eq_getElem (by omega)⟩
  have hcell : ∀ j, w.cell? ⟨g, j, none⟩ = (rowOf fs ss)[j]? := fun j => by rw [cell_of_row _ _ _ _ _ _ hg, hc]; simp
  refine .mk g 0 fs.length fs (fun i => (ss[i]?).getD undef) (Nat.le_refl _) (by omega) (Array.getElem?_eq_some_iff.1 hg).1 (fun i f hi => ?_) (fun i f hi => ?_)
  · obtain ⟨s, hsi⟩ := hss i f hi
    have h := fun k hk => (hcell (i * 8 + k)).trans (rowOf_get fs ss i k f s hi hsi hk)
    simp only [Nat.zero_add, hsi, Option.getD_some]
    exact ⟨h 0 (by decide), h 1 (by decide), h 2 (by decide), h 3 (by decide), h 4 (by decide), h 5 (by decide), h 6 (by decide), h 7 (by decide)⟩
  · obtain ⟨s, hsi⟩ := hss i f hi
    simp only [hsi, Option.getD_some]
    exact hs i f s hi hsi
/-- All have none within. -/
theorem FL.none_within {w : World} {fs : List F} (h : fs.all (fun f => f.sub.isEmpty) = true) {ss : List Value} (hs : ss = List.replicate fs.length (.slice none 0 0)) : ∀ (i : Nat) f s, fs[i]? = some f → ss[i]? = some s → FL w s f.sub := by
  subst hs
  intro i f s hi hsi
  have hm := List.mem_of_getElem? hi
  have he := List.all_eq_true.1 h f hm
  rw [List.isEmpty_iff] at he
  rw [List.getElem?_replicate] at hsi
  split at hsi
  · rw [← Option.some.inj hsi, he]; exact .nil
  · cases hsi
/-- A message in a variable is read. -/
theorem msg_load {w : World} {g : Nat} {a b : Value} (h : w.heap[g]? = some (.cells #[a, b] 33 (0, 0))) :
    (loadVar 33 ⟨g, 0, none⟩).run Tryz.prog w = .ok (.agg #[a, b]) w := by
  have hc : ∀ j, w.cell? ⟨g, 0 + j, none⟩ = (#[a, b] : Array Value)[j]? := fun j => by rw [cell_of_row _ _ _ _ _ _ h, Nat.zero_add]
  exact run_loadVar_mid _ _ _ _ [a, b] _ (fun j v hj => by rw [hc j]; simpa using hj) Tryz.underlying33 rfl (by kernel_rfl)

/-- What lies within, one by one. -/
inductive FLs (w : World) : List F → List Value → Prop
  | nil : FLs w [] []
  | cons {f : F} {s : Value} {fs : List F} {ss : List Value} (h : FL w s f.sub) (r : FLs w fs ss) : FLs w (f :: fs) (s :: ss)
theorem FLs.get {w : World} {fs : List F} {ss : List Value} (h : FLs w fs ss) : ∀ (i : Nat) f s, fs[i]? = some f → ss[i]? = some s → FL w s f.sub := by
  induction h with
  | nil => intro i f s h; simp at h
  | cons h _ ih =>
    intro i f s h1 h2
    cases i with
    | zero =>
      simp only [List.getElem?_cons_zero, Option.some.injEq] at h1 h2
      subst h1 h2
      exact h
    | succ i => exact ih i f s (by simpa using h1) (by simpa using h2)
theorem FLs.stay {w w' : World} {fs : List F} {ss : List Value} (h : FLs w fs ss) (hb : Below w.heap.size w w') : FLs w' fs ss := by
  induction h with
  | nil => exact .nil
  | cons h _ ih => exact .cons (h.stay hb) ih
/-- Fields stay where a block of two cells alone turns. -/
theorem FL.kept_but {w w' : World} {b : Nat} {v : Value} {fs : List F} (h : FL w v fs) (hk : ∀ k, k < w.heap.size → k ≠ b → w'.heap[k]? = w.heap[k]?) (hs : w.heap.size ≤ w'.heap.size) (hbox : ∀ j, 2 ≤ j → w.cell? ⟨b, j, none⟩ = none) : FL w' v fs := by
  induction h with
  | nil => exact .nil
  | mk g o c fs sv h1 h2 h3 h4 _ ih =>
    refine .mk g o c fs sv h1 h2 (Nat.lt_of_lt_of_le h3 hs) (fun i f hi => ?_) ih
    have hne : g ≠ b := by
      rintro rfl
      have := (h4 i f hi).2.2.2.2.2.2.2
      rw [hbox _ (by omega)] at this
      cases this
    have e : ∀ j, w'.cell? ⟨g, j, none⟩ = w.cell? ⟨g, j, none⟩ := fun j => World.cell?_of_block (hk g h3 hne)
    simp only [e]
    exact h4 i f hi
theorem FLs.kept_but {w w' : World} {b : Nat} {fs : List F} {ss : List Value} (h : FLs w fs ss) (hk : ∀ k, k < w.heap.size → k ≠ b → w'.heap[k]? = w.heap[k]?) (hs : w.heap.size ≤ w'.heap.size) (hbox : ∀ j, 2 ≤ j → w.cell? ⟨b, j, none⟩ = none) : FLs w' fs ss := by
  induction h with
  | nil => exact .nil
  | cons h _ ih => exact .cons (h.kept_but hk hs hbox) ih
theorem box_set2 {w : World} {g : Nat} {a b u u' : Value} {ty : TypeId} (h : w.heap[g]? = some (.cells #[a, b] ty (0, 0))) : ((w.setCell ⟨g, 0, none⟩ u).setCell ⟨g, 1, none⟩ u').heap[g]? = some (.cells #[u, u'] ty (0, 0)) := by
  have := heap_setCell_row (u := u') (o := 1) (heap_setCell_row (u := u) (o := 0) h)
  simpa using this
/-- How a message's fields lie behind all. -/
theorem msg_end {w z : World} {m : M} {ss : List Value} {ty : TypeId} {n : Nat} {x : Int} (hB : Below w.heap.size w z) (hX : z.heap[w.heap.size]? = some (.cells #[.slice none 0 0, iv 0] 33 (0, 0))) (hs : FLs z m.fields ss) (hn : decide (m.fields.length ≤ 1000) = true) (hl : ss.length = m.fields.length) (hnn : n = m.fields.length) (hx : x = m.flex) {cs : Array Value} (hc : cs = (rowOf m.fields ss).toArray) :
    ((loadVar 33 ⟨w.heap.size, 0, none⟩).run Tryz.prog (((z.alloc (.cells cs ty)).setCell ⟨w.heap.size, 0, none⟩ (.slice (some ⟨z.heap.size, 0, none⟩) n n)).setCell ⟨w.heap.size, 1, none⟩ (iv x)) = .ok (.agg #[.slice (some ⟨z.heap.size, 0, none⟩) n n, iv x]) (((z.alloc (.cells cs ty)).setCell ⟨w.heap.size, 0, none⟩ (.slice (some ⟨z.heap.size, 0, none⟩) n n)).setCell ⟨w.heap.size, 1, none⟩ (iv x))) ∧
    MsgV (((z.alloc (.cells cs ty)).setCell ⟨w.heap.size, 0, none⟩ (.slice (some ⟨z.heap.size, 0, none⟩) n n)).setCell ⟨w.heap.size, 1, none⟩ (iv x)) (.agg #[.slice (some ⟨z.heap.size, 0, none⟩) n n, iv x]) m ∧
    Below w.heap.size w (((z.alloc (.cells cs ty)).setCell ⟨w.heap.size, 0, none⟩ (.slice (some ⟨z.heap.size, 0, none⟩) n n)).setCell ⟨w.heap.size, 1, none⟩ (iv x)) := by
  have hlt : w.heap.size < z.heap.size := (Array.getElem?_eq_some_iff.1 hX).1
  have hX1 : (z.alloc (.cells cs ty)).heap[w.heap.size]? = some (.cells #[.slice none 0 0, iv 0] 33 (0, 0)) := (alloc_old z _ _ hlt).trans hX
  have hrow : (((z.alloc (.cells cs ty)).setCell ⟨w.heap.size, 0, none⟩ (.slice (some ⟨z.heap.size, 0, none⟩) n n)).setCell ⟨w.heap.size, 1, none⟩ (iv x)).heap[z.heap.size]? = some (.cells cs ty (0, 0)) := by
    rw [Below.heap_setCell _ _ _ _ (by simp; omega), Below.heap_setCell _ _ _ _ (by simp; omega)]
    exact alloc_last z _
  refine ⟨msg_load (box_set2 hX1), ⟨_, by rw [hx], ?_⟩, ((below_box hB (Nat.le_refl _)).setCell (p := ⟨w.heap.size, 0, none⟩) (Nat.le_refl _) _).setCell (p := ⟨w.heap.size, 1, none⟩) (Nat.le_refl _) _⟩
  refine FL.of_row hrow hc hl hn (FLs.get ?_) hnn
  refine (hs.stay (below_push _ (Nat.le_refl _) (.cells cs ty) rfl)).kept_but (b := w.heap.size) (fun k hk hne => ?_) (by simp [World.setCell]) (fun j hj => ?_)
  · rw [Below.heap_setCell _ _ _ _ (by simpa using hne), Below.heap_setCell _ _ _ _ (by simpa using hne)]
  · rw [cell_of_row _ _ _ _ _ _ hX1]
    exact Array.getElem?_eq_none (by simpa using hj)
end Go.Proofs.YtoklbgdafnminaaGreatDoor
/-
  A tree that came in: its reading opened into memory. Conditions: none.
-/
namespace Go.Proofs.YtoklbgdafnminaaGreatDoor
open Go.ChangeShapes Go.WideShapes Go.ChangeAt Go.RowKit Go.Deep
open Kz

/-- Rows chosen one by one. -/
theorem list_choose {α : Type} {Q : Nat → α → Prop} : ∀ n : Nat, (∀ i, i < n → ∃ x, Q i x) → ∃ l : List α, l.length = n ∧ ∀ (i : Nat) x, l[i]? = some x → Q i x
  | 0, _ => ⟨[], rfl, fun i x h => by simp at h⟩
  | n + 1, h => by
    obtain ⟨l, hl, hq⟩ := list_choose n fun i hi => h i (by omega)
    obtain ⟨x, hx⟩ := h n (by omega)
    refine ⟨l ++ [x], by simp [hl], fun i y hi => ?_⟩
    rcases Nat.lt_or_ge i n with hlt | hge
    · rw [List.getElem?_append_left (by omega)] at hi
      exact hq i y hi
    · rw [List.getElem?_append_right (by omega), hl] at hi
      obtain ⟨k, rfl⟩ : ∃ k, i = n + k := ⟨i - n, by omega⟩
      rw [Nat.add_sub_cancel_left] at hi
      cases k with
      | zero => simp only [List.getElem?_cons_zero, Option.some.injEq] at hi; subst hi; exact hx
      | succ k => simp at hi

section
variable {H : Type} {enc : TypeId × Value → H} {P : Program} {w : World} {base : Nat} {held : Bool}
/-- A slice of structs of fields of one cell each: every place of it, every field. -/
theorem trod_rows {t e : TypeId} {fs : Array Field} {fuel : Nat} {cs : List Value} {x : DataW H × List MemPlace} (ht : P.underlying t = some (.slice e)) (he : P.underlying e = some (.struct fs))
    (hone : oneCellFields P fs = true) (hC : P.cellsOf e = fs.size) (h : DataW.trod enc P w base (fun _ => true) held fuel t cs = some x) :
    (cs = [.slice none 0 0] ∧ x = (.nil, [])) ∨ ∃ (a : Addr) (len cap : Nat) (elems : List (DataW H × List MemPlace)) (rest : List (DataW H)), cs = [.slice (some a) len cap] ∧ x.1 = .slice (elems.map (·.1)) rest ∧ elems.length = len ∧ len ≤ cap ∧ cap ≤ maxLen ∧
      ∀ i, i < cap → ∃ ys : List (DataW H × List MemPlace), ys.length = fs.size ∧ (i < len → ∃ p, elems[i]? = some (.agg (ys.map (·.1)), p)) ∧
        ∀ (j : Nat) (f : Field), fs[j]? = some f → ∃ (v : Value) (y : DataW H × List MemPlace) (m : Nat), m < fuel ∧ w.cell? (a.add (i * fs.size + j)) = some v ∧ ys[j]? = some y ∧ DataW.trod enc P w base (fun _ => true) held m f.type [v] = some y := by
  rcases DataW.trod_slice ht h with h0 | ⟨a, len, cap, elems, rest, n, rfl, rfl, rfl, -, hl, hm, hlen, hel, hsp, -⟩
  · exact .inl h0
  · refine .inr ⟨a, len, cap, elems, rest.map (·.1), rfl, rfl, hlen, hl, hm, fun i hi => ?_⟩
    obtain ⟨hrl, hr⟩ := hsp rfl
    have hone' : ∃ y, (w.cells? base (a.add (i * P.cellsOf e)) (P.cellsOf e)).bind (DataW.trod enc P w base (fun _ => true) held n e) = some y ∧ (i < len → elems[i]? = some y) := by
      by_cases hil : i < len
      · have e1 : elems[i]? = some (elems[i]'(by omega)) := List.getElem?_eq_getElem (by omega)
        exact ⟨_, (hel i hil).trans e1, fun _ => e1⟩
      · have := hr (i - len) (by omega)
        rw [show len + (i - len) = i by omega] at this
        exact ⟨_, this.trans (List.getElem?_eq_getElem (by omega)), fun h => absurd h hil⟩
    obtain ⟨y, hy, hye⟩ := hone'
    obtain ⟨cs', hc, ht'⟩ := Option.bind_eq_some_iff.1 hy
    rw [hC] at hc
    obtain ⟨ys, n', rfl, rfl, hlen', hyl, hf⟩ := DataW.trod_struct he ht'
    obtain ⟨_, hcl, hat⟩ := World.cells?_some hc
    refine ⟨ys, hyl, fun hil => ⟨_, hye hil⟩, fun j f hj => ?_⟩
    obtain ⟨ho, hk⟩ := hone_of hone j f hj
    have hjl : j < fs.size := (Array.getElem?_eq_some_iff.1 hj).1
    have hcell := hat j hjl
    have hv : cs'[j]? = some (cs'[j]'(by omega)) := List.getElem?_eq_getElem (by omega)
    have h1 := hf j f hj
    rw [ho, hk] at h1
    have hone' : (cs'.drop j).take 1 = [cs'[j]'(by omega)] := by
      rw [List.drop_eq_getElem_cons (by omega)]
      rfl
    rw [hone'] at h1
    have hys : ys[j]? = some (ys[j]'(by omega)) := List.getElem?_eq_getElem (by omega)
    refine ⟨_, _, n', by omega, ?_, hys, h1.trans hys⟩
    rw [← Go.Deep.add_add, hcell, hv]
theorem one_bulk (d : DataW H) : 1 ≤ Rows.uptoBulk d := by
  cases d with
  | lit l => cases l <;> simp [Rows.uptoBulk]
  | nil => simp [Rows.uptoBulk]
  | ptr d => simp [Rows.uptoBulk]
  | slice elems spare => simp [Rows.uptoBulk]
  | agg parts => simp [Rows.uptoBulk]
  | iface t d => simp [Rows.uptoBulk]
  | map entries => simp [Rows.uptoBulk]
  | held h => simp [Rows.uptoBulk]
theorem len_bulk (l : List (DataW H)) : l.length ≤ Rows.uptoBulkAll l := by
  induction l with
  | nil => simp [Rows.uptoBulkAll]
  | cons x r ih => have := one_bulk x; simp only [Rows.uptoBulkAll, List.length_cons]; omega
theorem slice_bulk (elems spare : List (DataW H)) : Rows.uptoBulkAll elems + 1 ≤ Rows.uptoBulk (.slice elems spare) := by
  simp only [Rows.uptoBulk]
  omega
theorem agg_bulk (parts : List (DataW H)) : Rows.uptoBulkAll parts + 1 ≤ Rows.uptoBulk (.agg parts) := by
  simp only [Rows.uptoBulk]
  omega
theorem sum_bulk {α : Type} (μ : α → Nat) : ∀ (us : List α) (ds : List (DataW H)), us.length = ds.length → (∀ (i : Nat) u d, us[i]? = some u → ds[i]? = some d → μ u ≤ Rows.uptoBulk d) → (us.map μ).sum ≤ Rows.uptoBulkAll ds
  | [], _, _, _ => by simp
  | _ :: _, [], h, _ => by simp at h
  | u :: us, d :: ds, h, hq => by
    have h1 := hq 0 u d rfl rfl
    have h2 := sum_bulk μ us ds (by simpa using h) (fun i u' d' a b => hq (i + 1) u' d' (by simpa using a) (by simpa using b))
    simp only [List.map_cons, List.sum_cons, Rows.uptoBulkAll]
    omega
theorem tsizes_sum : ∀ ts : List T, L6.tsizes ts = (ts.map L6.tsize).sum
  | [] => by simp [L6.tsizes]
  | t :: ts => by simp only [L6.tsizes, List.map_cons, List.sum_cons, tsizes_sum ts]
theorem cell_spot {w : World} {a : Addr} {v : Value} (h : w.cell? a = some v) : a.spot = none ∧ a.block < w.heap.size := by
  unfold World.cell? at h
  split at h
  · rename_i c e f hx
    refine ⟨?_, (Array.getElem?_eq_some_iff.1 hx).1⟩
    split at h
    · cases h
    · rename_i hs
      cases hp : a.spot with
      | none => rfl
      | some s => rw [hp] at hs; exact absurd rfl hs
  · cases h
theorem cell_place {w : World} {a : Addr} {k : Nat} {v : Value} (hk : k = 0) (h : w.cell? (a.add k) = some v) : ∃ g o, a = ⟨g, o, none⟩ ∧ g < w.heap.size := by
  subst hk
  have e : a.add 0 = a := by unfold Addr.add; rw [if_pos rfl]
  rw [e] at h
  obtain ⟨h1, h2⟩ := cell_spot h
  obtain ⟨g, o, s⟩ := a
  exact ⟨g, o, by rw [show s = none from h1], h2⟩
theorem open_five {r : Reach} {b0 : Nat} {t : TypeId} {f0 f1 f2 f3 f4 : Field} {v : Value} {d : DataW H} {p : List MemPlace} {spare : Nat → Bool} (hs : P.underlying t = some (.struct #[f0, f1, f2, f3, f4])) (hone : oneCellFields P #[f0, f1, f2, f3, f4] = true) (hC : P.cellsOf t = 5)
    (hv : Value.okWide P w r b0 t v) (h : DataW.Trod enc P w base spare held t v d p) :
    ∃ (v0 v1 v2 v3 v4 : Value) (y0 y1 y2 y3 y4 : DataW H × List MemPlace) (n : Nat), v = .agg #[v0, v1, v2, v3, v4] ∧ d = .agg [y0.1, y1.1, y2.1, y3.1, y4.1] ∧
      DataW.trod enc P w base spare held n f0.type [v0] = some y0 ∧ DataW.trod enc P w base spare held n f1.type [v1] = some y1 ∧ DataW.trod enc P w base spare held n f2.type [v2] = some y2 ∧ DataW.trod enc P w base spare held n f3.type [v3] = some y3 ∧ DataW.trod enc P w base spare held n f4.type [v4] = some y4 := by
  obtain ⟨cs, rfl, hsz⟩ := okWide_struct hs hv
  obtain ⟨l⟩ := cs
  match l, hsz.trans hC with
  | [c0, c1, c2, c3, c4], _ =>
    obtain ⟨fuel, hf⟩ := h
    obtain ⟨xs, n, _, hx, _, hlen, hg⟩ := DataW.trod_struct hs hf
    obtain ⟨o0, k0⟩ := hone_of hone 0 f0 rfl
    obtain ⟨o1, k1⟩ := hone_of hone 1 f1 rfl
    obtain ⟨o2, k2⟩ := hone_of hone 2 f2 rfl
    obtain ⟨o3, k3⟩ := hone_of hone 3 f3 rfl
    obtain ⟨o4, k4⟩ := hone_of hone 4 f4 rfl
    match xs, hlen with
    | [y0, y1, y2, y3, y4], _ =>
      simp only [Prod.mk.injEq] at hx
      exact ⟨c0, c1, c2, c3, c4, y0, y1, y2, y3, y4, n, rfl, by simpa using hx.1, by simpa [Value.cells, o0, k0] using hg 0 f0 rfl, by simpa [Value.cells, o1, k1] using hg 1 f1 rfl, by simpa [Value.cells, o2, k2] using hg 2 f2 rfl, by simpa [Value.cells, o3, k3] using hg 3 f3 rfl, by simpa [Value.cells, o4, k4] using hg 4 f4 rfl⟩
end

section
variable {H : Type} {enc : TypeId × Value → H} {W : World}
theorem open_bt {fuel : Nat} {v : Value} {x : DataW H × List MemPlace} (h : DataW.trod enc Tryz.prog W 0 (fun _ => true) true fuel 22 [v] = some x) : ∃ bs, BT W v bs ∧ bs.length + 1 ≤ Rows.uptoBulk x.1 := by
  rcases open_ints Tryz.underlying22 Tryz.underlying5 cellsU8 h with ⟨hcs, hx⟩ | ⟨a, len, cap, zs, hcs, _, hl, hm, hz, hx, hcell, hwz⟩
  · simp only [List.cons.injEq, and_true] at hcs
    subst hcs
    exact ⟨[], .nil _, one_bulk _⟩
  · simp only [List.cons.injEq, and_true] at hcs
    subst hcs
    simp only [if_true] at hz
    have hlen : ((zs.take len).map fun n => UInt8.ofNat n.toNat).length = len := by simp; omega
    by_cases hc0 : cap = 0
    · obtain rfl : len = 0 := by omega
      subst hc0
      exact ⟨[], .inl ⟨_, rfl, rfl⟩, one_bulk _⟩
    · obtain ⟨g, o, rfl, hg⟩ := cell_place rfl (hcell 0 (by omega))
      have hbulk : len + 1 ≤ Rows.uptoBulk x.1 := by
        rw [hx]
        have h1 := slice_bulk (lits .u8 (zs.take len) : List (DataW H)) (lits .u8 (zs.drop len))
        have h2 := len_bulk (lits .u8 (zs.take len) : List (DataW H))
        have h3 : (lits .u8 (zs.take len) : List (DataW H)).length = len := by simp [lits]; omega
        show len + 1 ≤ Rows.uptoBulk (DataW.slice _ _)
        omega
      refine ⟨(zs.take len).map fun n => UInt8.ofNat n.toNat, .inr (.inr ⟨g, o, cap, by rw [hlen], by rw [hlen]; exact hl, by simp only [maxLen] at hm; omega, trivial, hg, fun i b hi => ?_⟩), by rw [hlen]; exact hbulk⟩
      have hil : i < len := by rw [← hlen]; exact (List.getElem?_eq_some_iff.1 hi).1
      have hc := hcell i (by omega)
      rw [Addr.add_lit] at hc
      rw [hc]
      have e : zs.getD i 0 = zs[i]'(by omega) := by simp [List.getD, List.getElem?_eq_getElem (show i < zs.length by omega)]
      rw [e, byte_back (hwz _ (List.getElem_mem _))]
      congr 2
      simp only [List.getElem?_map, List.getElem?_take, hil, if_true, List.getElem?_eq_getElem (show i < zs.length by omega), Option.map_some, Option.some.injEq] at hi
      exact hi
theorem u32_range {n : Int} (h : (Lit.int .u32 n).wf = true) : 0 ≤ n ∧ n < 4294967296 := by
  simp [Lit.wf, IntKind.min, IntKind.max, IntKind.bits, IntKind.signed] at h
  omega
theorem open_utags {fuel : Nat} {v : Value} {x : DataW H × List MemPlace} (h : DataW.trod enc Tryz.prog W 0 (fun _ => true) true fuel 24 [v] = some x) : ∃ us, UTags W v us ∧ (us.map fun x => 3 + x.2.length).sum + 1 ≤ Rows.uptoBulk x.1 := by
  rcases trod_rows Tryz.underlying24 Tryz.underlying63 (by kernel_rfl) (by kernel_rfl) h with ⟨hcs, -⟩ | ⟨a, len, cap, elems, rest, hcs, hx, hel, hl, hm, hi⟩
  · simp only [List.cons.injEq, and_true] at hcs
    subst hcs
    exact ⟨[], .nil _, one_bulk _⟩
  · simp only [List.cons.injEq, and_true] at hcs
    subst hcs
    by_cases hc0 : cap = 0
    · obtain rfl : len = 0 := by omega
      subst hc0
      exact ⟨[], .inl ⟨_, rfl, rfl⟩, one_bulk _⟩
    · obtain ⟨_, -, -, h0⟩ := hi 0 (by omega)
      obtain ⟨v0, y0, m0, -, hv0, -⟩ := h0 0 _ rfl
      obtain ⟨g, o, rfl, hg⟩ := cell_place (by simp) hv0
      have hq : ∀ i, i < len → ∃ p : Nat × List UInt8, ∃ s, W.cell? ⟨g, o + i * 2, none⟩ = some (.int .u32 (p.1 : Int)) ∧ W.cell? ⟨g, o + i * 2 + 1, none⟩ = some s ∧ BT W s p.2 ∧ p.1 < 4294967296 ∧ ∀ d, (elems.map (·.1))[i]? = some d → 3 + p.2.length ≤ Rows.uptoBulk d := by
        intro i hil
        obtain ⟨ys, hyl, hye, hi⟩ := hi i (by omega)
        obtain ⟨va, ya, ma, -, hva, hya, hta⟩ := hi 0 _ rfl
        obtain ⟨vb, yb, mb, -, hvb, hyb, htb⟩ := hi 1 _ rfl
        obtain ⟨k, hk, -, hwf⟩ := DataW.trod_int Tryz.underlying61 hta
        obtain ⟨bs, hbs, hbk⟩ := open_bt htb
        obtain ⟨k0, k1⟩ := u32_range hwf
        simp only [List.cons.injEq, and_true] at hk
        subst hk
        refine ⟨(k.toNat, bs), vb, ?_, ?_, hbs, by show k.toNat < _; omega, fun d hd => ?_⟩
        · show W.cell? _ = some (.int .u32 ((k.toNat : Nat) : Int))
          rw [show ((k.toNat : Nat) : Int) = k by omega, ← hva, Addr.add_lit]
          rfl
        · rw [← hvb, Addr.add_lit]
          rfl
        · obtain ⟨p, hp⟩ := hye hil
          rw [List.getElem?_map, hp] at hd
          simp only [Option.map_some, Option.some.injEq] at hd
          subst hd
          match ys, hyl, hya, hyb with
          | [y0, y1], _, hya, hyb =>
            simp only [List.getElem?_cons_zero, List.getElem?_cons_succ, Option.some.injEq] at hya hyb
            subst hyb
            have h1 := agg_bulk (H := H) [y0.1, y1.1]
            have h2 := one_bulk y0.1
            simp only [Rows.uptoBulkAll] at h1
            show 3 + bs.length ≤ Rows.uptoBulk (DataW.agg [y0.1, y1.1])
            omega
      obtain ⟨us, hus, hu⟩ := list_choose len hq
      refine ⟨us, .inr ⟨g, o, cap, by rw [hus], by omega, by simp only [maxLen] at hm; omega, hg, fun i k b hib => ?_⟩, ?_⟩
      · obtain ⟨s, e1, e2, e3, e4, -⟩ := hu i (k, b) hib
        exact ⟨s, e1, e2, e3, e4⟩
      · rw [hx]
        have h1 := sum_bulk (fun x : Nat × List UInt8 => 3 + x.2.length) us (elems.map (·.1)) (by simp; omega) (fun i u d h1 h2 => by
          obtain ⟨s, -, -, -, -, h⟩ := hu i u h1
          exact h d h2)
        have h2 := slice_bulk (elems.map (·.1)) rest
        omega
theorem open_trees : ∀ (fuel : Nat) (v : Value) (x : DataW H × List MemPlace), DataW.trod enc Tryz.prog W 0 (fun _ => true) true fuel 23 [v] = some x → ∃ ts, TL W v ts ∧ L6.tsizes ts + 1 ≤ Rows.uptoBulk x.1 := by
  intro fuel
  induction fuel using Nat.strongRecOn with
  | ind fuel ih =>
    intro v x h
    rcases trod_rows Tryz.underlying23 Tryz.underlying26 (by kernel_rfl) (by kernel_rfl) h with ⟨hcs, -⟩ | ⟨a, len, cap, elems, rest, hcs, hx, hel, hl, hm, hi⟩
    · simp only [List.cons.injEq, and_true] at hcs
      subst hcs
      exact ⟨[], .nil _, one_bulk _⟩
    · simp only [List.cons.injEq, and_true] at hcs
      subst hcs
      by_cases hc0 : cap = 0
      · obtain rfl : len = 0 := by omega
        subst hc0
        exact ⟨[], .nil _, one_bulk _⟩
      · obtain ⟨_, -, -, h0⟩ := hi 0 (by omega)
        obtain ⟨v0, y0, m0, -, hv0, -⟩ := h0 0 _ rfl
        obtain ⟨g, o, rfl, hg⟩ := cell_place (by simp) hv0
        have hq : ∀ i, i < len → ∃ t : T, W.cell? ⟨g, o + i * 5, none⟩ = some (iv t.n) ∧ (∃ s, W.cell? ⟨g, o + i * 5 + 1, none⟩ = some s ∧ BT W s t.s) ∧ W.cell? ⟨g, o + i * 5 + 2, none⟩ = some (.bool t.null) ∧
            (∃ l, W.cell? ⟨g, o + i * 5 + 3, none⟩ = some l ∧ TL W l t.l) ∧ (∃ u, W.cell? ⟨g, o + i * 5 + 4, none⟩ = some u ∧ UTags W u t.u) ∧ ∀ d, (elems.map (·.1))[i]? = some d → L6.tsize t ≤ Rows.uptoBulk d := by
          intro i hil
          obtain ⟨ys, hyl, hye, hi⟩ := hi i (by omega)
          obtain ⟨va, ya, ma, -, hva, hya, hta⟩ := hi 0 _ rfl
          obtain ⟨vb, yb, mb, -, hvb, hyb, htb⟩ := hi 1 _ rfl
          obtain ⟨vc, yc, mc, -, hvc, hyc, htc⟩ := hi 2 _ rfl
          obtain ⟨vd, yd, md, hmd, hvd, hyd, htd⟩ := hi 3 _ rfl
          obtain ⟨ve, ye, me, -, hve, hye', hte⟩ := hi 4 _ rfl
          obtain ⟨k, hk, -, -⟩ := DataW.trod_int Tryz.underlying2 hta
          obtain ⟨bs, hbs, kb⟩ := open_bt htb
          obtain ⟨nb, hn, -⟩ := DataW.trod_bool Tryz.underlying4 htc
          obtain ⟨ts, hts, kd⟩ := ih md hmd vd yd htd
          obtain ⟨us, hus, ke⟩ := open_utags hte
          simp only [List.cons.injEq, and_true] at hk hn
          subst hk hn
          exact ⟨.mk k bs nb ts us, by rw [← hva, Addr.add_lit]; rfl, ⟨vb, by rw [← hvb, Addr.add_lit]; rfl, hbs⟩, by rw [← hvc, Addr.add_lit]; rfl, ⟨vd, by rw [← hvd, Addr.add_lit]; rfl, hts⟩, ⟨ve, by rw [← hve, Addr.add_lit]; rfl, hus⟩, fun dd hdd => by
            obtain ⟨p, hp⟩ := hye hil
            rw [List.getElem?_map, hp] at hdd
            simp only [Option.map_some, Option.some.injEq] at hdd
            subst hdd
            match ys, hyl, hya, hyb, hyc, hyd, hye' with
            | [y0, y1, y2, y3, y4], _, h0, h1, h2, h3, h4 =>
              simp only [List.getElem?_cons_zero, List.getElem?_cons_succ, Option.some.injEq] at h0 h1 h2 h3 h4
              subst h1 h3 h4
              have g1 := agg_bulk (H := H) [y0.1, y1.1, y2.1, y3.1, y4.1]
              have g2 := one_bulk y0.1
              have g3 := one_bulk y2.1
              simp only [Rows.uptoBulkAll] at g1
              show L6.tsize _ ≤ Rows.uptoBulk (DataW.agg [y0.1, y1.1, y2.1, y3.1, y4.1])
              rw [L6.tsize_eq]
              show 6 + bs.length + L6.tsizes ts + (us.map fun x => 3 + x.2.length).sum ≤ _
              omega⟩
        obtain ⟨ts, hts, ht⟩ := list_choose len hq
        have hbulk : L6.tsizes ts + 1 ≤ Rows.uptoBulk x.1 := by
          rw [hx, tsizes_sum]
          have h1 := sum_bulk L6.tsize ts (elems.map (·.1)) (by simp; omega) (fun i u d h1 h2 => by
            obtain ⟨-, -, -, -, -, h⟩ := ht i u h1
            exact h d h2)
          have h2 := slice_bulk (elems.map (·.1)) rest
          omega
        refine ⟨ts, ?_, hbulk⟩
        have hmk := TL.mk (w := W) g o cap ts (fun i => (W.cell? ⟨g, o + i * 5 + 1, none⟩).getD undef) (fun i => (W.cell? ⟨g, o + i * 5 + 3, none⟩).getD undef) (fun i => (W.cell? ⟨g, o + i * 5 + 4, none⟩).getD undef) (by omega) (by simp only [maxLen] at hm; omega) hg
          (fun i t hit => by
            obtain ⟨e0, ⟨s, e1, e1'⟩, e2, ⟨l, e3, e3'⟩, ⟨u, e4, e4'⟩, -⟩ := ht i t hit
            simp only [e1, e3, e4, Option.getD_some]
            exact ⟨e0, trivial, e2, trivial, trivial, e1', e4'⟩)
          (fun i t hit => by
            obtain ⟨e0, ⟨s, e1, e1'⟩, e2, ⟨l, e3, e3'⟩, ⟨u, e4, e4'⟩, -⟩ := ht i t hit
            simp only [e3, Option.getD_some]
            exact e3')
        rw [hts] at hmk
        exact hmk
set_option maxRecDepth 100000 in
/-- The argument: a tree. -/
theorem open_tree {base : Nat} {v : Value} {d : DataW H} {ps : List MemPlace} (hval : Value.okWide Tryz.prog W .any base 26 v) (h : DataW.Trod enc Tryz.prog W 0 (fun _ => true) true 26 v d ps) : ∃ t, TreeV W v t ∧ L6.tsize t ≤ Rows.uptoBulk d := by
  obtain ⟨c0, c1, c2, c3, c4, y0, y1, y2, y3, y4, n, rfl, rfl, g0, g1, g2, g3, g4⟩ := open_five Tryz.underlying26 (by kernel_rfl) (by kernel_rfl) hval h
  obtain ⟨k, hk, -, -⟩ := DataW.trod_int Tryz.underlying2 g0
  obtain ⟨bs, hbs, k1⟩ := open_bt g1
  obtain ⟨nb, hn, -⟩ := DataW.trod_bool Tryz.underlying4 g2
  obtain ⟨ts, hts, k3⟩ := open_trees n c3 _ g3
  obtain ⟨us, hus, k4⟩ := open_utags g4
  simp only [List.cons.injEq, and_true] at hk hn
  subst hk hn
  refine ⟨.mk k bs nb ts us, ⟨c1, c3, c4, rfl, hbs, hts, hus⟩, ?_⟩
  have q1 := agg_bulk (H := H) [y0.1, y1.1, y2.1, y3.1, y4.1]
  have q2 := one_bulk y0.1
  have q3 := one_bulk y2.1
  simp only [Rows.uptoBulkAll] at q1
  rw [L6.tsize_eq]
  show 6 + bs.length + L6.tsizes ts + (us.map fun x => 3 + x.2.length).sum ≤ _
  omega
end
end Go.Proofs.YtoklbgdafnminaaGreatDoor
/-
  What the laws Again and Cut lean on. Conditions: none.
-/
namespace Go.Proofs.YtoklbgdafnminaaGreatDoor
open Go.RowKit
open Kz

theorem UTags.keys {w : World} {v : Value} {us : List (Nat × List UInt8)} (h : UTags w v us) : ∀ x ∈ us, x.1 < 4294967296 := by
  rcases h with ⟨_, _, rfl⟩ | ⟨g, o, c, h1, h2, h3, h4, h5⟩
  · intro x hx; cases hx
  · intro x hx
    obtain ⟨i, hi⟩ := List.mem_iff_getElem?.1 hx
    obtain ⟨s, -, -, -, hk⟩ := h5 i x.1 x.2 hi
    exact hk
theorem TL.keys {w : World} {v : Value} {ts : List T} (h : TL w v ts) : ∀ t ∈ ts, KeysOk t := by
  induction h with
  | nil ad => intro t ht; cases ht
  | mk g o c ts sv lv uv h1 h2 h3 h4 _ ih =>
    intro t ht
    obtain ⟨i, hi⟩ := List.mem_iff_getElem?.1 ht
    obtain ⟨e0, e1, e2, e3, e4, e5, e6⟩ := h4 i t hi
    have h := ih i t hi
    have hu := e6.keys
    cases t
    exact .mk _ _ _ _ _ hu h
theorem TreeV.keys {w : World} {v : Value} {t : T} (h : TreeV w v t) : KeysOk t := by
  obtain ⟨s, l, u, -, -, h2, h3⟩ := h
  have hu := h3.keys
  have hl := h2.keys
  cases t
  exact .mk _ _ _ _ _ hu hl
/-- A message that the reference lays. -/
def SpecOk (f : Nat) (m : M) : Prop := ∀ w : World, Calls Tryz.prog f #[] w fun e w' => ∃ v', e = .returned v' ∧ MsgV w' v' m ∧ Below w.heap.size w w'
/-- .. fields that it lays. -/
def PartsOk (f : Nat) (fs : List F) : Prop := ∀ w : World, Calls Tryz.prog f #[] w fun e w' => ∃ v', e = .returned v' ∧ FL w' v' fs ∧ Below w.heap.size w w'
theorem ErrOk.below {w w' : World} (h : ErrOk w) (hb : Below w.heap.size w w') : ErrOk w' := by
  obtain ⟨t, x, h⟩ := h
  exact ⟨t, x, by rw [cell_kept (hb.block _ (World.block_lt_of_cell? w _ h))]; exact h⟩
/-- A beginning. -/
theorem BytesAt.front {w : World} {S : Nat → Prop} {p : Option Addr} {n c k : Nat} {bs : List UInt8} (h : BytesAt w S (.slice p n c) bs) (hk : k ≤ bs.length) : BytesAt w S (.slice p k c) (bs.take k) := by
  rcases h with ⟨h, rfl⟩ | ⟨g, o, c', h1, h2, h2', h3, h4, h5⟩
  · simp only [Value.slice.injEq] at h
    obtain ⟨rfl, rfl, rfl⟩ := h
    obtain rfl : k = 0 := by simpa using hk
    exact .inl ⟨rfl, by simp⟩
  · simp only [Value.slice.injEq] at h1
    obtain ⟨rfl, rfl, rfl⟩ := h1
    refine .inr ⟨g, o, c, ?_, ?_, h2', h3, h4, fun i b hi => ?_⟩
    · rw [List.length_take, Nat.min_eq_left hk]
    · rw [List.length_take]; omega
    · rw [List.getElem?_take] at hi
      split at hi
      · exact h5 i b hi
      · cases hi
/-- How long it is, of a tree that is not great. -/
theorem write_bulk {m : M} (h : decide ((100 + 2 * wts m.fields) * 1048576 < 6 * 4294967296) = true) (v : Int) (t : T) (ht : L6.tsize t ≤ 1048576) : (write m v t).length < 4294967296 := by
  have h1 : 6 * (write m v t).length ≤ (100 + 2 * wts m.fields) * L6.tsize t := L6.part_len v (m.isFlex v) m.fields t
  have h2 : (100 + 2 * wts m.fields) * L6.tsize t ≤ (100 + 2 * wts m.fields) * 1048576 := Nat.mul_le_mul_left _ ht
  have h3 := of_decide_eq_true h
  omega
theorem u16_range {n : Int} (h : (Lit.int .u16 n).wf = true) : 0 ≤ n ∧ n < 65536 := by
  simp [Lit.wf, IntKind.min, IntKind.max, IntKind.bits, IntKind.signed] at h
  omega
section
variable {H : Type}
theorem bulk_mem {d : DataW H} {l : List (DataW H)} (h : d ∈ l) : Rows.uptoBulk d ≤ Rows.uptoBulkAll l := by
  induction l with
  | nil => cases h
  | cons x r ih =>
    simp only [Rows.uptoBulkAll]
    rcases List.mem_cons.1 h with rfl | h
    · omega
    · have := ih h; omega
theorem small_le {l : List (DataW H)} (hk : Rows.uptoSmall H l = true) : Rows.uptoBulkAll l ≤ 1048576 := of_decide_eq_true hk
end
end Go.Proofs.YtoklbgdafnminaaGreatDoor
