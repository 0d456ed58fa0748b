/-
  A request's frame: the law's walk. Conditions: none.
-/
import Derived.Test.YtncaphiimdkniaaGreatDoorFr7
namespace Go.Proofs.YtncaphiimdkniaaGreatDoor.Frm
open Go.Proofs.YtncaphiimdkniaaGreatDoor
open Go.RowKit
open Kz

/-- What the law's variables hold. -/
structure Env (w wr : World) (has : Bool) (s : List UInt8) (cs : Array Value) : Prop where
  bel : Below w.heap.size w wr
  len : w.heap.size + 1 < wr.heap.size
  xa : wr.cell? ⟨w.heap.size, 0, none⟩ = some (.bool has)
  xb : wr.cell? ⟨w.heap.size, 1, none⟩ = some (strV s)
  y : ∀ k, wr.cell? ⟨w.heap.size + 1, k, none⟩ = cs[k]?
theorem Env.step {w a b : World} {has : Bool} {s : List UInt8} {cs : Array Value} (h : Env w a has s cs) (hb : Below a.heap.size a b) : Env w b has s cs :=
  ⟨up2 h.bel hb, Nat.lt_of_lt_of_le h.len hb.size, by rw [(bcell hb).1 _ _ (by have := h.len; omega)]; exact h.xa, by rw [(bcell hb).1 _ _ (by have := h.len; omega)]; exact h.xb, fun k => by rw [(bcell hb).1 _ _ h.len]; exact h.y k⟩
set_option maxRecDepth 8000 in
set_option maxHeartbeats 4000000 in
theorem walk (w : World) (n : Int) (h0 : 0 ≤ n) (h1' : n < 256) (has : Bool) (s : List UInt8) (num : Int) (hn0 : -2147483648 ≤ num) (hn1 : num ≤ 2147483647) (tv : Value) (t : T) (ht : TreeV w tv t) (her : ErrOk w) (hz : ∀ v, (write msg v t).length ≤ 1500000000) :
    Calls Tryz.prog 3 #[.int .u8 n, .agg #[.bool has, strV s], .int .i32 num, tv] w fun e w' => e = .returned (.bool true) ∧ Below w.heap.size w w' := by
  obtain ⟨s0, l, u, rfl, h1, h2, h3⟩ := ht
  obtain ⟨a1, c1, rfl⟩ := h1.len
  obtain ⟨a2, c2, rfl⟩ := h2.len
  obtain ⟨a3, c3, rfl⟩ := h3.len
  have HT : Hid (TreeV w (treV t.n t.null (.slice a1 t.s.length c1) (.slice a2 t.l.length c2) (.slice a3 t.u.length c3)) t) := Lib.hid ⟨_, _, _, rfl, h1, h2, h3⟩
  have HK := Lib.hid HT.out.keys
  have HE := Lib.hid her
  have HZ := Lib.hid hz
  obtain ⟨X, hX⟩ : ∃ X, w.alloc (.cells #[.bool has, strV s] 23) = X := ⟨_, rfl⟩
  have zX : X.heap.size = w.heap.size + 1 := by rw [← hX, World.size_alloc]
  have xX : X.cell? ⟨w.heap.size, 0, none⟩ = some (.bool has) ∧ X.cell? ⟨w.heap.size, 1, none⟩ = some (strV s) := by
    rw [← hX]
    simp only [World.cell?, alloc_new]
    exact ⟨rfl, rfl⟩
  have BX : Below w.heap.size w X := by rw [← hX]; exact (Below.refl _ _).alloc (Nat.le_refl _) _
  obtain ⟨W, hW⟩ : ∃ W, X.alloc (.cells #[iv t.n, .slice a1 t.s.length c1, .bool t.null, .slice a2 t.l.length c2, .slice a3 t.u.length c3] 28) = W := ⟨_, rfl⟩
  have hwz : W.heap.size = w.heap.size + 1 + 1 := by rw [← hW, World.size_alloc, zX]
  have y0 : ∀ k, W.cell? ⟨w.heap.size + 1, k, none⟩ = (#[iv t.n, .slice a1 t.s.length c1, .bool t.null, .slice a2 t.l.length c2, .slice a3 t.u.length c3] : Array Value)[k]? := by
    intro k
    rw [← hW, ← zX]
    simp only [World.cell?, alloc_new]
    rfl
  have x0 : W.cell? ⟨w.heap.size, 0, none⟩ = some (.bool has) ∧ W.cell? ⟨w.heap.size, 1, none⟩ = some (strV s) := by
    rw [← hW, World.cell?_alloc_lt _ _ _ (by rw [zX]; simp), World.cell?_alloc_lt _ _ _ (by rw [zX]; simp)]
    exact xX
  have BW : Below w.heap.size w W := by rw [← hW]; exact BX.alloc (by omega) _
  have E0 : Env w W has s #[iv t.n, .slice a1 t.s.length c1, .bool t.null, .slice a2 t.l.length c2, .slice a3 t.u.length c3] := ⟨BW, by omega, x0.1, x0.2, y0⟩
  have hm0 : 0 ≤ n % 5 := Int.emod_nonneg _ (by decide)
  have hm1 : n % 5 < 5 := Int.emod_lt_of_pos _ (by decide)
  have HOK := Lib.hid (okv _ hm0 hm1)
  obtain ⟨xa, xb⟩ := x0
  generalize hcs : (#[iv t.n, .slice a1 t.s.length c1, .bool t.null, .slice a2 t.l.length c2, .slice a3 t.u.length c3] : Array Value) = cs at E0
  have HE0 := Lib.hid E0
  have HCS := Lib.hid hcs
  clear hcs
  clear h1 h2 h3 her hz xX BX BW E0
  go_enter Tryz.func3, Tryz.ntmps3
  go_wp2_with fail
  clear hX hW zX hwz xa xb y0
  refine (fits1_any W has s).mono ?_
  rintro e w1 ⟨rfl, b1⟩
  have E1 := Lib.hid (HE0.out.step b1)
  clear b1
  by_cases hf : s.length ≤ 2147483647
  case neg =>
    have hd : decide (s.length ≤ 2147483647) = false := decide_eq_false hf
    rw [hd]
    go_wp2
    go_ret
    exact ⟨rfl, E1.out.bel⟩
  have hd : decide (s.length ≤ 2147483647) = true := decide_eq_true hf
  rw [hd]
  clear hd
  have y1 : ∀ k, w1.cell? ⟨w.heap.size + 1, k, none⟩ = (#[iv t.n, .slice a1 t.s.length c1, .bool t.null, .slice a2 t.l.length c2, .slice a3 t.u.length c3] : Array Value)[k]? := by rw [HCS.out]; exact E1.out.y
  go_wp2_with fail
  clear y1
  refine (fits2_any w1 _ t (HT.out.stay E1.out.bel)).mono ?_
  rintro e w2 ⟨⟨qf, rfl⟩, b2⟩
  have E2 := Lib.hid (E1.out.step b2)
  clear b2
  cases qf
  · go_wp2
    go_ret
    exact ⟨rfl, E2.out.bel⟩
  have xa2 := E2.out.xa
  have xb2 := E2.out.xb
  go_wp2_with fail
  clear xa2 xb2
  refine (idBytes_any w2 has s hf).mono ?_
  rintro e w3 ⟨v3, rfl, k3, b3⟩
  have E3 := Lib.hid (E2.out.step b3)
  have K3 := Lib.hid k3
  clear k3 b3
  go_wp2_with fail
  refine (HeartbeatRequest.maxv w3).mono ?_
  rintro e w4 ⟨rfl, b4⟩
  have E4 := Lib.hid (E3.out.step b4)
  have K4 := Lib.hid (bytes_stay K3.out b4)
  clear b4
  go_wp2_with fail
  refine (version_any w4 n 4 h0 h1' (by decide) (by decide)).mono ?_
  rintro e w5 ⟨rfl, rfl⟩
  have y5 : ∀ k, w5.cell? ⟨w.heap.size + 1, k, none⟩ = (#[iv t.n, .slice a1 t.s.length c1, .bool t.null, .slice a2 t.l.length c2, .slice a3 t.u.length c3] : Array Value)[k]? := by rw [HCS.out]; exact E4.out.y
  go_wp2_with fail
  go_region_held3 (fun w' => ∀ k, w'.cell? ⟨w.heap.size + 1, k, none⟩ = (#[iv t.n, .slice a1 t.s.length c1, .bool t.null, .slice a2 t.l.length c2, .slice a3 t.u.length c3] : Array Value)[k]?) (assumption) (first
    | (go_at_call 10; refine (spec _).mono ?_; rintro e w6 ⟨v6, rfl, hmv, hbel'⟩; have hbel := below_undrew hbel'; clear hbel';
       have y6 := fun k => ((bcell hbel).1 (w.heap.size + 1) k E4.out.len).trans (y5 k); have E6 := Lib.hid (E4.out.step hbel); have K6 := Lib.hid (bytes_stay K4.out hbel); have HM := Lib.hid hmv; clear hbel hmv)
    | (go_at_call 9; refine (Write_any _ _ _ msg (n % 5) t HM.out (HT.out.stay E6.out.bel) (by kernel_rfl) (by have := HZ.out (n % 5); simp only [lim]; omega)).mono ?_; rintro e w7 ⟨v7, rfl, hown, hbel⟩;
       have y7 := fun k => ((bcell hbel).1 (w.heap.size + 1) k E6.out.len).trans (y6 k); have E7 := Lib.hid (E6.out.step hbel); have K7 := Lib.hid (bytes_stay K6.out hbel); have HO := Lib.hid hown; clear hbel hown))
  clear y5 y6 y7
  have hO := HO.out
  obtain ⟨p7, c7, rfl, -⟩ := row_form hO
  have HE7 := Lib.hid (HE.out.below E7.out.bel)
  obtain ⟨t', e1, e2, e3, e4⟩ := again_law msg (n % 5) t HOK.out HK.out (by have := HZ.out (n % 5); omega)
  have hz5 := HZ.out (n % 5)
  obtain ⟨id, hid⟩ : ∃ id, (if has then some s else none) = id := ⟨_, rfl⟩
  have himpl := impl_is w7 (n % 5) num has s id hid (.slice p7 (write msg (n % 5) t).length c7) (write msg (n % 5) t) _ t' hm0 hm1 ((own_bytes hO).mono fun _ _ => trivial) HE7.out hz5 e1 e3 (fun _ => hf) (by
    have e : write HeartbeatRequest.msg (n % 5) t' = write msg (n % 5) t := e2
    rw [e]
    exact hz5)
  have e : write HeartbeatRequest.msg (n % 5) t' = write msg (n % 5) t := e2
  rw [e] at himpl
  have HI := Lib.hid himpl
  have xa7 := E7.out.xa
  have xb7 := E7.out.xb
  have w16 : IntKind.i16.wrap (n % 5) = n % 5 := by rw [wrap_i16]; omega
  clear himpl e e1 e2 e3 e4 hO
  go_wp2_with fail
  refine HI.out.mono ?_
  rintro e w8 ⟨u8, rfl, o8, b8⟩
  have E8 := Lib.hid (E7.out.step b8)
  have K8 := Lib.hid (bytes_stay K7.out b8)
  have HO8 := Lib.hid (bytes_stay (own_at_bytes HO.out) b8)
  have U8 := Lib.hid o8
  clear o8 b8 xa7 xb7
  have xa8 := E8.out.xa
  by_cases h5 : s.length ≤ 32767
  case neg =>
    have hd : decide (s.length ≤ 32767) = false := decide_eq_false h5
    simp only [hd]
    go_wp2
    go_ret
    exact ⟨rfl, E8.out.bel⟩
  have hd : decide (s.length ≤ 32767) = true := decide_eq_true h5
  simp only [hd]
  clear hd
  go_wp2_with fail
  refine (frame_is w8 (n % 5) num hm0 (by omega) hn0 hn1 has v3 _ s (write msg (n % 5) t) id hid K8.out HO8.out (by omega) hz5).mono ?_
  rintro e w9 ⟨v9, rfl, o9, b9⟩
  have E9 := Lib.hid (E8.out.step b9)
  have hl : (fixed (rest 12 (n % 5) num id (write msg (n % 5) t)).length 4 ++ rest 12 (n % 5) num id (write msg (n % 5) t)).length < 4611686018427387904 := by
    have h1 : (nid id).length ≤ 40000 := by
      rw [← hid]
      split
      · simp only [nid, List.length_append, fixed_length]
        omega
      · simp [nid, fixed_length]
    simp only [rest, List.length_append, fixed_length]
    split <;> (simp; omega)
  have HS := Lib.hid (Same_any w9 _ _ _ _ _ _ (own_bytes (U8.out.stay b9)) (own_bytes o9) hl)
  clear o9 b9 hl xa8
  go_wp2_with fail
  refine HS.out.mono ?_
  rintro e w10 ⟨rfl, hg⟩
  simp only [decide_true]
  have Z : Hid (Below w.heap.size w w10) := Lib.hid (E9.out.bel.trans ⟨hg.os, hg.tape, hg.output, hg.size, fun k hk => hg.block k (by have := E9.out.len; omega) (by simp)⟩)
  clear hg
  go_wp2
  go_ret
  exact ⟨rfl, Z.out⟩
end Go.Proofs.YtncaphiimdkniaaGreatDoor.Frm
