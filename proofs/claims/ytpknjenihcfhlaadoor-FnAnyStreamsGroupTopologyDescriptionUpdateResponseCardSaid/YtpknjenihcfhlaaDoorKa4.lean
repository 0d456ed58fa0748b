/-
  kbin, writing: a number in groups of seven bits. Conditions: none.
-/
import Derived.Test.YtpknjenihcfhlaaDoorKa3
namespace Go.Proofs.YtpknjenihcfhlaaDoor
open Go.RowKit (Below)
open Kz

theorem uvg (x : Int) (h0 : 0 ≤ x) (h1 : x < 4294967296) : bits BinOp.or IntKind.u32 (bits BinOp.and IntKind.u32 x 127) 128 = x % 128 + 128 := by
  obtain ⟨n, rfl⟩ : ∃ n : Nat, x = n := ⟨x.toNat, by omega⟩
  have e1 : bits BinOp.and IntKind.u32 (n : Int) 127 = ((n % 128 : Nat) : Int) := by
    have h := u32_and_nat n 127 (by omega) (by decide)
    have e : n &&& 127 = n % 128 := Nat.and_two_pow_sub_one_eq_mod n 7
    rw [e] at h
    exact h
  have e2 : bits BinOp.or IntKind.u32 ((n % 128 : Nat) : Int) 128 = ((n % 128 ||| 128 : Nat) : Int) := u32_or_nat (n % 128) 128 (by omega) (by decide)
  have e3 : 128 ||| n % 128 = 128 + n % 128 := nat_join 7 128 (n % 128) (by decide) (by omega)
  rw [e1, e2, Nat.or_comm, e3]
  omega
theorem bv_ofNat (n : Nat) : bv (UInt8.ofNat n) = Value.int .u8 ((n % 256 : Nat) : Int) := by
  unfold bv
  rw [UInt8.toNat_ofNat']

theorem uv_1 (u : Nat) (_h0 : 0 ≤ u) (h1 : u < 128) : uv u = [UInt8.ofNat u] := by
  have c : u  < 128 := by omega
  simp [uv, uvF, c]
set_option maxRecDepth 8000 in
set_option maxHeartbeats 1000000 in
theorem AppendUvarint_1 (w : World) (base : Nat) (v : Value) (bs : List UInt8) (u : Nat) (h : OwnB w base v bs) (hb : base ≤ w.heap.size) (h0 : 0 ≤ u) (h1 : u < 128) (hl : bs.length + 1 ≤ lim) :
    Calls Tryd.prog 51 #[v, .int .u32 (u : Int)] w fun e w' => ∃ v', e = .returned v' ∧ OwnB w' base v' (bs ++ uv u) ∧ w.grownBy w' v.ownBlock := by
  have H := Lib.hid h
  have HL := Lib.hid hl
  have hlen : uvLen u = 1 := by
    unfold uvLen
    repeat (first | rw [if_pos (by omega)] | rw [if_neg (by omega)])
  have HC := Lib.hid (UvarintLen_any w u (by omega))
  rw [hlen] at HC
  have huv : (uv u).length = 1 := by rw [uv_1 u h0 h1]; rfl
  have HU := Lib.hid huv
  clear h hl hlen huv
  go_enter Tryd.func51, Tryd.ntmps51
  go_wp2_with fail
  refine HC.out.mono ?_
  rintro e w' ⟨rfl, rfl⟩
  clear HC
  go_wp2_with (at_builtin; refine wpList_append_bytes rfl _ _ rfl base v bs (uv u) w.heap.size 0 1 1 rfl rfl ?_ HU.out.symm ?_ (by rw [HU.out]; exact HL.out) ?_ ?_)
  · exact H.out.grown fun k hk => alloc_old w _ k hk
  · refine row_new ?_
    rw [uv_1 u h0 h1]
    simp only [List.map_cons, List.map_nil, bv_ofNat]
    simp
    try omega
  · simp; omega
  · intro v' w' hown hg
    have H1 := Lib.hid hown
    have H2 := Lib.hid hg
    clear hown hg
    go_wp2
    go_ret
    exact ⟨v', rfl, H1.out, grownBy_trans (World.grownBy_alloc w _ _) H2.out⟩
theorem uv_2 (u : Nat) (h0 : 128 ≤ u) (h1 : u < 16384) : uv u = [UInt8.ofNat (u  % 128 + 128), UInt8.ofNat (u / 128)] := by
  have c0 : ¬ (u < 128) := by omega
  have c : u / 128 < 128 := by omega
  simp [uv, uvF, c, c0]
set_option maxRecDepth 8000 in
set_option maxHeartbeats 1000000 in
theorem AppendUvarint_2 (w : World) (base : Nat) (v : Value) (bs : List UInt8) (u : Nat) (h : OwnB w base v bs) (hb : base ≤ w.heap.size) (h0 : 128 ≤ u) (h1 : u < 16384) (hl : bs.length + 2 ≤ lim) :
    Calls Tryd.prog 51 #[v, .int .u32 (u : Int)] w fun e w' => ∃ v', e = .returned v' ∧ OwnB w' base v' (bs ++ uv u) ∧ w.grownBy w' v.ownBlock := by
  have H := Lib.hid h
  have HL := Lib.hid hl
  have hlen : uvLen u = 2 := by
    unfold uvLen
    repeat (first | rw [if_pos (by omega)] | rw [if_neg (by omega)])
  have HC := Lib.hid (UvarintLen_any w u (by omega))
  rw [hlen] at HC
  have huv : (uv u).length = 2 := by rw [uv_2 u h0 h1]; rfl
  have HU := Lib.hid huv
  clear h hl hlen huv
  go_enter Tryd.func51, Tryd.ntmps51
  go_wp2_with fail
  refine HC.out.mono ?_
  rintro e w' ⟨rfl, rfl⟩
  clear HC
  go_wp2_with (at_builtin; refine wpList_append_bytes rfl _ _ rfl base v bs (uv u) w.heap.size 0 2 2 rfl rfl ?_ HU.out.symm ?_ (by rw [HU.out]; exact HL.out) ?_ ?_)
  · exact H.out.grown fun k hk => alloc_old w _ k hk
  · refine row_new ?_
    rw [uv_2 u h0 h1, uvg (u : Int) (by omega) (by omega)]
    simp only [List.map_cons, List.map_nil, bv_ofNat]
    simp
    try omega
  · simp; omega
  · intro v' w' hown hg
    have H1 := Lib.hid hown
    have H2 := Lib.hid hg
    clear hown hg
    go_wp2
    go_ret
    exact ⟨v', rfl, H1.out, grownBy_trans (World.grownBy_alloc w _ _) H2.out⟩
theorem uv_3 (u : Nat) (h0 : 16384 ≤ u) (h1 : u < 2097152) : uv u = [UInt8.ofNat (u  % 128 + 128), UInt8.ofNat (u / 128 % 128 + 128), UInt8.ofNat (u / 16384)] := by
  have c0 : ¬ (u < 128) := by omega
  have c1 : ¬ (u / 128 < 128) := by omega
  have c : u / 16384 < 128 := by omega
  simp [uv, uvF, Nat.div_div_eq_div_mul, c, c0, c1]
set_option maxRecDepth 8000 in
set_option maxHeartbeats 1000000 in
theorem AppendUvarint_3 (w : World) (base : Nat) (v : Value) (bs : List UInt8) (u : Nat) (h : OwnB w base v bs) (hb : base ≤ w.heap.size) (h0 : 16384 ≤ u) (h1 : u < 2097152) (hl : bs.length + 3 ≤ lim) :
    Calls Tryd.prog 51 #[v, .int .u32 (u : Int)] w fun e w' => ∃ v', e = .returned v' ∧ OwnB w' base v' (bs ++ uv u) ∧ w.grownBy w' v.ownBlock := by
  have H := Lib.hid h
  have HL := Lib.hid hl
  have hlen : uvLen u = 3 := by
    unfold uvLen
    repeat (first | rw [if_pos (by omega)] | rw [if_neg (by omega)])
  have HC := Lib.hid (UvarintLen_any w u (by omega))
  rw [hlen] at HC
  have huv : (uv u).length = 3 := by rw [uv_3 u h0 h1]; rfl
  have HU := Lib.hid huv
  clear h hl hlen huv
  go_enter Tryd.func51, Tryd.ntmps51
  go_wp2_with fail
  refine HC.out.mono ?_
  rintro e w' ⟨rfl, rfl⟩
  clear HC
  go_wp2_with (at_builtin; refine wpList_append_bytes rfl _ _ rfl base v bs (uv u) w.heap.size 0 3 3 rfl rfl ?_ HU.out.symm ?_ (by rw [HU.out]; exact HL.out) ?_ ?_)
  · exact H.out.grown fun k hk => alloc_old w _ k hk
  · refine row_new ?_
    rw [uv_3 u h0 h1, uvg (u : Int) (by omega) (by omega), uvg ((u : Int) / 128) (by omega) (by omega)]
    simp only [List.map_cons, List.map_nil, bv_ofNat]
    simp
    try omega
  · simp; omega
  · intro v' w' hown hg
    have H1 := Lib.hid hown
    have H2 := Lib.hid hg
    clear hown hg
    go_wp2
    go_ret
    exact ⟨v', rfl, H1.out, grownBy_trans (World.grownBy_alloc w _ _) H2.out⟩
theorem uv_4 (u : Nat) (h0 : 2097152 ≤ u) (h1 : u < 268435456) : uv u = [UInt8.ofNat (u  % 128 + 128), UInt8.ofNat (u / 128 % 128 + 128), UInt8.ofNat (u / 16384 % 128 + 128), UInt8.ofNat (u / 2097152)] := by
  have c0 : ¬ (u < 128) := by omega
  have c1 : ¬ (u / 128 < 128) := by omega
  have c2 : ¬ (u / 16384 < 128) := by omega
  have c : u / 2097152 < 128 := by omega
  simp [uv, uvF, Nat.div_div_eq_div_mul, c, c0, c1, c2]
set_option maxRecDepth 8000 in
set_option maxHeartbeats 1000000 in
theorem AppendUvarint_4 (w : World) (base : Nat) (v : Value) (bs : List UInt8) (u : Nat) (h : OwnB w base v bs) (hb : base ≤ w.heap.size) (h0 : 2097152 ≤ u) (h1 : u < 268435456) (hl : bs.length + 4 ≤ lim) :
    Calls Tryd.prog 51 #[v, .int .u32 (u : Int)] w fun e w' => ∃ v', e = .returned v' ∧ OwnB w' base v' (bs ++ uv u) ∧ w.grownBy w' v.ownBlock := by
  have H := Lib.hid h
  have HL := Lib.hid hl
  have hlen : uvLen u = 4 := by
    unfold uvLen
    repeat (first | rw [if_pos (by omega)] | rw [if_neg (by omega)])
  have HC := Lib.hid (UvarintLen_any w u (by omega))
  rw [hlen] at HC
  have huv : (uv u).length = 4 := by rw [uv_4 u h0 h1]; rfl
  have HU := Lib.hid huv
  clear h hl hlen huv
  go_enter Tryd.func51, Tryd.ntmps51
  go_wp2_with fail
  refine HC.out.mono ?_
  rintro e w' ⟨rfl, rfl⟩
  clear HC
  go_wp2_with (at_builtin; refine wpList_append_bytes rfl _ _ rfl base v bs (uv u) w.heap.size 0 4 4 rfl rfl ?_ HU.out.symm ?_ (by rw [HU.out]; exact HL.out) ?_ ?_)
  · exact H.out.grown fun k hk => alloc_old w _ k hk
  · refine row_new ?_
    rw [uv_4 u h0 h1, uvg (u : Int) (by omega) (by omega), uvg ((u : Int) / 128) (by omega) (by omega), uvg ((u : Int) / 16384) (by omega) (by omega)]
    simp only [List.map_cons, List.map_nil, bv_ofNat]
    simp
    try omega
  · simp; omega
  · intro v' w' hown hg
    have H1 := Lib.hid hown
    have H2 := Lib.hid hg
    clear hown hg
    go_wp2
    go_ret
    exact ⟨v', rfl, H1.out, grownBy_trans (World.grownBy_alloc w _ _) H2.out⟩
theorem uv_5 (u : Nat) (h0 : 268435456 ≤ u) (h1 : u < 4294967296) : uv u = [UInt8.ofNat (u  % 128 + 128), UInt8.ofNat (u / 128 % 128 + 128), UInt8.ofNat (u / 16384 % 128 + 128), UInt8.ofNat (u / 2097152 % 128 + 128), UInt8.ofNat (u / 268435456)] := by
  have c0 : ¬ (u < 128) := by omega
  have c1 : ¬ (u / 128 < 128) := by omega
  have c2 : ¬ (u / 16384 < 128) := by omega
  have c3 : ¬ (u / 2097152 < 128) := by omega
  have c : u / 268435456 < 128 := by omega
  simp [uv, uvF, Nat.div_div_eq_div_mul, c, c0, c1, c2, c3]
set_option maxRecDepth 8000 in
set_option maxHeartbeats 1000000 in
theorem AppendUvarint_5 (w : World) (base : Nat) (v : Value) (bs : List UInt8) (u : Nat) (h : OwnB w base v bs) (hb : base ≤ w.heap.size) (h0 : 268435456 ≤ u) (h1 : u < 4294967296) (hl : bs.length + 5 ≤ lim) :
    Calls Tryd.prog 51 #[v, .int .u32 (u : Int)] w fun e w' => ∃ v', e = .returned v' ∧ OwnB w' base v' (bs ++ uv u) ∧ w.grownBy w' v.ownBlock := by
  have H := Lib.hid h
  have HL := Lib.hid hl
  have hlen : uvLen u = 5 := by
    unfold uvLen
    repeat (first | rw [if_pos (by omega)] | rw [if_neg (by omega)])
  have HC := Lib.hid (UvarintLen_any w u (by omega))
  rw [hlen] at HC
  have huv : (uv u).length = 5 := by rw [uv_5 u h0 h1]; rfl
  have HU := Lib.hid huv
  clear h hl hlen huv
  go_enter Tryd.func51, Tryd.ntmps51
  go_wp2_with fail
  refine HC.out.mono ?_
  rintro e w' ⟨rfl, rfl⟩
  clear HC
  go_wp2_with (at_builtin; refine wpList_append_bytes rfl _ _ rfl base v bs (uv u) w.heap.size 0 5 5 rfl rfl ?_ HU.out.symm ?_ (by rw [HU.out]; exact HL.out) ?_ ?_)
  · exact H.out.grown fun k hk => alloc_old w _ k hk
  · refine row_new ?_
    rw [uv_5 u h0 h1, uvg (u : Int) (by omega) (by omega), uvg ((u : Int) / 128) (by omega) (by omega), uvg ((u : Int) / 16384) (by omega) (by omega), uvg ((u : Int) / 2097152) (by omega) (by omega)]
    simp only [List.map_cons, List.map_nil, bv_ofNat]
    simp
    try omega
  · simp; omega
  · intro v' w' hown hg
    have H1 := Lib.hid hown
    have H2 := Lib.hid hg
    clear hown hg
    go_wp2
    go_ret
    exact ⟨v', rfl, H1.out, grownBy_trans (World.grownBy_alloc w _ _) H2.out⟩
theorem AppendUvarint_own (w : World) (base : Nat) (v : Value) (bs : List UInt8) (u : Nat) (h : OwnB w base v bs) (hb : base ≤ w.heap.size) (hu : u < 4294967296) (hl : bs.length + 5 ≤ lim) :
    Calls Tryd.prog 51 #[v, .int .u32 (u : Int)] w fun e w' => ∃ v', e = .returned v' ∧ OwnB w' base v' (bs ++ uv u) ∧ w.grownBy w' v.ownBlock := by
  by_cases h1 : u < 128
  · exact AppendUvarint_1 w base v bs u h hb (by omega) h1 (by omega)
  by_cases h2 : u < 16384
  · exact AppendUvarint_2 w base v bs u h hb (by omega) h2 (by omega)
  by_cases h3 : u < 2097152
  · exact AppendUvarint_3 w base v bs u h hb (by omega) h3 (by omega)
  by_cases h4 : u < 268435456
  · exact AppendUvarint_4 w base v bs u h hb (by omega) h4 (by omega)
  · exact AppendUvarint_5 w base v bs u h hb (by omega) hu (by omega)
theorem AppendUvarint_any (w : World) (base : Nat) (v : Value) (bs : List UInt8) (u : Nat) (h : OwnB w base v bs) (hb : base ≤ w.heap.size) (hu : u < 4294967296) (hl : bs.length + 5 ≤ lim) :
    Calls Tryd.prog 51 #[v, .int .u32 (u : Int)] w fun e w' => ∃ v', e = .returned v' ∧ OwnB w' base v' (bs ++ uv u) ∧ Below base w w' :=
  Calls.mono (AppendUvarint_own w base v bs u h hb hu hl) fun e w' ⟨v', h1, h2, hg⟩ => ⟨v', h1, h2, hg.os, hg.tape, hg.output, hg.size, fun k hk => hg.block k (by omega) (fun e => by have := h.base k e.symm; omega)⟩
end Go.Proofs.YtpknjenihcfhlaaDoor
