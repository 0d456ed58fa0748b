/-
  The package's reader: numbers of so many octets. What each call answers, and what is left. Conditions: none.
-/
import Derived.Test.YtpknjenihcfhlaaDoorMem
import Derived.Test.YtpknjenihcfhlaaDoorShelf
import Derived.Deep.RegionWith
namespace Go.Proofs.YtpknjenihcfhlaaDoor
open Go.RowKit (Below)
open Kz


set_option maxHeartbeats 400000 in
theorem Int16_short (w : World) (rb n c : Nat) (ad : Option Addr) (q : Bool) (hn : n < 2)
    (c0 : w.cell? ⟨rb, 0, none⟩ = some (.slice ad n c)) (c1 : w.cell? ⟨rb, 1, none⟩ = some (.bool q)) (f0 : w.frozen? ⟨rb, 0, none⟩ = false) (f1 : w.frozen? ⟨rb, 1, none⟩ = false) :
    Calls Tryd.prog 72 #[.pointer (some ⟨rb, 0, none⟩)] w fun e w' =>
      e = .returned (.int .i16 0) ∧ w' = (w.setCell ⟨rb, 1, none⟩ (.bool true)).setCell ⟨rb, 0, none⟩ (.slice none 0 0) := by
  go_enter Tryd.func72, Tryd.ntmps72
  go_wp2
  go_ret
  exact ⟨rfl, rfl⟩

set_option maxHeartbeats 400000 in
theorem Int16_good (w : World) (rb n c g o : Nat) (b0 b1 : UInt8) (hn : 2 ≤ n) (hc : n ≤ c) (hc2 : c ≤ 9223372036854775807) (hrb : rb < w.heap.size)
    (c0 : w.cell? ⟨rb, 0, none⟩ = some (.slice (some ⟨g, o, none⟩) n c)) (f0 : w.frozen? ⟨rb, 0, none⟩ = false)
    (d0 : w.cell? ⟨g, o, none⟩ = some (.int .u8 b0.toNat)) (d1 : w.cell? ⟨g, o + 1, none⟩ = some (.int .u8 b1.toNat)) :
    Calls Tryd.prog 72 #[.pointer (some ⟨rb, 0, none⟩)] w fun e w' =>
      e = .returned (.int .i16 (IntKind.i16.wrap (Lib.beNat [b0, b1]))) ∧ ∃ w1 ad, Below w.heap.size w w1 ∧ (ad = ⟨g, o + 2, none⟩ ∨ (c = 2 ∧ ad = ⟨g, o, none⟩)) ∧ w' = w1.setCell ⟨rb, 0, none⟩ (.slice (some ad) (n - 2) (c - 2)) := by
  by_cases hne : c = 2
  · subst hne
    obtain rfl : n = 2 := by omega
    go_enter Tryd.func72, Tryd.ntmps72
    go_wp2_with fail
    go_region_with (go_at_call 96; refine (Tryd.binary_BE_Uint16 _ _ _ _ b0 b1 _ (by exact hn) (by exact d0) (by exact d1)).mono ?_; rintro e w1 ⟨rfl, hb⟩)
    all_goals
      have k0 := (hb.cell (p := ⟨rb, 0, none⟩) hrb).trans c0
      have k1 := (hb.frozen (p := ⟨rb, 0, none⟩) hrb).trans f0
      have hb' : Below w.heap.size w w1 := ((Below.refl _ _).drew).trans hb
      clear hb c0 f0 d0 d1 hn hc
      go_wp2
      go_ret
      exact ⟨rfl, w1, _, hb', .inr ⟨by trivial, rfl⟩, rfl⟩
  · go_enter Tryd.func72, Tryd.ntmps72
    go_wp2_with fail
    go_region_with (go_at_call 96; refine (Tryd.binary_BE_Uint16 _ _ _ _ b0 b1 _ (by exact hn) (by exact d0) (by exact d1)).mono ?_; rintro e w1 ⟨rfl, hb⟩)
    all_goals
      have k0 := (hb.cell (p := ⟨rb, 0, none⟩) hrb).trans c0
      have k1 := (hb.frozen (p := ⟨rb, 0, none⟩) hrb).trans f0
      have hb' : Below w.heap.size w w1 := ((Below.refl _ _).drew).trans hb
      clear hb c0 f0 d0 d1
      go_wp2
      go_ret
      exact ⟨rfl, w1, _, hb', .inl rfl, rfl⟩





set_option maxHeartbeats 400000 in
theorem Int32_short (w : World) (rb n c : Nat) (ad : Option Addr) (q : Bool) (hn : n < 4)
    (c0 : w.cell? ⟨rb, 0, none⟩ = some (.slice ad n c)) (c1 : w.cell? ⟨rb, 1, none⟩ = some (.bool q)) (f0 : w.frozen? ⟨rb, 0, none⟩ = false) (f1 : w.frozen? ⟨rb, 1, none⟩ = false) :
    Calls Tryd.prog 80 #[.pointer (some ⟨rb, 0, none⟩)] w fun e w' =>
      e = .returned (.int .i32 0) ∧ w' = (w.setCell ⟨rb, 1, none⟩ (.bool true)).setCell ⟨rb, 0, none⟩ (.slice none 0 0) := by
  go_enter Tryd.func80, Tryd.ntmps80
  go_wp2
  go_ret
  exact ⟨rfl, rfl⟩

set_option maxHeartbeats 400000 in
theorem Int32_good (w : World) (rb n c g o : Nat) (b0 b1 b2 b3 : UInt8) (hn : 4 ≤ n) (hc : n ≤ c) (hc2 : c ≤ 9223372036854775807) (hrb : rb < w.heap.size)
    (c0 : w.cell? ⟨rb, 0, none⟩ = some (.slice (some ⟨g, o, none⟩) n c)) (f0 : w.frozen? ⟨rb, 0, none⟩ = false)
    (d0 : w.cell? ⟨g, o, none⟩ = some (.int .u8 b0.toNat)) (d1 : w.cell? ⟨g, o + 1, none⟩ = some (.int .u8 b1.toNat)) (d2 : w.cell? ⟨g, o + 2, none⟩ = some (.int .u8 b2.toNat)) (d3 : w.cell? ⟨g, o + 3, none⟩ = some (.int .u8 b3.toNat)) :
    Calls Tryd.prog 80 #[.pointer (some ⟨rb, 0, none⟩)] w fun e w' =>
      e = .returned (.int .i32 (RowKit.wrap32 (Lib.beNat [b0, b1, b2, b3]))) ∧ ∃ w1 ad, Below w.heap.size w w1 ∧ (ad = ⟨g, o + 4, none⟩ ∨ (c = 4 ∧ ad = ⟨g, o, none⟩)) ∧ w' = w1.setCell ⟨rb, 0, none⟩ (.slice (some ad) (n - 4) (c - 4)) := by
  by_cases hne : c = 4
  · subst hne
    obtain rfl : n = 4 := by omega
    go_enter Tryd.func80, Tryd.ntmps80
    go_wp2_with fail
    go_region_with (go_at_call 101; refine (Tryd.binary_BE_Uint32 _ _ _ _ b0 b1 b2 b3 _ (by exact hn) (by exact d0) (by exact d1) (by exact d2) (by exact d3)).mono ?_; rintro e w1 ⟨rfl, hb⟩)
    all_goals
      have k0 := (hb.cell (p := ⟨rb, 0, none⟩) hrb).trans c0
      have k1 := (hb.frozen (p := ⟨rb, 0, none⟩) hrb).trans f0
      have hb' : Below w.heap.size w w1 := ((Below.refl _ _).drew).trans hb
      clear hb c0 f0 d0 d1 d2 d3 hn hc
      go_wp2
      go_ret
      exact ⟨rfl, w1, _, hb', .inr ⟨by trivial, rfl⟩, rfl⟩
  · go_enter Tryd.func80, Tryd.ntmps80
    go_wp2_with fail
    go_region_with (go_at_call 101; refine (Tryd.binary_BE_Uint32 _ _ _ _ b0 b1 b2 b3 _ (by exact hn) (by exact d0) (by exact d1) (by exact d2) (by exact d3)).mono ?_; rintro e w1 ⟨rfl, hb⟩)
    all_goals
      have k0 := (hb.cell (p := ⟨rb, 0, none⟩) hrb).trans c0
      have k1 := (hb.frozen (p := ⟨rb, 0, none⟩) hrb).trans f0
      have hb' : Below w.heap.size w w1 := ((Below.refl _ _).drew).trans hb
      clear hb c0 f0 d0 d1 d2 d3
      go_wp2
      go_ret
      exact ⟨rfl, w1, _, hb', .inl rfl, rfl⟩


set_option maxHeartbeats 400000 in
theorem readUint64_short (w : World) (rb n c : Nat) (ad : Option Addr) (q : Bool) (hn : n < 8)
    (c0 : w.cell? ⟨rb, 0, none⟩ = some (.slice ad n c)) (c1 : w.cell? ⟨rb, 1, none⟩ = some (.bool q)) (f0 : w.frozen? ⟨rb, 0, none⟩ = false) (f1 : w.frozen? ⟨rb, 1, none⟩ = false) :
    Calls Tryd.prog 95 #[.pointer (some ⟨rb, 0, none⟩)] w fun e w' =>
      e = .returned (.int .u64 0) ∧ w' = (w.setCell ⟨rb, 1, none⟩ (.bool true)).setCell ⟨rb, 0, none⟩ (.slice none 0 0) := by
  go_enter Tryd.func95, Tryd.ntmps95
  go_wp2
  go_ret
  exact ⟨rfl, rfl⟩

set_option maxHeartbeats 400000 in
theorem readUint64_good (w : World) (rb n c g o : Nat) (b0 b1 b2 b3 b4 b5 b6 b7 : UInt8) (hn : 8 ≤ n) (hc : n ≤ c) (hc2 : c ≤ 9223372036854775807) (hrb : rb < w.heap.size)
    (c0 : w.cell? ⟨rb, 0, none⟩ = some (.slice (some ⟨g, o, none⟩) n c)) (f0 : w.frozen? ⟨rb, 0, none⟩ = false)
    (d0 : w.cell? ⟨g, o, none⟩ = some (.int .u8 b0.toNat)) (d1 : w.cell? ⟨g, o + 1, none⟩ = some (.int .u8 b1.toNat)) (d2 : w.cell? ⟨g, o + 2, none⟩ = some (.int .u8 b2.toNat)) (d3 : w.cell? ⟨g, o + 3, none⟩ = some (.int .u8 b3.toNat)) (d4 : w.cell? ⟨g, o + 4, none⟩ = some (.int .u8 b4.toNat)) (d5 : w.cell? ⟨g, o + 5, none⟩ = some (.int .u8 b5.toNat)) (d6 : w.cell? ⟨g, o + 6, none⟩ = some (.int .u8 b6.toNat)) (d7 : w.cell? ⟨g, o + 7, none⟩ = some (.int .u8 b7.toNat)) :
    Calls Tryd.prog 95 #[.pointer (some ⟨rb, 0, none⟩)] w fun e w' =>
      e = .returned (.int .u64 (Lib.beNat [b0, b1, b2, b3, b4, b5, b6, b7])) ∧ ∃ w1 ad, Below w.heap.size w w1 ∧ (ad = ⟨g, o + 8, none⟩ ∨ (c = 8 ∧ ad = ⟨g, o, none⟩)) ∧ w' = w1.setCell ⟨rb, 0, none⟩ (.slice (some ad) (n - 8) (c - 8)) := by
  by_cases hne : c = 8
  · subst hne
    obtain rfl : n = 8 := by omega
    go_enter Tryd.func95, Tryd.ntmps95
    go_wp2_with fail
    go_region_with (go_at_call 103; refine (Tryd.binary_BE_Uint64 _ _ _ _ b0 b1 b2 b3 b4 b5 b6 b7 _ (by exact hn) (by exact d0) (by exact d1) (by exact d2) (by exact d3) (by exact d4) (by exact d5) (by exact d6) (by exact d7)).mono ?_; rintro e w1 ⟨rfl, hb⟩)
    all_goals
      have k0 := (hb.cell (p := ⟨rb, 0, none⟩) hrb).trans c0
      have k1 := (hb.frozen (p := ⟨rb, 0, none⟩) hrb).trans f0
      have hb' : Below w.heap.size w w1 := ((Below.refl _ _).drew).trans hb
      clear hb c0 f0 d0 d1 d2 d3 d4 d5 d6 d7 hn hc
      go_wp2
      go_ret
      exact ⟨rfl, w1, _, hb', .inr ⟨by trivial, rfl⟩, rfl⟩
  · go_enter Tryd.func95, Tryd.ntmps95
    go_wp2_with fail
    go_region_with (go_at_call 103; refine (Tryd.binary_BE_Uint64 _ _ _ _ b0 b1 b2 b3 b4 b5 b6 b7 _ (by exact hn) (by exact d0) (by exact d1) (by exact d2) (by exact d3) (by exact d4) (by exact d5) (by exact d6) (by exact d7)).mono ?_; rintro e w1 ⟨rfl, hb⟩)
    all_goals
      have k0 := (hb.cell (p := ⟨rb, 0, none⟩) hrb).trans c0
      have k1 := (hb.frozen (p := ⟨rb, 0, none⟩) hrb).trans f0
      have hb' : Below w.heap.size w w1 := ((Below.refl _ _).drew).trans hb
      clear hb c0 f0 d0 d1 d2 d3 d4 d5 d6 d7
      go_wp2
      go_ret
      exact ⟨rfl, w1, _, hb', .inl rfl, rfl⟩
end Go.Proofs.YtpknjenihcfhlaaDoor
