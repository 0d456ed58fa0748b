/-
  The package's Uvarint: a number in groups of seven bits, read of octets. Conditions: none.
-/
import Derived.Test.YtpknjenihcfhlaaDoorKr2
import Derived.Laws.BitsAllLaws
namespace Go.Proofs.YtpknjenihcfhlaaDoor
open Go.RowKit (Below)
open Kz

set_option maxHeartbeats 800000 in
theorem Uvarint_r1 (w : World) (g o n c : Nat) (b0 : UInt8) (hn : 1 ≤ n)
    (d0 : w.cell? ⟨g, o, none⟩ = some (.int .u8 b0.toNat))
    (t0 : (bits BinOp.and IntKind.u8 (↑b0.toNat) 128 == 0) = true) :
    Calls Tryd.prog 102 #[.slice (some ⟨g, o, none⟩) n c] w fun e w' =>
      e = .returned (.tuple #[.int .u32 (bits BinOp.and IntKind.u8 (↑b0.toNat) 127 % 4294967296), .int .i64 1]) ∧ w = w' := by
  go_enter Tryd.func102, Tryd.ntmps102
  go_wp2
  go_step3
  go_wp2
  rw [Exit.noGoto_ret]
  go_ret2
  exact ⟨rfl, rfl⟩

set_option maxHeartbeats 800000 in
theorem Uvarint_r2 (w : World) (g o n c : Nat) (b0 b1 : UInt8) (hn : 2 ≤ n)
    (d0 : w.cell? ⟨g, o, none⟩ = some (.int .u8 b0.toNat)) (d1 : w.cell? ⟨g, o + 1, none⟩ = some (.int .u8 b1.toNat))
    (t0 : (bits BinOp.and IntKind.u8 (↑b0.toNat) 128 == 0) = false) (t1 : (bits BinOp.and IntKind.u8 (↑b1.toNat) 128 == 0) = true) :
    Calls Tryd.prog 102 #[.slice (some ⟨g, o, none⟩) n c] w fun e w' =>
      e = .returned (.tuple #[.int .u32 (bits BinOp.or IntKind.u32 (bits BinOp.and IntKind.u8 (↑b0.toNat) 127 % 4294967296) (bits BinOp.and IntKind.u8 (↑b1.toNat) 127 % 4294967296 * 128 % 4294967296)), .int .i64 2]) ∧ w = w' := by
  go_enter Tryd.func102, Tryd.ntmps102
  go_wp2
  go_step3
  go_wp2
  rw [Exit.noGoto_ret]
  go_ret2
  exact ⟨rfl, rfl⟩

set_option maxHeartbeats 800000 in
theorem Uvarint_r3 (w : World) (g o n c : Nat) (b0 b1 b2 : UInt8) (hn : 3 ≤ n)
    (d0 : w.cell? ⟨g, o, none⟩ = some (.int .u8 b0.toNat)) (d1 : w.cell? ⟨g, o + 1, none⟩ = some (.int .u8 b1.toNat)) (d2 : w.cell? ⟨g, o + 2, none⟩ = some (.int .u8 b2.toNat))
    (t0 : (bits BinOp.and IntKind.u8 (↑b0.toNat) 128 == 0) = false) (t1 : (bits BinOp.and IntKind.u8 (↑b1.toNat) 128 == 0) = false) (t2 : (bits BinOp.and IntKind.u8 (↑b2.toNat) 128 == 0) = true) :
    Calls Tryd.prog 102 #[.slice (some ⟨g, o, none⟩) n c] w fun e w' =>
      e = .returned (.tuple #[.int .u32 (bits BinOp.or IntKind.u32 (bits BinOp.or IntKind.u32 (bits BinOp.and IntKind.u8 (↑b0.toNat) 127 % 4294967296) (bits BinOp.and IntKind.u8 (↑b1.toNat) 127 % 4294967296 * 128 % 4294967296)) (bits BinOp.and IntKind.u8 (↑b2.toNat) 127 % 4294967296 * 16384 % 4294967296)), .int .i64 3]) ∧ w = w' := by
  go_enter Tryd.func102, Tryd.ntmps102
  go_wp2
  go_step3
  go_wp2
  rw [Exit.noGoto_ret]
  go_ret2
  exact ⟨rfl, rfl⟩

set_option maxHeartbeats 800000 in
theorem Uvarint_r4 (w : World) (g o n c : Nat) (b0 b1 b2 b3 : UInt8) (hn : 4 ≤ n)
    (d0 : w.cell? ⟨g, o, none⟩ = some (.int .u8 b0.toNat)) (d1 : w.cell? ⟨g, o + 1, none⟩ = some (.int .u8 b1.toNat)) (d2 : w.cell? ⟨g, o + 2, none⟩ = some (.int .u8 b2.toNat)) (d3 : w.cell? ⟨g, o + 3, none⟩ = some (.int .u8 b3.toNat))
    (t0 : (bits BinOp.and IntKind.u8 (↑b0.toNat) 128 == 0) = false) (t1 : (bits BinOp.and IntKind.u8 (↑b1.toNat) 128 == 0) = false) (t2 : (bits BinOp.and IntKind.u8 (↑b2.toNat) 128 == 0) = false) (t3 : (bits BinOp.and IntKind.u8 (↑b3.toNat) 128 == 0) = true) :
    Calls Tryd.prog 102 #[.slice (some ⟨g, o, none⟩) n c] w fun e w' =>
      e = .returned (.tuple #[.int .u32 (bits BinOp.or IntKind.u32 (bits BinOp.or IntKind.u32 (bits BinOp.or IntKind.u32 (bits BinOp.and IntKind.u8 (↑b0.toNat) 127 % 4294967296) (bits BinOp.and IntKind.u8 (↑b1.toNat) 127 % 4294967296 * 128 % 4294967296)) (bits BinOp.and IntKind.u8 (↑b2.toNat) 127 % 4294967296 * 16384 % 4294967296)) (bits BinOp.and IntKind.u8 (↑b3.toNat) 127 % 4294967296 * 2097152 % 4294967296)), .int .i64 4]) ∧ w = w' := by
  go_enter Tryd.func102, Tryd.ntmps102
  go_wp2
  go_step3
  go_wp2
  rw [Exit.noGoto_ret]
  go_ret2
  exact ⟨rfl, rfl⟩

set_option maxHeartbeats 800000 in
theorem Uvarint_r5 (w : World) (g o n c : Nat) (b0 b1 b2 b3 b4 : UInt8) (hn : 5 ≤ n)
    (d0 : w.cell? ⟨g, o, none⟩ = some (.int .u8 b0.toNat)) (d1 : w.cell? ⟨g, o + 1, none⟩ = some (.int .u8 b1.toNat)) (d2 : w.cell? ⟨g, o + 2, none⟩ = some (.int .u8 b2.toNat)) (d3 : w.cell? ⟨g, o + 3, none⟩ = some (.int .u8 b3.toNat)) (d4 : w.cell? ⟨g, o + 4, none⟩ = some (.int .u8 b4.toNat))
    (t0 : (bits BinOp.and IntKind.u8 (↑b0.toNat) 128 == 0) = false) (t1 : (bits BinOp.and IntKind.u8 (↑b1.toNat) 128 == 0) = false) (t2 : (bits BinOp.and IntKind.u8 (↑b2.toNat) 128 == 0) = false) (t3 : (bits BinOp.and IntKind.u8 (↑b3.toNat) 128 == 0) = false) (t4 : decide ((b4.toNat : Int) ≤ 15) = true) :
    Calls Tryd.prog 102 #[.slice (some ⟨g, o, none⟩) n c] w fun e w' =>
      e = .returned (.tuple #[.int .u32 (bits BinOp.or IntKind.u32 (bits BinOp.or IntKind.u32 (bits BinOp.or IntKind.u32 (bits BinOp.or IntKind.u32 (bits BinOp.and IntKind.u8 (↑b0.toNat) 127 % 4294967296) (bits BinOp.and IntKind.u8 (↑b1.toNat) 127 % 4294967296 * 128 % 4294967296)) (bits BinOp.and IntKind.u8 (↑b2.toNat) 127 % 4294967296 * 16384 % 4294967296)) (bits BinOp.and IntKind.u8 (↑b3.toNat) 127 % 4294967296 * 2097152 % 4294967296)) (↑b4.toNat % 4294967296 * 268435456 % 4294967296)), .int .i64 5]) ∧ w = w' := by
  go_enter Tryd.func102, Tryd.ntmps102
  go_wp2
  go_step3
  go_wp2
  rw [Exit.noGoto_ret]
  go_ret2
  exact ⟨rfl, rfl⟩

set_option maxHeartbeats 800000 in
theorem Uvarint_f0 (w : World) (c : Nat) (ad : Option Addr) 
     :
    Calls Tryd.prog 102 #[.slice ad 0 c] w fun e w' =>
      e = .returned (.tuple #[.int .u32 0, .int .i64 0]) ∧ w = w' := by
  go_enter Tryd.func102, Tryd.ntmps102
  go_wp2
  apply scope_jump_at (l := 0) (W := w) (hf := rfl)
  case first =>
    go_wp2
    refine wp_goto ?_
    exact ⟨rfl, rfl, rfl⟩
  case pass =>
    go_wp2
    simp only [Exit.jump]
    go_ret2
    exact ⟨rfl, rfl⟩

set_option maxHeartbeats 800000 in
theorem Uvarint_f1 (w : World) (g o c : Nat) (b0 : UInt8)
    (d0 : w.cell? ⟨g, o, none⟩ = some (.int .u8 b0.toNat))
    (t0 : (bits BinOp.and IntKind.u8 (↑b0.toNat) 128 == 0) = false) :
    Calls Tryd.prog 102 #[.slice (some ⟨g, o, none⟩) 1 c] w fun e w' =>
      e = .returned (.tuple #[.int .u32 0, .int .i64 0]) ∧ w = w' := by
  go_enter Tryd.func102, Tryd.ntmps102
  go_wp2
  apply scope_jump_at (l := 0) (W := w) (hf := rfl)
  case first =>
    go_wp2
    refine wp_goto ?_
    exact ⟨rfl, rfl, rfl⟩
  case pass =>
    go_wp2
    simp only [Exit.jump]
    go_ret2
    exact ⟨rfl, rfl⟩

set_option maxHeartbeats 800000 in
theorem Uvarint_f2 (w : World) (g o c : Nat) (b0 b1 : UInt8)
    (d0 : w.cell? ⟨g, o, none⟩ = some (.int .u8 b0.toNat)) (d1 : w.cell? ⟨g, o + 1, none⟩ = some (.int .u8 b1.toNat))
    (t0 : (bits BinOp.and IntKind.u8 (↑b0.toNat) 128 == 0) = false) (t1 : (bits BinOp.and IntKind.u8 (↑b1.toNat) 128 == 0) = false) :
    Calls Tryd.prog 102 #[.slice (some ⟨g, o, none⟩) 2 c] w fun e w' =>
      e = .returned (.tuple #[.int .u32 0, .int .i64 0]) ∧ w = w' := by
  go_enter Tryd.func102, Tryd.ntmps102
  go_wp2
  apply scope_jump_at (l := 0) (W := w) (hf := rfl)
  case first =>
    go_wp2
    refine wp_goto ?_
    exact ⟨rfl, rfl, rfl⟩
  case pass =>
    go_wp2
    simp only [Exit.jump]
    go_ret2
    exact ⟨rfl, rfl⟩

set_option maxHeartbeats 800000 in
theorem Uvarint_f3 (w : World) (g o c : Nat) (b0 b1 b2 : UInt8)
    (d0 : w.cell? ⟨g, o, none⟩ = some (.int .u8 b0.toNat)) (d1 : w.cell? ⟨g, o + 1, none⟩ = some (.int .u8 b1.toNat)) (d2 : w.cell? ⟨g, o + 2, none⟩ = some (.int .u8 b2.toNat))
    (t0 : (bits BinOp.and IntKind.u8 (↑b0.toNat) 128 == 0) = false) (t1 : (bits BinOp.and IntKind.u8 (↑b1.toNat) 128 == 0) = false) (t2 : (bits BinOp.and IntKind.u8 (↑b2.toNat) 128 == 0) = false) :
    Calls Tryd.prog 102 #[.slice (some ⟨g, o, none⟩) 3 c] w fun e w' =>
      e = .returned (.tuple #[.int .u32 0, .int .i64 0]) ∧ w = w' := by
  go_enter Tryd.func102, Tryd.ntmps102
  go_wp2
  apply scope_jump_at (l := 0) (W := w) (hf := rfl)
  case first =>
    go_wp2
    refine wp_goto ?_
    exact ⟨rfl, rfl, rfl⟩
  case pass =>
    go_wp2
    simp only [Exit.jump]
    go_ret2
    exact ⟨rfl, rfl⟩

set_option maxHeartbeats 800000 in
theorem Uvarint_f4 (w : World) (g o c : Nat) (b0 b1 b2 b3 : UInt8)
    (d0 : w.cell? ⟨g, o, none⟩ = some (.int .u8 b0.toNat)) (d1 : w.cell? ⟨g, o + 1, none⟩ = some (.int .u8 b1.toNat)) (d2 : w.cell? ⟨g, o + 2, none⟩ = some (.int .u8 b2.toNat)) (d3 : w.cell? ⟨g, o + 3, none⟩ = some (.int .u8 b3.toNat))
    (t0 : (bits BinOp.and IntKind.u8 (↑b0.toNat) 128 == 0) = false) (t1 : (bits BinOp.and IntKind.u8 (↑b1.toNat) 128 == 0) = false) (t2 : (bits BinOp.and IntKind.u8 (↑b2.toNat) 128 == 0) = false) (t3 : (bits BinOp.and IntKind.u8 (↑b3.toNat) 128 == 0) = false) :
    Calls Tryd.prog 102 #[.slice (some ⟨g, o, none⟩) 4 c] w fun e w' =>
      e = .returned (.tuple #[.int .u32 0, .int .i64 0]) ∧ w = w' := by
  go_enter Tryd.func102, Tryd.ntmps102
  go_wp2
  apply scope_jump_at (l := 0) (W := w) (hf := rfl)
  case first =>
    go_wp2
    refine wp_goto ?_
    exact ⟨rfl, rfl, rfl⟩
  case pass =>
    go_wp2
    simp only [Exit.jump]
    go_ret2
    exact ⟨rfl, rfl⟩

set_option maxHeartbeats 800000 in
theorem Uvarint_over (w : World) (g o n c : Nat) (b0 b1 b2 b3 b4 : UInt8) (hn : 5 ≤ n)
    (d0 : w.cell? ⟨g, o, none⟩ = some (.int .u8 b0.toNat)) (d1 : w.cell? ⟨g, o + 1, none⟩ = some (.int .u8 b1.toNat)) (d2 : w.cell? ⟨g, o + 2, none⟩ = some (.int .u8 b2.toNat)) (d3 : w.cell? ⟨g, o + 3, none⟩ = some (.int .u8 b3.toNat)) (d4 : w.cell? ⟨g, o + 4, none⟩ = some (.int .u8 b4.toNat))
    (t0 : (bits BinOp.and IntKind.u8 (↑b0.toNat) 128 == 0) = false) (t1 : (bits BinOp.and IntKind.u8 (↑b1.toNat) 128 == 0) = false) (t2 : (bits BinOp.and IntKind.u8 (↑b2.toNat) 128 == 0) = false) (t3 : (bits BinOp.and IntKind.u8 (↑b3.toNat) 128 == 0) = false) (t4 : decide ((b4.toNat : Int) ≤ 15) = false) :
    Calls Tryd.prog 102 #[.slice (some ⟨g, o, none⟩) n c] w fun e w' =>
      e = .returned (.tuple #[.int .u32 0, .int .i64 (-5)]) ∧ w = w' := by
  go_enter Tryd.func102, Tryd.ntmps102
  go_wp2
  go_step3
  go_wp2
  go_step3
  go_wp2
  rw [Exit.noGoto_ret]
  go_ret2
  exact ⟨rfl, rfl⟩

end Go.Proofs.YtpknjenihcfhlaaDoor
