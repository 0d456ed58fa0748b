/-
  The reference: its small functions, values, fields. Conditions: none.
-/
import Derived.Test.YthdfhnnoamlacaaDoorY4
import Derived.BigQuiet
import Derived.Test.YthdfhnnoamlacaaDoorY3
import Derived.Laws.IdiomCopy
import Derived.Laws.CopyRow
import Derived.Deep.QuietTactic
import Derived.Deep.RegionWith
import Derived.Test.YthdfhnnoamlacaaDoorY5
import Derived.Deep.AppendLies
/-
  The reference's small functions: has, null, whole, things, width, Uvarint, Fixed. Conditions: none.
-/
namespace Go.Proofs.YthdfhnnoamlacaaDoor
open Go.RowKit (Below)
open Kz

/-- A number in a cell. -/
abbrev iv (n : Int) : Value := .int .i64 n
end Go.Proofs.YthdfhnnoamlacaaDoor
/-
  The reference's numbers: Uvarint, Fixed. Conditions: none.
-/
namespace Go.Proofs.YthdfhnnoamlacaaDoor
open Go.RowKit (Below)
open Kz

theorem row_new1 {w : World} {z : Value} {b0 : UInt8} {ty : TypeId} (h : z = bv b0) (j : Nat) (b : UInt8) (hj : [b0][j]? = some b) : (w.alloc (.cells #[z] ty)).cell? ⟨w.heap.size, 0 + j, none⟩ = some (bv b) :=
  row_new (out := [b0]) (by rw [h]; rfl) j b hj

theorem fixed_succ (n : Int) (k : Nat) : fixed n (k + 1) = byteAt n k :: fixed n k := rfl
theorem fixed_length (n : Int) (k : Nat) : (fixed n k).length = k := by
  induction k with
  | zero => rfl
  | succ k ih => rw [fixed_succ, List.length_cons, ih]

set_option maxRecDepth 8000 in
set_option maxHeartbeats 2000000 in
theorem specFixed_any (w : World) (n : Int) (size : Nat) (hs : size ≤ 8) :
    Calls Tryd.prog 39 #[iv n, iv size] w fun e w' => ∃ v', e = .returned v' ∧ OwnB w' w.heap.size v' (fixed n size) ∧ Below w.heap.size w w' := by
  go_enter Tryd.func39, Tryd.ntmps39
  go_wp2
  go_loopw [5, 6] (fun v x wr => ∃ (j : Nat) (bs : List UInt8), x = .int .i64 ((j : Int) - 1) ∧ j ≤ size ∧ bs.length + j = size ∧ bs ++ fixed n j = fixed n size ∧ OwnB wr w.heap.size v bs ∧ Below w.heap.size w wr) (fun _ x _ => (intOf x + 1).toNat)
  case atStart => exact ⟨size, [], by first | rfl | (congr 1; omega), Nat.le_refl _, by simp, by simp, OwnB.nil _ _, Below.refl _ _⟩
  case round =>
    obtain ⟨j, bs, rfl, hj, hbl, hfx, hown, hbel⟩ := hrel
    have H1 := Lib.hid hown
    have H2 := Lib.hid hbel
    have H3 := Lib.hid hfx
    clear hown hbel hfx
    cases j with
    | zero =>
      have hgt : ¬ (0 ≤ (((0 : Nat) : Int) - 1)) := by omega
      go_wp2
      go_ret
      refine ⟨_, rfl, ?_, H2.out⟩
      have h := H3.out
      simp only [fixed, List.append_nil] at h
      rw [← h]
      exact H1.out
    | succ k =>
      have hgt : 0 ≤ (((k + 1 : Nat) : Int) - 1) := by omega
      go_wp2_with (at_builtin; refine wpList_append_bytes rfl _ _ rfl w.heap.size _ bs [byteAt n k] wr.heap.size 0 1 1 rfl rfl ?_ rfl ?_ ?_ ?_ ?_)
      · exact H1.out.grown fun k hk => alloc_old wr _ k hk
      · exact row_new1 (byteAt_u8 n k _ rfl)
      · simp only [lim]; simp; omega
      · have := H2.out.size; simp; omega
      · intro v' w' hown hg
        have H5 := Lib.hid hown
        have H6 := Lib.hid hg
        clear hown hg
        go_wp2
        go_roundw
        case rel => exact ⟨k, bs ++ [byteAt n k], by first | rfl | (congr 1; omega), by omega, by simp; omega, by rw [← H3.out, fixed_succ]; simp, H5.out, H2.out.trans (below_allocB H1.out H2.out.size H6.out)⟩
        case measure => simp only [intOf]; omega
end Go.Proofs.YthdfhnnoamlacaaDoor
/-
  The reference's counts. Conditions: none.
-/
namespace Go.Proofs.YthdfhnnoamlacaaDoor
open Go.RowKit (Below)
open Kz

/-- A row of one octet is one's own. -/
theorem own_one (w : World) (z : Value) (b0 : UInt8) (h : z = bv b0) : OwnB (w.alloc (.cells #[z] 5)) w.heap.size (.slice (some ⟨w.heap.size, 0, none⟩) 1 1) [b0] := by
  refine ⟨by simp, .inr ⟨w.heap.size, 1, #[z], rfl, Nat.le_refl _, ?_, Nat.le_refl _, by decide, rfl, by rw [h]; rfl⟩⟩
  show (w.heap.push _)[w.heap.size]? = _
  simp
/-- What is one's own from here on is so from further down on. -/
theorem OwnB.low {w : World} {base base' : Nat} {v : Value} {bs : List UInt8} (h : OwnB w base v bs) (hb : base' ≤ base) : OwnB w base' v bs := by
  obtain ⟨h1, h2⟩ := h
  refine ⟨h1, h2.imp id ?_⟩
  rintro ⟨g, cap, cur, e1, e2, e3⟩
  exact ⟨g, cap, cur, e1, by omega, e3⟩

end Go.Proofs.YthdfhnnoamlacaaDoor
/-
  The reference's trees and fields in memory. Conditions: none.
-/
namespace Go.Proofs.YthdfhnnoamlacaaDoor
open Go.RowKit (Below)
open Kz

/-- Any block. -/
abbrev Tr : Nat → Prop := fun _ => True
/-- Octets of what came in: as they lie, or an empty slice of whatever place. -/
def BT (w : World) (v : Value) (bs : List UInt8) : Prop := (∃ ad, v = .slice ad 0 0 ∧ bs = []) ∨ BytesAt w Tr v bs
/-- Tags in memory. -/
def UTags (w : World) (v : Value) (us : List (Nat × List UInt8)) : Prop :=
  (∃ ad, v = .slice ad 0 0 ∧ us = []) ∨ ∃ g o c, v = .slice (some ⟨g, o, none⟩) us.length c ∧ us.length ≤ c ∧ c ≤ 9223372036854775807 ∧ g < w.heap.size ∧
    ∀ (i : Nat) k b, us[i]? = some (k, b) → ∃ s, w.cell? ⟨g, o + i * 2, none⟩ = some (.int .u32 (k : Int)) ∧ w.cell? ⟨g, o + i * 2 + 1, none⟩ = some s ∧ BT w s b ∧ k < 4294967296
/-- A list of trees in memory. -/
inductive TL (w : World) : Value → List T → Prop
  | nil (ad : Option Addr) : TL w (.slice ad 0 0) []
  | mk (g o c : Nat) (ts : List T) (sv lv uv : Nat → Value) : ts.length ≤ c → c ≤ 9223372036854775807 → g < w.heap.size →
      (∀ (i : Nat) t, ts[i]? = some t → w.cell? ⟨g, o + i * 5, none⟩ = some (iv t.n) ∧ w.cell? ⟨g, o + i * 5 + 1, none⟩ = some (sv i) ∧ w.cell? ⟨g, o + i * 5 + 2, none⟩ = some (.bool t.null) ∧
        w.cell? ⟨g, o + i * 5 + 3, none⟩ = some (lv i) ∧ w.cell? ⟨g, o + i * 5 + 4, none⟩ = some (uv i) ∧ BT w (sv i) t.s ∧ UTags w (uv i) t.u) →
      (∀ (i : Nat) t, ts[i]? = some t → TL w (lv i) t.l) → TL w (.slice (some ⟨g, o, none⟩) ts.length c) ts
/-- Fields in memory. -/
inductive FL (w : World) : Value → List F → Prop
  | nil : FL w (.slice none 0 0) []
  | mk (g o c : Nat) (fs : List F) (sv : Nat → Value) : fs.length ≤ c → c ≤ 9223372036854775807 → g < w.heap.size →
      (∀ (i : Nat) f, fs[i]? = some f → w.cell? ⟨g, o + i * 8, none⟩ = some (iv f.kind) ∧ w.cell? ⟨g, o + i * 8 + 1, none⟩ = some (iv f.frm) ∧ w.cell? ⟨g, o + i * 8 + 2, none⟩ = some (iv f.to) ∧
        w.cell? ⟨g, o + i * 8 + 3, none⟩ = some (iv f.null) ∧ w.cell? ⟨g, o + i * 8 + 4, none⟩ = some (iv f.tag) ∧ w.cell? ⟨g, o + i * 8 + 5, none⟩ = some (iv f.dflt) ∧
        w.cell? ⟨g, o + i * 8 + 6, none⟩ = some (iv f.of) ∧ w.cell? ⟨g, o + i * 8 + 7, none⟩ = some (sv i)) →
      (∀ (i : Nat) f, fs[i]? = some f → FL w (sv i) f.sub) → FL w (.slice (some ⟨g, o, none⟩) fs.length c) fs
end Go.Proofs.YthdfhnnoamlacaaDoor
/-
  The reference's known tags. Conditions: none.
-/
namespace Go.Proofs.YthdfhnnoamlacaaDoor
open Go.RowKit (Below)
open Kz

end Go.Proofs.YthdfhnnoamlacaaDoor
/-
  The reference's values. Conditions: none.
-/
namespace Go.Proofs.YthdfhnnoamlacaaDoor
open Go.RowKit
open Kz

theorem _root_.Go.RowKit.Below.lower {n m : Nat} {w w' : World} (h : Below n w w') (hm : m ≤ n) : Below m w w' :=
  ⟨h.os, h.tape, h.output, h.size, fun k hk => h.block k (by omega)⟩
theorem below_drew {w : World} {n : Nat} {o : Obj} (hn : n ≤ w.heap.size) : Below n w (w.alloc o).drew :=
  ⟨rfl, rfl, rfl, by show w.heap.size ≤ (w.heap.push _).size; simp, fun k hk => alloc_old w _ k (by omega)⟩
end Go.Proofs.YthdfhnnoamlacaaDoor
/-
  The reference's values: truth, 16 octets, texts, parts. Conditions: none.
-/
namespace Go.Proofs.YthdfhnnoamlacaaDoor
open Go.RowKit
open Kz

end Go.Proofs.YthdfhnnoamlacaaDoor
/-
  The reference's values: texts. Conditions: none.
-/
namespace Go.Proofs.YthdfhnnoamlacaaDoor
open Go.RowKit
open Kz

end Go.Proofs.YthdfhnnoamlacaaDoor
/-
  The reference's fields. Conditions: none.
-/
namespace Go.Proofs.YthdfhnnoamlacaaDoor
open Go.RowKit
open Kz

end Go.Proofs.YthdfhnnoamlacaaDoor
/-
  The reference's fields: parts that may be null. Conditions: none.
-/
namespace Go.Proofs.YthdfhnnoamlacaaDoor
open Go.RowKit
open Kz

theorem append_octets {w : World} {base : Nat} {v u : Value} {bs out : List UInt8} {ty : TypeId} (h : OwnB w base v bs) (hu : BytesAt w Tr u out) (hl : bs.length + out.length ≤ lim) (hb : base ≤ w.heap.size) :
    ∃ v' w', (Builtin.append_ #[22, 22] ty #[v, u]).run Tryd.prog w = .ok v' w' ∧ OwnB w' base v' (bs ++ out) ∧ w.grownBy w' v.ownBlock := by
  rcases hu with ⟨rfl, rfl⟩ | ⟨g, off, c, rfl, -, -, -, -, hc⟩
  · have hi : (Tryd.prog.info? 5).map (fun i => (i.zero, i.size, i.bytes)) = some (some (.int .u8 0), 1, 1) := by kernel_rfl
    obtain ⟨i, hi, hz, hsz, hby⟩ := info_parts hi
    exact ⟨v, w, run_append_owned_none w base _ _ 5 i 1 Tryd.underlying22 hi v _ _ h, by rw [List.append_nil]; exact h, grownBy_refl _ _⟩
  · exact append_own (ad := ⟨g, off, none⟩) h rfl (fun j b hj => by rw [Addr.add_mid]; exact hc j b hj) hl hb
/-- An append as a step of a region that draws its order. -/
theorem step_append_octets {ops : Array Oper} {o : Oper} {a : Act} {w : World} {K : Act → World → Prop} {Q : Exit → Act → World → Prop} {E : Prop} (hgd : o.guard = none) (s x : Operand)
    (ho : o.op = .call { callee := .builtin .append, args := #[s, x], argTypes := #[22, 22] }) (base : Nat) (v u : Value) (bs out : List UInt8) (hs : a.eval s = v) (hx : a.eval x = u) (h : OwnB w base v bs) (hu : BytesAt w Tr u out)
    (hl : bs.length + out.length ≤ lim) (hb : base ≤ w.heap.size) (hk : ∀ v' w', OwnB w' base v' (bs ++ out) → w.grownBy w' v.ownBlock → K (a.put o.dst v') w') :
    if Region.wanted o (yielded ops a.tmps) = true then Oper.wp Tryd.prog o a w K Q else E := by
  have hw : Region.wanted o (yielded ops a.tmps) = true := by simp [Region.wanted, hgd]
  rw [if_pos hw]
  obtain ⟨v', w', h1, h2, h3⟩ := append_octets (ty := o.type) h hu hl hb
  exact Lib.wp_append_run w s x _ _ ho _ _ hs hx v' w' h1 (hk v' w' h2 h3)
/-- What is one's own lies there. -/
theorem own_at_bytes {w : World} {base : Nat} {v : Value} {bs : List UInt8} (h : OwnB w base v bs) : BytesAt w Tr v bs := (own_bytes h).mono fun _ _ => trivial

theorem below_undrew {n : Nat} {w w2 : World} (h : Below n w.drew w2) : Below n w w2 := ⟨h.os, h.tape, h.output, h.size, h.block⟩

end Go.Proofs.YthdfhnnoamlacaaDoor
/-
  The reference's fields: lists. Conditions: none.
-/
namespace Go.Proofs.YthdfhnnoamlacaaDoor
open Go.RowKit
open Kz

theorem below_todrew {n : Nat} {w w2 : World} (h : Below n w w2) : Below n w w2.drew := ⟨h.os, h.tape, h.output, h.size, h.block⟩

end Go.Proofs.YthdfhnnoamlacaaDoor
/-
  The reference's fields, whatever their kind. Conditions: none.
-/
namespace Go.Proofs.YthdfhnnoamlacaaDoor
open Go.RowKit
open Kz

end Go.Proofs.YthdfhnnoamlacaaDoor
/-
  Tags in a row of one's own: plain laws. Conditions: none.
-/
namespace Go.Proofs.YthdfhnnoamlacaaDoor
open Go.RowKit
open Kz

/-- Tags as they lie in a row: a number, a slice. -/
abbrev Ps := List (Nat × Value)
/-- Octets in the blocks below a number. -/
def BL (w : World) (n0 : Nat) (v : Value) (bs : List UInt8) : Prop := (∃ ad, v = .slice ad 0 0 ∧ bs = []) ∨ BytesAt w (fun g => g < n0) v bs
/-- What lies in the row says these tags. -/
inductive PRel (w : World) (n0 : Nat) : Ps → List (Nat × List UInt8) → Prop
  | nil : PRel w n0 [] []
  | cons {k : Nat} {s : Value} {b : List UInt8} {ps : Ps} {us : List (Nat × List UInt8)} (hk : k < 4294967296) (hb : BL w n0 s b) (h : PRel w n0 ps us) : PRel w n0 ((k, s) :: ps) ((k, b) :: us)
end Go.Proofs.YthdfhnnoamlacaaDoor
