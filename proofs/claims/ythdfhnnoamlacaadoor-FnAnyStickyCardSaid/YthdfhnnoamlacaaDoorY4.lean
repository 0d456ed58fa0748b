/-
  The writer of kbin; code that writes. Conditions: none.
-/
import Derived.Test.YthdfhnnoamlacaaDoorY2
import Derived.Test.YthdfhnnoamlacaaDoorShelf
import Derived.Laws.BitsAllLaws
import Derived.Laws.AppendOwn
import Derived.Lib.BitFns
import Derived.Lib.ItoaNum
import Derived.Test.YthdfhnnoamlacaaDoorY3
import Derived.Lib.AppendStr
import Derived.Laws.AppendOwnNone
/-
  kbin, writing: numbers. Conditions: none.
-/
namespace Go.Proofs.YthdfhnnoamlacaaDoor
open Go.RowKit (Below)
open Kz

/-- Octets in a row of one's own. -/
def OwnB (w : World) (base : Nat) (v : Value) (bs : List UInt8) : Prop := w.ownsRow base 5 1 v bs.length (bs.map bv)
/-- How long what is written may get. -/
def lim : Nat := 1099511627776
theorem OwnB.nil (w : World) (base : Nat) : OwnB w base (.slice none 0 0) [] := World.ownsRow_nil w base 5 1
theorem OwnB.base {w : World} {base : Nat} {v : Value} {bs : List UInt8} (h : OwnB w base v bs) : ∀ k, v.ownBlock = some k → base ≤ k := fun k hk => (World.ownsRow.lt h k hk).1
theorem OwnB.grown {w w' : World} {base : Nat} {v : Value} {bs : List UInt8} (h : OwnB w base v bs) (hb : ∀ k, k < w.heap.size → w'.heap[k]? = w.heap[k]?) : OwnB w' base v bs := by
  obtain ⟨h1, h2⟩ := h
  refine ⟨h1, h2.imp id ?_⟩
  rintro ⟨g, cap, cur, e1, e2, e3, e4⟩
  exact ⟨g, cap, cur, e1, e2, by rw [hb g (Array.getElem?_eq_some_iff.1 e3).1]; exact e3, e4⟩

/-- Octets are appended. -/
theorem append_own {w : World} {base : Nat} {v : Value} {bs out : List UInt8} {ad : Addr} {m c : Nat} {ty : TypeId} (h : OwnB w base v bs) (hm : m = out.length) (hc : ∀ (j : Nat) b, out[j]? = some b → w.cell? (ad.add j) = some (bv b)) (hl : bs.length + out.length ≤ lim) (hb : base ≤ w.heap.size) :
    ∃ v' w', (Builtin.append_ #[22, 22] ty #[v, .slice (some ad) m c]).run Tryd.prog w = .ok v' w' ∧ OwnB w' base v' (bs ++ out) ∧ w.grownBy w' v.ownBlock := by
  subst hm
  have hi : (Tryd.prog.info? 5).map (fun i => (i.zero, i.size, i.bytes)) = some (some (.int .u8 0), 1, 1) := by kernel_rfl
  obtain ⟨i, hi, hz, hs, hby⟩ := info_parts hi
  simp only [lim] at hl
  obtain ⟨v', w', h1, h2, h3, -⟩ := run_append_own (P := Tryd.prog) (w := w) base 22 ty 5 i (.int .u8 0) 1 1 Tryd.underlying22 hi hz hs hby rfl (by decide) v bs.length (bs.map bv) h ad out.length c (out.map bv) (by simp)
    (fun j u hu => by
      rw [List.getElem?_map, Option.map_eq_some_iff] at hu
      obtain ⟨b, hb, rfl⟩ := hu
      exact hc j b hb)
    (fun u hu => by
      simp only [List.mem_map] at hu
      obtain ⟨b, -, rfl⟩ := hu
      rfl) (by simp only [maxLen]; omega) (by omega) hb
  refine ⟨v', w', h1, ?_, h3⟩
  unfold OwnB
  rw [List.length_append, List.map_append]
  exact h2

theorem wpList_append_bytes {w : World} {ops : Array Oper} {rest : List Oper} {o : Oper} {a : Act} {Q : Exit → Act → World → Prop} (hgd : o.guard = none) (s x : Operand)
    (ho : o.op = .call { callee := .builtin .append, args := #[s, x], argTypes := #[22, 22] }) (base : Nat) (v : Value) (bs out : List UInt8) (g off m c : Nat) (hs : a.eval s = v) (hx : a.eval x = .slice (some ⟨g, off, none⟩) m c) (h : OwnB w base v bs)
    (hm : m = out.length) (hc : ∀ (j : Nat) b, out[j]? = some b → w.cell? ⟨g, off + j, none⟩ = some (bv b)) (hl : bs.length + out.length ≤ lim) (hb : base ≤ w.heap.size)
    (hk : ∀ v' w', OwnB w' base v' (bs ++ out) → w.grownBy w' v.ownBlock → wpList Tryd.prog ops Q rest (a.put o.dst v') w') : wpList Tryd.prog ops Q (o :: rest) a w := by
  obtain ⟨v', w', h1, h2, h3⟩ := append_own (ty := o.type) (ad := ⟨g, off, none⟩) (c := c) h hm (fun j b hj => by rw [Addr.add_mid]; exact hc j b hj) hl hb
  exact Lib.wpList_append_run w hgd s x _ _ ho _ _ hs hx v' w' h1 (hk v' w' h2 h3)

theorem byteAt_u8 (u : Int) (i : Nat) (z : Int) (hz : z = u / (2 : Int) ^ (8 * i) % 256) : Value.int .u8 z = bv (byteAt u i) := by
  have h0 : 0 ≤ u / (2 : Int) ^ (8 * i) % 256 := Int.emod_nonneg _ (by decide)
  have h1 : u / (2 : Int) ^ (8 * i) % 256 < 256 := Int.emod_lt_of_pos _ (by decide)
  rw [hz]
  unfold bv byteAt
  congr 1
  rw [UInt8.toNat_ofNat']
  omega

theorem alloc_old (w : World) (o : Obj) (g : Nat) (h : g < w.heap.size) : (w.alloc o).heap[g]? = w.heap[g]? := by
  simp only [World.alloc, Array.getElem?_push]
  rw [if_neg (by omega)]
theorem row_new {w : World} {cs : Array Value} {t : TypeId} {out : List UInt8} (h : cs = (out.map bv).toArray) (j : Nat) (b : UInt8) (hj : out[j]? = some b) : (w.alloc (.cells cs t)).cell? ⟨w.heap.size, 0 + j, none⟩ = some (bv b) := by
  have hr : (w.alloc (.cells cs t)).heap[w.heap.size]? = some (.cells cs t (0, 0)) := by
    show (w.heap.push _)[w.heap.size]? = _
    simp
  rw [cell_of_row _ _ _ _ _ _ hr, h, Nat.zero_add]
  simp [hj]
/-- Blocks of cells that hold neither octets nor slices of them are as they were. -/
def Keep (w w' : World) : Prop := ∀ (T : TypeId), T ≠ 5 → T ≠ 22 → ∀ (k : Nat) (cs : Array Value) (fr : Nat × Nat), w.heap[k]? = some (Obj.cells cs T fr) → w'.heap[k]? = some (Obj.cells cs T fr)
theorem Keep.trans {a b c : World} (h : Keep a b) (k : Keep b c) : Keep a c := fun T h1 h2 i cs fr hi => k T h1 h2 i cs fr (h T h1 h2 i cs fr hi)
theorem Keep.of_old {w w' : World} (h : ∀ k, k < w.heap.size → w'.heap[k]? = w.heap[k]?) : Keep w w' := fun T _ _ k cs fr hk => by rw [h k (Array.getElem?_eq_some_iff.1 hk).1]; exact hk
theorem keep_row {w w' : World} {base : Nat} {v : Value} {bs : List UInt8} (ho : OwnB w base v bs) (hg : w.grownBy w' v.ownBlock) : Keep w w' := by
  intro T h8 _ k cs fr hk
  rw [hg.block k (Array.getElem?_eq_some_iff.1 hk).1 ?_]
  · exact hk
  · intro e
    obtain ⟨-, h1⟩ := ho
    rcases h1 with ⟨rfl, -⟩ | ⟨g, cap, cur, rfl, h2, h3, -⟩
    · simp [Value.ownBlock] at e
    · simp only [Value.ownBlock, Option.some.injEq] at e
      subst e
      rw [hk] at h3
      simp only [Option.some.injEq, Obj.cells.injEq] at h3
      exact h8 h3.2.1
/-- What lies below a bound is as it was, and so are such blocks. -/
structure Bel (base : Nat) (w w' : World) : Prop extends Below base w w' where
  keep : Keep w w'
theorem below_own {w w1 w' : World} {base : Nat} {v : Value} {bs : List UInt8} (h : OwnB w1 base v bs) (hb : ∀ k, k < w.heap.size → w1.heap[k]? = w.heap[k]?) (ho : w1.os = w.os) (ht : w1.tape = w.tape) (hp : w1.output = w.output) (hs : w.heap.size ≤ w1.heap.size) (hbase : base ≤ w.heap.size) (hg : w1.grownBy w' v.ownBlock) : Bel base w w' :=
  ⟨⟨hg.os.trans ho, hg.tape.trans ht, hg.output.trans hp, Nat.le_trans hs hg.size, fun k hk => (hg.block k (by omega) (fun e => by have := h.base k e.symm; omega)).trans (hb k (by omega))⟩, (Keep.of_old hb).trans (keep_row h hg)⟩
theorem below_alloc {w w' : World} {base : Nat} {v : Value} {bs : List UInt8} {o : Obj} (h : OwnB w base v bs) (hbase : base ≤ w.heap.size) (hg : (w.alloc o).grownBy w' v.ownBlock) : Bel base w w' :=
  below_own (h.grown (fun k hk => alloc_old w o k hk)) (fun k hk => alloc_old w o k hk) rfl rfl rfl (by simp) hbase hg

end Go.Proofs.YthdfhnnoamlacaaDoor
/-
  kbin, writing: numbers. Conditions: none.
-/
namespace Go.Proofs.YthdfhnnoamlacaaDoor
open Go.RowKit (Below)
open Kz

end Go.Proofs.YthdfhnnoamlacaaDoor
/-
  kbin, writing: numbers in groups of seven bits. Conditions: none.
-/
namespace Go.Proofs.YthdfhnnoamlacaaDoor
open Go.RowKit (Below)
open Kz

end Go.Proofs.YthdfhnnoamlacaaDoor
/-
  kbin, writing: a number in groups of seven bits. Conditions: none.
-/
namespace Go.Proofs.YthdfhnnoamlacaaDoor
open Go.RowKit (Below)
open Kz

end Go.Proofs.YthdfhnnoamlacaaDoor
/-
  kbin, writing: texts, octets, lengths. Conditions: none.
-/
namespace Go.Proofs.YthdfhnnoamlacaaDoor
open Go.RowKit (Below)
open Kz

theorem strCells_bv (s : List UInt8) : Lib.strCells ⟨s.toArray⟩ = s.map bv := by
  simp [Lib.strCells, bv]
theorem wpList_append_octets {w : World} {ops : Array Oper} {rest : List Oper} {o : Oper} {a : Act} {Q : Exit → Act → World → Prop} (hgd : o.guard = none) (s x : Operand)
    (ho : o.op = .call { callee := .builtin .append, args := #[s, x], argTypes := #[22, 22] }) (base : Nat) (v u : Value) (bs out : List UInt8) (K : Nat → Prop) (hs : a.eval s = v) (hx : a.eval x = u) (h : OwnB w base v bs) (hu : BytesAt w K u out)
    (hl : bs.length + out.length ≤ lim) (hb : base ≤ w.heap.size) (hk : ∀ v' w', OwnB w' base v' (bs ++ out) → w.grownBy w' v.ownBlock → wpList Tryd.prog ops Q rest (a.put o.dst v') w') : wpList Tryd.prog ops Q (o :: rest) a w := by
  rcases hu with ⟨rfl, rfl⟩ | ⟨g, off, c, rfl, -, -, -, -, hc⟩
  · have hi : (Tryd.prog.info? 5).map (fun i => (i.zero, i.size, i.bytes)) = some (some (.int .u8 0), 1, 1) := by kernel_rfl
    obtain ⟨i, hi, hz, hsz, hby⟩ := info_parts hi
    exact wpList_append_own_none hgd s x _ ho base 5 i 1 Tryd.underlying22 hi v _ _ hs h hx (hk v w (by rw [List.append_nil]; exact h) (grownBy_refl _ _))
  · exact wpList_append_bytes hgd s x ho base v bs out g off _ c hs hx h rfl hc hl hb hk
theorem below_grow {w w' : World} {base : Nat} {v : Value} {bs : List UInt8} (h : OwnB w base v bs) (hbase : base ≤ w.heap.size) (hg : w.grownBy w' v.ownBlock) : Bel base w w' :=
  below_own h (fun _ _ => rfl) rfl rfl rfl (Nat.le_refl _) hbase hg
theorem below_growB {w w' : World} {base : Nat} {v : Value} {bs : List UInt8} (h : OwnB w base v bs) (hbase : base ≤ w.heap.size) (hg : w.grownBy w' v.ownBlock) : Below base w w' := (below_grow h hbase hg).toBelow
theorem below_allocB {w w' : World} {base : Nat} {v : Value} {bs : List UInt8} {o : Obj} (h : OwnB w base v bs) (hbase : base ≤ w.heap.size) (hg : (w.alloc o).grownBy w' v.ownBlock) : Below base w w' := (below_alloc h hbase hg).toBelow
theorem below_size {w w' : World} {B : Nat} (h : Below B w w') (hb : B ≤ w.heap.size) : B ≤ w'.heap.size := Nat.le_trans hb h.size
theorem BytesAt.below {w w' : World} {K : Nat → Prop} {x : Value} {s : List UInt8} {B : Nat} (h : BytesAt w K x s) (hb : Below B w w') (hK : ∀ g, K g → g < B) : BytesAt w' K x s :=
  stable_bytes (fun _ hg _ => hb.block _ (hK _ hg)) hb.size (fun _ hg => hg) h

end Go.Proofs.YthdfhnnoamlacaaDoor
/-
  kbin, writing: what may be null; lengths. Conditions: none.
-/
namespace Go.Proofs.YthdfhnnoamlacaaDoor
open Go.RowKit (Below)
open Kz

end Go.Proofs.YthdfhnnoamlacaaDoor
/-
  Code that writes: pieces one behind the other, under a condition; a value's octets. Conditions: none.
-/
namespace Go.Proofs.YthdfhnnoamlacaaDoor
open Go.RowKit (Below)
open Kz

/-- The slots of a function that writes: how many, what is written to, the version, whether it is flexible. -/
structure WE where
  N : Nat
  ds : Nat
  vs : Nat
  fs : Option Nat
structure FrW (E : WE) (v : Int) (flex : Bool) (a : Act) : Prop where
  size : a.tmps.size = E.N
  defers : a.defers = []
  vs : sl a E.vs = .int .i16 v
  fs : ∀ t, E.fs = some t → sl a t = .bool flex
/-- What holds ahead of it. -/
structure PreA (E : WE) (v : Int) (flex : Bool) (base : Nat) (K : Nat → Prop) (bs : List UInt8) (a : Act) (w : World) : Prop where
  fr : FrW E v flex a
  le : base ≤ w.heap.size
  kb : ∀ g, K g → g < base
  own : OwnB w base (sl a E.ds) bs
section
variable {E : WE} {v : Int} {flex : Bool}

end
end Go.Proofs.YthdfhnnoamlacaaDoor
/-
  Code that writes: tests, fields, the fields of a part. Conditions: none.
-/
namespace Go.Proofs.YthdfhnnoamlacaaDoor
open Go.RowKit (Below)
open Kz

section
variable {E : WE} {v : Int} {flex : Bool}

end

/-! ## Fields -/
section
variable (tags : Rel (List (Nat × List UInt8))) (E : WE) (v : Int) (flex ht : Bool)
end

section
variable {tags : Rel (List (Nat × List UInt8))} {E : WE} {v : Int} {flex ht : Bool}
end
end Go.Proofs.YthdfhnnoamlacaaDoor
/-
  Code that writes: values of one cell; lists. Conditions: none.
-/
namespace Go.Proofs.YthdfhnnoamlacaaDoor
open Go.RowKit (Below)
open Kz

/-! ## What the writing functions write -/
/-! ## Fields of one cell -/
section
variable {tags : Rel (List (Nat × List UInt8))} {E : WE} {v : Int} {flex ht : Bool}

end
end Go.Proofs.YthdfhnnoamlacaaDoor
/-
  Code that writes: lists. Conditions: none.
-/
namespace Go.Proofs.YthdfhnnoamlacaaDoor
open Go.RowKit (Below)
open Kz

section
variable {P : Program} {Q : Exit → Act → World → Prop} {a : Act} {w : World} {id : Nat}
end

section
variable {tags : Rel (List (Nat × List UInt8))} {E : WE} {v : Int} {flex ht : Bool}

theorem wrap_i64 (n : Int) (h : -9223372036854775808 ≤ n ∧ n < 9223372036854775808) : IntKind.wrap .i64 n = n := by
  rw [IntKind.wrap_i64]; omega

end
end Go.Proofs.YthdfhnnoamlacaaDoor
