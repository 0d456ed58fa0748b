/-
  kbin, writing: numbers. Conditions: none.
-/
import Derived.Test.YtpknjenihcfhlaaDoorMem
import Derived.Test.YtpknjenihcfhlaaDoorOps2
import Derived.Test.YtpknjenihcfhlaaDoorShelf
import Derived.Laws.BitsAllLaws
import Derived.Laws.AppendOwn
namespace Go.Proofs.YtpknjenihcfhlaaDoor
open Go.RowKit (Below)
open Kz

/-- Octets in a row of one's own. -/
def OwnB (w : World) (base : Nat) (v : Value) (bs : List UInt8) : Prop := w.ownsRow base 5 1 v bs.length (bs.map bv)
/-- How long what is written may get. -/
def lim : Nat := 1099511627776
theorem OwnB.nil (w : World) (base : Nat) : OwnB w base (.slice none 0 0) [] := World.ownsRow_nil w base 5 1
theorem OwnB.base {w : World} {base : Nat} {v : Value} {bs : List UInt8} (h : OwnB w base v bs) : ∀ k, v.ownBlock = some k → base ≤ k := fun k hk => (World.ownsRow.lt h k hk).1
theorem OwnB.grown {w w' : World} {base : Nat} {v : Value} {bs : List UInt8} (h : OwnB w base v bs) (hb : ∀ k, k < w.heap.size → w'.heap[k]? = w.heap[k]?) : OwnB w' base v bs := by
  obtain ⟨h1, h2⟩ := h
  refine ⟨h1, h2.imp id ?_⟩
  rintro ⟨g, cap, cur, e1, e2, e3, e4⟩
  exact ⟨g, cap, cur, e1, e2, by rw [hb g (Array.getElem?_eq_some_iff.1 e3).1]; exact e3, e4⟩

/-- Octets are appended. -/
theorem append_own {w : World} {base : Nat} {v : Value} {bs out : List UInt8} {ad : Addr} {m c : Nat} {ty : TypeId} (h : OwnB w base v bs) (hm : m = out.length) (hc : ∀ (j : Nat) b, out[j]? = some b → w.cell? (ad.add j) = some (bv b)) (hl : bs.length + out.length ≤ lim) (hb : base ≤ w.heap.size) :
    ∃ v' w', (Builtin.append_ #[22, 22] ty #[v, .slice (some ad) m c]).run Tryd.prog w = .ok v' w' ∧ OwnB w' base v' (bs ++ out) ∧ w.grownBy w' v.ownBlock := by
  subst hm
  have hi : (Tryd.prog.info? 5).map (fun i => (i.zero, i.size, i.bytes)) = some (some (.int .u8 0), 1, 1) := by kernel_rfl
  obtain ⟨i, hi, hz, hs, hby⟩ := info_parts hi
  simp only [lim] at hl
  obtain ⟨v', w', h1, h2, h3, -⟩ := run_append_own (P := Tryd.prog) (w := w) base 22 ty 5 i (.int .u8 0) 1 1 Tryd.underlying22 hi hz hs hby rfl (by decide) v bs.length (bs.map bv) h ad out.length c (out.map bv) (by simp)
    (fun j u hu => by
      rw [List.getElem?_map, Option.map_eq_some_iff] at hu
      obtain ⟨b, hb, rfl⟩ := hu
      exact hc j b hb)
    (fun u hu => by
      simp only [List.mem_map] at hu
      obtain ⟨b, -, rfl⟩ := hu
      rfl) (by simp only [maxLen]; omega) (by omega) hb
  refine ⟨v', w', h1, ?_, h3⟩
  unfold OwnB
  rw [List.length_append, List.map_append]
  exact h2

theorem wpList_append_bytes {w : World} {ops : Array Oper} {rest : List Oper} {o : Oper} {a : Act} {Q : Exit → Act → World → Prop} (hgd : o.guard = none) (s x : Operand)
    (ho : o.op = .call { callee := .builtin .append, args := #[s, x], argTypes := #[22, 22] }) (base : Nat) (v : Value) (bs out : List UInt8) (g off m c : Nat) (hs : a.eval s = v) (hx : a.eval x = .slice (some ⟨g, off, none⟩) m c) (h : OwnB w base v bs)
    (hm : m = out.length) (hc : ∀ (j : Nat) b, out[j]? = some b → w.cell? ⟨g, off + j, none⟩ = some (bv b)) (hl : bs.length + out.length ≤ lim) (hb : base ≤ w.heap.size)
    (hk : ∀ v' w', OwnB w' base v' (bs ++ out) → w.grownBy w' v.ownBlock → wpList Tryd.prog ops Q rest (a.put o.dst v') w') : wpList Tryd.prog ops Q (o :: rest) a w := by
  obtain ⟨v', w', h1, h2, h3⟩ := append_own (ty := o.type) (ad := ⟨g, off, none⟩) (c := c) h hm (fun j b hj => by rw [Addr.add_mid]; exact hc j b hj) hl hb
  exact Lib.wpList_append_run w hgd s x _ _ ho _ _ hs hx v' w' h1 (hk v' w' h2 h3)

theorem byteAt_u8 (u : Int) (i : Nat) (z : Int) (hz : z = u / (2 : Int) ^ (8 * i) % 256) : Value.int .u8 z = bv (byteAt u i) := by
  have h0 : 0 ≤ u / (2 : Int) ^ (8 * i) % 256 := Int.emod_nonneg _ (by decide)
  have h1 : u / (2 : Int) ^ (8 * i) % 256 < 256 := Int.emod_lt_of_pos _ (by decide)
  rw [hz]
  unfold bv byteAt
  congr 1
  rw [UInt8.toNat_ofNat']
  omega

theorem alloc_old (w : World) (o : Obj) (g : Nat) (h : g < w.heap.size) : (w.alloc o).heap[g]? = w.heap[g]? := by
  simp only [World.alloc, Array.getElem?_push]
  rw [if_neg (by omega)]
theorem row_new {w : World} {cs : Array Value} {t : TypeId} {out : List UInt8} (h : cs = (out.map bv).toArray) (j : Nat) (b : UInt8) (hj : out[j]? = some b) : (w.alloc (.cells cs t)).cell? ⟨w.heap.size, 0 + j, none⟩ = some (bv b) := by
  have hr : (w.alloc (.cells cs t)).heap[w.heap.size]? = some (.cells cs t (0, 0)) := by
    show (w.heap.push _)[w.heap.size]? = _
    simp
  rw [cell_of_row _ _ _ _ _ _ hr, h, Nat.zero_add]
  simp [hj]
theorem below_own {w w1 w' : World} {base : Nat} {v : Value} {bs : List UInt8} (h : OwnB w1 base v bs) (hb : ∀ k, k < w.heap.size → w1.heap[k]? = w.heap[k]?) (ho : w1.os = w.os) (ht : w1.tape = w.tape) (hp : w1.output = w.output) (hs : w.heap.size ≤ w1.heap.size) (hbase : base ≤ w.heap.size) (hg : w1.grownBy w' v.ownBlock) : Below base w w' :=
  ⟨hg.os.trans ho, hg.tape.trans ht, hg.output.trans hp, Nat.le_trans hs hg.size, fun k hk => (hg.block k (by omega) (fun e => by have := h.base k e.symm; omega)).trans (hb k (by omega))⟩
theorem below_alloc {w w' : World} {base : Nat} {v : Value} {bs : List UInt8} {o : Obj} (h : OwnB w base v bs) (hbase : base ≤ w.heap.size) (hg : (w.alloc o).grownBy w' v.ownBlock) : Below base w w' :=
  below_own (h.grown (fun k hk => alloc_old w o k hk)) (fun k hk => alloc_old w o k hk) rfl rfl rfl (by simp) hbase hg

set_option maxRecDepth 8000 in
set_option maxHeartbeats 400000 in
theorem AppendUint16_any (w : World) (base : Nat) (v : Value) (bs : List UInt8) (u : Int) (h : OwnB w base v bs) (hb : base ≤ w.heap.size) (h0 : 0 ≤ u) (h1 : u < 65536) (hl : bs.length + 2 ≤ lim) :
    Calls Tryd.prog 76 #[v, .int .u16 u] w fun e w' => ∃ v', e = .returned v' ∧ OwnB w' base v' (bs ++ fixed u 2) ∧ Below base w w' := by
  have H := Lib.hid h
  have HL := Lib.hid hl
  clear h hl
  go_enter Tryd.func76, Tryd.ntmps76
  go_wp2_with (at_builtin; refine wpList_append_bytes rfl _ _ rfl base v bs (fixed u 2) w.heap.size 0 2 2 rfl rfl ?_ rfl ?_ HL.out ?_ ?_)
  · exact H.out.grown fun k hk => alloc_old w _ k hk
  · exact row_new (by rw [byteAt_u8 u 1 (u / 256) (by simp; omega), byteAt_u8 u 0 (u % 256) (by simp)]; rfl)
  · simp; omega
  · intro v' w' hown hg
    have H1 := Lib.hid hown
    have H2 := Lib.hid hg
    clear hown hg
    go_wp2
    go_ret
    exact ⟨v', rfl, H1.out, below_alloc H.out hb H2.out⟩
end Go.Proofs.YtpknjenihcfhlaaDoor
