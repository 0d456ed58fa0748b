/- What the texts behind this one lean on, out of what the kit's print writes for this seat, cut down. Conditions: none. -/
import Derived.Test.YthdfhnnoamlacaaDoorProg
import Derived.Below
import Derived.Deep.Draws
import Derived.Deep.AppendLies
import Derived.Maps.AppendAt
import Derived.OwnWalk
import Derived.Laws.BytesArg
import Derived.Laws.MakeOwn
import Derived.Laws.OwnMore
import Derived.Deep.OwnRows
import Derived.Tactics
import Derived.Lib.ConvBytes
import Derived.Laws.Slices
import Derived.WalkKit
import Derived.KernelRfl
import Derived.RowKit3
import Derived.Deep.LoopGhost
import Derived.Deep.QuietTactic
import Derived.BigQuiet
import Derived.WideLaws
import Derived.Deep.DeepCutAuto
import Derived.Deep.CutBlock
import Derived.Deep.RegionHeld3
import Derived.Laws.Rows
import Derived.Lib.AppendStr
import Derived.ArgAppend
import Derived.Laws.IdiomCopy
import Derived.OrdersHeld
import Derived.Laws.BitsLemmas
import Derived.RowKit
import Derived.Test.YthdfhnnoamlacaaDoorWWords
import Derived.Test.YthdfhnnoamlacaaDoorWLast
import Derived.Test.YthdfhnnoamlacaaDoorWTab
import Derived.Test.YthdfhnnoamlacaaDoorWFour
import Derived.Test.YthdfhnnoamlacaaDoorWQPut
import Derived.Test.YthdfhnnoamlacaaDoorWApart
import Derived.Test.YthdfhnnoamlacaaDoorWArr
import Derived.Test.YthdfhnnoamlacaaDoorWZeros
import Derived.Test.YthdfhnnoamlacaaDoorWFoot
import Derived.Test.YthdfhnnoamlacaaDoorWKept
import Derived.Test.YthdfhnnoamlacaaDoorWShare
import Derived.Test.YthdfhnnoamlacaaDoorWN
import Derived.Test.YthdfhnnoamlacaaDoorWFootNe
import Derived.Test.YthdfhnnoamlacaaDoorWAt
import Derived.Test.YthdfhnnoamlacaaDoorWEqStruct
import Derived.Test.YthdfhnnoamlacaaDoorWRepsOne
import Derived.Test.YthdfhnnoamlacaaDoorWInv
import Derived.Test.YthdfhnnoamlacaaDoorWInvWords
import Derived.Test.YthdfhnnoamlacaaDoorWGuard
import Derived.Test.YthdfhnnoamlacaaDoorWNEv
import Derived.Test.YthdfhnnoamlacaaDoorWMore
namespace Go.Proofs.YthdfhnnoamlacaaDoor.PFnAnyHeader
open Go.RowKit Go.Proofs.YthdfhnnoamlacaaDoorW.PrintWords Go.Proofs.YthdfhnnoamlacaaDoorW.PrintLast Go.Proofs.YthdfhnnoamlacaaDoorW.PrintMore



def errW : Option Int → Value
  | none => .nilIface
  | some c => .iface 0 (.int .i64 c)
theorem errW_none : errW none = .nilIface := rfl
theorem errW_some (c : Int) : errW (some c) = .iface 0 (.int .i64 c) := rfl

theorem info5 : (Tryd.prog.info? 5).map (fun i => (i.zero, i.size, i.bytes)) = some (some (.int .u8 0), 1, 1) := by kernel_rfl
-- the values' own types
/-! #### struct type 61 -/
structure S61 where
  f0 : ByteArray
  f1 : (List Int)
/-! #### struct type 48 -/
structure S48 where
  f0 : ByteArray
  f1 : (List Int)
def k48 : Kd S48 := Kd.iso (Kd.pair Kd.string (Kd.slice 5 (Kd.int .u8))) (fun x : S48 => (x.f0, x.f1))
/-! #### struct type 24 -/
structure S24 where
  f0 : Bool
  f1 : (List Int)
def z24 : S24 := ⟨false, ([] : List Int)⟩
def k24 : Kd S24 := Kd.iso (Kd.pair Kd.bool (Kd.slice 5 (Kd.int .u8))) (fun x : S24 => (x.f0, x.f1))
theorem k24_open {w : World} {x : S24} {cs : List Value} (h : k24.K w x cs) : ∃ A1 c1, cs = [.bool x.f0, .slice A1 x.f1.length c1] ∧ x.f1.length ≤ c1 ∧ (Kd.int .u8).C w A1 x.f1.length x.f1 := by
  obtain ⟨_, _, rfl, rfl, ⟨A1, c1, rfl, l1, g1⟩⟩ := h
  exact ⟨A1, c1, rfl, l1, g1⟩
theorem k24_mk (w : World) (x : S24) {A1 : Option Addr} {c1 : Nat} (l1 : x.f1.length ≤ c1) (g1 : (Kd.int .u8).C w A1 x.f1.length x.f1) : k24.K w x [.bool x.f0, .slice A1 x.f1.length c1] := ⟨[.bool x.f0], [.slice A1 x.f1.length c1], rfl, rfl, ⟨A1, c1, rfl, l1, g1⟩⟩
/-! #### struct type 26 -/
structure S26 where
  f0 : ByteArray
  f1 : S24
def z26 : S26 := ⟨(⟨#[]⟩ : ByteArray), z24⟩
def k26 : Kd S26 := Kd.iso (Kd.pair Kd.string k24) (fun x : S26 => (x.f0, x.f1))
theorem k26_open {w : World} {x : S26} {cs : List Value} (h : k26.K w x cs) : ∃ A2 c2, cs = [.string x.f0, .bool x.f1.f0, .slice A2 x.f1.f1.length c2] ∧ x.f1.f1.length ≤ c2 ∧ (Kd.int .u8).C w A2 x.f1.f1.length x.f1.f1 := by
  obtain ⟨_, _, rfl, rfl, s1⟩ := h
  obtain ⟨A2, c2, rfl, l2, g2⟩ := k24_open s1
  exact ⟨A2, c2, rfl, l2, g2⟩
theorem k26_mk (w : World) (x : S26) {A2 : Option Addr} {c2 : Nat} (l2 : x.f1.f1.length ≤ c2) (g2 : (Kd.int .u8).C w A2 x.f1.f1.length x.f1.f1) : k26.K w x [.string x.f0, .bool x.f1.f0, .slice A2 x.f1.f1.length c2] := ⟨[.string x.f0], [.bool x.f1.f0, .slice A2 x.f1.f1.length c2], rfl, rfl, (k24_mk w x.f1 l2 g2)⟩
def rd_T26 (xs : List S26) (i : Int) : S26 := xs.getD i.toNat z26
theorem at_T26 {w : World} {A : Option Addr} {n : Nat} {xs : List S26} (h : Kd.C k26 w A n xs) (i : Int) (h0 : 0 ≤ i) (h1 : i < n) : ∃ ad A2 c2, A = some ad ∧ w.cell? (ad.add (i.toNat * 3)) = some (.string (rd_T26 xs i).f0) ∧ w.cell? ⟨(ad.add (i.toNat * 3)).block, (ad.add (i.toNat * 3)).off + 1, none⟩ = some (.bool (rd_T26 xs i).f1.f0) ∧ w.cell? ⟨(ad.add (i.toNat * 3)).block, (ad.add (i.toNat * 3)).off + 2, none⟩ = some (.slice A2 (rd_T26 xs i).f1.f1.length c2) ∧ (rd_T26 xs i).f1.f1.length ≤ c2 ∧ (Kd.int .u8).C w A2 (rd_T26 xs i).f1.f1.length (rd_T26 xs i).f1.f1 := by
  obtain ⟨ad, c, e, _, hK, hc0⟩ := Kd.C_get h z26 i h0 h1
  have hc : ∀ j u, c[j]? = some u → w.cell? (ad.add (i.toNat * 3 + j)) = some u := hc0
  obtain ⟨A2, c2, rfl, l2, g2⟩ := k26_open hK
  exact ⟨ad, A2, c2, e, hc 0 _ rfl, by rw [← add_field _ _ 1 (by omega)]; exact hc 1 _ rfl, by rw [← add_field _ _ 2 (by omega)]; exact hc 2 _ rfl, l2, g2⟩

end Go.Proofs.YthdfhnnoamlacaaDoor.PFnAnyHeader
