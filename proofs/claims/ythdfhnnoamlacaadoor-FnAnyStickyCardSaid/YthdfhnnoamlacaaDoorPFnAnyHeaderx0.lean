/- What the texts behind this one lean on, out of what the kit's print writes for this seat, cut down. Conditions: none. -/
import Derived.Test.YthdfhnnoamlacaaDoorProg
import Derived.Below
import Derived.Deep.Draws
import Derived.Deep.AppendLies
import Derived.Maps.AppendAt
import Derived.OwnWalk
import Derived.Laws.BytesArg
import Derived.Laws.MakeOwn
import Derived.Laws.OwnMore
import Derived.Deep.OwnRows
import Derived.Tactics
import Derived.Lib.ConvBytes
import Derived.Laws.Slices
import Derived.WalkKit
import Derived.KernelRfl
import Derived.RowKit3
import Derived.Deep.LoopGhost
import Derived.Deep.QuietTactic
import Derived.BigQuiet
import Derived.WideLaws
import Derived.Deep.DeepCutAuto
import Derived.Deep.CutBlock
import Derived.Deep.RegionHeld3
import Derived.Laws.Rows
import Derived.Lib.AppendStr
import Derived.ArgAppend
import Derived.Laws.IdiomCopy
import Derived.OrdersHeld
import Derived.Laws.BitsLemmas
import Derived.RowKit
import Derived.Test.YthdfhnnoamlacaaDoorWWords
import Derived.Test.YthdfhnnoamlacaaDoorWLast
import Derived.Test.YthdfhnnoamlacaaDoorWTab
import Derived.Test.YthdfhnnoamlacaaDoorWFour
import Derived.Test.YthdfhnnoamlacaaDoorWQPut
import Derived.Test.YthdfhnnoamlacaaDoorWApart
import Derived.Test.YthdfhnnoamlacaaDoorWArr
import Derived.Test.YthdfhnnoamlacaaDoorWZeros
import Derived.Test.YthdfhnnoamlacaaDoorWFoot
import Derived.Test.YthdfhnnoamlacaaDoorWKept
import Derived.Test.YthdfhnnoamlacaaDoorWShare
import Derived.Test.YthdfhnnoamlacaaDoorWN
import Derived.Test.YthdfhnnoamlacaaDoorWFootNe
import Derived.Test.YthdfhnnoamlacaaDoorWAt
import Derived.Test.YthdfhnnoamlacaaDoorWEqStruct
import Derived.Test.YthdfhnnoamlacaaDoorWRepsOne
import Derived.Test.YthdfhnnoamlacaaDoorWInv
import Derived.Test.YthdfhnnoamlacaaDoorWInvWords
import Derived.Test.YthdfhnnoamlacaaDoorWGuard
import Derived.Test.YthdfhnnoamlacaaDoorWNEv
import Derived.Test.YthdfhnnoamlacaaDoorWMore
namespace Go.Proofs.YthdfhnnoamlacaaDoor.PFnAnyHeader
open Go.RowKit Go.Proofs.YthdfhnnoamlacaaDoorW.PrintWords Go.Proofs.YthdfhnnoamlacaaDoorW.PrintLast Go.Proofs.YthdfhnnoamlacaaDoorW.PrintMore



def errW : Option Int → Value
  | none => .nilIface
  | some c => .iface 0 (.int .i64 c)
theorem errW_none : errW none = .nilIface := rfl
theorem errW_some (c : Int) : errW (some c) = .iface 0 (.int .i64 c) := rfl

theorem info5 : (Tryd.prog.info? 5).map (fun i => (i.zero, i.size, i.bytes)) = some (some (.int .u8 0), 1, 1) := by kernel_rfl
-- the values' own types
/-! #### struct type 61 -/
structure S61 where
  f0 : ByteArray
  f1 : (List Int)
/-! #### struct type 48 -/
structure S48 where
  f0 : ByteArray
  f1 : (List Int)
/-! #### struct type 24 -/
structure S24 where
  f0 : Bool
  f1 : (List Int)
/-! #### struct type 26 -/
structure S26 where
  f0 : ByteArray
  f1 : S24
end Go.Proofs.YthdfhnnoamlacaaDoor.PFnAnyHeader
