-- Written by a program of this session (wip/tools): the printer's text for functions of the seat YtmdgnglgabnhnaaDoor. Not trusted: Lean checks it.
import Derived.Test.YtmdgnglgabnhnaaDoorProg
import Derived.Below
import Derived.Deep.Draws
import Derived.Deep.AppendLies
import Derived.Maps.AppendAt
import Derived.OwnWalk
import Derived.Laws.BytesArg
import Derived.Laws.MakeOwn
import Derived.Laws.OwnMore
import Derived.Deep.OwnRows
import Derived.Tactics
import Derived.Lib.ConvBytes
import Derived.Laws.Slices
import Derived.WalkKit
import Derived.KernelRfl
import Derived.RowKit3
import Derived.Deep.LoopGhost
import Derived.Deep.QuietTactic
import Derived.BigQuiet
import Derived.WideLaws
import Derived.Deep.DeepCutAuto
import Derived.Deep.CutBlock
import Derived.Deep.RegionHeld3
import Derived.Laws.Rows
import Derived.Lib.AppendStr
import Derived.ArgAppend
import Derived.Laws.IdiomCopy
import Derived.OrdersHeld
import Derived.Laws.BitsLemmas
import Derived.RowKit
import Derived.Test.YtmdgnglgabnhnaaDoorX
import Derived.Test.YtmdgnglgabnhnaaDoorWWords
import Derived.Test.YtmdgnglgabnhnaaDoorWLast
import Derived.Test.YtmdgnglgabnhnaaDoorWTab
import Derived.Test.YtmdgnglgabnhnaaDoorWFour
import Derived.Test.YtmdgnglgabnhnaaDoorWQPut
import Derived.Test.YtmdgnglgabnhnaaDoorWApart
import Derived.Test.YtmdgnglgabnhnaaDoorWArr
import Derived.Test.YtmdgnglgabnhnaaDoorWZeros
import Derived.Test.YtmdgnglgabnhnaaDoorWFoot
import Derived.Test.YtmdgnglgabnhnaaDoorWKept
import Derived.Test.YtmdgnglgabnhnaaDoorWShare
import Derived.Test.YtmdgnglgabnhnaaDoorWN
import Derived.Test.YtmdgnglgabnhnaaDoorWFootNe
import Derived.Test.YtmdgnglgabnhnaaDoorWAt
import Derived.Test.YtmdgnglgabnhnaaDoorWEqStruct
import Derived.Test.YtmdgnglgabnhnaaDoorWRepsOne
import Derived.Test.YtmdgnglgabnhnaaDoorWInv
import Derived.Test.YtmdgnglgabnhnaaDoorWInvWords
import Derived.Test.YtmdgnglgabnhnaaDoorWGuard
import Derived.Test.YtmdgnglgabnhnaaDoorWNEv
import Derived.Test.YtmdgnglgabnhnaaDoorWMore
namespace Go.Proofs.YtmdgnglgabnhnaaDoor.P
open Go.RowKit Go.Proofs.YtmdgnglgabnhnaaDoorW.PrintWords Go.Proofs.YtmdgnglgabnhnaaDoorW.PrintLast Go.Proofs.YtmdgnglgabnhnaaDoorW.PrintMore
attribute [local go_sem] max2_int min2_int max_two min_two max_three min_three max_four min_four   -- for this text's walks alone
open Go.Proofs.YtmdgnglgabnhnaaDoorX
set_option linter.unusedVariables false
set_option linter.unusedSimpArgs false



def errW : Option Int → Value
  | none => .nilIface
  | some c => .iface 0 (.int .i64 c)
theorem errW_none : errW none = .nilIface := rfl
theorem errW_some (c : Int) : errW (some c) = .iface 0 (.int .i64 c) := rfl

theorem info5 : (Tryd.prog.info? 5).map (fun i => (i.zero, i.size, i.bytes)) = some (some (.int .u8 0), 1, 1) := by kernel_rfl
-- the values' own types

end Go.Proofs.YtmdgnglgabnhnaaDoor.P
