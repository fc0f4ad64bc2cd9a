-- Written by a program of this session (wip/tools): the printer's text for functions of the seat Ytmdgnglgabnhnaa. Not trusted: Lean checks it.
import Derived.Test.YtmdgnglgabnhnaaProg
import Derived.Below
import Derived.Deep.Draws
import Derived.Deep.AppendLies
import Derived.Maps.AppendAt
import Derived.OwnWalk
import Derived.Laws.BytesArg
import Derived.Laws.MakeOwn
import Derived.Laws.OwnMore
import Derived.Deep.OwnRows
import Derived.Tactics
import Derived.Lib.ConvBytes
import Derived.Laws.Slices
import Derived.WalkKit
import Derived.KernelRfl
import Derived.RowKit3
import Derived.Deep.LoopGhost
import Derived.Deep.QuietTactic
import Derived.BigQuiet
import Derived.WideLaws
import Derived.Deep.DeepCutAuto
import Derived.Deep.CutBlock
import Derived.Deep.RegionHeld3
import Derived.Laws.Rows
import Derived.Lib.AppendStr
import Derived.ArgAppend
import Derived.Laws.IdiomCopy
import Derived.OrdersHeld
import Derived.Laws.BitsLemmas
import Derived.RowKit
import Derived.Test.YtmdgnglgabnhnaaX
import Derived.Test.YtmdgnglgabnhnaaWWords
import Derived.Test.YtmdgnglgabnhnaaWLast
import Derived.Test.YtmdgnglgabnhnaaWTab
import Derived.Test.YtmdgnglgabnhnaaWFour
import Derived.Test.YtmdgnglgabnhnaaWQPut
import Derived.Test.YtmdgnglgabnhnaaWApart
import Derived.Test.YtmdgnglgabnhnaaWArr
import Derived.Test.YtmdgnglgabnhnaaWZeros
import Derived.Test.YtmdgnglgabnhnaaWFoot
import Derived.Test.YtmdgnglgabnhnaaWKept
import Derived.Test.YtmdgnglgabnhnaaWShare
import Derived.Test.YtmdgnglgabnhnaaWN
import Derived.Test.YtmdgnglgabnhnaaWFootNe
import Derived.Test.YtmdgnglgabnhnaaWAt
import Derived.Test.YtmdgnglgabnhnaaWEqStruct
import Derived.Test.YtmdgnglgabnhnaaWRepsOne
import Derived.Test.YtmdgnglgabnhnaaWInv
import Derived.Test.YtmdgnglgabnhnaaWInvWords
import Derived.Test.YtmdgnglgabnhnaaWGuard
import Derived.Test.YtmdgnglgabnhnaaWNEv
import Derived.Test.YtmdgnglgabnhnaaWMore
namespace Go.Proofs.Ytmdgnglgabnhnaa.P
open Go.RowKit Go.Proofs.YtmdgnglgabnhnaaW.PrintWords Go.Proofs.YtmdgnglgabnhnaaW.PrintLast Go.Proofs.YtmdgnglgabnhnaaW.PrintMore
attribute [local go_sem] max2_int min2_int max_two min_two max_three min_three max_four min_four   -- for this text's walks alone
open Go.Proofs.YtmdgnglgabnhnaaX
set_option linter.unusedVariables false
set_option linter.unusedSimpArgs false



def errW : Option Int → Value
  | none => .nilIface
  | some c => .iface 0 (.int .i64 c)
theorem errW_none : errW none = .nilIface := rfl
theorem errW_some (c : Int) : errW (some c) = .iface 0 (.int .i64 c) := rfl

-- the values' own types

end Go.Proofs.Ytmdgnglgabnhnaa.P
