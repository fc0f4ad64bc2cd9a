-- Written by a program of this session (wip/tools): the printer's text for functions of the seat Ytmdgnglgabnhnaa. Not trusted: Lean checks it.
import Derived.Test.YtmdgnglgabnhnaaPx0
import Derived.Test.YtmdgnglgabnhnaaPx1
namespace Go.Proofs.Ytmdgnglgabnhnaa.P
open Go.RowKit Go.Proofs.YtmdgnglgabnhnaaW.PrintWords Go.Proofs.YtmdgnglgabnhnaaW.PrintLast Go.Proofs.YtmdgnglgabnhnaaW.PrintMore
attribute [local go_sem] max2_int min2_int max_two min_two max_three min_three max_four min_four   -- for this text's walks alone
open Go.Proofs.YtmdgnglgabnhnaaX
set_option linter.unusedVariables false
set_option linter.unusedSimpArgs false

end Go.Proofs.Ytmdgnglgabnhnaa.P
