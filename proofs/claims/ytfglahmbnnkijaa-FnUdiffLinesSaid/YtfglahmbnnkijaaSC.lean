import Derived.Test.YtfglahmbnnkijaaSB
/- What the statements on edits ask first; edits sorted by the library. -/
set_option linter.unusedVariables false
set_option linter.unusedSimpArgs false
namespace Go.Proofs.Ytfglahmbnnkijaa.E
open Go.Ev Go.Lcs
instance (e : Ed) : Decidable (Small e) := by unfold Small; exact inferInstance
end Go.Proofs.Ytfglahmbnnkijaa.E
