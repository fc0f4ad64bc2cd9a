import Derived.Test.YtfglahmbnnkijaaEvOk
/- The concrete run that the statements of this file make first. -/
set_option linter.unusedVariables false
set_option linter.unusedSimpArgs false
namespace Go.Proofs.Ytfglahmbnnkijaa.E
open Go.Ev
set_option maxRecDepth 100000 in
theorem awakeT (K : Nat) : callFT Tc (K + 60) 13 () = some true := by kernel_rfl
theorem awake (K : Nat) : editAwake (K + 60) = some true := by
  have h := awakeT K
  rw [Tc_eq] at h
  exact h
end Go.Proofs.Ytfglahmbnnkijaa.E
