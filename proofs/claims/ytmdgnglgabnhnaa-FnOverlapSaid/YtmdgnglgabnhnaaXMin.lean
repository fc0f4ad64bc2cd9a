import Derived.Test.YtmdgnglgabnhnaaX
import Derived.Test.YtmdgnglgabnhnaaProg
import Derived.Laws.Externs
/- 'math.Min' and 'math.Max' of two floats, as the model answers for the assembly that they call. -/
namespace Go.Proofs.Ytmdgnglgabnhnaa.P
open Go.RowKit Go.Proofs.YtmdgnglgabnhnaaW.PrintWords
def pickR (neg : Bool) (win : Ordering) (x y : Nat) : Nat :=
  if FloatKind.f64.decode x == .infinity neg || FloatKind.f64.decode y == .infinity neg then FloatKind.f64.encode (.infinity neg)
  else if (FloatKind.f64.decode x).isNaN || (FloatKind.f64.decode y).isNaN then 0x7FF8000000000001
  else if (FloatKind.f64.decode x).isZero && (FloatKind.f64.decode y).isZero then (if (FloatKind.f64.decode x).neg == neg then x else y)
  else if (FloatKind.f64.decode x).order (FloatKind.f64.decode y) == some win then x else y
def math_Min.f (x y : Nat) : Option Nat := some (pickR true .lt x y)
theorem math_Min.calls (a0 a1 r : Nat) (w : World) (h : math_Min.f a0 a1 = some r) :
    Calls Try.prog 14 #[.float .f64 a0, .float .f64 a1] w fun e w' => e = .returned (.float .f64 r) ∧ Drawn0 w w' := by
  cases h
  have hd : ∀ w : World, (callFunc 16 #[.float .f64 a0, .float .f64 a1]).run Try.prog w = .ok (.value (.float .f64 (pickR true .lt a0 a1))) w := by
    intro w
    rw [run_callFunc_extern (e := Extern.MathDim.pick "math.archMin" true .lt) Try.func16 (by kernel_rfl) (by kernel_rfl) (by kernel_rfl) (by kernel_rfl)]
    rfl
  go_enter Try.func14, Try.ntmps14
  go_wp2
  first | go_end0 | go_ret
  exact ⟨rfl, Drawn0.refl _⟩
end Go.Proofs.Ytmdgnglgabnhnaa.P
