import Derived.Test.YtaabfadjemmibaaDoorEvT
import Derived.Test.YtaabfadjemmibaaDoorXShelf
import Derived.Laws.Externs
import Derived.Tactics2
/- What the library's functions do that the evaluator is handed by their contracts. -/
namespace Go.Proofs.YtaabfadjemmibaaDoor.E
open Go.Ev Go.RowKit
set_option linter.unusedVariables false
theorem below_refl' (n : Nat) (w : World) : Below n w w := Below.refl _ _
theorem ext54_ok (W : World) : CallOk Go.Proofs.Tryd.prog W sg extF 54 := by
  intro xs r h
  refine ⟨Go.Ev.enters_of Go.Proofs.Tryd.func54 (by kernel_rfl) (by kernel_rfl), fun w S Vs hB hS hA hp => ?_⟩
  have h' : runeCountE xs.1 = some r := h
  unfold runeCountE at h'
  by_cases c : ByteArray.size xs.1 < 9223372036854775807
  · rw [if_pos c] at h'
    cases h'
    match Vs, hA with
    | [V], hA =>
      have hV : V = .string xs.1 := hA.1
      subst hV
      refine (Go.Proofs.Tryd.utf8_RuneCountInString xs.1 w c).mono ?_
      rintro e w' ⟨rfl, pos, rfl⟩
      exact ⟨[.int .i64 (Go.Lib.runeCount xs.1 : Int)], rfl, rfl, List.Pairwise.nil, Pres.of_below ((Below.refl w.heap.size w).alloc (Nat.le_refl _) _)⟩
  · rw [if_neg c] at h'
    cases h'
theorem math_Max_calls (a0 a1 : Nat) (w : World) :
    Calls Go.Proofs.Tryd.prog 55 #[.float .f64 a0, .float .f64 a1] w fun e w' => e = .returned (.float .f64 (fpick false .gt a0 a1)) ∧ w' = w := by
  have hd : ∀ w : World, (callFunc 65 #[.float .f64 a0, .float .f64 a1]).run Go.Proofs.Tryd.prog w = .ok (.value (.float .f64 (fpick false .gt a0 a1))) w := by
    intro w
    rw [run_callFunc_extern (e := Extern.MathDim.pick "math.archMax" false .gt) Go.Proofs.Tryd.func65 (by kernel_rfl) (by kernel_rfl) (by kernel_rfl) (by kernel_rfl)]
    rfl
  go_enter Go.Proofs.Tryd.func55, Go.Proofs.Tryd.ntmps55
  go_wp2
  first | go_end0 | go_ret
  exact ⟨rfl, rfl⟩
theorem math_Min_calls (a0 a1 : Nat) (w : World) :
    Calls Go.Proofs.Tryd.prog 67 #[.float .f64 a0, .float .f64 a1] w fun e w' => e = .returned (.float .f64 (fpick true .lt a0 a1)) ∧ w' = w := by
  have hd : ∀ w : World, (callFunc 75 #[.float .f64 a0, .float .f64 a1]).run Go.Proofs.Tryd.prog w = .ok (.value (.float .f64 (fpick true .lt a0 a1))) w := by
    intro w
    rw [run_callFunc_extern (e := Extern.MathDim.pick "math.archMin" true .lt) Go.Proofs.Tryd.func75 (by kernel_rfl) (by kernel_rfl) (by kernel_rfl) (by kernel_rfl)]
    rfl
  go_enter Go.Proofs.Tryd.func67, Go.Proofs.Tryd.ntmps67
  go_wp2
  first | go_end0 | go_ret
  exact ⟨rfl, rfl⟩
theorem ext55_ok (W : World) : CallOk Go.Proofs.Tryd.prog W sg extF 55 := by
  intro xs r h
  refine ⟨Go.Ev.enters_of Go.Proofs.Tryd.func55 (by kernel_rfl) (by kernel_rfl), fun w S Vs hB hS hA hp => ?_⟩
  have h' : some (fpick false .gt xs.1 xs.2.1) = some r := h
  cases h'
  match Vs, hA with
  | [V, U], hA =>
    have hV : V = .float .f64 xs.1 := hA.1
    have hU : U = .float .f64 xs.2.1 := hA.2.1
    subst hV; subst hU
    refine (math_Max_calls xs.1 xs.2.1 w).mono ?_
    rintro e w' ⟨rfl, rfl⟩
    exact ⟨[.float .f64 _], rfl, rfl, List.Pairwise.nil, Pres.refl _ _⟩
theorem ext67_ok (W : World) : CallOk Go.Proofs.Tryd.prog W sg extF 67 := by
  intro xs r h
  refine ⟨Go.Ev.enters_of Go.Proofs.Tryd.func67 (by kernel_rfl) (by kernel_rfl), fun w S Vs hB hS hA hp => ?_⟩
  have h' : some (fpick true .lt xs.1 xs.2.1) = some r := h
  cases h'
  match Vs, hA with
  | [V, U], hA =>
    have hV : V = .float .f64 xs.1 := hA.1
    have hU : U = .float .f64 xs.2.1 := hA.2.1
    subst hV; subst hU
    refine (math_Min_calls xs.1 xs.2.1 w).mono ?_
    rintro e w' ⟨rfl, rfl⟩
    exact ⟨[.float .f64 _], rfl, rfl, List.Pairwise.nil, Pres.refl _ _⟩
end Go.Proofs.YtaabfadjemmibaaDoor.E
