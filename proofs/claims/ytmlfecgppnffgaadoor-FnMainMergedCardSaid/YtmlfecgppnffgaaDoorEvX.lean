import Derived.Test.YtmlfecgppnffgaaDoorEvT
import Derived.Test.YtmlfecgppnffgaaDoorXShelf
import Derived.Laws.Externs
import Derived.Shelf.Unicode.ValidAny
import Derived.Tactics2
/- What the library's functions do that the evaluator is handed by their contracts. -/
namespace Go.Proofs.YtmlfecgppnffgaaDoor.E
open Go.Ev Go.RowKit
set_option linter.unusedVariables false
theorem below_refl' (n : Nat) (w : World) : Below n w w := Below.refl _ _
theorem ext24_ok (W : World) : CallOk Go.Proofs.Tryd.prog W sg extF 24 := by
  intro xs r h
  refine ⟨Go.Ev.enters_of Go.Proofs.Tryd.func24 (by kernel_rfl) (by kernel_rfl), fun w S Vs hB hS hA hp => ?_⟩
  have h' : runeCountE xs.1 = some r := h
  unfold runeCountE at h'
  by_cases c : ByteArray.size xs.1 < 9223372036854775807
  · rw [if_pos c] at h'
    cases h'
    match Vs, hA with
    | [V], hA =>
      have hV : V = .string xs.1 := hA.1
      subst hV
      refine (Go.Proofs.Tryd.utf8_RuneCountInString xs.1 w c).mono ?_
      rintro e w' ⟨rfl, pos, rfl⟩
      exact ⟨[.int .i64 (Go.Lib.runeCount xs.1 : Int)], rfl, rfl, List.Pairwise.nil, Pres.of_below ((Below.refl w.heap.size w).alloc (Nat.le_refl _) _)⟩
  · rw [if_neg c] at h'
    cases h'
/-- What the library's two tables hold. -/
structure Glob (w : World) : Prop where
  tabs : Lib.Utf8Tabs (Tryd.laysValid_ren.g 3) (Tryd.laysValid_ren.g 4) w
theorem Glob.below {w w1 : World} {n : Nat} (h : Glob w) (hn : w.heap.size ≤ n) (hb : Below n w w1) : Glob w1 := by
  refine ⟨⟨fun c hc => ?_, fun i hi => ?_⟩⟩
  · have h1 := h.tabs.1 c hc
    exact (hb.cell (Nat.lt_of_lt_of_le (World.block_lt_of_cell? w _ h1) hn)).trans h1
  · have h1 := h.tabs.2 i hi
    exact ⟨(hb.cell (Nat.lt_of_lt_of_le (World.block_lt_of_cell? w _ h1.1) hn)).trans h1.1, (hb.cell (Nat.lt_of_lt_of_le (World.block_lt_of_cell? w _ h1.2) hn)).trans h1.2⟩
theorem ext33_ok (W : World) (hG : Glob W) : CallOk Go.Proofs.Tryd.prog W sg extF 33 := by
  intro xs r h
  refine ⟨Go.Ev.enters_of Go.Proofs.Tryd.func33 (by kernel_rfl) (by kernel_rfl), fun w S Vs hB hS hA hp => ?_⟩
  have h' : validE xs.1 = some r := h
  unfold validE at h'
  by_cases c : ByteArray.size xs.1 ≤ 9223372036854775807
  · rw [if_pos c] at h'
    cases h'
    match Vs, hA with
    | [V], hA =>
      have hV : V = .string xs.1 := hA.1
      subst hV
      refine (Go.Proofs.Any.utf8_ValidString Go.Proofs.Tryd.laysValid xs.1 w c (hG.below (Nat.le_refl _) hB).tabs).mono ?_
      rintro e w' ⟨rfl, hb⟩
      exact ⟨[.bool (Go.Lib.validD xs.1.data.toList)], rfl, rfl, List.Pairwise.nil, Pres.of_below hb⟩
  · rw [if_neg c] at h'
    cases h'
theorem math_Max_calls (a0 a1 : Nat) (w : World) :
    Calls Go.Proofs.Tryd.prog 85 #[.float .f64 a0, .float .f64 a1] w fun e w' => e = .returned (.float .f64 (fpick false .gt a0 a1)) ∧ w' = w := by
  have hd : ∀ w : World, (callFunc 89 #[.float .f64 a0, .float .f64 a1]).run Go.Proofs.Tryd.prog w = .ok (.value (.float .f64 (fpick false .gt a0 a1))) w := by
    intro w
    rw [run_callFunc_extern (e := Extern.MathDim.pick "math.archMax" false .gt) Go.Proofs.Tryd.func89 (by kernel_rfl) (by kernel_rfl) (by kernel_rfl) (by kernel_rfl)]
    rfl
  go_enter Go.Proofs.Tryd.func85, Go.Proofs.Tryd.ntmps85
  go_wp2
  first | go_end0 | go_ret
  exact ⟨rfl, rfl⟩
theorem math_Min_calls (a0 a1 : Nat) (w : World) :
    Calls Go.Proofs.Tryd.prog 94 #[.float .f64 a0, .float .f64 a1] w fun e w' => e = .returned (.float .f64 (fpick true .lt a0 a1)) ∧ w' = w := by
  have hd : ∀ w : World, (callFunc 106 #[.float .f64 a0, .float .f64 a1]).run Go.Proofs.Tryd.prog w = .ok (.value (.float .f64 (fpick true .lt a0 a1))) w := by
    intro w
    rw [run_callFunc_extern (e := Extern.MathDim.pick "math.archMin" true .lt) Go.Proofs.Tryd.func106 (by kernel_rfl) (by kernel_rfl) (by kernel_rfl) (by kernel_rfl)]
    rfl
  go_enter Go.Proofs.Tryd.func94, Go.Proofs.Tryd.ntmps94
  go_wp2
  first | go_end0 | go_ret
  exact ⟨rfl, rfl⟩
theorem ext85_ok (W : World) : CallOk Go.Proofs.Tryd.prog W sg extF 85 := by
  intro xs r h
  refine ⟨Go.Ev.enters_of Go.Proofs.Tryd.func85 (by kernel_rfl) (by kernel_rfl), fun w S Vs hB hS hA hp => ?_⟩
  have h' : some (fpick false .gt xs.1 xs.2.1) = some r := h
  cases h'
  match Vs, hA with
  | [V, U], hA =>
    have hV : V = .float .f64 xs.1 := hA.1
    have hU : U = .float .f64 xs.2.1 := hA.2.1
    subst hV; subst hU
    refine (math_Max_calls xs.1 xs.2.1 w).mono ?_
    rintro e w' ⟨rfl, rfl⟩
    exact ⟨[.float .f64 _], rfl, rfl, List.Pairwise.nil, Pres.refl _ _⟩
theorem ext94_ok (W : World) : CallOk Go.Proofs.Tryd.prog W sg extF 94 := by
  intro xs r h
  refine ⟨Go.Ev.enters_of Go.Proofs.Tryd.func94 (by kernel_rfl) (by kernel_rfl), fun w S Vs hB hS hA hp => ?_⟩
  have h' : some (fpick true .lt xs.1 xs.2.1) = some r := h
  cases h'
  match Vs, hA with
  | [V, U], hA =>
    have hV : V = .float .f64 xs.1 := hA.1
    have hU : U = .float .f64 xs.2.1 := hA.2.1
    subst hV; subst hU
    refine (math_Min_calls xs.1 xs.2.1 w).mono ?_
    rintro e w' ⟨rfl, rfl⟩
    exact ⟨[.float .f64 _], rfl, rfl, List.Pairwise.nil, Pres.refl _ _⟩
end Go.Proofs.YtmlfecgppnffgaaDoor.E
