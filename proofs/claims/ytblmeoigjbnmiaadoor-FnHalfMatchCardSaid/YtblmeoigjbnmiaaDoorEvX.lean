import Derived.Test.YtblmeoigjbnmiaaDoorEvT
import Derived.Test.YtblmeoigjbnmiaaDoorXShelf
import Derived.Laws.Externs
import Derived.Shelf.Unicode.ValidAny
import Derived.Tactics2
/- What the library's functions do that the evaluator is handed by their contracts. -/
namespace Go.Proofs.YtblmeoigjbnmiaaDoor.E
open Go.Ev Go.RowKit
set_option linter.unusedVariables false
theorem ext9_ok (W : World) : CallOk Go.Proofs.Tryd.prog W sg extF 9 := by
  intro xs r h
  refine ⟨Go.Ev.enters_of Go.Proofs.Tryd.func9 (by kernel_rfl) (by kernel_rfl), fun η w S Vs hB hS hA hp hO hSO => ?_⟩
  have h' : runeCountE xs.1 = some r := h
  unfold runeCountE at h'
  by_cases c : ByteArray.size xs.1 < 9223372036854775807
  · rw [if_pos c] at h'
    cases h'
    match Vs, hA with
    | [V], hA =>
      have hV : V = .string xs.1 := hA.1
      subst hV
      refine (Go.Proofs.Tryd.utf8_RuneCountInString xs.1 w c).mono ?_
      rintro e w' ⟨rfl, pos, rfl⟩
      exact ⟨[.int .i64 (Go.Lib.runeCount xs.1 : Int)], η, rfl, rfl, List.Pairwise.nil, Pres.of_below ((Below.refl w.heap.size w).alloc (Nat.le_refl _) _), HEnv.le.refl _, HpOk.empty _ hO.nx.symm, fun n hn => absurd rfl hn⟩
  · rw [if_neg c] at h'
    cases h'
/-- What the library's tables hold. -/
structure Glob (w : World) : Prop where
  tabs : Lib.Utf8Tabs (Tryd.laysValid_ren.g 3) (Tryd.laysValid_ren.g 4) w
theorem Glob.below {w w1 : World} {n : Nat} (h : Glob w) (hn : w.heap.size ≤ n) (hb : Below n w w1) : Glob w1 := by
  refine ⟨⟨fun c hc => ?_, fun i hi => ?_⟩⟩
  · have h1 := h.tabs.1 c hc
    exact (hb.cell (Nat.lt_of_lt_of_le (World.block_lt_of_cell? w _ h1) hn)).trans h1
  · have h1 := h.tabs.2 i hi
    exact ⟨(hb.cell (Nat.lt_of_lt_of_le (World.block_lt_of_cell? w _ h1.1) hn)).trans h1.1, (hb.cell (Nat.lt_of_lt_of_le (World.block_lt_of_cell? w _ h1.2) hn)).trans h1.2⟩
theorem ext20_ok (W : World) (hG : Glob W) : CallOk Go.Proofs.Tryd.prog W sg extF 20 := by
  intro xs r h
  refine ⟨Go.Ev.enters_of Go.Proofs.Tryd.func20 (by kernel_rfl) (by kernel_rfl), fun η w S Vs hB hS hA hp hO hSO => ?_⟩
  have h' : validE xs.1 = some r := h
  unfold validE at h'
  by_cases c : ByteArray.size xs.1 ≤ 9223372036854775807
  · rw [if_pos c] at h'
    cases h'
    match Vs, hA with
    | [V], hA =>
      have hV : V = .string xs.1 := hA.1
      subst hV
      refine (Go.Proofs.Any.utf8_ValidString Go.Proofs.Tryd.laysValid xs.1 w c (hG.below (Nat.le_refl _) hB).tabs).mono ?_
      rintro e w' ⟨rfl, hb⟩
      exact ⟨[.bool (Go.Lib.validD xs.1.data.toList)], η, rfl, rfl, List.Pairwise.nil, Pres.of_below hb, HEnv.le.refl _, HpOk.empty _ hO.nx.symm, fun n hn => absurd rfl hn⟩
  · rw [if_neg c] at h'
    cases h'
end Go.Proofs.YtblmeoigjbnmiaaDoor.E
