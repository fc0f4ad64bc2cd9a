import Derived.Test.YtfefjbifdbfmjaaDoorEvT
import Derived.Test.YtfefjbifdbfmjaaDoorXShelf
import Derived.Test.YtfefjbifdbfmjaaDoorEvH
import Derived.Laws.Externs
import Derived.Shelf.Unicode.ValidAny
import Derived.Tactics2
import Derived.Lib.SmallJoins
import Derived.Lib.AppendIntMem
import Derived.Lib.LaidTab
/- What the library's functions do that the evaluator is handed by their contracts, and the functions that are walked by hand. -/
namespace Go.Proofs.YtfefjbifdbfmjaaDoor.E
open Go.Ev Go.RowKit
set_option linter.unusedVariables false
section
variable (cf : (f : FuncId) → argL (sg f).ps → Option (retL (sg f).rs))
theorem ext50_ok (W : World) (hcf : ∀ f, CallOk Go.Proofs.Tryd.prog W sg cf f) : CallOk Go.Proofs.Tryd.prog W sg (extF cf) 50 := by
  intro xs r h
  refine ⟨Go.Ev.enters_of Go.Proofs.Tryd.func50 (by kernel_rfl) (by kernel_rfl), fun w S Vs hB hS hA hp => ?_⟩
  have h' : runeCountE xs.1 = some r := h
  unfold runeCountE at h'
  by_cases c : ByteArray.size xs.1 < 9223372036854775807
  · rw [if_pos c] at h'
    cases h'
    match Vs, hA with
    | [V], hA =>
      have hV : V = .string xs.1 := hA.1
      subst hV
      refine (Go.Proofs.Tryd.utf8_RuneCountInString xs.1 w c).mono ?_
      rintro e w' ⟨rfl, pos, rfl⟩
      exact ⟨[.int .i64 (Go.Lib.runeCount xs.1 : Int)], rfl, rfl, List.Pairwise.nil, Pres.of_below ((Below.refl w.heap.size w).alloc (Nat.le_refl _) _)⟩
  · rw [if_neg c] at h'
    cases h'
/-- What the library's two tables hold. -/
structure Glob (w : World) : Prop where
  tabs : Lib.Utf8Tabs (Tryd.laysValid_ren.g 3) (Tryd.laysValid_ren.g 4) w
  pow : Lib.TabIs Go.Proofs.Tryd.prog w "internal/strconv.uint64pow10" .u64 Lib.pow10Tab
theorem Glob.below {w w1 : World} {n : Nat} (h : Glob w) (hn : w.heap.size ≤ n) (hb : Below n w w1) : Glob w1 := by
  refine ⟨⟨fun c hc => ?_, fun i hi => ?_⟩, Go.Joins.tab_stays (g := (Go.Proofs.Tryd.prog.globalNamed "internal/strconv.uint64pow10").getD 0) (by kernel_rfl) h.pow hb hn⟩
  · have h1 := h.tabs.1 c hc
    exact (hb.cell (Nat.lt_of_lt_of_le (World.block_lt_of_cell? w _ h1) hn)).trans h1
  · have h1 := h.tabs.2 i hi
    exact ⟨(hb.cell (Nat.lt_of_lt_of_le (World.block_lt_of_cell? w _ h1.1) hn)).trans h1.1, (hb.cell (Nat.lt_of_lt_of_le (World.block_lt_of_cell? w _ h1.2) hn)).trans h1.2⟩
theorem ext44_ok (W : World) (hcf : ∀ f, CallOk Go.Proofs.Tryd.prog W sg cf f) (hG : Glob W) : CallOk Go.Proofs.Tryd.prog W sg (extF cf) 44 := by
  intro xs r h
  refine ⟨Go.Ev.enters_of Go.Proofs.Tryd.func44 (by kernel_rfl) (by kernel_rfl), fun w S Vs hB hS hA hp => ?_⟩
  have h' : validE xs.1 = some r := h
  unfold validE at h'
  by_cases c : ByteArray.size xs.1 ≤ 9223372036854775807
  · rw [if_pos c] at h'
    cases h'
    match Vs, hA with
    | [V], hA =>
      have hV : V = .string xs.1 := hA.1
      subst hV
      refine (Go.Proofs.Any.utf8_ValidString Go.Proofs.Tryd.laysValid xs.1 w c (hG.below (Nat.le_refl _) hB).tabs).mono ?_
      rintro e w' ⟨rfl, hb⟩
      exact ⟨[.bool (Go.Lib.validD xs.1.data.toList)], rfl, rfl, List.Pairwise.nil, Pres.of_below hb⟩
  · rw [if_neg c] at h'
    cases h'
theorem dec3 {n : Nat} (h : n < 1000) : Lib.decDigits n = itoa2 n := by
  unfold itoa2
  split
  · exact Lib.decDigits_one (by assumption)
  · split
    · exact Lib.decDigits_two (by assumption) (by assumption)
    · rename_i h1 h2
      rw [Lib.decDigits, dif_neg h1, Lib.decDigits_two (by omega) (by omega)]
      rfl
theorem ext47_ok (W : World) (hcf : ∀ f, CallOk Go.Proofs.Tryd.prog W sg cf f) (hG : Glob W) : CallOk Go.Proofs.Tryd.prog W sg (extF cf) 47 := by
  intro xs r h
  refine ⟨Go.Ev.enters_of Go.Proofs.Tryd.func47 (by kernel_rfl) (by kernel_rfl), fun w S Vs hB hS hA hp => ?_⟩
  have h' : itoaE xs.1 = some r := h
  unfold itoaE at h'
  split at h'
  · rename_i c
    cases h'
    match Vs, hA with
    | [V], hA =>
      have hV : V = .int .i64 xs.1 := hA.1
      subst hV
      have hcall := Go.Proofs.Tryd.strconv_Itoa xs.1 (by omega) (by omega) w (hG.below (Nat.le_refl _) hB).pow
      have hd : Lib.itoa xs.1 = itoa2 (Int.toNat xs.1) := by
        unfold Lib.itoa
        rw [if_neg (by omega), dec3 (by omega)]
      rw [hd] at hcall
      refine hcall.mono ?_
      rintro e w' ⟨rfl, k, os, rfl⟩
      exact ⟨[.string _], rfl, rfl, List.Pairwise.nil, Pres.of_below (Lib.below_grow _ _ (Nat.le_refl _) _ _)⟩
  · cases h'
theorem ext46_ok (W : World) (hcf : ∀ f, CallOk Go.Proofs.Tryd.prog W sg cf f) : CallOk Go.Proofs.Tryd.prog W sg (extF cf) 46 := by
  intro xs r h
  refine ⟨Go.Ev.enters_of Go.Proofs.Tryd.func46 (by kernel_rfl) (by kernel_rfl), fun w S Vs hB hS hA hp => ?_⟩
  have h' : parseIntE xs.1 xs.2.1 xs.2.2.1 = some r := h
  unfold parseIntE at h'
  split at h'
  · rename_i c
    split at h'
    · rename_i v hv
      cases h'
      match Vs, hA with
      | [V, B, Z], hA =>
        have hV : V = .string xs.1 := hA.1
        have hB' : B = .int .i64 xs.2.1 := hA.2.1
        have hZ : Z = .int .i64 xs.2.2.1 := hA.2.2.1
        rw [c.2.1] at hB'
        rw [c.2.2] at hZ
        subst hV; subst hB'; subst hZ
        refine (Go.Proofs.Tryd.strconv_ParseInt_10_at0_ok xs.1 c.1 v hv w).mono ?_
        rintro e w' ⟨rfl, hw⟩
        refine ⟨[.int .i64 v, .nilIface], rfl, ⟨rfl, rfl⟩, List.Pairwise.nil, ?_⟩
        rcases hw with rfl | ⟨t, rfl⟩
        · exact Pres.refl _ _
        · exact ⟨rfl, rfl, rfl, by rw [Lib.bytesWorld_size]; omega, fun k hk _ => Lib.bytesWorld_at_old w 5 t k hk⟩
    · cases h'
  · cases h'
theorem ext39_ok (W : World) (hcf : ∀ f, CallOk Go.Proofs.Tryd.prog W sg cf f) : CallOk Go.Proofs.Tryd.prog W sg (extF cf) 39 := by
  intro xs r h
  refine ⟨Go.Ev.enters_of Go.Proofs.Tryd.func39 (by kernel_rfl) (by kernel_rfl), fun w S Vs hB hS hA hp => ?_⟩
  match Vs, hA with
  | [V, L], hA =>
    obtain ⟨⟨A, c, rfl, hc, hcells⟩, _⟩ := hA.2.1
    refine (html_calls hcf V A c xs.2.1 r w hB ⟨A, c, rfl, hc, hcells⟩ _ (fun s t h => Option.bind_eq_some_iff.1 h) h).mono ?_
    rintro e w' ⟨rfl, hb⟩
    exact ⟨[.string r], rfl, rfl, List.Pairwise.nil, Pres.of_below hb⟩
theorem ext31_ok (W : World) (hcf : ∀ f, CallOk Go.Proofs.Tryd.prog W sg cf f) : CallOk Go.Proofs.Tryd.prog W sg (extF cf) 31 := by
  intro xs r h
  refine ⟨Go.Ev.enters_of Go.Proofs.Tryd.func31 (by kernel_rfl) (by kernel_rfl), fun w S Vs hB hS hA hp => ?_⟩
  match Vs, hA with
  | [V, L], hA =>
    obtain ⟨⟨A, c, rfl, hc, hcells⟩, _⟩ := hA.2.1
    refine (delta_calls hcf V A c xs.2.1 r w hB ⟨A, c, rfl, hc, hcells⟩ _ _ _ _ (fun s t h => Option.bind_eq_some_iff.1 h) (fun s t h => Option.bind_eq_some_iff.1 h) (fun s t h => h) (fun s t h => h) h).mono ?_
    rintro e w' ⟨rfl, hb⟩
    exact ⟨[.string r], rfl, rfl, List.Pairwise.nil, Pres.of_below hb⟩
theorem ext38_ok (W : World) (hcf : ∀ f, CallOk Go.Proofs.Tryd.prog W sg cf f) : CallOk Go.Proofs.Tryd.prog W sg (extF cf) 38 := by
  intro xs r h
  refine ⟨Go.Ev.enters_of Go.Proofs.Tryd.func38 (by kernel_rfl) (by kernel_rfl), fun w S Vs hB hS hA hp => ?_⟩
  match Vs, hA with
  | [V, L], hA =>
    obtain ⟨⟨A, c, rfl, hc, hcells⟩, _⟩ := hA.2.1
    refine (ptext_calls hcf V A c xs.2.1 r w hB ⟨A, c, rfl, hc, hcells⟩ _ (fun s t h => h) h).mono ?_
    rintro e w' ⟨rfl, hb⟩
    exact ⟨[.string r], rfl, rfl, List.Pairwise.nil, Pres.of_below hb⟩
end
end Go.Proofs.YtfefjbifdbfmjaaDoor.E
