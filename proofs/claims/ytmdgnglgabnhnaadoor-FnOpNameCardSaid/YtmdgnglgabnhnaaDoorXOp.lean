import Derived.Test.YtmdgnglgabnhnaaDoorPx0
import Derived.Test.YtmdgnglgabnhnaaDoorXShelfI
import Derived.Lib.LaidU8T
import Derived.Lib.LaidTab
import Derived.Lib.AppendIntMem
import Derived.Lib.SmallJoins
import Derived.BigCall
import Derived.BigQuiet
/- 'Operation.String': the names of the types, out of a table; of other numbers the number. -/
namespace Go.Proofs.YtmdgnglgabnhnaaDoorX
open Go.RowKit Go.Lib
theorem tab_of_reads {P : Program} {W : World} {name : String} {k : IntKind} {zs : List Int} {g : Nat} {t e : TypeId} {n : Nat}
    (hg : P.globalNamed name = some g) (hty : (P.globals[g]?).map (·.type) = some t) (ht : P.underlying t = some (.array n e)) (he : P.underlying e = some (.int k)) (hce : P.cellsOf e = 1) (hct : P.cellsOf t = n)
    (h : VarReads P W name (tabData k zs)) : TabIs P W name k zs := by
  obtain ⟨g', t', cs, fuel, p, hg', ht', hvar, hd⟩ := h
  obtain rfl := Option.some.inj (hg.symm.trans hg')
  obtain rfl := Option.some.inj (hty.symm.trans ht')
  unfold TabIs
  rw [hvar, ← cells_of_tab ht he hce hct hd]
/-- What the tables hold. -/
structure Glob (w : World) : Prop where
  pow : TabIs Tryd.prog w "internal/strconv.uint64pow10" .u64 pow10Tab
  ix : TabIs Tryd.prog w "pub-emendator/pub/diffmatchpatch._Operation_index" .u8 [0, 6, 11, 17]
theorem Glob.below {w w1 : World} (h : Glob w) (hb : Below w.heap.size w w1) : Glob w1 :=
  ⟨Go.Joins.tab_stays (g := (Tryd.prog.globalNamed "internal/strconv.uint64pow10").getD 0) (by kernel_rfl) h.pow hb (Nat.le_refl _), Go.Joins.tab_stays (g := 2) (by kernel_rfl) h.ix hb (Nat.le_refl _)⟩
end Go.Proofs.YtmdgnglgabnhnaaDoorX
namespace Go.Proofs.YtmdgnglgabnhnaaDoor.P
open Go.RowKit Go.Proofs.YtmdgnglgabnhnaaDoorW.PrintWords Go.Proofs.YtmdgnglgabnhnaaDoorW.PrintLast Go.Proofs.YtmdgnglgabnhnaaDoorW.PrintMore
open Go.Proofs.YtmdgnglgabnhnaaDoorX
set_option linter.unusedVariables false
def diffmatchpatch_Operation_String.f (t : Int) : Option ByteArray :=
  if t = -1 then some ⟨#[68, 101, 108, 101, 116, 101]⟩ else if t = 0 then some ⟨#[69, 113, 117, 97, 108]⟩ else if t = 1 then some ⟨#[73, 110, 115, 101, 114, 116]⟩
  else if -128 ≤ t ∧ t ≤ 127 then some (⟨#[79, 112, 101, 114, 97, 116, 105, 111, 110, 40]⟩ ++ ⟨(Lib.itoa t).toArray⟩ ++ ⟨#[41]⟩) else none
theorem itoa_small : ∀ n : Fin 256, (Lib.itoa ((n.val : Int) - 128)).length ≤ 4 := by decide +kernel
set_option maxHeartbeats 4000000 in
set_option maxRecDepth 100000 in
theorem diffmatchpatch_Operation_String.calls (a0 : Int) (r : ByteArray) (w : World) (hG_ : Glob w) (h : diffmatchpatch_Operation_String.f a0 = some r) :
    Calls Tryd.prog 44 #[.int .i8 a0] w fun e w' => e = .returned (.string r) ∧ Below w.heap.size w w' := by
  have hT0 : w.cell? ⟨2, 0, none⟩ = some (.int .u8 0) := hG_.ix.cell (by kernel_rfl) 0 (by decide)
  have hT1 : w.cell? ⟨2, 1, none⟩ = some (.int .u8 6) := hG_.ix.cell (by kernel_rfl) 1 (by decide)
  have hT2 : w.cell? ⟨2, 2, none⟩ = some (.int .u8 11) := hG_.ix.cell (by kernel_rfl) 2 (by decide)
  have hT3 : w.cell? ⟨2, 3, none⟩ = some (.int .u8 17) := hG_.ix.cell (by kernel_rfl) 3 (by decide)
  unfold diffmatchpatch_Operation_String.f at h
  by_cases c1 : a0 = -1
  · subst c1
    rw [if_pos rfl] at h
    cases h
    go_enter Tryd.func44, Tryd.ntmps44
    go_wp2
    go_quiet (fail)
    go_wp2
    go_ret
    exact ⟨rfl, by repeat (first | exact Below.refl _ _ | apply below_alloc | apply pw_below_drewN | apply below_drew1)⟩
  rw [if_neg c1] at h
  by_cases c2 : a0 = 0
  · subst c2
    rw [if_pos rfl] at h
    cases h
    go_enter Tryd.func44, Tryd.ntmps44
    go_wp2
    go_quiet (fail)
    go_wp2
    go_ret
    exact ⟨rfl, by repeat (first | exact Below.refl _ _ | apply below_alloc | apply pw_below_drewN | apply below_drew1)⟩
  rw [if_neg c2] at h
  by_cases c3 : a0 = 1
  · subst c3
    rw [if_pos rfl] at h
    cases h
    go_enter Tryd.func44, Tryd.ntmps44
    go_wp2
    go_quiet (fail)
    go_wp2
    go_ret
    exact ⟨rfl, by repeat (first | exact Below.refl _ _ | apply below_alloc | apply pw_below_drewN | apply below_drew1)⟩
  rw [if_neg c3] at h
  by_cases c4 : -128 ≤ a0 ∧ a0 ≤ 127
  case neg => rw [if_neg c4] at h; cases h
  rw [if_pos c4] at h
  cases h
  obtain ⟨j, hj⟩ : ∃ j, IntKind.i8.wrap (a0 + 1) = j := ⟨_, rfl⟩
  have hj0 : j = a0 + 1 ∨ (a0 = 127 ∧ j = -128) := by
    rw [← hj]
    by_cases c5 : a0 = 127
    · subst c5; right; exact ⟨rfl, rfl⟩
    · left; exact IntWalk.i8_in _ (by omega)
  have hb : IntKind.i8.wrap (j + -1) = a0 := by
    rcases hj0 with h | ⟨h1, h2⟩
    · rw [h, show a0 + 1 + -1 = a0 from by omega]; exact IntWalk.i8_in _ (by omega)
    · subst h1 h2; rfl
  have hlen : (Lib.itoa a0).length ≤ 4 := by
    have := itoa_small ⟨(a0 + 128).toNat, by omega⟩
    rwa [show (((a0 + 128).toNat : Nat) : Int) - 128 = a0 from by omega] at this
  have hl1 : ¬ 9223372036854775807 < 10 + (Lib.itoa a0).length := by omega
  have hl2 : ¬ 9223372036854775807 < 10 + (Lib.itoa a0).length + 1 := by omega
  have ho : IntKind.i64.wrap a0 = a0 := IntWalk.i64_in _ (by omega)
  by_cases c6 : j < 0
  · have c6b : decide (j < 0) = true := decide_eq_true c6
    go_enter Tryd.func44, Tryd.ntmps44
    go_wp2_with (go_at_call 58; refine (Tryd.strconv_Itoa a0 (by omega) (by omega) _ hG_.pow).mono ?_; rintro e w' ⟨rfl, k, os, rfl⟩)
    go_ret
    exact ⟨rfl, Lib.below_grow _ _ (Nat.le_refl _) _ _⟩
  · have c6b : decide (j < 0) = false := decide_eq_false c6
    have c7b : decide (j ≥ 3) = true := decide_eq_true (by omega)
    have c7c : decide (3 ≤ j) = true := decide_eq_true (by omega)
    go_enter Tryd.func44, Tryd.ntmps44
    go_wp2_with (go_at_call 58; refine (Tryd.strconv_Itoa a0 (by omega) (by omega) _ hG_.pow).mono ?_; rintro e w' ⟨rfl, k, os, rfl⟩)
    go_ret
    exact ⟨rfl, Lib.below_grow _ _ (Nat.le_refl _) _ _⟩
end Go.Proofs.YtmdgnglgabnhnaaDoor.P
