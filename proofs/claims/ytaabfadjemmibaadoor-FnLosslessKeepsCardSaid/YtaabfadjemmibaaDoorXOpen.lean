import Derived.Test.YtaabfadjemmibaaDoorPx0
import Derived.Deep.Slices
import Derived.ProofKit
/- An argument that is a slice, opened to a list: once, for every kind of element. -/
namespace Go.Proofs.YtaabfadjemmibaaDoorX
open Go.RowKit Go.Proofs.YtaabfadjemmibaaDoorW.PrintWords Go.ChangeShapes Go.WideShapes Go.Deep
section
variable {H : Type} {enc : TypeId × Value → H} {P : Program} {w : World} {base : Nat} {spare : Nat → Bool} {held : Bool}
theorem open_kd {α : Type} (d : Kd α) (G : α → Prop) {t e : TypeId} {fuel : Nat} {cs : List Value} {x : DataW H × List MemPlace} (ht : P.underlying t = some (.slice e)) (hsz : P.cellsOf e = d.sz)
    (hd : ∀ n cs x, DataW.trod enc P w base spare held n e cs = some x → ∃ y : α, d.K w y cs ∧ G y) (h : DataW.trod enc P w base spare held fuel t cs = some x) :
    ∃ (A : Option Addr) (len c : Nat) (l : List α), cs = [.slice A len c] ∧ len ≤ c ∧ c ≤ maxLen ∧ l.length = len ∧ d.C w A len l ∧ ∀ y ∈ l, G y := by
  rcases open_slice ht h with ⟨rfl, _⟩ | ⟨a, len, cap, m, n, D, Pl, rfl, _, hl, hm, hmm, _, hi⟩
  · exact ⟨none, 0, 0, [], rfl, Nat.le_refl _, by simp [maxLen], rfl, ⟨rfl, by omega, fun h => absurd h (Nat.lt_irrefl _)⟩, fun y hy => by cases hy⟩
  · have hlm : len ≤ m := by rw [hmm]; split <;> omega
    have hex : ∀ i : Fin len, ∃ y : α, (∃ cs', w.cells? base (a.add (i.1 * P.cellsOf e)) (P.cellsOf e) = some cs' ∧ d.K w y cs') ∧ G y := fun i => by
      obtain ⟨cs', h1, h2⟩ := hi i.1 (by omega)
      obtain ⟨y, hy, hG⟩ := hd _ _ _ h2
      exact ⟨y, ⟨cs', h1, hy⟩, hG⟩
    refine ⟨some a, len, cap, List.ofFn fun i => Classical.choose (hex i), rfl, hl, hm, by simp, ⟨by simp, by simp only [maxLen] at hm; omega, fun _ => ⟨a, rfl, fun j p hj => ?_⟩⟩, fun y hy => ?_⟩
    · obtain ⟨hjl, rfl⟩ := List.getElem?_eq_some_iff.1 hj
      have hjl' : j < len := by simpa using hjl
      obtain ⟨⟨cs', h1, hK⟩, _⟩ := Classical.choose_spec (hex ⟨j, hjl'⟩)
      obtain ⟨_, hcl, hat⟩ := World.cells?_some h1
      refine ⟨cs', hcl.trans hsz, ?_, fun i u hu => ?_⟩
      · rw [List.getElem_ofFn]; exact hK
      · have hil : i < cs'.length := (List.getElem?_eq_some_iff.1 hu).1
        have := hat i (by omega)
        rw [hu] at this
        rw [← Go.Deep.add_add, ← hsz]
        exact this
    · obtain ⟨i, rfl⟩ := List.mem_ofFn.1 hy
      exact (Classical.choose_spec (hex i)).2
end
theorem len1 {α : Type} {l : List α} (h : l.length = 1) : ∃ a, l = [a] := by
  match l, h with
  | [a], _ => exact ⟨a, rfl⟩
theorem len2 {α : Type} {l : List α} (h : l.length = 2) : ∃ a b, l = [a, b] := by
  match l, h with
  | [a, b], _ => exact ⟨a, b, rfl⟩
theorem len3 {α : Type} {l : List α} (h : l.length = 3) : ∃ a b c, l = [a, b, c] := by
  match l, h with
  | [a, b, c], _ => exact ⟨a, b, c, rfl⟩
theorem len4 {α : Type} {l : List α} (h : l.length = 4) : ∃ a b c d, l = [a, b, c, d] := by
  match l, h with
  | [a, b, c, d], _ => exact ⟨a, b, c, d, rfl⟩
theorem len6 {α : Type} {l : List α} (h : l.length = 6) : ∃ a b c d e f, l = [a, b, c, d, e, f] := by
  match l, h with
  | [a, b, c, d, e, f], _ => exact ⟨a, b, c, d, e, f, rfl⟩
/-- What a fixed-width number's form says. -/
theorem wf_i64 {n : Int} (h : (Lit.int .i64 n).wf = true) : -9223372036854775808 ≤ n ∧ n ≤ 9223372036854775807 := by
  have h' : And (IntKind.i64.min ≤ n) (n ≤ 9223372036854775807) := by simpa [Lit.wf] using h
  exact ⟨h'.1, h'.2⟩
end Go.Proofs.YtaabfadjemmibaaDoorX
