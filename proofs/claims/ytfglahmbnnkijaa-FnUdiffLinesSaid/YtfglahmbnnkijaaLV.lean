import Derived.Test.YtfglahmbnnkijaaLU
/- The edits from a text to another one, as the library finds them. -/
set_option linter.unusedVariables false
set_option linter.unusedSimpArgs false
namespace Go.Proofs.Ytfglahmbnnkijaa.E
open Go.Ev Go.Lcs
/-! ### texts and characters in the heap -/
/-! ### ASCII -/
def Low (l : List Int) : Prop := ∀ r ∈ l, 0 ≤ r ∧ r < 128
theorem Low.okl {l : List Int} (h : Low l) : Okl l := fun r hr => .inl (by have := h r hr; omega)
/-! ### lengths in bytes -/
/-! ### the edits, one behind the other -/
theorem set_rep {α : Type} (P : List α) (x z : α) (n : Nat) : (P ++ List.replicate (n + 1) z).set P.length x = P ++ [x] ++ List.replicate n z := by
  rw [List.replicate_succ, set_mid, List.append_assoc]
  rfl
theorem ld_bound {E : Int → Int → Prop} {N M : Int} : ∀ (D : List Sp) (i k : Int), Ld E D i k N M → i ≤ N ∧ (D.length : Int) ≤ (N - i) + (M - k)
  | [], i, k, h => ⟨h.2.1, by have := h.1; have := h.2.1; show ((0 : Nat) : Int) ≤ _; omega⟩
  | s :: D, i, k, h => by
    obtain ⟨h1, h2, h3, h4, h5, h6, h7, h8, h9, h10⟩ := h
    have := ld_bound D _ _ h10
    rw [List.length_cons]
    omega
def zE : Ed := ((0 : Int), ((0 : Int), (ByteArray.mk (List.toArray []))))
end Go.Proofs.Ytfglahmbnnkijaa.E
