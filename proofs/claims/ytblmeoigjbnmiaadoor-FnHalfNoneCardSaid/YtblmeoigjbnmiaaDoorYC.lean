import Derived.Test.YtblmeoigjbnmiaaDoorYB
/- diffHalfMatchI: what a half match from one seed is. -/
set_option linter.unusedVariables false
set_option linter.unusedSimpArgs false
namespace Go.Proofs.YtblmeoigjbnmiaaDoor.E
open Go.Ev
/-- A common middle around two places. -/
structure Bst (La Lb : List Int) (i s p j : Nat) : Prop where
  si : s ≤ i
  sj : s ≤ j
  pi : i + p ≤ La.length
  pj : j + p ≤ Lb.length
  eq : (Lb.drop (j - s)).take (s + p) = (La.drop (i - s)).take (s + p)
theorem bst_of (La Lb : List Int) (i j : Nat) (hi : i ≤ La.length) (hj : j ≤ Lb.length) : Bst La Lb i (csl (La.take i) (Lb.take j)) (cpl (La.drop i) (Lb.drop j)) j := by
  obtain ⟨s1, s2⟩ := csl_le (La.take i) (Lb.take j)
  obtain ⟨p1, p2⟩ := cpl_le (La.drop i) (Lb.drop j)
  have hs := csl_drop (La.take i) (Lb.take j)
  have hp := cpl_take (La.drop i) (Lb.drop j)
  rw [List.length_take, Nat.min_eq_left (by omega)] at s1 s2
  rw [List.length_drop] at p1 p2
  rw [List.length_take, List.length_take, Nat.min_eq_left (by omega), Nat.min_eq_left (by omega)] at hs
  refine ⟨s1, s2, by omega, by omega, ?_⟩
  have split : ∀ (L : List Int) (n s p : Nat), s ≤ n → n ≤ L.length → (L.drop (n - s)).take (s + p) = (L.take n).drop (n - s) ++ (L.drop n).take p := by
    intro L n s p h1 h2
    rw [List.take_add, List.drop_drop, show n - s + s = n by omega]
    congr 1
    rw [List.drop_take]
    congr 1
    omega
  rw [split Lb j _ _ s2 hj, split La i _ _ s1 hi, hs, hp]
/-- What the five slices are. -/
def five (a b : Nat) (La Lb : List Int) (i s p j : Nat) : List Rf := [.at a 0 (i - s), .at a (i + p) (La.length - (i + p)), .at b 0 (j - s), .at b (j + p) (Lb.length - (j + p)), .at b (j - s) (s + p)]
def HMr (h : Hp) (a b : Nat) (La Lb : List Int) (R : Option (Hp × Rf)) : Prop :=
  R = some (h, Rf.nil) ∨ ∃ i s p j, Bst La Lb i s p j ∧ La.length ≤ 2 * (s + p) ∧ R = some (Hp.new h 54 .sr (five a b La Lb i s p j), Rf.at h.nx 0 5)
theorem hm_end (K : Nat) (h : Hp) (a b : Nat) (La Lb : List Int) (i : Nat) (hB : TxO h b Lb) (la : La.length ≤ 100000) (lb : Lb.length ≤ 100000) (k : Nat) (s p j : Nat) (hb : Bst La Lb i s p j) : HMr h a b La Lb (diffHalfMatchI_j6 K (k + 2) (.at a 0 La.length) (.at b (j - s) s) (.at b j p) ((s + p : Nat) : Int) (.at a 0 (i - s)) (.at a (i + p) (La.length - (i + p))) (.at b 0 (j - s)) (.at b (j + p) (Lb.length - (j + p))) h) := by
  have e1 := hb.sj
  have e2 := hb.pj
  rw [diffHalfMatchI_j6_eq, rlen_at, wrap_id (by omega) (by omega)]
  by_cases hl : ((s + p : Nat) : Int) * 2 < (La.length : Int)
  · rw [br_lt hl]
    exact .inl rfl
  · rw [br_ge (by omega), diffHalfMatchI_j7_eq, cs_tx hB j p (by omega), obs]
    have happ := app_tx hB (j - s) s p (by omega)
    rw [show j - s + s = j by omega] at happ
    rw [chk_lt (by rw [rlen_at]; show (s : Int) + (p : Int) < _; omega), happ, obs]
    exact .inr ⟨i, s, p, j, hb, by omega, rfl⟩
end Go.Proofs.YtblmeoigjbnmiaaDoor.E
