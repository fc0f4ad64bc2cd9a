import Derived.Test.YtfefjbifdbfmjaaDoorDQ
/- The differences that a delta tells of a text have this text as their first one, and are written as a delta that tells the same. -/
set_option linter.unusedVariables false
set_option linter.unusedSimpArgs false
namespace Go.Proofs.YtfefjbifdbfmjaaDoor.E
open Go.Ev
theorem text_all (K : Nat) (hK : 400000 ≤ K) (s t : ByteArray) : E.FnDeltaText (K + 1) s t = some true := by
  have aw : deltaAwake K = some true := by
    have := awake (K - 60)
    rwa [show K - 60 + 60 = K by omega] at this
  obtain ⟨k, hk⟩ : ∃ m, K = m + 1 + 1 + 1 + 1 + 1 + 1 + 1 + 1 := ⟨K - 8, by omega⟩
  have rest : ∀ (n : Nat), FnDeltaText_j2 K (n + 1) s t true = some true := by
    intro n
    rw [FnDeltaText_j2_eq, br_true, aw, Option.bind_some]
  rw [FnDeltaText_eq]
  have big : ∀ m : Nat, FnDeltaText_j0 K (m + 1) s t true = some true := by
    intro m
    rw [FnDeltaText_j0_eq, br_true]
  by_cases c1 : (2147483647 : Int) < ((s.size : Nat) : Int)
  · rw [br_lt c1]
    conv => lhs; arg 2; rw [hk]
    exact big _
  rw [br_ge (by omega)]
  by_cases c2 : (2147483647 : Int) < ((t.size : Nat) : Int)
  · rw [ltI_eq, decide_eq_true c2]
    conv => lhs; arg 2; rw [hk]
    exact big _
  rw [ltI_eq, decide_eq_false c2]
  conv => lhs; arg 2; rw [hk]
  rw [FnDeltaText_j0_eq, br_false, FnDeltaText_j1_eq]
  by_cases c3 : (200 : Int) < ((s.size : Nat) : Int)
  · rw [br_lt c3]
    exact rest _
  rw [br_ge (by omega)]
  by_cases c4 : (200 : Int) < ((t.size : Nat) : Int)
  · rw [br_lt c4]
    exact rest _
  rw [br_ge (by omega), CleanChars_ok K s 200 (by omega) (by omega), Option.bind_some, decide_eq_true (by omega), Bool.true_and]
  by_cases c5 : strOfRunes (runesI s) = s
  case neg =>
    rw [decide_eq_false c5]
    exact rest _
  rw [decide_eq_true c5]
  have hv : Vt s := (Vt_iff s).1 c5
  obtain ⟨r, hr, hR⟩ := deltaread_ok K (by omega) s t (by omega) (by omega)
  have rest4 : ∀ n : Nat, FnDeltaText_j4 K (n + 1) s t true = some true := by
    intro n
    rw [FnDeltaText_j4_eq, br_true, aw, Option.bind_some]
  rw [Bool.not_true, FnDeltaText_j2_eq, br_false, FnDeltaText_j3_eq, hr, Option.bind_some, br_not]
  cases hok : r.2.2 with
  | false =>
    rw [br_false]
    exact rest4 _
  | true =>
    rw [br_true]
    by_cases hm : r.2.1 = ⟨#[]⟩
    case neg =>
      rw [eqS_iff, decide_eq_false hm]
      exact rest4 _
    have hx := hR hm hok
    generalize r.1 = x at hx
    rw [eqS_iff, decide_eq_true hm, Bool.not_true, FnDeltaText_j4_eq, br_false, FnDeltaText_j5_eq]
    obtain ⟨j1, j2, j3⟩ := join_len (splitC 9 (B t))
    rw [splitC_join, B_size] at j1 j2 j3
    have hokl : Okl (runesI s) := hv.okl
    have henc : (encs8 (runesI s)).length ≤ 200 := by
      rw [← B_runes hv, B_size]
      omega
    have hg := hx.good hokl henc (fun u hu => by have := j3 u hu; omega)
    have hlen := hx.len
    have hxl : x.length ≤ 100 := by omega
    have hside : sideR x = runesI s := by
      have := hx.side hokl
      simpa using this
    have hsb : (⟨(sideB x).toArray⟩ : ByteArray) = s := by rw [side_str x (fun d hd => (hg d hd).2.2.2), hside, hv.back]
    have hg1 : ∀ d ∈ x, -1 ≤ d.1 ∧ d.1 ≤ 1 := fun d hd => ⟨(hg d hd).2.1, (hg d hd).2.2.1⟩
    have hg2 : ∀ d ∈ x, d.2.size ≤ 200 ∧ -1 ≤ d.1 ∧ d.1 ≤ 1 := fun d hd => ⟨(hg d hd).1, (hg d hd).2.1, (hg d hd).2.2.1⟩
    have hs1 : ∀ d ∈ x, d.2.size ≤ 1000 := fun d hd => Nat.le_trans (hg d hd).1 (by omega)
    have hfd := fromdelta_ok K (by omega) x hxl hg
    rw [hsb] at hfd
    rw [fromdelta_gen K (by omega) s t (by omega) (by omega) x hx hg1 (by omega), Option.bind_some, br_not, eqS_iff, decide_eq_true rfl, br_true, cleanOf_ok K x (by omega) (by omega), Option.bind_some, side_ok K x (by omega) hs1 (by omega), Option.bind_some, hsb, eqS_iff, decide_eq_true rfl, Bool.not_true, FnDeltaText_j6_eq, br_false, FnDeltaText_j7_eq, cleanOwn_ok K x (by omega) (by omega), Option.bind_some, todelta_ok K x hxl hg2 (by omega), Option.bind_some, hfd, Option.bind_some, aw, Option.bind_some, br_true, eqS_iff, decide_eq_true rfl, br_true]
    simp only []
    rw [cleanOf_ok K x (by omega) (by omega), Option.bind_some, Option.bind_some, same_ok K x (by omega) (by omega), Option.bind_some]
theorem Pure.FnDeltaText (a0 a1 : ByteArray) (_h0 : a0.size ≤ 9223372036854775807) (_h1 : a1.size ≤ 9223372036854775807) : ∃ k, callF k 5 (a0, a1, ()) = some true :=
  ⟨400000 + 1, text_all 400000 (Nat.le_refl _) a0 a1⟩
end Go.Proofs.YtfefjbifdbfmjaaDoor.E
