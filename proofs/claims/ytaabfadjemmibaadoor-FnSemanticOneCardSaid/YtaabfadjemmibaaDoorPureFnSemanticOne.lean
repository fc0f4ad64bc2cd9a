import Derived.Test.YtaabfadjemmibaaDoorVO
/- A merged list of an equality, an edit and an equality that is cleaned up for readers has edits of the same types and lengths, and leads from the same text to the same text. -/
set_option linter.unusedVariables false
set_option linter.unusedSimpArgs false
namespace Go.Proofs.YtaabfadjemmibaaDoor.E
open Go.Ev
theorem one_body (K k : Nat) (hK : 2999999999 ≤ K) (aw : cleanAwake K = some true) (a b c : ByteArray) (t : Int) (ht : t = 1 ∨ t = -1) : FnSemanticOne_j2 K (k + 2) [(0, a), (t, b), (0, c)] = some true := by
  rw [FnSemanticOne_j2_eq, cleanASCII_ok K _ (by simp) (by omega), Option.bind_some]
  cases hg : (decide ([((0 : Int), a), (t, b), (0, c)].length ≤ 12) && [((0 : Int), a), (t, b), (0, c)].all (goodD 40 true)) with
  | false =>
    rw [Bool.not_false, br_true, aw]
    rfl
  | true =>
    obtain ⟨e, he0, a1, t1, n1, l1, w1⟩ := ascii_case hg
    have o1 := a1.okm
    have hc1 : cnt e = 1 := by
      match e, he0 with
      | [m1, m2, m3], he0 =>
        injection he0 with h1 he0
        injection he0 with h2 he0
        injection he0 with h3 _
        have k1 : (0 : Int) = m1.1 := congrArg Prod.fst h1
        have k2 : t = m2.1 := congrArg Prod.fst h2
        have k3 : (0 : Int) = m3.1 := congrArg Prod.fst h3
        have k4 : ¬ m2.1 = 0 := by omega
        simp [cnt, ← k1, k4, ← k3]
      | [], he0 => exact absurd (congrArg List.length he0) (by simp [enc])
      | [_], he0 => exact absurd (congrArg List.length he0) (by simp [enc])
      | [_, _], he0 => exact absurd (congrArg List.length he0) (by simp [enc])
      | _ :: _ :: _ :: _ :: _, he0 => exact absurd (congrArg List.length he0) (by simp [enc])
    have he0 : ([((0 : Int), a), (t, b), (0, c)] : List TS0.den) = enc e := he0
    rw [he0, Bool.not_true, br_false, FnSemanticOne_j3_eq]
    have he : (enc e).length = e.length := enc_len e
    obtain ⟨l', e1, f', o', t', s', w', m'⟩ := dcm_spec (mu e + 1) e (by omega) o1 t1
    obtain ⟨_, _, _, _, _, o2, t2, _, w2, _⟩ := p1_spec l' t' o'
    have a2 : Ascm (p1 l') := asc_of_side t2 (by rw [s' 1 (.inl rfl)]; exact asc_side a1 1) (by rw [s' (-1) (.inr rfl)]; exact asc_side a1 (-1))
    have n2 := ne0_dcm (mu e + 1) e o1 t1 (ne0_of n1)
    have c2 := cnt_dcm (mu e + 1) e o1 t1 (by omega)
    rw [e1] at n2 c2
    have hcR : cR e ≤ cnt e := by
      have := cRg_cnt e false false t1
      simpa [b2, cR] using this
    have hwp := wt_len (p1 l')
    have hp : (enc (p1 l')).length = (p1 l').length := enc_len _
    obtain ⟨L', s1, hs⟩ := CleanSemantic_ok K (p1 l') t2 a2 n2 (by omega) (by omega)
    have w3 := s1.wl
    have l3 := wt_len L'
    have h3 : (enc L').length = L'.length := enc_len _
    rw [cleanOwn_ok _ (enc e) (by omega) (by omega), Option.bind_some, CleanMerge_ok _ e 1000 w1 (by omega) o1 t1 (by omega), e1, Option.bind_some, cleanOwn_ok _ (enc (p1 l')) (by omega) (by omega), Option.bind_some, hs, Option.bind_some, aw, Option.bind_some, br_true, cleanOf_ok _ (enc (p1 l')) (by omega) (by omega), Option.bind_some, cleanOf_ok _ (enc L') (by omega) (by omega), Option.bind_some, CleanShifted_ok _ (p1 l') L' (s1.sh (by omega)).symm a2 s1.asc (by omega) (by omega) (by omega), Option.bind_some, br_true, cleanOf_ok _ (enc e) (by omega) (by omega), Option.bind_some, Option.bind_some, CleanKept_ok _ e L' (by omega) o1 (by omega) s1.asc.okm (by omega)]
    rw [decide_eq_true (show side 1 e = side 1 L' by rw [s1.side 1 (.inl rfl), s' 1 (.inl rfl)]), decide_eq_true (show side (-1) e = side (-1) L' by rw [s1.side (-1) (.inr rfl), s' (-1) (.inr rfl)])]
    rfl
theorem Pure.FnSemanticOne (a b c : ByteArray) (d : Bool) (_h1 : a.size ≤ 9223372036854775807) (_h2 : b.size ≤ 9223372036854775807) (_h3 : c.size ≤ 9223372036854775807) : ∃ k, callF k 15 (a, b, c, d, ()) = some true := by
  obtain ⟨K, hK⟩ : ∃ K, K = 3000000000 := ⟨_, rfl⟩
  refine ⟨K + 1, ?_⟩
  show E.FnSemanticOne (K + 1) a b c d = some true
  have aw : cleanAwake K = some true := by
    have := awake (K - 60)
    rwa [show K - 60 + 60 = K by omega] at this
  rw [FnSemanticOne_eq]
  obtain ⟨K', hK'⟩ : ∃ m, K = m + 4 := ⟨K - 4, by omega⟩
  have hKK : FnSemanticOne_j0 K K a b c d = FnSemanticOne_j0 K (K' + 4) a b c d := by rw [← hK']
  have j0 : ∀ x : Bool, FnSemanticOne_j0 K K a b c d x = some true := by
    intro x
    rw [hKK, FnSemanticOne_j0_eq]
    cases x with
    | true => rfl
    | false =>
      rw [br_false, FnSemanticOne_j1_eq]
      cases d with
      | true =>
        rw [br_true, chk_le (by omega), chk_lt (by simp)]
        exact one_body K K' (by omega) aw a b c 1 (.inl rfl)
      | false =>
        rw [br_false]
        exact one_body K K' (by omega) aw a b c (-1) (.inr rfl)
  rw [j0, j0]
  have br_same : ∀ (c : Bool) (o : Option Bool), br c o o = o := fun c o => by cases c <;> rfl
  rw [br_same, br_same]
end Go.Proofs.YtaabfadjemmibaaDoor.E
