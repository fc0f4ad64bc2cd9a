import Derived.Test.YtfglahmbnnkijaaSM
import Derived.Test.YtfglahmbnnkijaaSV
/- Two lists of sorted edits that are all apart are merged to all of them, sorted; and a list with itself to itself. -/
set_option linter.unusedVariables false
set_option linter.unusedSimpArgs false
namespace Go.Proofs.Ytfglahmbnnkijaa.E
open Go.Ev Go.Lcs
theorem Pure.FnUdiffMerge (a : List TS1.den) (b : List TS1.den) (_h : a.length ≤ 9223372036854775807 ∧ ∀ y ∈ a, ((Lit.int .i64 y.1).wf = true) ∧ ((Lit.int .i64 y.2.1).wf = true) ∧ (y.2.2.size ≤ 9223372036854775807)) (_g : b.length ≤ 9223372036854775807 ∧ ∀ y ∈ b, ((Lit.int .i64 y.1).wf = true) ∧ ((Lit.int .i64 y.2.1).wf = true) ∧ (y.2.2.size ≤ 9223372036854775807)) : ∃ k, callF k 10 (a, b, ()) = some true := by
  obtain ⟨K, hK0⟩ : ∃ K, K = 2 * a.length + 2 * b.length + 2999999999 := ⟨_, rfl⟩
  refine ⟨K + 1, ?_⟩
  show E.FnUdiffMerge (K + 1) a b = some true
  have hK : 2999999999 ≤ K := by omega
  have hKa : 2 * a.length + 10 ≤ K := by omega
  have hKb : 2 * b.length + 10 ≤ K := by omega
  clear hK0
  have aw : editAwake K = some true := by
    have := awake (K - 60)
    rwa [show K - 60 + 60 = K by omega] at this
  obtain ⟨k, hk⟩ : ∃ m, K = m + 300 := ⟨K - 300, by omega⟩
  have j0 : ∀ c, FnUdiffMerge_j0 K K a b c Hp.empty = FnUdiffMerge_j0 K (k + 300) a b c Hp.empty := fun c => by rw [← hk]
  have big : FnUdiffMerge_j0 K K a b true Hp.empty = some true := by rw [j0, FnUdiffMerge_j0_eq, br_true]
  have skip : ∀ k, FnUdiffMerge_j2 K (k + 1) a b true Hp.empty = some true := fun k => by rw [FnUdiffMerge_j2_eq, br_true, aw, obs]
  rw [FnUdiffMerge_eq]
  obtain ⟨c1, f1, _⟩ := zzFits8_ok K a hKa
  obtain ⟨c2, f2, _⟩ := zzFits8_ok K b hKb
  rw [f1, obs]
  cases c1 with
  | false => rw [Bool.not_false, br_true]; exact big
  | true =>
  rw [Bool.not_true, br_false, f2, obs]
  cases c2 with
  | false => rw [Bool.not_false]; exact big
  | true =>
  rw [Bool.not_true, j0, FnUdiffMerge_j0_eq, br_false, FnUdiffMerge_j1_eq, editFew_ok K a (by omega), obs]
  cases wa : few a with
  | false => rw [Bool.not_false, br_true]; exact skip _
  | true =>
  obtain ⟨la, sa⟩ := few_iff wa
  rw [Bool.not_true, br_false, editFew_ok K b (by omega), obs]
  cases wb : few b with
  | false => rw [Bool.not_false, br_true]; exact skip _
  | true =>
  obtain ⟨lb, sb⟩ := few_iff wb
  rw [Bool.not_true, br_false, editWide_ok K a (by omega) (by omega), obs]
  cases da : (inB 10000 a && wideB a) with
  | false => rw [Bool.not_false, br_true]; exact skip _
  | true =>
  rw [Bool.not_true, br_false, editWide_ok K b (by omega) (by omega), obs]
  cases db : (inB 10000 b && wideB b) with
  | false => rw [Bool.not_false]; exact skip _
  | true =>
  rw [Bool.and_eq_true] at da db
  have ua := in_up da.1
  have ub := in_up db.1
  have fa := wide_pair a da.2 ua
  have fb := wide_pair b db.2 ub
  obtain ⟨h1, r1, e1, b1⟩ := editOf_ok K Hp.empty FreeH.empty a (by omega) (by omega)
  obtain ⟨h2, r2, e2, b2⟩ := editOf_ok K h1 b1.2.1 a (by omega) (by omega)
  rw [Bool.not_true, FnUdiffMerge_j2_eq, br_false, FnUdiffMerge_j3_eq, editOwn_ok K a (by omega) (by omega), obs, obs, MergeEdits_same K a (by omega) (by omega), obs]
  show br (!true) _ _ = _
  rw [Bool.not_true, br_false]
  show Option.bind (editOf K Hp.empty a) _ = _
  rw [e1, obs, e2, obs]
  show Option.bind (EditsSame K h2 r1 r2) _ = _
  rw [EditsSame_ok K h2 r1 r2 a a (b1.sl.keep b2.1) b2.sl (by omega) (by omega), decide_eq_true rfl, obs]
  show FnUdiffMerge_j4 K (k + 296) a b (!true) h2 = _
  have hab : (a ++ b).length = a.length + b.length := List.length_append
  obtain ⟨h3, r3, e3, b3⟩ := editOf_ok K h2 b2.2.1 (a ++ b) (by omega) (by omega)
  obtain ⟨h4, r4, e4, s4, k4, f4⟩ := EditsSorted_ok K h3 r3 (a ++ b) b3.sl b3.2.1 (by omega) (by omega)
  rw [Bool.not_true, FnUdiffMerge_j4_eq, br_false, FnUdiffMerge_j5_eq, editOwn_ok K a (by omega) (by omega), obs, chk_lt (by omega), e3, obs, e4, obs]
  show FnUdiffMerge_l0 K (k + 294) a b r4 (1 : Int) h4 = _
  have hp := isV_perm eLt (a ++ b)
  have hl : (isV eLt (a ++ b)).reverse.length = a.length + b.length := by rw [List.length_reverse, isV_length, hab]
  generalize (isV eLt (a ++ b)).reverse = S at *
  have uS : ∀ e ∈ S, Up e := fun e he => by
    rcases List.mem_append.1 (hp.mem_iff.1 he) with h | h
    · exact ua e h
    · exact ub e h
  have fin : ∀ k, wideB S = true → FnUdiffMerge_j7 K (k + 1) a b r4 h4 = some true := by
    intro k hw
    have fS := wide_pair S hw uS
    obtain ⟨x1, m1⟩ := mg_sorted a b S hp fS ua ub fa fb
    obtain ⟨x2, m2⟩ := mg_sorted b a S (hp.trans List.perm_append_comm) fS ub ua fb fa
    have g1 := MergeEdits_apart K a b (by omega) (by omega) (by omega) ua ub x1
    have g2 := MergeEdits_apart K b a (by omega) (by omega) (by omega) ub ua x2
    rw [m1] at g1
    rw [m2] at g2
    obtain ⟨h5, r5, e5, b5⟩ := editOf_ok K h4 f4 S (by omega) (by omega)
    obtain ⟨h6, r6, e6, b6⟩ := editOf_ok K h5 b5.2.1 S (by omega) (by omega)
    rw [FnUdiffMerge_j7_eq, editOwn_ok K a (by omega) (by omega), obs, editOwn_ok K b (by omega) (by omega), obs, g1, obs, obs, obs, g2, obs, aw, obs, br_true]
    show br true (br true (Option.bind (editOf K h4 S) _) _) _ = _
    rw [br_true, br_true, e5, obs]
    show Option.bind (EditsSame K h5 r5 r4) _ = _
    rw [EditsSame_ok K h5 r5 r4 S S b5.sl (s4.keep b5.1) (by omega) (by omega), decide_eq_true rfl, obs]
    show br true (Option.bind (editOf K h5 S) _) _ = _
    rw [br_true, e6, obs]
    show Option.bind (EditsSame K h6 r6 r4) _ = _
    rw [EditsSame_ok K h6 r6 r4 S S b6.sl ((s4.keep b5.1).keep b6.1) (by omega) (by omega), decide_eq_true rfl, obs]
  have key : ∀ (R P : List Ed) (e : Ed) (k : Nat), P ++ e :: R = S → 2 * R.length + 2 ≤ k → (wideB (e :: R) = true → wideB S = true) → FnUdiffMerge_l0 K k a b r4 ((P.length : Int) + 1) h4 = some true := by
    intro R
    induction R with
    | nil =>
      intro P e k hP hk hw
      obtain ⟨k, rfl⟩ : ∃ m, k = m + 2 := ⟨k - 2, by omega⟩
      have hll : S.length = P.length + 1 := by rw [← hP]; simp
      rw [FnUdiffMerge_l0_eq, s4.rlen, br_ge (by omega)]
      exact fin k (hw rfl)
    | cons e' R ih =>
      intro P e k hP hk hw
      simp only [List.length_cons] at hk
      have hll : S.length = P.length + (R.length + 2) := by rw [← hP]; simp
      obtain ⟨k, rfl⟩ : ∃ m, k = m + 2 := ⟨k - 2, by omega⟩
      have g1 : S[P.length]'(by omega) = e := by
        have : S[P.length]? = some e := by rw [← hP]; simp
        exact (List.getElem?_eq_some_iff.1 this).2
      have g2 : S[P.length + 1]'(by omega) = e' := by
        have : S[P.length + 1]? = some e' := by rw [← hP]; simp [List.getElem?_append_right]
        exact (List.getElem?_eq_some_iff.1 this).2
      have a1 := SlL.f0 s4 (P.length + 1) (by omega)
      have a2 := SlL.f1 s4 P.length (by omega)
      rw [g2] at a1
      rw [g1] at a2
      have w : IntKind.wrap IntKind.i64 ((P.length : Int) + 1 - 1) = (P.length : Int) := by rw [wrap_id (by omega) (by omega)]; omega
      have := ih (P ++ [e]) e' k (by rw [List.append_assoc]; exact hP) (by omega)
      rw [List.length_append] at this
      rw [show (P.length : Int) + 1 = ((P.length + 1 : Nat) : Int) by omega] at w ⊢
      rw [FnUdiffMerge_l0_eq, s4.rlen, br_lt (by omega), FnUdiffMerge_j6_eq, s4.rlen, w, chk_le (by omega), chk_lt (by omega), a1.2, chk_true, a1.1, obs, chk_le (by omega), chk_lt (by omega), a2.2, chk_true, a2.1, obs]
      by_cases c : e'.1 ≤ e.2.1
      · rw [br_le c, aw, obs]
      · rw [br_gt (by omega), wrap_id (by omega) (by omega)]
        exact this fun h => hw (by show (decide (e.2.1 < e'.1) && _) = true; rw [decide_eq_true (by omega), h]; rfl)
  cases hS : S with
  | nil =>
    rw [FnUdiffMerge_l0_eq, s4.rlen, hS, br_ge (by show ((0 : Nat) : Int) ≤ 1; omega)]
    exact fin _ (by rw [hS]; rfl)
  | cons e R =>
    exact key R [] e (k + 294) hS.symm (by rw [hS] at hl; simp only [List.length_cons] at hl; omega) (by rw [hS]; exact id)
end Go.Proofs.Ytfglahmbnnkijaa.E
