import Derived.Test.YtfglahmbnnkijaaLW
import Derived.Test.YtfglahmbnnkijaaSV
/- The edits from a text to another one are sorted, do not overlap, lie at borders of characters, and lead to it; of equal texts there are none. -/
set_option linter.unusedVariables false
set_option linter.unusedSimpArgs false
namespace Go.Proofs.Ytfglahmbnnkijaa.E
open Go.Ev Go.Lcs
theorem Pure.FnUdiffStrings (a b : ByteArray) (_ha : a.size ≤ 9223372036854775807) (_hb : b.size ≤ 9223372036854775807) : ∃ k, callF k 5 (a, b, ()) = some true := by
  obtain ⟨K, hK⟩ : ∃ K : Nat, 2999999999 ≤ K := ⟨_, Nat.le_refl _⟩
  refine ⟨K + 1, ?_⟩
  show E.FnUdiffStrings (K + 1) a b = some true
  have aw : editAwake K = some true := by
    have := awake (K - 60)
    rwa [show K - 60 + 60 = K by omega] at this
  obtain ⟨k, hk⟩ : ∃ m, K = m + 10000 := ⟨K - 10000, by omega⟩
  have j0 : ∀ c, FnUdiffStrings_j0 K K a b c Hp.empty = FnUdiffStrings_j0 K (k + 10000) a b c Hp.empty := fun c => by rw [← hk]
  have big : FnUdiffStrings_j0 K K a b true Hp.empty = some true := by rw [j0, FnUdiffStrings_j0_eq, br_true]
  rw [FnUdiffStrings_eq]
  by_cases h1 : (2147483647 : Int) < (a.size : Int)
  · rw [br_lt h1, big]
  rw [br_ge (by omega), ltI_eq]
  by_cases h2 : (2147483647 : Int) < (b.size : Int)
  · rw [decide_eq_true h2, big]
  rw [decide_eq_false h2, j0, FnUdiffStrings_j0_eq, br_false, FnUdiffStrings_j1_eq, editTexts_ok K a b (by omega), obs]
  cases hc : (decide ((a.size : Int) ≤ 200 ∧ strOfRunes (runesI a) = a) && decide ((b.size : Int) ≤ 200 ∧ strOfRunes (runesI b) = b)) with
  | false => rw [Bool.not_false, br_true, aw, obs]
  | true =>
  rw [Bool.and_eq_true] at hc
  obtain ⟨sa, va, ea⟩ := clean_vt hc.1
  obtain ⟨sb, vb, eb⟩ := clean_vt hc.2
  rw [Bool.not_true, br_false, FnUdiffStrings_j2_eq]
  by_cases hab : a = b
  · subst hab
    obtain ⟨h1, r1, e1, b1⟩ := editOf_ok K Hp.empty FreeH.empty [] (by simp) (by simp; omega)
    rw [EditStrings_same K a (by omega), obs, e1, obs, eqS_iff, decide_eq_true rfl, br_true, aw, obs, br_true]
    show some (eqI ((rlen r1 : Nat) : Int) 0) = _
    rw [b1.sl.rlen, eqI_t (by rfl)]
  · obtain ⟨D, e0, fd⟩ := EditStrings_ok K a b va vb (by omega) (by omega) hab (by omega)
    have la := runesI_le a
    have lb := runesI_le b
    have hlen := found_len fd (by omega) (by omega)
    have hml : (D.map (edR (runesI a) (runesI b))).length = D.length := List.length_map ..
    have hD1 : D.length ≤ 400 := by
      have := (ld_bound D 0 0 fd.1).2
      omega
    obtain ⟨h1, r1, e1, b1⟩ := editOf_ok K Hp.empty FreeH.empty (D.map (edR (runesI a) (runesI b))) (by omega) (by omega)
    have hl := lead0 (runesI a) (runesI b) fd.1
    rw [ea, eb] at hl
    have hnew : ∀ e ∈ D.map (edR (runesI a) (runesI b)), e.2.2.size ≤ 200 ∧ Vt e.2.2 := by
      intro e he
      obtain ⟨s, _, rfl⟩ := List.mem_map.1 he
      refine ⟨?_, Vt_str _⟩
      have := new_size (runesI b) s.2.2.1.toNat (s.2.2.2 - s.2.2.1).toNat
      rw [eb] at this
      show (strOfRunes _).size ≤ 200
      omega
    rw [e0, obs, e1, obs, eqS_iff, decide_eq_false hab, br_false]
    show FnUdiffStrings_j3 K (k + 9997) a b r1 h1 = _
    rw [FnUdiffStrings_j3_eq, b1.sl.rlen]
    have fin : ∀ k, FnUdiffStrings_j5 K (k + 1) a b r1 h1 = some true := by
      intro k
      rw [FnUdiffStrings_j5_eq, aw, obs, br_true, EditsLead_ok K h1 r1 _ a b b1.sl (by omega) (by omega) (fun e he => by have := (hnew e he).1; omega) hl.1 (by omega), obs, hl.2, eqS_iff, decide_eq_true rfl]
    have key : ∀ (R P : List Ed) (k : Nat), P ++ R = D.map (edR (runesI a) (runesI b)) → 3 * R.length + 2 ≤ k → FnUdiffStrings_l0 K k a b r1 r1 ((D.map (edR (runesI a) (runesI b))).length : Int) (P.length : Int) h1 = some true := by
      intro R
      induction R with
      | nil =>
        intro P k hP hk
        obtain ⟨k, rfl⟩ : ∃ q, k = q + 2 := ⟨k - 2, by omega⟩
        rw [List.append_nil] at hP
        rw [FnUdiffStrings_l0_eq, br_ge (by rw [hP]; omega)]
        exact fin k
      | cons e R ih =>
        intro P k hP hk
        simp only [List.length_cons] at hk
        obtain ⟨k, rfl⟩ : ∃ q, k = q + 3 := ⟨k - 3, by omega⟩
        have hll : (D.map (edR (runesI a) (runesI b))).length = P.length + (R.length + 1) := by rw [← hP]; simp
        have hL : (D.map (edR (runesI a) (runesI b)))[P.length]'(by omega) = e := by
          have : (D.map (edR (runesI a) (runesI b)))[P.length]? = some e := by rw [← hP]; simp
          exact (List.getElem?_eq_some_iff.1 this).2
        have hem : e ∈ D.map (edR (runesI a) (runesI b)) := by rw [← hP]; simp
        obtain ⟨n1, n2⟩ := hnew e hem
        obtain ⟨s, _, hs⟩ := List.mem_map.1 hem
        have c1 := EditChar_ok K (runesI a) s.1.toNat va.okl (by omega)
        have c2 := EditChar_ok K (runesI a) s.2.1.toNat va.okl (by omega)
        rw [ea] at c1 c2
        have q1 : e.1 = (pos (runesI a) s.1.toNat : Int) := by rw [← hs]; rfl
        have q2 : e.2.1 = (pos (runesI a) s.2.1.toNat : Int) := by rw [← hs]; rfl
        rw [← q1] at c1
        rw [← q2] at c2
        have c3 := CleanChars_ok K e.2.2 200 (by omega) (by omega)
        rw [decide_eq_true ⟨by omega, n2.back⟩] at c3
        rw [FnUdiffStrings_l0_eq, br_lt (by omega), FnUdiffStrings_j4_eq, b1.sl.rlen, chk_le (by omega), chk_lt (by omega), SlL.ld3 b1.sl P.length (by omega), obs, hL, c1, obs, Bool.not_true, br_false, c2, obs, Bool.not_true, br_false, c3, obs, Bool.not_true, FnUdiffStrings_j6_eq, br_false, wrap_id (by omega) (by omega)]
        have := ih (P ++ [e]) k (by rw [List.append_assoc]; exact hP) (by omega)
        rw [List.length_append] at this
        exact this
    exact key _ [] (k + 9996) rfl (by omega)
end Go.Proofs.Ytfglahmbnnkijaa.E
