import Derived.Test.YtfglahmbnnkijaaLT
import Derived.Test.YtfglahmbnnkijaaSE
/- Differences of characters as edits of a text: they lead from the text to the other one. -/
set_option linter.unusedVariables false
set_option linter.unusedSimpArgs false
namespace Go.Proofs.Ytfglahmbnnkijaa.E
open Go.Ev Go.Lcs
/-- Where a character begins. -/
def pos (l : List Int) (i : Nat) : Nat := (encs8 (l.take i)).length
/-! ### borders of characters, right texts -/
theorem bt_eq (s : ByteArray) (i : Nat) (b : UInt8) (h : (B s)[i]? = some b) : bt s (i : Int) = (b.toNat : Int) := by
  obtain ⟨hl, hb⟩ := List.getElem?_eq_some_iff.1 h
  rw [B_size] at hl
  unfold bt
  rw [dif_pos (show (i : Int).toNat < s.size by rw [Int.toNat_natCast]; exact hl)]
  congr 2
theorem CleanChars_ok (K : Nat) (s : ByteArray) (m : Int) (hm : m ≤ 1000000) (hK : 1 ≤ K) : CleanChars K s m = some (decide ((s.size : Int) ≤ m ∧ strOfRunes (runesI s) = s)) := by
  obtain ⟨K, rfl⟩ : ∃ m, K = m + 1 := ⟨K - 1, by omega⟩
  have hr := runesI_le s
  rw [CleanChars_eq]
  by_cases h : (s.size : Int) ≤ m
  · rw [br_le h, chk_nle (by omega), eqS_iff]
    congr 1
    exact decide_eq_decide.2 ⟨fun h2 => ⟨h, h2⟩, fun h2 => h2.2⟩
  · rw [br_gt (by omega), decide_eq_false (fun h2 => h h2.1)]
/-- A text of characters. -/
theorem clean_vt {s : ByteArray} {m : Int} (h : decide ((s.size : Int) ≤ m ∧ strOfRunes (runesI s) = s) = true) : (s.size : Int) ≤ m ∧ Vt s ∧ strOfRunes (runesI s) = s := by
  rw [decide_eq_true_eq] at h
  exact ⟨h.1, (Vt_iff s).1 h.2, h.2⟩
theorem EditsLead_ok (K : Nat) (h : Hp) (r : Rf) (S : List Ed) (a b : ByteArray) (hs : SlL h 41 TS1 r S) (hl : S.length ≤ 1000) (ha : a.size ≤ 100000) (hb : ∀ e ∈ S, e.2.2.size ≤ 100000) (hv : vchk a.size 0 S = 0) (hK : 10000 ≤ K) : EditsLead K h r a b = some (h, eqS (apB a ⟨#[]⟩ 0 S) b) := by
  obtain ⟨K, rfl⟩ : ∃ m, K = m + 1 := ⟨K - 1, by omega⟩
  have hin := (vchk_in (a.size : Int) S 0).1 hv
  have hap := (vchk_apart0 (a.size : Int) S).1 hv
  obtain ⟨k, hk⟩ : ∃ q, K = q + 2 := ⟨K - 2, by omega⟩
  have j0 : EditsLead_j0 K K r a b false h = EditsLead_j0 K (k + 2) r a b false h := by rw [← hk]
  rw [EditsLead_eq, EditsIn_ok K h r S _ hs hl (by omega), hin, obs]
  show br (!true) _ (Option.bind (EditsApart K h r) fun r1 => EditsLead_j0 K K r a b (!(r1).2) (r1).1) = _
  rw [Bool.not_true, br_false, EditsApart_ok K h r S hs hl (by omega), hap, obs]
  show EditsLead_j0 K K r a b (!true) h = _
  rw [Bool.not_true, j0, EditsLead_j0_eq, br_false, EditsLead_j1_eq]
  have fin : ∀ k, EditsLead_j3 K (k + 1) r a b h = some (h, eqS (apB a ⟨#[]⟩ 0 S) b) := by
    intro k
    rw [EditsLead_j3_eq, EditsApplied_ok K a h r S hs hb ha hl hv (by omega), obs]
  have key : ∀ (R P : List Ed) (x : Ed) (k : Nat), P ++ x :: R = S → 2 * R.length + 2 ≤ k → inB a.size (x :: R) = true → apartB (x :: R) = true → EditsLead_l0 K k r a b ((P.length : Int) + 1) h = some (h, eqS (apB a ⟨#[]⟩ 0 S) b) := by
    intro R
    induction R with
    | nil =>
      intro P x k hP hk _ _
      obtain ⟨k, rfl⟩ : ∃ m, k = m + 2 := ⟨k - 2, by omega⟩
      have hll : S.length = P.length + 1 := by rw [← hP]; simp
      rw [EditsLead_l0_eq, hs.rlen, br_ge (by omega)]
      exact fin k
    | cons y R ih =>
      intro P x k hP hk hi hap
      simp only [List.length_cons] at hk
      have hll : S.length = P.length + (R.length + 2) := by rw [← hP]; simp
      obtain ⟨k, rfl⟩ : ∃ m, k = m + 2 := ⟨k - 2, by omega⟩
      have g1 : S[P.length]'(by omega) = x := by
        have : S[P.length]? = some x := by rw [← hP]; simp
        exact (List.getElem?_eq_some_iff.1 this).2
      have g2 : S[P.length + 1]'(by omega) = y := by
        have : S[P.length + 1]? = some y := by rw [← hP]; simp [List.getElem?_append_right]
        exact (List.getElem?_eq_some_iff.1 this).2
      have a1 := SlL.ld3 hs (P.length + 1) (by omega)
      have a2 := SlL.ld3 hs P.length (by omega)
      rw [g2] at a1
      rw [g1] at a2
      have hi' := hi
      unfold inB at hi'
      rw [List.all_cons, List.all_cons, Bool.and_eq_true, Bool.and_eq_true, decide_eq_true_eq, decide_eq_true_eq] at hi'
      have hap : (decide (x.2.1 ≤ y.1) && apartB (y :: R)) = true := hap
      rw [Bool.and_eq_true, decide_eq_true_eq] at hap
      have hlt : eLt y x = false := by
        unfold eLt
        rw [decide_eq_false (by omega), Bool.false_or]
        by_cases hq : y.1 = x.1
        · rw [decide_eq_true hq, decide_eq_false (by omega)]
          rfl
        · rw [decide_eq_false hq]
          rfl
      have w : IntKind.wrap IntKind.i64 (((P.length + 1 : Nat) : Int) - 1) = (P.length : Int) := by rw [wrap_id (by omega) (by omega)]; omega
      rw [show (P.length : Int) + 1 = ((P.length + 1 : Nat) : Int) by omega, EditsLead_l0_eq, hs.rlen, br_lt (by omega), EditsLead_j2_eq, hs.rlen, w]
      clear w
      rw [chk_le (by omega), chk_lt (by omega), a1, obs, chk_le (by omega), chk_lt (by omega), a2, obs, EditBefore_ok K y x (by omega), hlt, obs, br_false, wrap_id (by omega) (by omega)]
      have := ih (P ++ [x]) y k (by rw [List.append_assoc]; exact hP) (by omega) (by unfold inB; rw [List.all_cons, Bool.and_eq_true, decide_eq_true_eq]; exact hi'.2) hap.2
      rw [List.length_append] at this
      exact this
  by_cases hS : S = []
  · obtain ⟨k, rfl⟩ : ∃ m, k = m + 1 := ⟨k - 1, by omega⟩
    rw [EditsLead_l0_eq, hs.rlen, hS, br_ge (by show ((0 : Nat) : Int) ≤ 1; omega), ← hS]
    obtain ⟨k, rfl⟩ : ∃ m, k = m + 1 := ⟨k - 1, by omega⟩
    exact fin _
  · obtain ⟨x, R, hx⟩ := List.exists_cons_of_ne_nil hS
    have := key R [] x k hx.symm (by rw [hx] at hl; simp only [List.length_cons] at hl; omega) (by rw [← hx]; exact hin) (by rw [← hx]; exact hap)
    exact this
end Go.Proofs.Ytfglahmbnnkijaa.E
