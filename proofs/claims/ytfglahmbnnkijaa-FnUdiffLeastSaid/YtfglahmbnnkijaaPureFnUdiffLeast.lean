import Derived.Test.YtfglahmbnnkijaaLX
import Derived.Test.YtfglahmbnnkijaaSV
/- Of short texts the edits are of the least size. -/
set_option linter.unusedVariables false
set_option linter.unusedSimpArgs false
namespace Go.Proofs.Ytfglahmbnnkijaa.E
open Go.Ev Go.Lcs
theorem EditStrings_any (K : Nat) (a b : ByteArray) (va : Vt a) (vb : Vt b) (sa : a.size ≤ 200) (sb : b.size ≤ 200) (hK : 110000000 ≤ K) : ∃ D, EditStrings K a b = some (D.map (edR (runesI a) (runesI b))) ∧ Found (runesI a) (runesI b) D := by
  by_cases hab : a = b
  · subst hab
    exact ⟨[], EditStrings_same K a (by omega), found_same _⟩
  · exact EditStrings_ok K a b va vb sa sb hab hK
theorem Pure.FnUdiffLeast (a b : ByteArray) (_ha : a.size ≤ 9223372036854775807) (_hb : b.size ≤ 9223372036854775807) : ∃ k, callF k 3 (a, b, ()) = some true := by
  obtain ⟨K, hK⟩ : ∃ K : Nat, 2999999999 ≤ K := ⟨_, Nat.le_refl _⟩
  refine ⟨K + 1, ?_⟩
  show E.FnUdiffLeast (K + 1) a b = some true
  have aw : editAwake K = some true := by
    have := awake (K - 60)
    rwa [show K - 60 + 60 = K by omega] at this
  obtain ⟨k, hk⟩ : ∃ m, K = m + 4 := ⟨K - 4, by omega⟩
  have j0 : ∀ c, FnUdiffLeast_j0 K K a b c = FnUdiffLeast_j0 K (k + 4) a b c := fun c => by rw [← hk]
  have big : FnUdiffLeast_j0 K K a b true = some true := by rw [j0, FnUdiffLeast_j0_eq, br_true]
  have no : FnUdiffLeast_j2 K (k + 2) a b true = some true := by rw [FnUdiffLeast_j2_eq, br_true, aw, obs]
  rw [FnUdiffLeast_eq]
  by_cases h1 : (2147483647 : Int) < (a.size : Int)
  · rw [br_lt h1, big]
  rw [br_ge (by omega), ltI_eq]
  by_cases h2 : (2147483647 : Int) < (b.size : Int)
  · rw [decide_eq_true h2, big]
  rw [decide_eq_false h2, j0, FnUdiffLeast_j0_eq, br_false, FnUdiffLeast_j1_eq, CleanChars_ok K a 40 (by omega) (by omega), obs]
  by_cases ca : ((a.size : Int) ≤ 40 ∧ strOfRunes (runesI a) = a)
  case neg => rw [decide_eq_false ca, Bool.not_false, br_true, no]
  rw [decide_eq_true ca, Bool.not_true, br_false, CleanChars_ok K b 40 (by omega) (by omega), obs]
  by_cases cb : ((b.size : Int) ≤ 40 ∧ strOfRunes (runesI b) = b)
  case neg => rw [decide_eq_false cb, Bool.not_false, no]
  rw [decide_eq_true cb, Bool.not_true, FnUdiffLeast_j2_eq, br_false, FnUdiffLeast_j3_eq]
  have sa := ca.1
  have sb := cb.1
  have ea := ca.2
  have eb := cb.2
  have va : Vt a := (Vt_iff a).1 ea
  have vb : Vt b := (Vt_iff b).1 eb
  obtain ⟨D, e0, fd⟩ := EditStrings_any K a b va vb (by omega) (by omega) (by omega)
  have la := runesI_le a
  have lb := runesI_le b
  have hD := (ld_bound D 0 0 fd.1).2
  have hml : (D.map (edR (runesI a) (runesI b))).length = D.length := List.length_map ..
  obtain ⟨h1, r1, e1, b1⟩ := editOf_ok K Hp.empty FreeH.empty (D.map (edR (runesI a) (runesI b))) (by omega) (by omega)
  have hl := lead0 (runesI a) (runesI b) fd.1
  rw [ea, eb] at hl
  have hnew : ∀ e ∈ D.map (edR (runesI a) (runesI b)), e.2.2.size ≤ 200 := by
    intro e he
    obtain ⟨s, _, rfl⟩ := List.mem_map.1 he
    have := new_size (runesI b) s.2.2.1.toNat (s.2.2.2 - s.2.2.1).toNat
    rw [eb] at this
    show (strOfRunes _).size ≤ 200
    omega
  have hld := EditsLead_ok K h1 r1 _ a b b1.sl (by omega) (by omega) (fun e he => by have := hnew e he; omega) hl.1 (by omega)
  have hsz := EditSize_ok K h1 r1 (runesI a) (runesI b) va.okl vb.okl (by rw [ea]; omega) (by rw [eb]; omega) D b1.sl (by omega) (by omega) fd.1 (by omega)
  rw [ea] at hsz
  obtain ⟨d, e5, e6⟩ := EditLeast_ok K (runesI a) (runesI b) va.okl vb.okl (by omega) (by omega) (by omega)
  have hd : d ≤ 99 := by
    have := e6.2 _ (FP.axis (runesI a).length (runesI b).length)
    omega
  have hfin := fd.2 d e6 hd
  rw [e0, obs, e1, obs, aw, obs, br_true]
  show Option.bind (EditsLead K h1 r1 a b) _ = _
  rw [hld, obs, hl.2, eqS_iff, decide_eq_true rfl]
  show Option.bind (EditSize K h1 a r1) _ = _
  rw [hsz, obs, EditChars_ok K a (by omega) (by omega), obs, EditChars_ok K b (by omega) (by omega), obs, e5, obs]
  show some (eqI (ssum D) (d : Int)) = _
  rw [hfin, eqI_t rfl]
end Go.Proofs.Ytfglahmbnnkijaa.E
