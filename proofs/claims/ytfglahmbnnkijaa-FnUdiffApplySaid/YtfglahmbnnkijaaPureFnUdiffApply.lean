import Derived.Test.YtfglahmbnnkijaaSE
import Derived.Test.YtfglahmbnnkijaaSV
/- A text behind edits is as specified; or the error is. -/
set_option linter.unusedVariables false
set_option linter.unusedSimpArgs false
namespace Go.Proofs.Ytfglahmbnnkijaa.E
open Go.Ev Go.Lcs
theorem eqS_t (s : ByteArray) : eqS s s = true := by rw [eqS_iff]; exact decide_eq_true rfl
theorem eqS_f {s t : ByteArray} (h : s.size ≠ t.size) : eqS s t = false := by
  rw [eqS_iff]
  exact decide_eq_false fun e => h (by rw [e])
theorem s1 : outB.size = 28 := rfl
theorem s2 : ovlB.size = 26 := rfl
theorem Pure.FnUdiffApply (x : ByteArray) (l : List TS1.den) (_w : x.size ≤ 9223372036854775807) (_h : l.length ≤ 9223372036854775807 ∧ ∀ y ∈ l, ((Lit.int .i64 y.1).wf = true) ∧ ((Lit.int .i64 y.2.1).wf = true) ∧ (y.2.2.size ≤ 9223372036854775807)) : ∃ k, callF k 7 (x, l, ()) = some true := by
  obtain ⟨K, hK0⟩ : ∃ K, K = 2 * l.length + 2999999999 := ⟨_, rfl⟩
  refine ⟨K + 1, ?_⟩
  show E.FnUdiffApply (K + 1) x l = some true
  have hK : 2999999999 ≤ K := by omega
  have hK2 : 2 * l.length + 10 ≤ K := by omega
  clear hK0
  have aw : editAwake K = some true := by
    have := awake (K - 60)
    rwa [show K - 60 + 60 = K by omega] at this
  obtain ⟨k, hk⟩ : ∃ m, K = m + 8 := ⟨K - 8, by omega⟩
  have j0 : ∀ b, FnUdiffApply_j0 K K x l b Hp.empty = FnUdiffApply_j0 K (k + 8) x l b Hp.empty := fun b => by rw [← hk]
  have big : FnUdiffApply_j0 K K x l true Hp.empty = some true := by rw [j0, FnUdiffApply_j0_eq, br_true]
  rw [FnUdiffApply_eq]
  by_cases hx : (2147483647 : Int) < (x.size : Int)
  · rw [br_lt hx, big]
  rw [br_ge (by omega)]
  obtain ⟨b, hf, hl⟩ := zzFits8_ok K l hK2
  rw [hf, obs]
  cases b with
  | false => exact big
  | true =>
    have hl := hl rfl
    have fe := editFew_ok K l (by omega)
    have skip : ∀ k, FnUdiffApply_j2 K (k + 1) x l true Hp.empty = some true := fun k => by rw [FnUdiffApply_j2_eq, br_true, aw, obs]
    rw [Bool.not_true, j0, FnUdiffApply_j0_eq, br_false, FnUdiffApply_j1_eq]
    by_cases hx2 : (200 : Int) < (x.size : Int)
    · rw [br_lt hx2, skip]
    rw [br_ge (by omega), fe, obs]
    cases hw : few l with
    | false => exact skip _
    | true =>
      obtain ⟨h12, hs⟩ := few_iff hw
      have hlen : (isV eLt l).reverse.length = l.length := by rw [List.length_reverse, isV_length]
      have hS : ∀ e ∈ (isV eLt l).reverse, Small e := fun e he => hs e ((isV_perm eLt l).mem_iff.1 he)
      obtain ⟨h2, r2, e2, b2⟩ := editOf_ok K Hp.empty FreeH.empty l (by omega) (by omega)
      obtain ⟨h3, r3, e3, s3, k3, f3⟩ := EditsSorted_ok K h2 r2 l b2.sl b2.2.1 (by omega) (by omega)
      have a1 := ApplyEdits_ok K x l hs (by omega) h12 (by omega)
      have a2 := ApplyEditsBytes_ok K x l hs (by omega) h12 (by omega)
      rw [Bool.not_true, FnUdiffApply_j2_eq, br_false, FnUdiffApply_j3_eq, editOwn_ok K l (by omega) (by omega), obs, a1, obs, obs, a2, obs, e2, obs, e3, obs]
      generalize (isV eLt l).reverse = S at *
      show Option.bind (EditsIn K h3 r3 (x.size : Int)) _ = _
      rw [EditsIn_ok K h3 r3 S _ s3 (by omega) (by omega), obs]
      show Option.bind (EditsApart K h3 r3) _ = _
      rw [EditsApart_ok K h3 r3 S s3 (by omega) (by omega), obs]
      have vi := vchk_in (x.size : Int) S 0
      have va := vchk_apart0 (x.size : Int) S
      have vl := vchk_le (x.size : Int) S 0
      show br (!inB x.size S) (FnUdiffApply_j4 K (k + 4) x (aout x S) (aerr x S) (bytesI (aout x S)) (aerr x S) r3 (inB x.size S) (apartB S) true h3) (FnUdiffApply_j4 K (k + 4) x (aout x S) (aerr x S) (bytesI (aout x S)) (aerr x S) r3 (inB x.size S) (apartB S) (!apartB S) h3) = some true
      by_cases v0 : vchk x.size 0 S = 0
      · rw [vi.1 v0, va.1 v0]
        rw [Bool.not_true, br_false]
        have e0 : aerr x S = ⟨#[]⟩ := by unfold aerr; rw [if_pos v0]
        have e1 : aout x S = apB x ⟨#[]⟩ 0 S := by unfold aout; rw [if_pos v0]
        rw [FnUdiffApply_j4_eq, br_false, FnUdiffApply_j6_eq, EditsApplied_ok K x h3 r3 S s3 (fun e he => by have := hS e he; unfold Small at this; omega) (by omega) (by omega) v0 (by omega), obs, aw, obs, br_true, e0, e1, strOf_bytesI]
        show br (eqS ⟨#[]⟩ ⟨#[]⟩) (br (eqS ⟨#[]⟩ ⟨#[]⟩) (br (eqS (apB x ⟨#[]⟩ 0 S) (apB x ⟨#[]⟩ 0 S)) (some (eqS (apB x ⟨#[]⟩ 0 S) (apB x ⟨#[]⟩ 0 S))) (some false)) (some false)) (some false) = some true
        rw [eqS_t, eqS_t]
        rfl
      · have e1 : aout x S = ⟨#[]⟩ := by unfold aout; rw [if_neg v0]
        have hb : bytesI ⟨#[]⟩ = [] := rfl
        have fin : (inB x.size S = true → aerr x S = ovlB) → (apartB S = true → aerr x S = outB) → (aerr x S = outB ∨ aerr x S = ovlB) → FnUdiffApply_j4 K (k + 4) x (aout x S) (aerr x S) (bytesI (aout x S)) (aerr x S) r3 (inB x.size S) (apartB S) true h3 = some true := by
          intro f1 f2 f3
          have j7 : ∀ k, FnUdiffApply_j5 K (k + 2) (aerr x S) outB ovlB false h3 = some true := by
            intro k
            rw [FnUdiffApply_j5_eq, br_false, FnUdiffApply_j7_eq, aw, obs, br_true]
            rcases f3 with f3 | f3
            · rw [f3, eqS_t]
              rfl
            · rw [f3, show eqS ovlB outB = false from eqS_f (by rw [s1, s2]; omega), br_false, eqS_t]
          rw [FnUdiffApply_j4_eq, br_true, eqS_t, Bool.not_true, br_false, e1]
          show br (!eqS ⟨#[]⟩ ⟨#[]⟩) (FnUdiffApply_j5 K (k + 3) (aerr x S) outB ovlB true h3) (br (ltI 0 (((bytesI ⟨#[]⟩).length : Nat) : Int)) (FnUdiffApply_j5 K (k + 3) (aerr x S) outB ovlB true h3) (br (inB x.size S) (br (!eqS (aerr x S) ovlB) (FnUdiffApply_j5 K (k + 3) (aerr x S) outB ovlB true h3) (br (apartB S) (FnUdiffApply_j5 K (k + 3) (aerr x S) outB ovlB (!eqS (aerr x S) outB) h3) (FnUdiffApply_j5 K (k + 3) (aerr x S) outB ovlB false h3))) (br (apartB S) (FnUdiffApply_j5 K (k + 3) (aerr x S) outB ovlB (!eqS (aerr x S) outB) h3) (FnUdiffApply_j5 K (k + 3) (aerr x S) outB ovlB false h3)))) = some true
          rw [eqS_t, hb]
          rw [show (!true) = false from rfl, br_false, br_ge (by show ((0 : Nat) : Int) ≤ 0; omega), j7]
          have g2 : br (apartB S) (FnUdiffApply_j5 K (k + 3) (aerr x S) outB ovlB (!eqS (aerr x S) outB) h3) (some true) = some true := by
            cases ha : apartB S with
            | true => rw [br_true, f2 ha, eqS_t]; have := j7 (k + 1); rw [f2 ha] at this; exact this
            | false => rfl
          rw [g2]
          cases hi : inB x.size S with
          | true => rw [br_true, f1 hi, eqS_t]; rfl
          | false => rfl
        by_cases v1 : vchk x.size 0 S = 1
        · have ee : aerr x S = outB := by unfold aerr; rw [if_neg v0, if_pos v1]
          have hi := vi.2 v1
          have := fin (fun h => by rw [hi] at h; cases h) (fun _ => ee) (.inl ee)
          rw [hi] at this ⊢
          rw [Bool.not_false, br_true]
          exact this
        · have ee : aerr x S = ovlB := by unfold aerr; rw [if_neg v0, if_neg v1]
          have ha := va.2 (by omega)
          have := fin (fun _ => ee) (fun h => by rw [ha] at h; cases h) (.inr ee)
          rw [ha] at this ⊢
          cases hi : inB x.size S with
          | true => rw [hi] at this; rw [Bool.not_true, br_false, Bool.not_false]; exact this
          | false => rw [hi] at this; rw [Bool.not_false, br_true]; exact this
end Go.Proofs.Ytfglahmbnnkijaa.E
