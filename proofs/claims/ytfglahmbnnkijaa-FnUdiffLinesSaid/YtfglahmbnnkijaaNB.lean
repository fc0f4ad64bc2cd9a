import Derived.Test.YtfglahmbnnkijaaNA
/- The edits by lines, handed out; they begin and end where lines do. -/
set_option linter.unusedVariables false
set_option linter.unusedSimpArgs false
namespace Go.Proofs.Ytfglahmbnnkijaa.E
open Go.Ev Go.Lcs Go.Lib
theorem EditLines_ok (K : Nat) (a b : ByteArray) (sa : a.size ≤ 200) (sb : b.size ≤ 200) (hK : 100000000 ≤ K) :
    ∃ D O, EditLines K a b = some (D.map (edL (linesOf a) (linesOf b))) ∧ FoundL (linesOf a) (linesOf b) D ∧ Lns a O ∧ jn (linesOf b) = b ∧ (linesOf b).length ≤ b.size := by
  obtain ⟨K, rfl⟩ : ∃ m, K = m + 1 := ⟨K - 1, by omega⟩
  obtain ⟨h', n, D, O, c1, c2, c3, c4, c5, c6, c7, c8⟩ := Lines_ok K a b FreeH.empty sa sb (by omega)
  have la := c6.2.1
  have hlen : D.length ≤ 400 := by
    have := (ld_bound D 0 0 c5.1).2
    omega
  refine ⟨D, O, ?_, c5, c6, c7, c8⟩
  rw [EditLines_eq, c1, obs]
  show Option.bind (backEdits K h' (.at n 0 D.length)) _ = _
  by_cases hD : D = []
  · subst hD
    obtain ⟨k, hk⟩ : ∃ q, K = q + 2 := ⟨K - 2, by omega⟩
    subst hk
    rw [backEdits_eq]
    show Option.bind (backEdits_l0 (k + 1) (k + 1) [] (.at n 0 0) (0 : Int) (0 : Int) h') _ = _
    rw [backEdits_l0_eq, br_ge (by omega), obs]
    rfl
  · have hml : (D.map (edL (linesOf a) (linesOf b))).length = D.length := List.length_map ..
    have hsl : SlL h' 74 TS1 (.at n 0 D.length) (D.map (edL (linesOf a) (linesOf b))) := .inr ⟨fun hc => hD (List.map_eq_nil_iff.1 hc), n, c4, by rw [hml], c2⟩
    rw [backEdits_ok K h' _ _ hsl (by omega) (by omega), obs]
theorem leads (A B : List ByteArray) (D : List Sp) (h : FoundL A B D) : vchk (jn A).size 0 (D.map (edL A B)) = 0 ∧ apB (jn A) ⟨#[]⟩ 0 (D.map (edL A B)) = jn B := leadL0 A B h.1
theorem ends_bord (s : ByteArray) (O : List Int) (hL : Lns s O) (i : Nat) : Bord s (lpos (linesOf s) i) := by
  by_cases hi : i ≤ (linesOf s).length
  · exact (hL.2.2.2 i hi).2
  · rw [lpos_end _ _ (by omega), hL.1]
    exact .inr (.inl rfl)
theorem editLines_ok (K : Nat) (h : Hp) (r : Rf) (a b : ByteArray) (O : List Int) (hL : Lns a O) (B : List ByteArray) (D : List Sp) (sa : a.size ≤ 200) (hs : SlL h 41 TS1 r (D.map (edL (linesOf a) B))) (hl : D.length ≤ 400) (hv : vchk a.size 0 (D.map (edL (linesOf a) B)) = 0) (hap : apB a ⟨#[]⟩ 0 (D.map (edL (linesOf a) B)) = b) (hn : ∀ e ∈ D.map (edL (linesOf a) B), e.2.2.size ≤ 100000) (he : a = b → D = []) (hK : 20000 ≤ K) : editLines K h a b r = some (h, true) := by
  obtain ⟨K, rfl⟩ : ∃ m, K = m + 1 := ⟨K - 1, by omega⟩
  have hml : (D.map (edL (linesOf a) B)).length = D.length := List.length_map ..
  have fin : ∀ k, editLines_j1 K (k + 1) a b r h = some (h, true) := by
    intro k
    rw [editLines_j1_eq, EditsLead_ok K h r _ a b hs (by omega) (by omega) hn hv (by omega), obs, hap, eqS_iff, decide_eq_true rfl]
    show br true (br (Bool.not (eqS a b)) (some (h, true)) (some (h, eqI ((rlen r : Nat) : Int) 0))) (some (h, false)) = _
    rw [br_true, eqS_iff, br_not]
    by_cases hab : a = b
    · have hD := he hab
      rw [decide_eq_true hab, br_true, hs.rlen, hml, hD]
      rw [eqI_t (by rfl)]
    · rw [decide_eq_false hab, br_false]
  have key : ∀ (R P : List Ed) (k : Nat), P ++ R = D.map (edL (linesOf a) B) → 3 * R.length + 2 ≤ k → editLines_l0 K k a b r r ((D.map (edL (linesOf a) B)).length : Int) (P.length : Int) h = some (h, true) := by
    intro R
    induction R with
    | nil =>
      intro P k hP hk
      obtain ⟨k, rfl⟩ : ∃ q, k = q + 2 := ⟨k - 2, by omega⟩
      rw [List.append_nil] at hP
      rw [editLines_l0_eq, br_ge (by rw [hP]; omega)]
      exact fin k
    | cons e R ih =>
      intro P k hP hk
      simp only [List.length_cons] at hk
      obtain ⟨k, rfl⟩ : ∃ q, k = q + 3 := ⟨k - 3, by omega⟩
      have hll : (D.map (edL (linesOf a) B)).length = P.length + (R.length + 1) := by rw [← hP]; simp
      have hg : (D.map (edL (linesOf a) B))[P.length]'(by omega) = e := by
        have : (D.map (edL (linesOf a) B))[P.length]? = some e := by rw [← hP]; simp
        exact (List.getElem?_eq_some_iff.1 this).2
      have hem : e ∈ D.map (edL (linesOf a) B) := by rw [← hP]; simp
      obtain ⟨s, _, hs2⟩ := List.mem_map.1 hem
      have z1 := lpos_size (linesOf a) s.1.toNat
      have z2 := lpos_size (linesOf a) s.2.1.toNat
      rw [hL.1] at z1 z2
      have c1 := EditLine_ok K a _ (ends_bord a O hL s.1.toNat) (by omega) (by omega)
      have c2 := EditLine_ok K a _ (ends_bord a O hL s.2.1.toNat) (by omega) (by omega)
      have q1 : e.1 = (lpos (linesOf a) s.1.toNat : Int) := by rw [← hs2]; rfl
      have q2 : e.2.1 = (lpos (linesOf a) s.2.1.toNat : Int) := by rw [← hs2]; rfl
      rw [← q1] at c1
      rw [← q2] at c2
      have hst := ih (P ++ [e]) k (by rw [List.append_assoc]; exact hP) (by omega)
      rw [List.length_append] at hst
      rw [editLines_l0_eq, br_lt (by omega), editLines_j0_eq, hs.rlen, chk_le (by omega), chk_lt (by omega), SlL.ld3 hs P.length (by omega), obs, hg, c1, obs, Bool.not_true, br_false, c2, obs, Bool.not_true, editLines_j2_eq, br_false, wrap_id (by omega) (by omega)]
      exact hst
  rw [editLines_eq, hs.rlen]
  exact key _ [] K rfl (by omega)
end Go.Proofs.Ytfglahmbnnkijaa.E
