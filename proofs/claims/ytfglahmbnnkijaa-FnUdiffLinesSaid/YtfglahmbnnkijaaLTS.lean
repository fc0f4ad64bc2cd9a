import Derived.Test.YtfglahmbnnkijaaLW
/- Lists of lines that are compared; the differences between them. -/
set_option linter.unusedVariables false
set_option linter.unusedSimpArgs false
namespace Go.Proofs.Ytfglahmbnnkijaa.E
open Go.Ev Go.Lcs

theorem cp_string (K : Nat) (x y : List ByteArray) (hx : x.length ≤ 100000) (hy : y.length ≤ 100000) (hK : 2 * x.length + 10 ≤ K) : ∃ c : Nat, commonPrefixLen_string_ K x y = some (c : Int) ∧ c ≤ x.length ∧ c ≤ y.length ∧ (∀ j, j < c → x[j]? = y[j]?) ∧ (c < x.length → c < y.length → x[c]? ≠ y[c]?) := by
  obtain ⟨K, rfl⟩ : ∃ m, K = m + 1 := ⟨K - 1, by omega⟩
  have hm : cond (ltI ((List.length y) : Int) ((List.length x) : Int)) ((List.length y) : Int) ((List.length x) : Int) = ((min x.length y.length : Nat) : Int) := by
    rw [ltI_eq]
    by_cases q : (y.length : Int) < (x.length : Int)
    · rw [decide_eq_true q, cond_true]; omega
    · rw [decide_eq_false q, cond_false]; omega
  rw [commonPrefixLen_string__eq, hm]
  have key : ∀ (n j k : Nat), j + n = min x.length y.length → 2 * n + 1 ≤ k → (∀ i, i < j → x[i]? = y[i]?) → ∃ c : Nat, commonPrefixLen_string__l0 K k x y ((min x.length y.length : Nat) : Int) (j : Int) = some (c : Int) ∧ c ≤ x.length ∧ c ≤ y.length ∧ (∀ j, j < c → x[j]? = y[j]?) ∧ (c < x.length → c < y.length → x[c]? ≠ y[c]?) := by
    intro n
    induction n with
    | zero =>
      intro j k hj hk he
      obtain ⟨k, rfl⟩ : ∃ m, k = m + 1 := ⟨k - 1, by omega⟩
      exact ⟨j, by rw [commonPrefixLen_string__l0_eq, br_ge (by omega)], by omega, by omega, he, fun h1 h2 => by omega⟩
    | succ n ih =>
      intro j k hj hk he
      obtain ⟨k, rfl⟩ : ∃ q, k = q + 2 := ⟨k - 2, by omega⟩
      have n1 : nth .str x (j : Int) = x[j]'(by omega) := nth_at .str x j (by omega)
      have n2 : nth .str y (j : Int) = y[j]'(by omega) := nth_at .str y j (by omega)
      rw [commonPrefixLen_string__l0_eq, br_lt (by omega), chk_le (by omega), chk_lt (by omega), chk_le (by omega), chk_lt (by omega), n1, n2]
      by_cases hc : (x[j]'(by omega) : ByteArray) = y[j]'(by omega)
      · rw [eqS_iff, decide_eq_true hc, br_true, commonPrefixLen_string__j0_eq, wrap_id (by omega) (by omega), show (j : Int) + 1 = ((j + 1 : Nat) : Int) by omega]
        refine ih (j + 1) k (by omega) (by omega) (fun i hi => ?_)
        by_cases hij : i = j
        · rw [hij, List.getElem?_eq_getElem (by omega), List.getElem?_eq_getElem (by omega), hc]
        · exact he i (by omega)
      · rw [eqS_iff, decide_eq_false hc, br_false]
        refine ⟨j, rfl, by omega, by omega, he, fun h1 h2 => ?_⟩
        rw [List.getElem?_eq_getElem h1, List.getElem?_eq_getElem h2]
        intro hh
        exact hc (Option.some.inj hh)
  exact key (min x.length y.length) 0 K (by omega) (by omega) (fun i hi => by omega)
theorem cs_string (K : Nat) (x y : List ByteArray) (hx : x.length ≤ 100000) (hy : y.length ≤ 100000) (hK : 2 * x.length + 10 ≤ K) : ∃ c : Nat, commonSuffixLen_string_ K x y = some (c : Int) ∧ c ≤ x.length ∧ c ≤ y.length ∧ (∀ j, j < c → x[x.length - 1 - j]? = y[y.length - 1 - j]?) ∧ (c < x.length → c < y.length → x[x.length - 1 - c]? ≠ y[y.length - 1 - c]?) := by
  obtain ⟨K, rfl⟩ : ∃ m, K = m + 1 := ⟨K - 1, by omega⟩
  have hm : cond (ltI ((List.length y) : Int) ((List.length x) : Int)) ((List.length y) : Int) ((List.length x) : Int) = ((min x.length y.length : Nat) : Int) := by
    rw [ltI_eq]
    by_cases q : (y.length : Int) < (x.length : Int)
    · rw [decide_eq_true q, cond_true]; omega
    · rw [decide_eq_false q, cond_false]; omega
  rw [commonSuffixLen_string__eq, hm]
  have key : ∀ (n j k : Nat), j + n = min x.length y.length → 2 * n + 1 ≤ k → (∀ i, i < j → x[x.length - 1 - i]? = y[y.length - 1 - i]?) → ∃ c : Nat, commonSuffixLen_string__l0 K k x y ((min x.length y.length : Nat) : Int) (j : Int) = some (c : Int) ∧ c ≤ x.length ∧ c ≤ y.length ∧ (∀ j, j < c → x[x.length - 1 - j]? = y[y.length - 1 - j]?) ∧ (c < x.length → c < y.length → x[x.length - 1 - c]? ≠ y[y.length - 1 - c]?) := by
    intro n
    induction n with
    | zero =>
      intro j k hj hk he
      obtain ⟨k, rfl⟩ : ∃ m, k = m + 1 := ⟨k - 1, by omega⟩
      exact ⟨j, by rw [commonSuffixLen_string__l0_eq, br_ge (by omega)], by omega, by omega, he, fun h1 h2 => by omega⟩
    | succ n ih =>
      intro j k hj hk he
      obtain ⟨k, rfl⟩ : ∃ q, k = q + 2 := ⟨k - 2, by omega⟩
      have e1 : IntKind.wrap IntKind.i64 ((IntKind.wrap IntKind.i64 (((List.length x) : Int) - (1 : Int))) - (j : Int)) = ((x.length - 1 - j : Nat) : Int) := by rw [wrap_id (x := ((List.length x) : Int) - 1) (by omega) (by omega), wrap_id (by omega) (by omega)]; omega
      have e2 : IntKind.wrap IntKind.i64 ((IntKind.wrap IntKind.i64 (((List.length y) : Int) - (1 : Int))) - (j : Int)) = ((y.length - 1 - j : Nat) : Int) := by rw [wrap_id (x := ((List.length y) : Int) - 1) (by omega) (by omega), wrap_id (by omega) (by omega)]; omega
      rw [commonSuffixLen_string__l0_eq, br_lt (by omega), e1, e2]
      clear e1 e2
      have n1 : nth .str x ((x.length - 1 - j : Nat) : Int) = x[x.length - 1 - j]'(by omega) := nth_at .str x _ (by omega)
      have n2 : nth .str y ((y.length - 1 - j : Nat) : Int) = y[y.length - 1 - j]'(by omega) := nth_at .str y _ (by omega)
      rw [n1, n2, chk_le (by omega), chk_lt (by omega), chk_le (by omega), chk_lt (by omega)]
      by_cases hc : (x[x.length - 1 - j]'(by omega) : ByteArray) = y[y.length - 1 - j]'(by omega)
      · rw [eqS_iff, decide_eq_true hc, br_true, commonSuffixLen_string__j0_eq, wrap_id (by omega) (by omega), show (j : Int) + 1 = ((j + 1 : Nat) : Int) by omega]
        refine ih (j + 1) k (by omega) (by omega) (fun i hi => ?_)
        by_cases hij : i = j
        · rw [hij, List.getElem?_eq_getElem (by omega), List.getElem?_eq_getElem (by omega), hc]
        · exact he i (by omega)
      · rw [eqS_iff, decide_eq_false hc, br_false]
        refine ⟨j, rfl, by omega, by omega, he, fun h1 h2 => ?_⟩
        rw [List.getElem?_eq_getElem (by omega), List.getElem?_eq_getElem (by omega)]
        intro hh
        exact hc (Option.some.inj hh)
  exact key (min x.length y.length) 0 K (by omega) (by omega) (fun i hi => by omega)
theorem pfx_string {h0 : Hp} {ra rb : Rf} {a b : List ByteArray} (hra : RdOk h0 .str ra a) (hrb : RdOk h0 .str rb b) (la : a.length ≤ 1000) (lb : b.length ≤ 1000) : PfxOk lcs_linesSeqs_commonPrefixLen h0 a.length b.length (Eqs a b) ra rb := by
  intro K h hK hk hf ai aj bi bj h1 h2 h3 h4 h5 h6
  obtain ⟨K, rfl⟩ : ∃ m, K = m + 1 := ⟨K - 1, by omega⟩
  have kb : KeepH h (Hp.box h 111 (.pair .sr (.one .sr)) (ra, rb)) := (KeepH.refl h).push _
  have fb : FreeH (Hp.box h 111 (.pair .sr (.one .sr)) (ra, rb)) := hf.push _
  have ob : (Hp.box h 111 (.pair .sr (.one .sr)) (ra, rb)).ob h.nx = some (.cells 111 2 [.sr ra, .sr rb]) := by
    unfold Hp.box
    rw [push_ob, if_pos rfl]
    rfl
  have l0 : Hp.ld (Hp.box h 111 (.pair .sr (.one .sr)) (ra, rb)) .sr (padd 0 (.at h.nx 0)) = some ra := ldCell (t := .sr) (o := 0) rfl ob rfl rfl
  have l1 : Hp.ld (Hp.box h 111 (.pair .sr (.one .sr)) (ra, rb)) .sr (padd 1 (.at h.nx 0)) = some rb := ldCell (t := .sr) (o := 1) rfl ob rfl rfl
  have r1 := hra.2 _ (hk.trans kb) ai.toNat aj.toNat (by omega) (by omega)
  have r2 := hrb.2 _ (hk.trans kb) bi.toNat bj.toNat (by omega) (by omega)
  obtain ⟨c, c1, c2, c3, c4, c5⟩ := cp_string K ((a.drop ai.toNat).take (aj.toNat - ai.toNat)) ((b.drop bi.toNat).take (bj.toNat - bi.toNat)) (by rw [List.length_take, List.length_drop]; omega) (by rw [List.length_take, List.length_drop]; omega) (by rw [List.length_take, List.length_drop]; omega)
  rw [List.length_take, List.length_drop] at c2 c3 c5
  refine ⟨_, (c : Int), ?_, kb, fb, by omega, by omega, by omega, fun j j1 j2 => ?_, fun g1 g2 => ?_⟩
  · rw [lcs_linesSeqs_commonPrefixLen_eq]
    simp only [np, chk_t]
    rw [l0, obs, hra.1, chk_le (by omega), chk_le (by omega), chk_le (by omega), l1, obs, hrb.1, chk_le (by omega), chk_le (by omega), chk_le (by omega), r1, obs, r2, obs, c1, obs]
  · have := c4 j.toNat (by omega)
    rw [List.getElem?_take, List.getElem?_take, if_pos (by omega), if_pos (by omega), List.getElem?_drop, List.getElem?_drop] at this
    show a[(ai + j).toNat]? = b[(bi + j).toNat]?
    rw [show (ai + j).toNat = ai.toNat + j.toNat by omega, show (bi + j).toNat = bi.toNat + j.toNat by omega]
    exact this
  · have := c5 (by omega) (by rw [List.length_take, List.length_drop]; omega)
    rw [List.getElem?_take, List.getElem?_take, if_pos (by omega), if_pos (by omega), List.getElem?_drop, List.getElem?_drop] at this
    show ¬ a[(ai + c).toNat]? = b[(bi + c).toNat]?
    rw [show (ai + c).toNat = ai.toNat + c by omega, show (bi + c).toNat = bi.toNat + c by omega]
    exact this
theorem sfx_string {h0 : Hp} {ra rb : Rf} {a b : List ByteArray} (hra : RdOk h0 .str ra a) (hrb : RdOk h0 .str rb b) (la : a.length ≤ 1000) (lb : b.length ≤ 1000) : SfxOk lcs_linesSeqs_commonSuffixLen h0 a.length b.length (Eqs a b) ra rb := by
  intro K h hK hk hf ai aj bi bj h1 h2 h3 h4 h5 h6
  obtain ⟨K, rfl⟩ : ∃ m, K = m + 1 := ⟨K - 1, by omega⟩
  have kb : KeepH h (Hp.box h 111 (.pair .sr (.one .sr)) (ra, rb)) := (KeepH.refl h).push _
  have fb : FreeH (Hp.box h 111 (.pair .sr (.one .sr)) (ra, rb)) := hf.push _
  have ob : (Hp.box h 111 (.pair .sr (.one .sr)) (ra, rb)).ob h.nx = some (.cells 111 2 [.sr ra, .sr rb]) := by
    unfold Hp.box
    rw [push_ob, if_pos rfl]
    rfl
  have l0 : Hp.ld (Hp.box h 111 (.pair .sr (.one .sr)) (ra, rb)) .sr (padd 0 (.at h.nx 0)) = some ra := ldCell (t := .sr) (o := 0) rfl ob rfl rfl
  have l1 : Hp.ld (Hp.box h 111 (.pair .sr (.one .sr)) (ra, rb)) .sr (padd 1 (.at h.nx 0)) = some rb := ldCell (t := .sr) (o := 1) rfl ob rfl rfl
  have r1 := hra.2 _ (hk.trans kb) ai.toNat aj.toNat (by omega) (by omega)
  have r2 := hrb.2 _ (hk.trans kb) bi.toNat bj.toNat (by omega) (by omega)
  obtain ⟨c, c1, c2, c3, c4, c5⟩ := cs_string K ((a.drop ai.toNat).take (aj.toNat - ai.toNat)) ((b.drop bi.toNat).take (bj.toNat - bi.toNat)) (by rw [List.length_take, List.length_drop]; omega) (by rw [List.length_take, List.length_drop]; omega) (by rw [List.length_take, List.length_drop]; omega)
  rw [List.length_take, List.length_drop] at c2 c3 c5
  have m1 : min (aj.toNat - ai.toNat) (a.length - ai.toNat) = aj.toNat - ai.toNat := by omega
  have m2 : min (bj.toNat - bi.toNat) (b.length - bi.toNat) = bj.toNat - bi.toNat := by omega
  rw [List.length_take, List.length_drop, m2] at c5
  simp only [List.length_take, List.length_drop, m1, m2] at c4
  rw [m1] at c2 c5
  rw [m2] at c3
  refine ⟨_, (c : Int), ?_, kb, fb, by omega, by omega, by omega, fun j j1 j2 => ?_, fun g1 g2 => ?_⟩
  · rw [lcs_linesSeqs_commonSuffixLen_eq]
    simp only [np, chk_t]
    rw [l0, obs, hra.1, chk_le (by omega), chk_le (by omega), chk_le (by omega), l1, obs, hrb.1, chk_le (by omega), chk_le (by omega), chk_le (by omega), r1, obs, r2, obs, c1, obs]
  · have := c4 j.toNat (by omega)
    rw [List.getElem?_take, List.getElem?_take, if_pos (by omega), if_pos (by omega), List.getElem?_drop, List.getElem?_drop] at this
    show a[(aj - 1 - j).toNat]? = b[(bj - 1 - j).toNat]?
    rw [show (aj - 1 - j).toNat = ai.toNat + (aj.toNat - ai.toNat - 1 - j.toNat) by omega, show (bj - 1 - j).toNat = bi.toNat + (bj.toNat - bi.toNat - 1 - j.toNat) by omega]
    exact this
  · have := c5 (by omega) (by omega)
    rw [List.getElem?_take, List.getElem?_take, if_pos (by omega), if_pos (by omega), List.getElem?_drop, List.getElem?_drop] at this
    show ¬ a[(aj - 1 - c).toNat]? = b[(bj - 1 - c).toNat]?
    rw [show (aj - 1 - (c : Int)).toNat = ai.toNat + (aj.toNat - ai.toNat - 1 - c) by omega, show (bj - 1 - (c : Int)).toNat = bi.toNat + (bj.toNat - bi.toNat - 1 - c) by omega]
    exact this
theorem len_string (K : Nat) (h : Hp) (ra rb : Rf) (hf : FreeH h) (hK : 1 ≤ K) : ∃ h', lcs_linesSeqs_lengths K h (ra, rb) = some (h', ((rlen ra : Int), (rlen rb : Int))) ∧ KeepH h h' ∧ FreeH h' := by
  obtain ⟨K, rfl⟩ : ∃ m, K = m + 1 := ⟨K - 1, by omega⟩
  have ob : (Hp.box h 111 (.pair .sr (.one .sr)) (ra, rb)).ob h.nx = some (.cells 111 2 [.sr ra, .sr rb]) := by
    unfold Hp.box
    rw [push_ob, if_pos rfl]
    rfl
  have l0 : Hp.ld (Hp.box h 111 (.pair .sr (.one .sr)) (ra, rb)) .sr (padd 0 (.at h.nx 0)) = some ra := ldCell (t := .sr) (o := 0) rfl ob rfl rfl
  have l1 : Hp.ld (Hp.box h 111 (.pair .sr (.one .sr)) (ra, rb)) .sr (padd 1 (.at h.nx 0)) = some rb := ldCell (t := .sr) (o := 1) rfl ob rfl rfl
  refine ⟨Hp.box h 111 (.pair .sr (.one .sr)) (ra, rb), ?_, (KeepH.refl h).push _, hf.push _⟩
  rw [lcs_linesSeqs_lengths_eq]
  simp only [np, chk_t]
  rw [l0, obs, l1, obs]

theorem diffLines_ok (K : Nat) {h : Hp} {ra rb : Rf} {a b : List ByteArray} (hf : FreeH h) (hra : RdOk h .str ra a) (hrb : RdOk h .str rb b) (la : a.length ≤ 1000) (lb : b.length ≤ 1000) (hK : 80000000 ≤ K) : FRes2 h a.length b.length (Eqs a b) (DiffLines K h ra rb) := by
  obtain ⟨K, rfl⟩ : ∃ m, K = m + 1 := ⟨K - 1, by omega⟩
  have d : FRes2 h a.length b.length (Eqs a b) (diff K h (If.two 111 ra rb)) := by
    refine diff_of K (by omega) ?_
    obtain ⟨q, hq⟩ : ∃ q, K - 2 = q + 1 := ⟨K - 3, by omega⟩
    have j0 : compute_j0 (K - 2) (K - 2) (If.two 111 ra rb) 79 [] 50 h = compute_j0 (K - 2) (q + 1) (If.two 111 ra rb) 79 [] 50 h := by rw [← hq]
    obtain ⟨h1, e1, e2, e3⟩ := len_string (K - 2) h ra rb hf (by omega)
    rw [hra.1, hrb.1] at e1
    rw [j0, compute_j0_eq, (cases2 111 ra rb).1, br_true, (cases2 111 ra rb).2, obs, e1, obs]
    exact (comp_tail (K - 2) h1 (If.two 111 ra rb) a.length b.length (Eqs a b) ⟨ra, rb, .inl ⟨rfl, pfx_string (hra.mono e2) (hrb.mono e2) la lb, sfx_string (hra.mono e2) (hrb.mono e2) la lb⟩⟩ e3 (by omega) (by omega) (by omega) (by omega) (by omega)).keep e2
  obtain ⟨h', D, a1, a2⟩ := d
  refine ⟨h', D, ?_, a2⟩
  rw [DiffLines_eq, a1, obs]
end Go.Proofs.Ytfglahmbnnkijaa.E
