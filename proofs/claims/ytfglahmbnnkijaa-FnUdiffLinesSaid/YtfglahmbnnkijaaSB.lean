import Derived.Test.YtfglahmbnnkijaaSA
/- Edits handed in and out, and sorted as specified. -/
set_option linter.unusedVariables false
set_option linter.unusedSimpArgs false
namespace Go.Ev
theorem app_new {h : Hp} {e : TypeId} {t : Ty} (x : t.den) (M : List t.den) (hf : FreeH h) : ∃ s : Rf × Hp, Hp.app (Hp.new h e (.p t) [x]) e t.sz (M.map (HTy.cc (.p t))).flatten M.length (.at h.nx 0 1) = some s ∧ ∃ n, s.1 = .at n 0 (M.length + 1) ∧ n < s.2.nx ∧ HO s.2 e t n (x :: M) ∧ KeepH h s.2 ∧ FreeH s.2 ∧ h.nx ≤ n := by
  have hN : HO (Hp.new h e (.p t) [x]) e t h.nx [x] := HO.new h e t [x]
  have hk1 : KeepH h (Hp.new h e (.p t) [x]) := (KeepH.refl h).push _
  have hf1 : FreeH (Hp.new h e (.p t) [x]) := hf.push _
  cases M with
  | nil =>
    have hob : (Hp.new h e (.p t) [x]).ob h.nx = _ := hN
    refine ⟨(.at h.nx 0 1, (Hp.new h e (.p t) [x]).set h.nx (some (.cells e t.sz ([x].map (HTy.cc (.p t))).flatten))), ?_, h.nx, rfl, Nat.lt_succ_self _, ?_, ?_, ?_, Nat.le_refl _⟩
    · have hlen : (([x].map (HTy.cc (.p t))).flatten).length = t.sz := by rw [flat_len]; simp
      unfold Hp.app
      simp only [hob]
      rw [show (Nat.beq e e && Nat.beq t.sz t.sz && Nat.ble (0 + 1 * t.sz) (([x].map (HTy.cc (.p t))).flatten).length) = true by
        simp only [Nat.beq_refl, Bool.true_and]
        rw [hlen]
        exact Nat.ble_eq_true_of_le (by omega)]
      rw [show (Nat.ble (0 + (1 + ([] : List t.den).length) * t.sz) (([x].map (HTy.cc (.p t))).flatten).length && (Nat.beq 0 0 || Nat.beq t.sz 1)) = true by
        rw [hlen]
        simp only [Nat.beq_refl, Bool.true_or, Bool.and_true, List.length_nil]
        exact Nat.ble_eq_true_of_le (by omega)]
      simp only [cond_true, List.map_nil, List.flatten_nil, List.append_nil, List.length_nil]
      rw [← List.append_nil (List.map (HTy.p t).cc [x]).flatten] at hlen
      have e1 : ((List.map (HTy.p t).cc [x]).flatten.take (0 + 1 * t.sz) ++ (List.map (HTy.p t).cc [x]).flatten.drop (0 + (1 + 0) * t.sz)) = (List.map (HTy.p t).cc [x]).flatten := by
        rw [show 0 + (1 + 0) * t.sz = 0 + 1 * t.sz by omega]
        exact List.take_append_drop _ _
      rw [e1]
    · unfold HO
      rw [set_ob, if_pos rfl]
    · exact hk1.set (Nat.le_refl _) _
    · exact hf1.set (Nat.lt_succ_self _) _
  | cons y M =>
    have happ := hN.app (y :: M) (by simp)
    refine ⟨_, happ, (Hp.new h e (.p t) [x]).nx, ?_, Nat.lt_succ_self _, ?_, (hk1.set (Nat.le_refl _) none).push _, (hf1.set (Nat.lt_succ_self _) none).push _, Nat.le_succ _⟩
    · show Rf.at _ 0 ([x].length + (y :: M).length) = _
      rw [Nat.add_comm]
      rfl
    · unfold HO
      rw [push_ob, if_pos (show (Hp.new h e (.p t) [x]).nx = ((Hp.new h e (.p t) [x]).set h.nx none).nx from rfl)]
      rfl
end Go.Ev
namespace Go.Proofs.Ytfglahmbnnkijaa.E
open Go.Ev Go.Lcs
theorem editOf_ok (K : Nat) (h0 : Hp) (hf : FreeH h0) (L : List Ed) (hl : L.length ≤ 1000000) (hK : 2 * L.length + 4 ≤ K) : ∃ h' r, editOf K h0 L = some (h', r) ∧ Blt h0 h' 41 TS1 r L := by
  obtain ⟨K, rfl⟩ : ∃ m, K = m + 1 := ⟨K - 1, by omega⟩
  rw [editOf_eq]
  have key : ∀ (R P : List Ed) (h : Hp) (r : Rf) (k : Nat), P ++ R = L → Blt h0 h 41 TS1 r P → 2 * R.length + 1 ≤ k →
      ∃ h' r', editOf_l0 K k r L (L.length : Int) (P.length : Int) h = some (h', r') ∧ Blt h0 h' 41 TS1 r' L := by
    intro R
    induction R with
    | nil =>
      intro P h r k hP hb hk
      obtain ⟨k, rfl⟩ : ∃ m, k = m + 1 := ⟨k - 1, by omega⟩
      rw [List.append_nil] at hP
      subst hP
      exact ⟨h, r, by rw [editOf_l0_eq, br_ge (by omega)], hb⟩
    | cons e R ih =>
      intro P h r k hP hb hk
      simp only [List.length_cons] at hk
      have hll : L.length = P.length + (R.length + 1) := by rw [← hP]; simp
      obtain ⟨k, rfl⟩ : ∃ m, k = m + 1 := ⟨k - 1, by omega⟩
      obtain ⟨k, rfl⟩ : ∃ m, k = m + 1 := ⟨k - 1, by omega⟩
      have hn : nth TS1 L (P.length : Int) = e := by rw [← hP]; exact nth_mid TS1 P e R
      obtain ⟨c1, s, c2, c3⟩ := hb.app e
      have c1 : Hp.cs (Hp.new h 41 (.p TS1) [e]) 3 (.at h.nx 0 1) = _ := c1
      have c2 : Hp.app (Hp.new h 41 (.p TS1) [e]) 41 3 _ 1 r = some s := c2
      have hr := hb.sl.rlen
      rw [editOf_l0_eq, br_lt (by omega), editOf_j0_eq, hn, chk_le (by omega), chk_lt (by omega)]
      show ∃ h' r', Option.bind (Hp.cs (Hp.new h 41 (.p TS1) [e]) 3 (.at h.nx 0 1)) _ = _ ∧ _
      rw [c1, obs]
      show ∃ h' r', chk _ (Option.bind (Hp.app (Hp.new h 41 (.p TS1) [e]) 41 3 _ 1 r) _) = _ ∧ _
      rw [c2, obs, hr, chk_lt (by show (P.length : Int) + ((1 : Nat) : Int) < _; omega), wrap_id (by omega) (by omega)]
      obtain ⟨h', r', g1, g2⟩ := ih (P ++ [e]) s.2 s.1 k (by rw [List.append_assoc]; exact hP) c3 (by omega)
      refine ⟨h', r', ?_, g2⟩
      rw [← g1, List.length_append]
      rfl
  exact key L [] h0 .nil K rfl (Blt.start hf) (by omega)
theorem SlL.ld3 {h : Hp} {e : TypeId} {r : Rf} {L : List Ed} (hs : SlL h e TS1 r L) (i : Nat) (hi : i < L.length) : Hp.ld h (.p TS1) (radr 3 (Int.toNat (i : Int)) r) = some L[i] := by
  rw [Int.toNat_natCast]
  exact hs.ld i hi
theorem backEdits_ok (K : Nat) (h : Hp) (r : Rf) (L : List Ed) (hs : SlL h 74 TS1 r L) (hl : L.length ≤ 1000000) (hK : 2 * L.length + 4 ≤ K) : backEdits K h r = some (h, L) := by
  obtain ⟨K, rfl⟩ : ∃ m, K = m + 1 := ⟨K - 1, by omega⟩
  rw [backEdits_eq, hs.rlen]
  have key : ∀ (R P : List Ed) (k : Nat), P ++ R = L → 2 * R.length + 1 ≤ k → backEdits_l0 K k P r (L.length : Int) (P.length : Int) h = some (h, L) := by
    intro R
    induction R with
    | nil =>
      intro P k hP hk
      obtain ⟨k, rfl⟩ : ∃ m, k = m + 1 := ⟨k - 1, by omega⟩
      rw [List.append_nil] at hP
      subst hP
      rw [backEdits_l0_eq, br_ge (by omega)]
    | cons e R ih =>
      intro P k hP hk
      simp only [List.length_cons] at hk
      have hll : L.length = P.length + (R.length + 1) := by rw [← hP]; simp
      obtain ⟨k, rfl⟩ : ∃ m, k = m + 1 := ⟨k - 1, by omega⟩
      obtain ⟨k, rfl⟩ : ∃ m, k = m + 1 := ⟨k - 1, by omega⟩
      have hL : L[P.length]'(by omega) = e := by
        have : L[P.length]? = some e := by rw [← hP]; simp
        exact (List.getElem?_eq_some_iff.1 this).2
      rw [backEdits_l0_eq, br_lt (by omega), backEdits_j0_eq, hs.rlen, chk_le (by omega), chk_lt (by omega), SlL.ld3 hs P.length (by omega), obs, hL, chk_lt (by simp only [List.length_cons, List.length_nil]; omega), wrap_id (by omega) (by omega)]
      have := ih (P ++ [e]) k (by rw [List.append_assoc]; exact hP) (by omega)
      rw [← this, List.length_append]
      rfl
  exact key L [] K rfl (by omega)
end Go.Proofs.Ytfglahmbnnkijaa.E
