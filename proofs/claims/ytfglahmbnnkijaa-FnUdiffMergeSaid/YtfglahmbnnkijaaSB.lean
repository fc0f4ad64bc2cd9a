import Derived.Test.YtfglahmbnnkijaaSA
/- Edits handed in and out, and sorted as specified. -/
set_option linter.unusedVariables false
set_option linter.unusedSimpArgs false
namespace Go.Ev
theorem SlL.csub {h : Hp} {e : TypeId} {t : Ty} {r : Rf} {L : List t.den} (hs : SlL h e t r L) (k m : Nat) (h1 : k ≤ m) (h2 : m ≤ L.length) : Hp.cs h t.sz (rcut t.sz k m r) = some ((((L.drop k).take (m - k)).map (HTy.cc (.p t))).flatten, m - k) := by
  rcases hs with ⟨rfl, rfl⟩ | ⟨_, n, _, rfl, ho⟩
  · have h2 : m ≤ 0 := h2
    have e1 : k = 0 := by omega
    have e2 : m = 0 := by omega
    subst e1
    subst e2
    rfl
  · show Hp.cs h t.sz (.at n (0 + k * t.sz) (m - k)) = _
    rw [Nat.zero_add]
    exact ho.csub k (m - k) (by omega)
theorem app_new {h : Hp} {e : TypeId} {t : Ty} (x : t.den) (M : List t.den) (hf : FreeH h) : ∃ s : Rf × Hp, Hp.app (Hp.new h e (.p t) [x]) e t.sz (M.map (HTy.cc (.p t))).flatten M.length (.at h.nx 0 1) = some s ∧ ∃ n, s.1 = .at n 0 (M.length + 1) ∧ n < s.2.nx ∧ HO s.2 e t n (x :: M) ∧ KeepH h s.2 ∧ FreeH s.2 := by
  have hN : HO (Hp.new h e (.p t) [x]) e t h.nx [x] := HO.new h e t [x]
  have hk1 : KeepH h (Hp.new h e (.p t) [x]) := (KeepH.refl h).push _
  have hf1 : FreeH (Hp.new h e (.p t) [x]) := hf.push _
  cases M with
  | nil =>
    have hob : (Hp.new h e (.p t) [x]).ob h.nx = _ := hN
    refine ⟨(.at h.nx 0 1, (Hp.new h e (.p t) [x]).set h.nx (some (.cells e t.sz ([x].map (HTy.cc (.p t))).flatten))), ?_, h.nx, rfl, Nat.lt_succ_self _, ?_, ?_, ?_⟩
    · have hlen : (([x].map (HTy.cc (.p t))).flatten).length = t.sz := by rw [flat_len]; simp
      unfold Hp.app
      simp only [hob]
      rw [show (Nat.beq e e && Nat.beq t.sz t.sz && Nat.ble (0 + 1 * t.sz) (([x].map (HTy.cc (.p t))).flatten).length) = true by
        simp only [Nat.beq_refl, Bool.true_and]
        rw [hlen]
        exact Nat.ble_eq_true_of_le (by omega)]
      rw [show (Nat.ble (0 + (1 + ([] : List t.den).length) * t.sz) (([x].map (HTy.cc (.p t))).flatten).length && (Nat.beq 0 0 || Nat.beq t.sz 1)) = true by
        rw [hlen]
        simp only [Nat.beq_refl, Bool.true_or, Bool.and_true, List.length_nil]
        exact Nat.ble_eq_true_of_le (by omega)]
      simp only [cond_true, List.map_nil, List.flatten_nil, List.append_nil, List.length_nil]
      rw [← List.append_nil (List.map (HTy.p t).cc [x]).flatten] at hlen
      have e1 : ((List.map (HTy.p t).cc [x]).flatten.take (0 + 1 * t.sz) ++ (List.map (HTy.p t).cc [x]).flatten.drop (0 + (1 + 0) * t.sz)) = (List.map (HTy.p t).cc [x]).flatten := by
        rw [show 0 + (1 + 0) * t.sz = 0 + 1 * t.sz by omega]
        exact List.take_append_drop _ _
      rw [e1]
    · unfold HO
      rw [set_ob, if_pos rfl]
    · exact hk1.set (Nat.le_refl _) _
    · exact hf1.set (Nat.lt_succ_self _) _
  | cons y M =>
    have happ := hN.app (y :: M) (by simp)
    refine ⟨_, happ, (Hp.new h e (.p t) [x]).nx, ?_, Nat.lt_succ_self _, ?_, (hk1.set (Nat.le_refl _) none).push _, (hf1.set (Nat.lt_succ_self _) none).push _⟩
    · show Rf.at _ 0 ([x].length + (y :: M).length) = _
      rw [Nat.add_comm]
      rfl
    · unfold HO
      rw [push_ob, if_pos (show (Hp.new h e (.p t) [x]).nx = ((Hp.new h e (.p t) [x]).set h.nx none).nx from rfl)]
      rfl
end Go.Ev
namespace Go.Proofs.Ytfglahmbnnkijaa.E
open Go.Ev Go.Lcs
theorem edits_ok (K : Nat) (h0 : Hp) (hf : FreeH h0) (L : List Ed) (hl : L.length ≤ 1000000) (hK : 2 * L.length + 4 ≤ K) : ∃ h' r, edits K h0 L = some (h', r) ∧ Blt h0 h' 74 TS1 r L := by
  obtain ⟨K, rfl⟩ : ∃ m, K = m + 1 := ⟨K - 1, by omega⟩
  rw [edits_eq]
  have key : ∀ (R P : List Ed) (h : Hp) (r : Rf) (k : Nat), P ++ R = L → Blt h0 h 74 TS1 r P → 2 * R.length + 1 ≤ k →
      ∃ h' r', edits_l0 K k r L (L.length : Int) (P.length : Int) h = some (h', r') ∧ Blt h0 h' 74 TS1 r' L := by
    intro R
    induction R with
    | nil =>
      intro P h r k hP hb hk
      obtain ⟨k, rfl⟩ : ∃ m, k = m + 1 := ⟨k - 1, by omega⟩
      rw [List.append_nil] at hP
      subst hP
      exact ⟨h, r, by rw [edits_l0_eq, br_ge (by omega)], hb⟩
    | cons e R ih =>
      intro P h r k hP hb hk
      simp only [List.length_cons] at hk
      have hll : L.length = P.length + (R.length + 1) := by rw [← hP]; simp
      obtain ⟨k, rfl⟩ : ∃ m, k = m + 1 := ⟨k - 1, by omega⟩
      obtain ⟨k, rfl⟩ : ∃ m, k = m + 1 := ⟨k - 1, by omega⟩
      have hn : nth TS1 L (P.length : Int) = e := by rw [← hP]; exact nth_mid TS1 P e R
      obtain ⟨c1, s, c2, c3⟩ := hb.app e
      have c1 : Hp.cs (Hp.new h 74 (.p TS1) [e]) 3 (.at h.nx 0 1) = _ := c1
      have c2 : Hp.app (Hp.new h 74 (.p TS1) [e]) 74 3 _ 1 r = some s := c2
      have hr := hb.sl.rlen
      rw [edits_l0_eq, br_lt (by omega), edits_j0_eq, hn, chk_le (by omega), chk_lt (by omega)]
      show ∃ h' r', Option.bind (Hp.cs (Hp.new h 74 (.p TS1) [e]) 3 (.at h.nx 0 1)) _ = _ ∧ _
      rw [c1, obs]
      show ∃ h' r', chk _ (Option.bind (Hp.app (Hp.new h 74 (.p TS1) [e]) 74 3 _ 1 r) _) = _ ∧ _
      rw [c2, obs, hr, chk_lt (by show (P.length : Int) + ((1 : Nat) : Int) < _; omega), wrap_id (by omega) (by omega)]
      obtain ⟨h', r', g1, g2⟩ := ih (P ++ [e]) s.2 s.1 k (by rw [List.append_assoc]; exact hP) c3 (by omega)
      refine ⟨h', r', ?_, g2⟩
      rw [← g1, List.length_append]
      rfl
  exact key L [] h0 .nil K rfl (Blt.start hf) (by omega)
theorem editOf_ok (K : Nat) (h0 : Hp) (hf : FreeH h0) (L : List Ed) (hl : L.length ≤ 1000000) (hK : 2 * L.length + 4 ≤ K) : ∃ h' r, editOf K h0 L = some (h', r) ∧ Blt h0 h' 41 TS1 r L := by
  obtain ⟨K, rfl⟩ : ∃ m, K = m + 1 := ⟨K - 1, by omega⟩
  rw [editOf_eq]
  have key : ∀ (R P : List Ed) (h : Hp) (r : Rf) (k : Nat), P ++ R = L → Blt h0 h 41 TS1 r P → 2 * R.length + 1 ≤ k →
      ∃ h' r', editOf_l0 K k r L (L.length : Int) (P.length : Int) h = some (h', r') ∧ Blt h0 h' 41 TS1 r' L := by
    intro R
    induction R with
    | nil =>
      intro P h r k hP hb hk
      obtain ⟨k, rfl⟩ : ∃ m, k = m + 1 := ⟨k - 1, by omega⟩
      rw [List.append_nil] at hP
      subst hP
      exact ⟨h, r, by rw [editOf_l0_eq, br_ge (by omega)], hb⟩
    | cons e R ih =>
      intro P h r k hP hb hk
      simp only [List.length_cons] at hk
      have hll : L.length = P.length + (R.length + 1) := by rw [← hP]; simp
      obtain ⟨k, rfl⟩ : ∃ m, k = m + 1 := ⟨k - 1, by omega⟩
      obtain ⟨k, rfl⟩ : ∃ m, k = m + 1 := ⟨k - 1, by omega⟩
      have hn : nth TS1 L (P.length : Int) = e := by rw [← hP]; exact nth_mid TS1 P e R
      obtain ⟨c1, s, c2, c3⟩ := hb.app e
      have c1 : Hp.cs (Hp.new h 41 (.p TS1) [e]) 3 (.at h.nx 0 1) = _ := c1
      have c2 : Hp.app (Hp.new h 41 (.p TS1) [e]) 41 3 _ 1 r = some s := c2
      have hr := hb.sl.rlen
      rw [editOf_l0_eq, br_lt (by omega), editOf_j0_eq, hn, chk_le (by omega), chk_lt (by omega)]
      show ∃ h' r', Option.bind (Hp.cs (Hp.new h 41 (.p TS1) [e]) 3 (.at h.nx 0 1)) _ = _ ∧ _
      rw [c1, obs]
      show ∃ h' r', chk _ (Option.bind (Hp.app (Hp.new h 41 (.p TS1) [e]) 41 3 _ 1 r) _) = _ ∧ _
      rw [c2, obs, hr, chk_lt (by show (P.length : Int) + ((1 : Nat) : Int) < _; omega), wrap_id (by omega) (by omega)]
      obtain ⟨h', r', g1, g2⟩ := ih (P ++ [e]) s.2 s.1 k (by rw [List.append_assoc]; exact hP) c3 (by omega)
      refine ⟨h', r', ?_, g2⟩
      rw [← g1, List.length_append]
      rfl
  exact key L [] h0 .nil K rfl (Blt.start hf) (by omega)
theorem SlL.ld3 {h : Hp} {e : TypeId} {r : Rf} {L : List Ed} (hs : SlL h e TS1 r L) (i : Nat) (hi : i < L.length) : Hp.ld h (.p TS1) (radr 3 (Int.toNat (i : Int)) r) = some L[i] := by
  rw [Int.toNat_natCast]
  exact hs.ld i hi
theorem backEdits_ok (K : Nat) (h : Hp) (r : Rf) (L : List Ed) (hs : SlL h 74 TS1 r L) (hl : L.length ≤ 1000000) (hK : 2 * L.length + 4 ≤ K) : backEdits K h r = some (h, L) := by
  obtain ⟨K, rfl⟩ : ∃ m, K = m + 1 := ⟨K - 1, by omega⟩
  rw [backEdits_eq, hs.rlen]
  have key : ∀ (R P : List Ed) (k : Nat), P ++ R = L → 2 * R.length + 1 ≤ k → backEdits_l0 K k P r (L.length : Int) (P.length : Int) h = some (h, L) := by
    intro R
    induction R with
    | nil =>
      intro P k hP hk
      obtain ⟨k, rfl⟩ : ∃ m, k = m + 1 := ⟨k - 1, by omega⟩
      rw [List.append_nil] at hP
      subst hP
      rw [backEdits_l0_eq, br_ge (by omega)]
    | cons e R ih =>
      intro P k hP hk
      simp only [List.length_cons] at hk
      have hll : L.length = P.length + (R.length + 1) := by rw [← hP]; simp
      obtain ⟨k, rfl⟩ : ∃ m, k = m + 1 := ⟨k - 1, by omega⟩
      obtain ⟨k, rfl⟩ : ∃ m, k = m + 1 := ⟨k - 1, by omega⟩
      have hL : L[P.length]'(by omega) = e := by
        have : L[P.length]? = some e := by rw [← hP]; simp
        exact (List.getElem?_eq_some_iff.1 this).2
      rw [backEdits_l0_eq, br_lt (by omega), backEdits_j0_eq, hs.rlen, chk_le (by omega), chk_lt (by omega), SlL.ld3 hs P.length (by omega), obs, hL, chk_lt (by simp only [List.length_cons, List.length_nil]; omega), wrap_id (by omega) (by omega)]
      have := ih (P ++ [e]) k (by rw [List.append_assoc]; exact hP) (by omega)
      rw [← this, List.length_append]
      rfl
  exact key L [] K rfl (by omega)
theorem es_j2 (K k : Nat) (h : Hp) (r x7 : Rf) (O : List Ed) (e : Ed) (x8 x9 : Int) (hs : SlL h 41 TS1 r O) (hf : FreeH h) (at_ : Nat) (ha : at_ ≤ O.length) (hO : O.length ≤ 1000) (h9 : 0 ≤ x9) (h9' : x9 ≤ 1000) :
    ∃ h' r', EditsSorted_j2 K (k + 1) r (0 : Int) [e] (at_ : Int) x7 x8 x9 h = EditsSorted_l0 K k r' x7 x8 (x9 + 1) h' ∧ SlL h' 41 TS1 r' (O.take at_ ++ e :: O.drop at_) ∧ KeepH h h' ∧ FreeH h' := by
  have hr := hs.rlen
  have hN : KeepH h (Hp.new h 41 (.p TS1) [e]) := (KeepH.refl h).push _
  have c0 : Hp.cs (Hp.new h 41 (.p TS1) [e]) 3 (rcut 3 at_ O.length r) = some ((((O.drop at_).take (O.length - at_)).map (HTy.cc (.p TS1))).flatten, O.length - at_) := (hs.keep hN).csub at_ O.length ha (Nat.le_refl _)
  rw [List.take_of_length_le (by rw [List.length_drop]; exact Nat.le_refl _)] at c0
  obtain ⟨s, a1, n, a2, a3, a4, a5, a6⟩ := app_new (e := 41) (t := TS1) e (O.drop at_) hf
  rw [List.length_drop] at a1 a2
  have a1 : Hp.app (Hp.new h 41 (.p TS1) [e]) 41 3 ((O.drop at_).map (HTy.cc (.p TS1))).flatten (O.length - at_) (.at h.nx 0 1) = some s := a1
  have c2 : Hp.cs s.2 3 s.1 = some (((e :: O.drop at_).map (HTy.cc (.p TS1))).flatten, O.length - at_ + 1) := by
    have := a4.cs
    rw [List.length_cons, List.length_drop] at this
    rw [a2]
    exact this
  have c3 : Hp.cs s.2 3 (rcut 3 0 at_ r) = some ((((O.drop 0).take (at_ - 0)).map (HTy.cc (.p TS1))).flatten, at_ - 0) := (hs.keep a5).csub 0 at_ (Nat.zero_le _) ha
  rw [List.drop_zero, Nat.sub_zero] at c3
  have c4 : Hp.apc s.2 41 3 ((e :: O.drop at_).map (HTy.cc (.p TS1))).flatten (O.length - at_ + 1) (rcut 3 0 at_ r) at_ = some (.at s.2.nx 0 (at_ + (O.length - at_) + 1), s.2.push (.cells 41 3 (((O.take at_).map (HTy.cc (.p TS1))).flatten ++ ((e :: O.drop at_).map (HTy.cc (.p TS1))).flatten))) := by
    unfold Hp.apc
    simp only [c3]
    show (bif Nat.ble (at_ + (O.length - at_) + 1) at_ then _ else _) = _
    cases hb : Nat.ble (at_ + (O.length - at_) + 1) at_ with
    | false => rfl
    | true => have := Nat.le_of_ble_eq_true hb; omega
  obtain ⟨o, ho⟩ : ∃ o : Ev.Obj, o = .cells 41 3 (((O.take at_).map (HTy.cc (.p TS1))).flatten ++ ((e :: O.drop at_).map (HTy.cc (.p TS1))).flatten) := ⟨_, rfl⟩
  rw [← ho] at c4
  refine ⟨s.2.push o, .at s.2.nx 0 (at_ + (O.length - at_) + 1), ?_, .inr ⟨by simp, s.2.nx, Nat.lt_succ_self _, ?_, ?_⟩, a5.push _, a6.push _⟩
  rotate_left
  · congr 1
    rw [List.length_append, List.length_take, List.length_cons, List.length_drop]
    omega
  · unfold HO
    rw [push_ob, if_pos rfl, List.map_append, List.flatten_append, ho]
    rfl
  · rw [EditsSorted_j2_eq, hr, chk_le (by omega), chk_le (by omega), chk_le (by omega), chk_le (by omega), chk_le (by omega), chk_le (by omega), chk_le (by omega), Int.toNat_natCast, Int.toNat_natCast]
    show Option.bind (Hp.cs (Hp.new h 41 (.p TS1) [e]) 3 (rcut 3 at_ O.length r)) _ = _
    rw [c0, obs]
    show chk _ (Option.bind (Hp.app (Hp.new h 41 (.p TS1) [e]) 41 3 _ (O.length - at_) (.at h.nx 0 1)) _) = _
    rw [a1, obs, c2, obs]
    show chk _ (chk _ (Option.bind (Hp.apc s.2 41 3 _ (O.length - at_ + 1) (rcut 3 0 at_ r) _) _)) = _
    rw [show Int.toNat ((at_ : Int) - 0) = at_ by omega, c4, obs, wrap_id (by omega) (by omega)]
    have e1 : rlen (Rf.at h.nx 0 1) = 1 := rfl
    have e2 : rlen (rcut 3 (Int.toNat 0) at_ r) ≤ 1000 := by
      rcases hs with ⟨_, rfl⟩ | ⟨_, n, _, rfl, _⟩
      · exact Nat.zero_le _
      · show at_ - _ ≤ 1000
        omega
    rw [chk_lt (by rw [e1]; show ((1 : Nat) : Int) + ((O.length - at_ : Nat) : Int) < _; omega), chk_lt (by show ((rlen (rcut 3 (Int.toNat 0) at_ r) : Nat) : Int) + ((O.length - at_ + 1 : Nat) : Int) < _; omega)]
theorem es_l1 (K : Nat) (h : Hp) (r x7 : Rf) (e : Ed) (x8 x9 : Int) (hf : FreeH h) (h9 : 0 ≤ x9) (h9' : x9 ≤ 1000) (hK : 1 ≤ K) (m : Nat) : ∀ (q p : List Ed) (k : Nat), SlL h 41 TS1 r (p ++ q).reverse → (p ++ q).length ≤ 1000 → 2 * q.length + 2 + m ≤ k →
    ∃ k' h' r', m ≤ k' ∧ EditsSorted_l1 K k r (0 : Int) [e] (q.length : Int) x7 x8 x9 h = EditsSorted_l0 K k' r' x7 x8 (x9 + 1) h' ∧ SlL h' 41 TS1 r' (p ++ insV eLt e q).reverse ∧ KeepH h h' ∧ FreeH h'
  | [], p, k, hs, hl, hk => by
    simp only [List.length_nil] at hk
    obtain ⟨k, rfl⟩ : ∃ m, k = m + 1 := ⟨k - 1, by omega⟩
    obtain ⟨k, rfl⟩ : ∃ m, k = m + 1 := ⟨k - 1, by omega⟩
    rw [EditsSorted_l1_eq, br_ge (by simp)]
    obtain ⟨h', r', g1, g2, g3, g4⟩ := es_j2 K k h r x7 _ e x8 x9 hs hf 0 (Nat.zero_le _) (by rw [List.length_reverse]; exact hl) h9 h9'
    refine ⟨k, h', r', by omega, g1, ?_, g3, g4⟩
    have : (p ++ insV eLt e []).reverse = (p ++ []).reverse.take 0 ++ e :: (p ++ []).reverse.drop 0 := by simp [insV]
    rw [this]
    exact g2
  | x :: q, p, k, hs, hl, hk => by
    simp only [List.length_cons] at hk
    obtain ⟨k, rfl⟩ : ∃ m, k = m + 1 := ⟨k - 1, by omega⟩
    obtain ⟨k, rfl⟩ : ∃ m, k = m + 1 := ⟨k - 1, by omega⟩
    have hlen : (p ++ x :: q).reverse.length = p.length + (q.length + 1) := by simp; omega
    have hl2 : p.length + (q.length + 1) ≤ 1000 := by simpa using hl
    have hw : IntKind.wrap IntKind.i64 (((x :: q).length : Int) - 1) = (q.length : Int) := by
      rw [wrap_id (by simp only [List.length_cons]; omega) (by simp only [List.length_cons]; omega)]
      simp only [List.length_cons]
      omega
    have hx : (p ++ x :: q).reverse[q.length]'(by omega) = x := by
      have : (p ++ x :: q).reverse[q.length]? = some x := by
        rw [List.reverse_append, List.reverse_cons, List.append_assoc, List.getElem?_append_right (by simp)]
        simp
      exact (List.getElem?_eq_some_iff.1 this).2
    have hj2 : ∀ kk, m ≤ kk → (insV eLt e (x :: q) = e :: x :: q) → ∃ k' h' r', m ≤ k' ∧ EditsSorted_j2 K (kk + 1) r (0 : Int) [e] ((x :: q).length : Int) x7 x8 x9 h = EditsSorted_l0 K k' r' x7 x8 (x9 + 1) h' ∧ SlL h' 41 TS1 r' (p ++ insV eLt e (x :: q)).reverse ∧ KeepH h h' ∧ FreeH h' := by
      intro kk hkk hi
      obtain ⟨h', r', g1, g2, g3, g4⟩ := es_j2 K kk h r x7 _ e x8 x9 hs hf (x :: q).length (by rw [hlen]; simp) (by omega) h9 h9'
      refine ⟨kk, h', r', hkk, g1, ?_, g3, g4⟩
      rw [hi]
      have : (p ++ e :: x :: q).reverse = (p ++ x :: q).reverse.take (x :: q).length ++ e :: (p ++ x :: q).reverse.drop (x :: q).length := by
        rw [show (p ++ x :: q).reverse = (x :: q).reverse ++ p.reverse from List.reverse_append .., List.take_left' (by simp), List.drop_left' (by simp)]
        simp
      rw [this]
      exact g2
    rw [EditsSorted_l1_eq, br_lt (by simp only [List.length_cons]; omega), hw, hs.rlen, chk_le (by omega), chk_lt (by omega), SlL.ld3 hs q.length (by omega), obs, hx]
    have hn : nth TS1 [e] (0 : Int) = e := nth_mid TS1 [] e []
    rw [hn, EditBefore_ok K e x hK, obs]
    by_cases hc : eLt e x = true
    · rw [hc, br_true, EditsSorted_j1_eq, hw]
      obtain ⟨k', h', r', g1, g2, g3, g4, g5⟩ := es_l1 K h r x7 e x8 x9 hf h9 h9' hK m q (p ++ [x]) k (by rw [List.append_assoc]; exact hs) (by rw [List.append_assoc]; exact hl) (by omega)
      refine ⟨k', h', r', g1, g2, ?_, g4, g5⟩
      rw [insV_cons, if_pos hc]
      rw [List.append_assoc] at g3
      exact g3
    · have hc' : eLt e x = false := by cases hb : eLt e x with | true => exact absurd hb hc | false => rfl
      rw [hc', br_false]
      exact hj2 k (by omega) (by rw [insV_cons, if_neg hc])
theorem EditsSorted_ok (K : Nat) (h0 : Hp) (x7 : Rf) (L : List Ed) (hs0 : SlL h0 41 TS1 x7 L) (hf0 : FreeH h0) (hl : L.length ≤ 100) (hK : 40000 ≤ K) : ∃ h' r, EditsSorted K h0 x7 = some (h', r) ∧ SlL h' 41 TS1 r (isV eLt L).reverse ∧ KeepH h0 h' ∧ FreeH h' := by
  obtain ⟨K, rfl⟩ : ∃ m, K = m + 1 := ⟨K - 1, by omega⟩
  rw [EditsSorted_eq, hs0.rlen]
  have key : ∀ (R P : List Ed) (h : Hp) (r : Rf) (k : Nat), P ++ R = L → SlL h 41 TS1 r (isV eLt P).reverse → KeepH h0 h → FreeH h → 300 * R.length + 1 ≤ k →
      ∃ h' r', EditsSorted_l0 K k r x7 (L.length : Int) (P.length : Int) h = some (h', r') ∧ SlL h' 41 TS1 r' (isV eLt L).reverse ∧ KeepH h0 h' ∧ FreeH h' := by
    intro R
    induction R with
    | nil =>
      intro P h r k hP hs hk0 hf hk
      rw [List.append_nil] at hP
      obtain ⟨k, rfl⟩ : ∃ m, k = m + 1 := ⟨k - 1, by omega⟩
      exact ⟨h, r, by rw [hP, EditsSorted_l0_eq, br_ge (by omega)], hP ▸ hs, hk0, hf⟩
    | cons e R ih =>
      intro P h r k hP hs hk0 hf hk
      simp only [List.length_cons] at hk
      have hll : L.length = P.length + (R.length + 1) := by rw [← hP]; simp
      obtain ⟨k, rfl⟩ : ∃ m, k = m + 1 := ⟨k - 1, by omega⟩
      obtain ⟨k, rfl⟩ : ∃ m, k = m + 1 := ⟨k - 1, by omega⟩
      have hL : L[P.length]'(by omega) = e := by
        have : L[P.length]? = some e := by rw [← hP]; simp
        exact (List.getElem?_eq_some_iff.1 this).2
      have hsx := hs0.keep hk0
      have hrl := hs.rlen
      rw [List.length_reverse, isV_length] at hrl
      rw [EditsSorted_l0_eq, br_lt (by omega), EditsSorted_j0_eq, hsx.rlen, chk_le (by omega), chk_lt (by omega), SlL.ld3 hsx P.length (by omega), obs, hL, hrl]
      obtain ⟨k', h1, r1, g1, g2, g3, g4, g5⟩ := es_l1 K h r x7 e (L.length : Int) (P.length : Int) hf (by omega) (by omega) (by omega) (300 * R.length + 1) (isV eLt P) [] k (by exact hs) (by rw [List.nil_append, isV_length]; omega) (by rw [isV_length]; omega)
      rw [isV_length] at g2
      rw [g2]
      have e1 : ([] ++ insV eLt e (isV eLt P)) = isV eLt (P ++ [e]) := by rw [isV_snoc]; rfl
      rw [e1] at g3
      obtain ⟨h2, r2, u1, u2, u3, u4⟩ := ih (P ++ [e]) h1 r1 k' (by rw [List.append_assoc]; exact hP) g3 (hk0.trans g4) g5 g1
      rw [List.length_append] at u1
      exact ⟨h2, r2, u1, u2, u3, u4⟩
  exact key L [] h0 .nil K rfl (.inl ⟨rfl, rfl⟩) (KeepH.refl h0) hf0 (by omega)
theorem EditsSame_ok (K : Nat) (h : Hp) (r1 r2 : Rf) (L M : List Ed) (h1 : SlL h 41 TS1 r1 L) (h2 : SlL h 41 TS1 r2 M) (hl : L.length ≤ 1000000) (hK : 2 * L.length + 6 ≤ K) : EditsSame K h r1 r2 = some (h, decide (L = M)) := by
  obtain ⟨K, rfl⟩ : ∃ m, K = m + 1 := ⟨K - 1, by omega⟩
  rw [EditsSame_eq, h1.rlen, h2.rlen, br_not]
  by_cases hn : L.length = M.length
  · rw [br_eq (by omega)]
    obtain ⟨K, rfl⟩ : ∃ m, K = m + 1 := ⟨K - 1, by omega⟩
    rw [EditsSame_j0_eq, h1.rlen]
    have key : ∀ (R P Q S : List Ed) (k : Nat), P ++ R = L → Q ++ S = M → P = Q → R.length = S.length → 2 * R.length + 1 ≤ k → EditsSame_l0 (K + 1) k r1 r2 (L.length : Int) (P.length : Int) h = some (h, decide (L = M)) := by
      intro R
      induction R with
      | nil =>
        intro P Q S k hP hQ hPQ hRS hk
        obtain ⟨k, rfl⟩ : ∃ m, k = m + 1 := ⟨k - 1, by omega⟩
        rw [List.append_nil] at hP
        have hS : S = [] := List.eq_nil_of_length_eq_zero hRS.symm
        subst hS
        rw [List.append_nil] at hQ
        rw [EditsSame_l0_eq, br_ge (by rw [hP]; omega), decide_eq_true (by rw [← hP, ← hQ, hPQ])]
      | cons e R ih =>
        intro P Q S k hP hQ hPQ hRS hk
        simp only [List.length_cons] at hk
        match S, hRS with
        | s :: S, hRS =>
          have hll : L.length = P.length + (R.length + 1) := by rw [← hP]; simp
          have hlm : M.length = P.length + (S.length + 1) := by rw [← hQ, hPQ]; simp
          obtain ⟨k, rfl⟩ : ∃ m, k = m + 1 := ⟨k - 1, by omega⟩
          obtain ⟨k, rfl⟩ : ∃ m, k = m + 1 := ⟨k - 1, by omega⟩
          have hL : L[P.length]'(by omega) = e := by
            have : L[P.length]? = some e := by rw [← hP]; simp
            exact (List.getElem?_eq_some_iff.1 this).2
          have hM : M[P.length]'(by omega) = s := by
            have : M[P.length]? = some s := by rw [← hQ, hPQ]; simp
            exact (List.getElem?_eq_some_iff.1 this).2
          rw [EditsSame_l0_eq, br_lt (by omega), EditsSame_j1_eq, h1.rlen, h2.rlen, chk_le (by omega), chk_lt (by omega), SlL.ld3 h1 P.length (by omega), obs, chk_le (by omega), chk_lt (by omega), SlL.ld3 h2 P.length (by omega), obs, hL, hM, br_not]
          have hq : Bool.and (eqI e.1 s.1) (Bool.and (eqI e.2.1 s.2.1) (eqS e.2.2 s.2.2)) = decide (e = s) := by
            rw [eqI_eq, eqI_eq, eqS_iff]
            obtain ⟨a, b, c⟩ := e
            obtain ⟨a', b', c'⟩ := s
            simp only [Prod.mk.injEq, Bool.and, Bool.decide_and]
          have hq' : Bool.and (eqI (e.1 : Int) (s.1 : Int)) (Bool.and (eqI (e.2.1 : Int) (s.2.1 : Int)) (eqS e.2.2 s.2.2)) = decide (e = s) := hq
          rw [hq']
          by_cases hes : e = s
          · rw [decide_eq_true hes, br_true, wrap_id (by omega) (by omega)]
            have := ih (P ++ [e]) (Q ++ [s]) S k (by rw [List.append_assoc]; exact hP) (by rw [List.append_assoc]; exact hQ) (by rw [hPQ, hes]) (by simpa using hRS) (by omega)
            rw [← this, List.length_append]
            rfl
          · rw [decide_eq_false hes, br_false, decide_eq_false]
            intro hLM
            apply hes
            have : L[P.length]? = M[P.length]? := by rw [hLM]
            rw [← hP, ← hQ, hPQ] at this
            simpa using this
    exact key L [] [] M K rfl rfl rfl hn (by omega)
  · rw [br_ne (by omega), decide_eq_false (by rintro rfl; exact hn rfl)]
end Go.Proofs.Ytfglahmbnnkijaa.E
