import Derived.Test.YtaabfadjemmibaaDoorVD
/- The form of merged differences. -/
set_option linter.unusedVariables false
set_option linter.unusedSimpArgs false
namespace Go.Proofs.YtaabfadjemmibaaDoor.E
open Go.Ev
theorem ends_ok (K : Nat) (a b : List Int) (ha : Okl a) (hb : Okl b) (hl : a.length ≤ 1000000000000) (hK : 1 ≤ K) : cleanEnds K (strOfRunes a) (strOfRunes b) = some (decide (b <:+ a)) := by
  obtain ⟨K, rfl⟩ : ∃ m, K = m + 1 := ⟨K - 1, by omega⟩
  have h := hasSuffix_ok (K + 1 + 1) a b ha hb hl (by omega)
  rw [strings_HasSuffix_eq, Option.bind_fun_some, stringslite_HasSuffix_eq] at h
  rw [cleanEnds_eq]
  exact h
theorem begins_ok (K : Nat) (a b : List Int) (ha : Okl a) (hb : Okl b) (hl : a.length ≤ 1000000000000) (hK : 1 ≤ K) : cleanBegins K (strOfRunes a) (strOfRunes b) = some (decide (b <+: a)) := by
  obtain ⟨K, rfl⟩ : ∃ m, K = m + 1 := ⟨K - 1, by omega⟩
  have h := hasPrefix_ok (K + 1 + 1) a b ha hb hl (by omega)
  rw [strings_HasPrefix_eq, Option.bind_fun_some, stringslite_HasPrefix_eq] at h
  rw [cleanBegins_eq]
  exact h
/-- Neighbours. -/
def adj (a b : M) : Prop := a.1 ≠ b.1 ∧ ¬ (a.1 = 1 ∧ b.1 = -1) ∧ (a.1 = -1 → b.1 = 1 → cpl b.2 a.2 = 0 ∧ csl b.2 a.2 = 0)
def Ch : List M → Prop
  | [] => True
  | [_] => True
  | a :: b :: l => adj a b ∧ Ch (b :: l)
theorem Ch.tail {a : M} : ∀ {l : List M}, Ch (a :: l) → Ch l
  | [], _ => trivial
  | _ :: _, h => h.2
theorem Ch.app : ∀ {A : List M} {a b : M} {B : List M}, Ch (A ++ [a]) → Ch (b :: B) → adj a b → Ch (A ++ a :: b :: B)
  | [], _, _, _, _, h2, h3 => ⟨h3, h2⟩
  | [_], _, _, _, h1, h2, h3 => ⟨h1.1, h3, h2⟩
  | _ :: y :: A, _, _, _, h1, h2, h3 => ⟨h1.1, Ch.app (A := y :: A) h1.2 h2 h3⟩
theorem Ch.left : ∀ {A B : List M}, Ch (A ++ B) → Ch A
  | [], _, _ => trivial
  | [_], _, _ => trivial
  | _ :: y :: A, _, h => ⟨h.1, Ch.left (A := y :: A) h.2⟩
theorem Ch.right : ∀ {A B : List M}, Ch (A ++ B) → Ch B
  | [], _, h => h
  | _ :: A, _, h => Ch.right (A := A) h.tail
theorem Ch.last : ∀ {A : List M} {t : Int} {x y : List Int}, t = 0 → Ch (A ++ [(t, x)]) → Ch (A ++ [(t, y)])
  | [], _, _, _, _, _ => trivial
  | [a], t, x, y, ht, h => by
    refine ⟨⟨h.1.1, h.1.2.1, fun _ h1 => ?_⟩, trivial⟩
    have h1 : t = 1 := h1
    omega
  | _ :: b :: A, t, x, y, ht, h => ⟨h.1, Ch.last (A := b :: A) ht h.2⟩
theorem Ch.at_ : ∀ {l : List M} (i : Nat) (h : i + 1 < l.length), Ch l → adj l[i] l[i + 1]
  | [], i, h, _ => by simp at h
  | [_], i, h, _ => by simp at h
  | a :: b :: l, 0, _, hc => hc.1
  | a :: b :: l, i + 1, h, hc => Ch.at_ (l := b :: l) i (by simpa using h) hc.2
/-- A run of edits, merged. -/
theorem nrm_cut (R : List M) : Ch (nrm R).2.1 := by
  obtain ⟨d, i, h1, _⟩ := nrm_spec R
  by_cases h : cD R = 0 ∨ cI R = 0
  · rw [h1]
    unfold mk
    rcases h with h | h
    · rw [if_pos h]; trivial
    · by_cases hc : cD R = 0
      · rw [if_pos hc]; trivial
      · rw [if_neg hc, if_pos h]; trivial
  · rw [show nrm R = (_, _, _) from if_neg h]
    simp only []
    generalize hd : ((sideD R).drop (cpl (sideI R) (sideD R))).take (((sideD R).drop (cpl (sideI R) (sideD R))).length - csl ((sideI R).drop (cpl (sideI R) (sideD R))) ((sideD R).drop (cpl (sideI R) (sideD R)))) = d
    generalize hi : ((sideI R).drop (cpl (sideI R) (sideD R))).take (((sideI R).drop (cpl (sideI R) (sideD R))).length - csl ((sideI R).drop (cpl (sideI R) (sideD R))) ((sideD R).drop (cpl (sideI R) (sideD R)))) = i
    have e1 : cpl i d = 0 := by rw [← hd, ← hi]; exact cpl_zero_take (cpl_drop _ _) _ _
    have e2 : csl i d = 0 := by rw [← hd, ← hi]; exact csl_take _ _
    have hmk : mk (cD R) (cI R) d i = [(-1, d), (1, i)] := by
      unfold mk
      rw [if_neg (fun h' => h (.inl h')), if_neg (fun h' => h (.inr h'))]
    rw [hmk]
    exact ⟨⟨show (-1 : Int) ≠ 1 by decide, fun h => absurd (show (-1 : Int) = 1 from h.1) (by decide), fun _ _ => ⟨e1, e2⟩⟩, trivial⟩
theorem adj_eq_ed {x : List Int} {m : M} (hm : m.1 = 1 ∨ m.1 = -1) : adj (0, x) m ∧ adj m (0, x) := by
  refine ⟨⟨?_, ?_, ?_⟩, ⟨?_, ?_, ?_⟩⟩
  · show (0 : Int) ≠ m.1
    omega
  · rintro ⟨h, _⟩
    exact absurd (show (0 : Int) = 1 from h) (by decide)
  · intro h
    exact absurd (show (0 : Int) = -1 from h) (by decide)
  · show m.1 ≠ (0 : Int)
    omega
  · rintro ⟨_, h⟩
    exact absurd (show (0 : Int) = -1 from h) (by decide)
  · intro _ h
    exact absurd (show (0 : Int) = 1 from h) (by decide)
/-- An equality, a run of edits that is one or merged, an equality. -/
theorem Ch.run {A : List M} {x y : List Int} {W : List M} (h1 : Ch (A ++ [(0, x)])) (hW : Ch W) (hE : Edits W) (hne : W ≠ []) : Ch (A ++ [(0, x)] ++ W ++ [(0, y)]) := by
  obtain ⟨w, W', rfl⟩ := List.exists_cons_of_ne_nil hne
  have k1 : Ch (A ++ (0, x) :: w :: W') := Ch.app h1 hW (adj_eq_ed (hE w (List.mem_cons_self ..))).1
  obtain ⟨B, z, hB⟩ : ∃ B z, w :: W' = B ++ [z] := ⟨_, _, (List.dropLast_concat_getLast (by simp : w :: W' ≠ [])).symm⟩
  have hz := hE z (by rw [hB]; simp)
  rw [hB] at k1 ⊢
  have k2 : Ch ((A ++ (0, x) :: B) ++ [z]) := by simpa using k1
  have := Ch.app (B := []) k2 trivial (adj_eq_ed (x := y) hz).2
  simpa using this
theorem Ch.run0 {y : List Int} {W : List M} (hW : Ch W) (hE : Edits W) : Ch (W ++ [(0, y)]) := by
  cases hW0 : W with
  | nil => trivial
  | cons w W' =>
    obtain ⟨B, z, hB⟩ : ∃ B z, W = B ++ [z] := ⟨_, _, (List.dropLast_concat_getLast (by rw [hW0]; simp)).symm⟩
    have hz := hE z (by rw [hB]; simp)
    rw [← hW0]
    rw [hB] at hW ⊢
    have := Ch.app (B := []) hW trivial (adj_eq_ed (x := y) hz).2
    simpa using this
theorem push_ch {D : Dn} (h : Ch (toL D)) (P : List Int) : Ch (toL (pushP D P)) := by
  unfold pushP
  split
  · exact h
  · match D, h with
    | none, _ => trivial
    | some (D0, e), h => exact Ch.last rfl h
theorem toL_end (D : Dn) : D = none ∨ ∃ D0 e, D = some (D0, e) := by
  match D with
  | none => exact .inl rfl
  | some (D0, e) => exact .inr ⟨D0, e, rfl⟩
theorem toL_run {D : Dn} (h : Ch (toL D)) {W : List M} (hW : Ch W) (hE : Edits W) (hne : W ≠ []) (y : List Int) : Ch (toL D ++ W ++ [(0, y)]) := by
  rcases toL_end D with rfl | ⟨D0, e, rfl⟩
  · exact Ch.run0 hW hE
  · exact Ch.run h hW hE hne
theorem step_ch {D : Dn} (h : Ch (toL D)) {R : List M} (hR : Edits R) (x : List Int) : Ch (toL (stepE D R x)) := by
  by_cases h2 : 2 ≤ R.length
  · rw [show stepE D R x = some (toL (pushP D (nrm R).1) ++ (nrm R).2.1, (nrm R).2.2 ++ x) from if_pos h2]
    obtain ⟨d, i, hW, _⟩ := nrm_spec R
    have hE : Edits (nrm R).2.1 := by rw [hW]; exact mk_edits _ _ _ _
    exact toL_run (push_ch h _) (nrm_cut R) hE (fun h0 => by have := nrm_pos R; rw [h0] at this; simp at this) _
  · rw [show stepE D R x = one D R x from if_neg h2]
    match D, R, h, hR, h2 with
    | some (D0, e), [], h, _, _ => exact Ch.last rfl h
    | none, [], _, _, _ => trivial
    | D, m :: R, h, hR, h2 =>
      rw [one_ne D (m :: R) x (by simp)]
      have hR1 : R = [] := by
        cases R with
        | nil => rfl
        | cons a b => simp at h2
      subst hR1
      exact toL_run h (W := [m]) trivial hR (by simp) x
theorem pass1_ch : ∀ (T : List M) (D : Dn) (R : List M), Ch (toL D) → Edits R → Typed T → Ch (pass1 D R (T ++ [(0, [])]))
  | [], D, R, hD, hR, _ => by
    have := step_ch hD hR []
    show Ch (pass1 (stepE D R []) [] [])
    rw [pass1, List.append_nil]
    exact this
  | m :: T, D, R, hD, hR, tT => by
    rw [List.cons_append, pass1]
    by_cases hm : m.1 = 0
    · rw [if_pos hm]
      exact pass1_ch T _ [] (step_ch hD hR _) Edits.nil tT.tail
    · rw [if_neg hm]
      exact pass1_ch T D _ hD (hR.snoc ((tT m (List.mem_cons_self ..)).resolve_left hm)) tT.tail
theorem cutEnd_ch {l : List M} (h : Ch l) : Ch (cutEnd l) := by
  unfold cutEnd
  split
  · rename_i t ht
    have hne : l ≠ [] := by rintro rfl; cases ht
    have := List.dropLast_concat_getLast hne
    rw [← this] at h
    exact h.left
  · exact h
theorem p1_ch (l : List M) (tT : Typed l) : Ch (p1 l) := cutEnd_ch (pass1_ch l none [] trivial Edits.nil tT)
/-- No edit alone can be moved. -/
def Tri (l : List M) : Prop := ∀ (i : Nat) (h : i + 2 < l.length), l[i].1 = 0 → l[i + 2].1 = 0 → ¬ l[i].2 <:+ l[i + 1].2 ∧ ¬ l[i + 2].2 <+: l[i + 1].2
theorem p2_tri : ∀ (n : Nat) (l : List M), l.length ≤ n → (p2 l).2 = false → Tri l
  | n, l, hl, hp => by
    by_cases h3 : l.length ≤ 2
    · intro i h; omega
    · obtain ⟨a, b, c, B, rfl⟩ := three h3
      simp only [List.length_cons] at hl
      obtain ⟨n, rfl⟩ : ∃ m, n = m + 1 := ⟨n - 1, by omega⟩
      have go : (p2 (b :: c :: B)).2 = false → (a.1 = 0 → c.1 = 0 → ¬ a.2 <:+ b.2 ∧ ¬ c.2 <+: b.2) → Tri (a :: b :: c :: B) := by
        intro h1 h2 i h
        have ih := p2_tri n (b :: c :: B) (by simp; omega) h1
        cases i with
        | zero => exact h2
        | succ i => exact ih i (by simpa using h)
      by_cases hac : a.1 = 0 ∧ c.1 = 0
      · by_cases hs : a.2 <:+ b.2
        · rw [p2, if_pos hac, if_pos hs] at hp
          cases hp
        · by_cases hpf : c.2 <+: b.2
          · rw [p2, if_pos hac, if_neg hs, if_pos hpf] at hp
            cases hp
          · rw [p2, if_pos hac, if_neg hs, if_neg hpf] at hp
            exact go hp (fun _ _ => ⟨hs, hpf⟩)
      · rw [p2, if_neg hac] at hp
        exact go hp (fun h1 h2 => absurd ⟨h1, h2⟩ hac)
termination_by n => n
theorem nthE (l : List M) (i : Nat) (h : i < l.length) : nth TS0 (enc l) (i : Int) = ((l[i]).1, strOfRunes (l[i]).2) := by
  have := nth_at TS0 (enc l) i (by rw [enc_len]; exact h)
  rw [this]
  exact getE h
theorem cpl0 {x y : List Int} (hx : x ≠ []) (hy : y ≠ []) (h : cpl x y = 0) : x[0]'(List.length_pos_iff.2 hx) ≠ y[0]'(List.length_pos_iff.2 hy) := by
  have := cpl_max x y (by rw [h]; exact List.length_pos_iff.2 hx) (by rw [h]; exact List.length_pos_iff.2 hy)
  simpa [h] using this
theorem csl0 {x y : List Int} (hx : x ≠ []) (hy : y ≠ []) (h : csl x y = 0) : x[x.length - 1]'(by have := List.length_pos_iff.2 hx; omega) ≠ y[y.length - 1]'(by have := List.length_pos_iff.2 hy; omega) := by
  have hx' : x.reverse ≠ [] := by simpa using hx
  have hy' : y.reverse ≠ [] := by simpa using hy
  have := cpl0 hx' hy' h
  simpa [List.getElem_reverse] using this
theorem str_ne {x : List Int} (h : Okl x) (hx : x ≠ []) : eqS (strOfRunes x) ⟨#[]⟩ = false := by
  rw [eqS_iff]
  refine decide_eq_false fun e => hx ?_
  have := congrArg ByteArray.size e
  exact (strOfRunes_size0 h).1 this
set_option maxHeartbeats 1000000 in
theorem merged_loop (K : Nat) (l : List M) (hl : wt l ≤ 1000000) (ho : Okm l) (hne : ∀ m ∈ l, m.2 ≠ []) (tT : Typed l) (hc : Ch l) (ht : Tri l) (hK : 1 ≤ K) : ∀ (d i k : Nat), i + d = l.length → 12 * d + 1 ≤ k →
    CleanMerged_l0 K k (enc l) (l.length : Int) (i : Int) = some true
  | 0, i, k, h, hk => by
    obtain ⟨k, rfl⟩ : ∃ m, k = m + 1 := ⟨k - 1, by omega⟩
    rw [CleanMerged_l0_eq, br_ge (by omega)]
  | d + 1, i, k, h, hk => by
    obtain ⟨k, rfl⟩ : ∃ m, k = m + 11 := ⟨k - 11, by omega⟩
    have hi : i < l.length := by omega
    have hwl := wt_len l
    have len_le : ∀ (j : Nat) (hj : j < l.length), (l[j]).2.length ≤ 1000000 := fun j hj => by
      have : ∀ (l : List M), ∀ m ∈ l, m.2.length ≤ wt l := by
        intro l
        induction l with
        | nil => intro m hm; cases hm
        | cons a l ih =>
          intro m hm
          rcases List.mem_cons.1 hm with rfl | hm
          · simp only [wt]; omega
          · have := ih m hm; simp only [wt]; omega
      exact Nat.le_trans (this l _ (List.getElem_mem hj)) hl
    have ne : ∀ (j : Nat) (hj : j < l.length), (l[j]).2 ≠ [] := fun j hj => hne _ (List.getElem_mem hj)
    have ok : ∀ (j : Nat) (hj : j < l.length), Okl (l[j]).2 := fun j hj => ho _ (List.getElem_mem hj)
    have ih : ∀ k', 12 * d + 1 ≤ k' → CleanMerged_l0 K k' (enc l) (l.length : Int) (IntKind.i64.wrap ((i : Int) + 1)) = some true := fun k' hk' => by
      have := merged_loop K l hl ho hne tT hc ht hK d (i + 1) k' (by omega) hk'
      rw [wrap_id (by omega) (by omega)]
      exact this
    have j8 : ∀ k', 12 * d + 2 ≤ k' → CleanMerged_j8 K k' (enc l) (l.length : Int) (i : Int) false = some true := fun k' hk' => by
      obtain ⟨k', rfl⟩ : ∃ m, k' = m + 1 := ⟨k' - 1, by omega⟩
      rw [CleanMerged_j8_eq, br_false]
      exact ih k' (by omega)
    rw [CleanMerged_l0_eq, br_lt (by omega), CleanMerged_j0_eq, enc_len, chk_le (by omega), chk_lt (by omega), nthE l i hi]
    simp only []
    rw [str_ne (ok i hi) (ne i hi), br_false, CleanMerged_j1_eq]
    by_cases hi0 : i = 0
    · subst hi0
      rw [br_eq (show ((0 : Nat) : Int) = 0 from rfl)]
      exact ih _ (by omega)
    · obtain ⟨j, rfl⟩ : ∃ j, i = j + 1 := ⟨i - 1, by omega⟩
      have hj : j < l.length := by omega
      have w1 : IntKind.i64.wrap (((j + 1 : Nat) : Int) - 1) = (j : Int) := by rw [wrap_id (by omega) (by omega)]; omega
      rw [br_ne (by omega), CleanMerged_j2_eq, w1, enc_len, chk_le (by omega), chk_lt (by omega), nthE l j hj]
      obtain ⟨a1, a2, a3⟩ := Ch.at_ j hi hc
      have n0 : ∀ x : TS0.den, nth TS0 [x] 0 = x := fun _ => rfl
      rw [n0]
      simp only []
      have j3 : (br (eqI (l[j]).1 1)
          (CleanMerged_j3 K (k + 7) (enc l) ((j + 1 : Nat) : Int) 0 [((l[j + 1]).1, strOfRunes (l[j + 1]).2)] 0 [((l[j]).1, strOfRunes (l[j]).2)] (l.length : Int) ((j + 1 : Nat) : Int) (eqI (l[j + 1]).1 (-1)))
          (CleanMerged_j3 K (k + 7) (enc l) ((j + 1 : Nat) : Int) 0 [((l[j + 1]).1, strOfRunes (l[j + 1]).2)] 0 [((l[j]).1, strOfRunes (l[j]).2)] (l.length : Int) ((j + 1 : Nat) : Int) false)) =
          CleanMerged_j3 K (k + 7) (enc l) ((j + 1 : Nat) : Int) 0 [((l[j + 1]).1, strOfRunes (l[j + 1]).2)] 0 [((l[j]).1, strOfRunes (l[j]).2)] (l.length : Int) ((j + 1 : Nat) : Int) false := by
        by_cases e1 : (l[j]).1 = 1
        · rw [br_eq e1, eqI_f (fun e2 => a2 ⟨e1, e2⟩)]
        · rw [br_ne e1]
      have j7 : ∀ k', 12 * d + 3 ≤ k' → CleanMerged_j7 K k' (enc l) ((j + 1 : Nat) : Int) 0 [((l[j + 1]).1, strOfRunes (l[j + 1]).2)] 0 [((l[j]).1, strOfRunes (l[j]).2)] (l.length : Int) ((j + 1 : Nat) : Int) = some true := fun k' hk' => by
        obtain ⟨k', rfl⟩ : ∃ m, k' = m + 1 := ⟨k' - 1, by omega⟩
        rw [CleanMerged_j7_eq]
        by_cases hj0 : j = 0
        · subst hj0
          rw [br_ge (by omega)]
          exact j8 _ (by omega)
        · obtain ⟨q, rfl⟩ : ∃ q, j = q + 1 := ⟨j - 1, by omega⟩
          have hq : q < l.length := by omega
          have w2 : IntKind.i64.wrap (((q + 1 + 1 : Nat) : Int) - 2) = (q : Int) := by rw [wrap_id (by omega) (by omega)]; omega
          rw [br_lt (by omega), w2, enc_len, nthE l q hq, n0, n0]
          simp only []
          rw [chk_le (by omega), chk_lt (by omega)]
          by_cases e1 : (l[q]).1 = 0
          · rw [br_eq e1, br_not]
            by_cases e2 : (l[q + 1]).1 = 0
            · rw [br_eq e2]; exact j8 _ (by omega)
            · rw [br_ne e2]
              by_cases e3 : (l[q + 1 + 1]).1 = 0
              · obtain ⟨t1, t2⟩ := ht q hi e1 e3
                have s1 := len_le (q + 1) hj
                rw [br_eq e3, chk_le (by omega), chk_lt (by omega), ends_ok K _ _ (ok _ hj) (ok _ hq) (by omega) hK, decide_eq_false t1]
                simp only [Option.bind_some]
                rw [br_false, begins_ok K _ _ (ok _ hj) (ok _ hi) (by omega) hK, decide_eq_false t2]
                exact j8 _ (by omega)
              · rw [br_ne e3]; exact j8 _ (by omega)
          · rw [br_ne e1]; exact j8 _ (by omega)
      rw [br_ne a1, j3, CleanMerged_j3_eq, br_false, CleanMerged_j4_eq, n0, n0]
      simp only []
      by_cases e1 : (l[j]).1 = -1
      · rw [br_eq e1]
        by_cases e2 : (l[j + 1]).1 = 1
        · obtain ⟨c1, c2⟩ := a3 e1 e2
          have p1 := List.length_pos_iff.2 (ne j hj)
          have p2 := List.length_pos_iff.2 (ne (j + 1) hi)
          have l1 := len_le j hj
          have l2 := len_le (j + 1) hi
          have f1 := cpl0 (ne (j + 1) hi) (ne j hj) c1
          have f2 := csl0 (ne (j + 1) hi) (ne j hj) c2
          rw [eqI_t e2, CleanMerged_j5_eq, br_true, n0, n0]
          simp only []
          rw [runesI_of (ok j hj), runesI_of (ok (j + 1) hi)]
          have w3 : IntKind.i64.wrap (((l[j]).2.length : Int) - 1) = (((l[j]).2.length - 1 : Nat) : Int) := by rw [wrap_id (by omega) (by omega)]; omega
          have w4 : IntKind.i64.wrap (((l[j + 1]).2.length : Int) - 1) = (((l[j + 1]).2.length - 1 : Nat) : Int) := by rw [wrap_id (by omega) (by omega)]; omega
          rw [w3, w4]
          have r1 := rdI (l[j]).2 0 p1
          have r2 := rdI (l[j + 1]).2 0 p2
          have r3 := rdI (l[j]).2 ((l[j]).2.length - 1) (by omega)
          have r4 := rdI (l[j + 1]).2 ((l[j + 1]).2.length - 1) (by omega)
          rw [show ((0 : Nat) : Int) = 0 from rfl] at r1 r2
          rw [r1, r2, r3, r4, chk_nle (by omega), chk_nle (by omega), chk_le (by omega), chk_lt (by omega), chk_le (by omega), chk_lt (by omega), br_ne (Ne.symm f1), chk_le (by omega), chk_lt (by omega), chk_le (by omega), chk_lt (by omega), eqI_f (Ne.symm f2), CleanMerged_j6_eq, br_false]
          exact j7 _ (by omega)
        · rw [eqI_f e2, CleanMerged_j5_eq, br_false]
          exact j7 _ (by omega)
      · rw [br_ne e1, CleanMerged_j5_eq, br_false]
        exact j7 _ (by omega)
theorem CleanMerged_ok (K : Nat) (l : List M) (hl : wt l ≤ 1000000) (ho : Okm l) (hne : ∀ m ∈ l, m.2 ≠ []) (tT : Typed l) (hc : Ch l) (ht : Tri l) (hK : 12 * l.length + 3 ≤ K) : CleanMerged K (enc l) = some true := by
  obtain ⟨K, rfl⟩ : ∃ m, K = m + 1 := ⟨K - 1, by omega⟩
  rw [CleanMerged_eq, enc_len]
  exact merged_loop K l hl ho hne tT hc ht (by omega) l.length 0 K (by omega) (by omega)
end Go.Proofs.YtaabfadjemmibaaDoor.E
