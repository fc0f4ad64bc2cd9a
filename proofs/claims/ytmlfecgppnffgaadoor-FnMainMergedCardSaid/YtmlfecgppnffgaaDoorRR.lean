import Derived.Test.YtmlfecgppnffgaaDoorRI
import Derived.Test.YtmlfecgppnffgaaDoorRQ
/- A difference has no empty pieces, and the form of merged ones. -/
set_option linter.unusedVariables false
set_option linter.unusedSimpArgs false
namespace Go.Proofs.YtmlfecgppnffgaaDoor.E
open Go.Ev
theorem p2_ne : ∀ (n : Nat) (l : List M), l.length ≤ n → NE l → NE (p2 l).1
  | n, l, hl, hn => by
    by_cases h3 : l.length ≤ 2
    · rw [p2_short l h3]; exact hn
    · obtain ⟨a, b, c, B, rfl⟩ := three h3
      simp only [List.length_cons] at hl
      obtain ⟨n, rfl⟩ : ∃ m, n = m + 1 := ⟨n - 1, by omega⟩
      have na := hn.head
      have nb := hn.tail.head
      have nc := hn.tail.tail.head
      have nB := hn.tail.tail.tail
      have skip := p2_ne n (b :: c :: B) (by simp; omega) hn.tail
      by_cases hac : a.1 = 0 ∧ c.1 = 0
      · by_cases hs : a.2 <:+ b.2
        · rw [p2, if_pos hac, if_pos hs]
          exact NE.cons (by simp [na]) (p2_ne n ((c.1, a.2 ++ c.2) :: B) (by simp; omega) (NE.cons (by simp [na]) nB))
        · by_cases hpf : c.2 <+: b.2
          · rw [p2, if_pos hac, if_neg hs, if_pos hpf]
            exact NE.cons (by simp [na]) (p2_ne n _ (by simp; omega) (NE.cons (by simp [nc]) nB))
          · rw [p2, if_pos hac, if_neg hs, if_neg hpf]
            exact NE.cons na skip
      · rw [p2, if_neg hac]
        exact NE.cons na skip
termination_by n => n
theorem dcm_ne : ∀ (n : Nat) (l : List M), mu l < n → Okm l → Typed l → NE l → mc l ≤ ed (side 1 l) (side (-1) l) → NE (dcm n l)
  | 0, l, hm, _, _, _, _ => by omega
  | n + 1, l, hm, oT, tT, hn, hle => by
    obtain ⟨D0, e, h1, h2, hw, o1, t1, s1, w1, m1⟩ := p1_spec l tT oT
    obtain ⟨s2, o2, t2, w2, m2, f2⟩ := p2_spec _ (p1 l) (Nat.le_refl _)
    have low := mc_least t1
    rw [s1 1 (.inl rfl), s1 (-1) (.inr rfl)] at low
    have n1 := p1_ne hn tT (by omega)
    have n2 := p2_ne _ (p1 l) (Nat.le_refl _) n1
    have c1 := p1_mc l tT oT
    have c2 := (p2_mc _ (p1 l) (Nat.le_refl _)).1
    rw [dcm]
    split
    · rename_i hf
      refine dcm_ne n (p2 (p1 l)).1 ?_ (o2 o1) (t2 t1) n2 ?_
      · rw [if_pos hf] at m2
        omega
      · rw [s2 1 (by omega), s2 (-1) (by omega), s1 1 (.inl rfl), s1 (-1) (.inr rfl)]
        omega
    · exact n2
theorem nrm_pos (R : List M) : 0 < (nrm R).2.1.length := by
  obtain ⟨d, i, h, _⟩ := nrm_spec R
  rw [h]
  unfold mk
  split
  · simp
  · split <;> simp
theorem one_ne (D : Dn) (R : List M) (x : List Int) (h : R ≠ []) : one D R x = some (toL D ++ R, x) := by
  unfold one
  split
  · exact absurd rfl h
  · rfl
def adj (a b : M) : Prop := a.1 ≠ b.1 ∧ ¬ (a.1 = 1 ∧ b.1 = -1) ∧ (a.1 = -1 → b.1 = 1 → cpl b.2 a.2 = 0 ∧ csl b.2 a.2 = 0)
def Ch : List M → Prop
  | [] => True
  | [_] => True
  | a :: b :: l => adj a b ∧ Ch (b :: l)
theorem Ch.tail {a : M} : ∀ {l : List M}, Ch (a :: l) → Ch l
  | [], _ => trivial
  | _ :: _, h => h.2
theorem Ch.app : ∀ {A : List M} {a b : M} {B : List M}, Ch (A ++ [a]) → Ch (b :: B) → adj a b → Ch (A ++ a :: b :: B)
  | [], _, _, _, _, h2, h3 => ⟨h3, h2⟩
  | [_], _, _, _, h1, h2, h3 => ⟨h1.1, h3, h2⟩
  | _ :: y :: A, _, _, _, h1, h2, h3 => ⟨h1.1, Ch.app (A := y :: A) h1.2 h2 h3⟩
theorem Ch.left : ∀ {A B : List M}, Ch (A ++ B) → Ch A
  | [], _, _ => trivial
  | [_], _, _ => trivial
  | _ :: y :: A, _, h => ⟨h.1, Ch.left (A := y :: A) h.2⟩
theorem Ch.right : ∀ {A B : List M}, Ch (A ++ B) → Ch B
  | [], _, h => h
  | _ :: A, _, h => Ch.right (A := A) h.tail
theorem Ch.last : ∀ {A : List M} {t : Int} {x y : List Int}, t = 0 → Ch (A ++ [(t, x)]) → Ch (A ++ [(t, y)])
  | [], _, _, _, _, _ => trivial
  | [a], t, x, y, ht, h => by
    refine ⟨⟨h.1.1, h.1.2.1, fun _ h1 => ?_⟩, trivial⟩
    have h1 : t = 1 := h1
    omega
  | _ :: b :: A, t, x, y, ht, h => ⟨h.1, Ch.last (A := b :: A) ht h.2⟩
theorem Ch.at_ : ∀ {l : List M} (i : Nat) (h : i + 1 < l.length), Ch l → adj l[i] l[i + 1]
  | [], i, h, _ => by simp at h
  | [_], i, h, _ => by simp at h
  | a :: b :: l, 0, _, hc => hc.1
  | a :: b :: l, i + 1, h, hc => Ch.at_ (l := b :: l) i (by simpa using h) hc.2
/-- A run of edits, merged. -/
theorem nrm_cut (R : List M) : Ch (nrm R).2.1 := by
  obtain ⟨d, i, h1, _⟩ := nrm_spec R
  by_cases h : cD R = 0 ∨ cI R = 0
  · rw [h1]
    unfold mk
    rcases h with h | h
    · rw [if_pos h]; trivial
    · by_cases hc : cD R = 0
      · rw [if_pos hc]; trivial
      · rw [if_neg hc, if_pos h]; trivial
  · rw [show nrm R = (_, _, _) from if_neg h]
    simp only []
    generalize hd : ((sideD R).drop (cpl (sideI R) (sideD R))).take (((sideD R).drop (cpl (sideI R) (sideD R))).length - csl ((sideI R).drop (cpl (sideI R) (sideD R))) ((sideD R).drop (cpl (sideI R) (sideD R)))) = d
    generalize hi : ((sideI R).drop (cpl (sideI R) (sideD R))).take (((sideI R).drop (cpl (sideI R) (sideD R))).length - csl ((sideI R).drop (cpl (sideI R) (sideD R))) ((sideD R).drop (cpl (sideI R) (sideD R)))) = i
    have e1 : cpl i d = 0 := by rw [← hd, ← hi]; exact cpl_zero_take (cpl_drop _ _) _ _
    have e2 : csl i d = 0 := by rw [← hd, ← hi]; exact csl_take _ _
    have hmk : mk (cD R) (cI R) d i = [(-1, d), (1, i)] := by
      unfold mk
      rw [if_neg (fun h' => h (.inl h')), if_neg (fun h' => h (.inr h'))]
    rw [hmk]
    exact ⟨⟨show (-1 : Int) ≠ 1 by decide, fun h => absurd (show (-1 : Int) = 1 from h.1) (by decide), fun _ _ => ⟨e1, e2⟩⟩, trivial⟩
theorem adj_eq_ed {x : List Int} {m : M} (hm : m.1 = 1 ∨ m.1 = -1) : adj (0, x) m ∧ adj m (0, x) := by
  refine ⟨⟨?_, ?_, ?_⟩, ⟨?_, ?_, ?_⟩⟩
  · show (0 : Int) ≠ m.1
    omega
  · rintro ⟨h, _⟩
    exact absurd (show (0 : Int) = 1 from h) (by decide)
  · intro h
    exact absurd (show (0 : Int) = -1 from h) (by decide)
  · show m.1 ≠ (0 : Int)
    omega
  · rintro ⟨_, h⟩
    exact absurd (show (0 : Int) = -1 from h) (by decide)
  · intro _ h
    exact absurd (show (0 : Int) = 1 from h) (by decide)
/-- An equality, a run of edits that is one or merged, an equality. -/
theorem Ch.run {A : List M} {x y : List Int} {W : List M} (h1 : Ch (A ++ [(0, x)])) (hW : Ch W) (hE : Edits W) (hne : W ≠ []) : Ch (A ++ [(0, x)] ++ W ++ [(0, y)]) := by
  obtain ⟨w, W', rfl⟩ := List.exists_cons_of_ne_nil hne
  have k1 : Ch (A ++ (0, x) :: w :: W') := Ch.app h1 hW (adj_eq_ed (hE w (List.mem_cons_self ..))).1
  obtain ⟨B, z, hB⟩ : ∃ B z, w :: W' = B ++ [z] := ⟨_, _, (List.dropLast_concat_getLast (by simp : w :: W' ≠ [])).symm⟩
  have hz := hE z (by rw [hB]; simp)
  rw [hB] at k1 ⊢
  have k2 : Ch ((A ++ (0, x) :: B) ++ [z]) := by simpa using k1
  have := Ch.app (B := []) k2 trivial (adj_eq_ed (x := y) hz).2
  simpa using this
theorem Ch.run0 {y : List Int} {W : List M} (hW : Ch W) (hE : Edits W) : Ch (W ++ [(0, y)]) := by
  cases hW0 : W with
  | nil => trivial
  | cons w W' =>
    obtain ⟨B, z, hB⟩ : ∃ B z, W = B ++ [z] := ⟨_, _, (List.dropLast_concat_getLast (by rw [hW0]; simp)).symm⟩
    have hz := hE z (by rw [hB]; simp)
    rw [← hW0]
    rw [hB] at hW ⊢
    have := Ch.app (B := []) hW trivial (adj_eq_ed (x := y) hz).2
    simpa using this
theorem push_ch {D : Dn} (h : Ch (toL D)) (P : List Int) : Ch (toL (pushP D P)) := by
  unfold pushP
  split
  · exact h
  · match D, h with
    | none, _ => trivial
    | some (D0, e), h => exact Ch.last rfl h
theorem toL_end (D : Dn) : D = none ∨ ∃ D0 e, D = some (D0, e) := by
  match D with
  | none => exact .inl rfl
  | some (D0, e) => exact .inr ⟨D0, e, rfl⟩
theorem toL_run {D : Dn} (h : Ch (toL D)) {W : List M} (hW : Ch W) (hE : Edits W) (hne : W ≠ []) (y : List Int) : Ch (toL D ++ W ++ [(0, y)]) := by
  rcases toL_end D with rfl | ⟨D0, e, rfl⟩
  · exact Ch.run0 hW hE
  · exact Ch.run h hW hE hne
theorem step_ch {D : Dn} (h : Ch (toL D)) {R : List M} (hR : Edits R) (x : List Int) : Ch (toL (stepE D R x)) := by
  by_cases h2 : 2 ≤ R.length
  · rw [show stepE D R x = some (toL (pushP D (nrm R).1) ++ (nrm R).2.1, (nrm R).2.2 ++ x) from if_pos h2]
    obtain ⟨d, i, hW, _⟩ := nrm_spec R
    have hE : Edits (nrm R).2.1 := by rw [hW]; exact mk_edits _ _ _ _
    exact toL_run (push_ch h _) (nrm_cut R) hE (fun h0 => by have := nrm_pos R; rw [h0] at this; simp at this) _
  · rw [show stepE D R x = one D R x from if_neg h2]
    match D, R, h, hR, h2 with
    | some (D0, e), [], h, _, _ => exact Ch.last rfl h
    | none, [], _, _, _ => trivial
    | D, m :: R, h, hR, h2 =>
      rw [one_ne D (m :: R) x (by simp)]
      have hR1 : R = [] := by
        cases R with
        | nil => rfl
        | cons a b => simp at h2
      subst hR1
      exact toL_run h (W := [m]) trivial hR (by simp) x
theorem pass1_ch : ∀ (T : List M) (D : Dn) (R : List M), Ch (toL D) → Edits R → Typed T → Ch (pass1 D R (T ++ [(0, [])]))
  | [], D, R, hD, hR, _ => by
    have := step_ch hD hR []
    show Ch (pass1 (stepE D R []) [] [])
    rw [pass1, List.append_nil]
    exact this
  | m :: T, D, R, hD, hR, tT => by
    rw [List.cons_append, pass1]
    by_cases hm : m.1 = 0
    · rw [if_pos hm]
      exact pass1_ch T _ [] (step_ch hD hR _) Edits.nil tT.tail
    · rw [if_neg hm]
      exact pass1_ch T D _ hD (hR.snoc ((tT m (List.mem_cons_self ..)).resolve_left hm)) tT.tail
theorem cutEnd_ch {l : List M} (h : Ch l) : Ch (cutEnd l) := by
  unfold cutEnd
  split
  · rename_i t ht
    have hne : l ≠ [] := by rintro rfl; cases ht
    have := List.dropLast_concat_getLast hne
    rw [← this] at h
    exact h.left
  · exact h
theorem p1_ch (l : List M) (tT : Typed l) : Ch (p1 l) := cutEnd_ch (pass1_ch l none [] trivial Edits.nil tT)
/-- No edit alone can be moved. -/
theorem one1_ne (x : List Int) : NE (one1 x) := by
  unfold one1
  split
  · exact NE.nil
  · rename_i h
    exact NE.cons h NE.nil
theorem one1_ch (x : List Int) : Ch (one1 x) := by
  unfold one1
  split <;> exact trivial
theorem pre_pos {x y : List Int} (hy : y ≠ []) (h : y <+: x) : cpl x y ≠ 0 ∧ cpl y x ≠ 0 := by
  obtain ⟨q, rfl⟩ := h
  cases y with
  | nil => exact absurd rfl hy
  | cons z y => simp [cpl]
theorem suf_pos {x y : List Int} (hy : y ≠ []) (h : y <:+ x) : csl x y ≠ 0 ∧ csl y x ≠ 0 := by
  unfold csl
  exact pre_pos (by simpa using hy) (List.reverse_prefix.2 h)
theorem in_ne {x y : List Int} {j : Nat} (hy : y ≠ []) (hj : j + y.length ≤ x.length) (he : (x.drop j).take y.length = y) (h : (cpl x y = 0 ∧ csl x y = 0) ∨ (cpl y x = 0 ∧ csl y x = 0)) (t : Int) : NE [(t, x.take j), (0, y), (t, x.drop (j + y.length))] := by
  have hl : 0 < y.length := List.length_pos_iff.2 hy
  have h1 : j ≠ 0 := by
    rintro rfl
    have hp : y <+: x := List.prefix_iff_eq_take.2 (by rw [List.drop_zero] at he; exact he.symm)
    have := pre_pos hy hp
    omega
  have h2 : j + y.length ≠ x.length := by
    intro e
    have hs : y <:+ x := List.suffix_iff_eq_drop.2 (by
      rw [List.take_of_length_le (by rw [List.length_drop]; omega)] at he
      rw [show x.length - y.length = j by omega]
      exact he.symm)
    have := suf_pos hy hs
    omega
  refine NE.cons ?_ (NE.cons hy (NE.cons ?_ NE.nil))
  · intro e
    have := congrArg List.length e
    simp only [List.length_take, List.length_nil] at this
    omega
  · intro e
    have := congrArg List.length e
    simp only [List.length_drop, List.length_nil] at this
    omega
theorem compute_ok2 (K : Nat) (X : TS1.den) (hX : X.1 = 0) (a b : List Int) (hl : a.length + b.length ≤ 10000) (ha : Okl a) (hb : Okl b) (hne : a ≠ [] ∨ b ≠ []) (hc : cpl a b = 0) (hs : csl a b = 0) (hB : 3 ≤ a.length + b.length → Out (K + 1) X a b (diffBisect (K + 2) X a b)) (hK : 4 * (a.length + b.length) + 20 ≤ K)
    (ih : ∀ a' b' : List Int, a'.length + b'.length < a.length + b.length → Okl a' → Okl b' → ∃ l, diffMainRunes K X a' b' false = some (enc l) ∧ Res a' b' l ∧ NE l) : ∃ l, diffCompute (K + 3) X a b false = some (enc l) ∧ Cmp a b l ∧ NE l := by
  rw [show K + 3 = K + 2 + 1 from rfl, diffCompute_eq]
  by_cases ha0 : a = []
  · subst ha0
    have hb0 : b ≠ [] := hne.resolve_left (fun h => h rfl)
    have hbl : 0 < b.length := List.length_pos_iff.2 hb0
    rw [br_eq (by rfl), chk_lt (by simp)]
    refine ⟨[(1, b)], rfl, ⟨ok1 hb, ?_, by simp [side], by simp [side], by simp [mc, ed_nil_left], by simp [wt, mu]; omega⟩, NE.cons hb0 NE.nil⟩
    intro m hm
    rw [List.mem_singleton.1 hm]
    exact .inr (.inl rfl)
  · have hal : 0 < a.length := List.length_pos_iff.2 ha0
    rw [br_ne (by omega)]
    by_cases hb0 : b = []
    · subst hb0
      rw [br_eq (by rfl), chk_lt (by simp)]
      refine ⟨[(-1, a)], rfl, ⟨ok1 ha, ?_, by simp [side], by simp [side], by simp [mc, ed_nil_right], by simp [wt, mu]; omega⟩, NE.cons ha0 NE.nil⟩
      intro m hm
      rw [List.mem_singleton.1 hm]
      exact .inr (.inr rfl)
    · have hbl : 0 < b.length := List.length_pos_iff.2 hb0
      have h2T := ed_two a b ha0 hb0 hc hs
      rw [br_ne (by omega)]
      obtain ⟨k, rfl⟩ : ∃ k, K = k + 5 := ⟨K - 5, by omega⟩
      -- the bisection
      have bis : 3 ≤ a.length + b.length → ∃ l, diffBisect (k + 5 + 2) X a b = some (enc l) ∧ Cmp a b l ∧ NE l := by
        intro h3
        rcases hB h3 with ⟨e1, e2⟩ | ⟨x, y, hx, hy, e1, e2, e3⟩
        · exact ⟨_, e1, cmp_both ha hb e2 (by omega), NE.cons ha0 (NE.cons hb0 NE.nil)⟩
        · obtain ⟨p1, p2⟩ := e2 h2T
          have q1 := ed_le_sum (a.take x) (b.take y)
          have q2 := ed_le_sum (a.drop x) (b.drop y)
          have p1' := p1
          have p2' := p2
          unfold edP at p1'
          unfold edS at p2'
          simp only [List.length_take, List.length_drop] at q1 q2
          obtain ⟨l1, r1, s1, u1⟩ := ih (a.take x) (b.take y) (by simp only [List.length_take]; omega) (okl_tk ha x) (okl_tk hb y)
          obtain ⟨l2, r2, s2, u2⟩ := ih (a.drop x) (b.drop y) (by simp only [List.length_drop]; omega) (okl_dr ha x) (okl_dr hb y)
          have w1 := s1.w
          have w2 := s2.w
          have v1 := wt_len l1
          have v2 := wt_len l2
          simp only [List.length_take, List.length_drop] at w1 w2
          refine ⟨l1 ++ l2, ?_, cmp_split s1 s2 hx hy e1 p1 p2, u1.app u2⟩
          rw [e3, split_ok _ X a b x y hx hy (by omega) (by omega), r1, Option.bind_some, r2, Option.bind_some, chk_lt (by rw [enc_len, enc_len]; omega), enc_app]
      rw [show k + 5 + 2 = k + 6 + 1 from rfl, diffCompute_j0_eq]
      by_cases hlt : b.length < a.length
      · rw [br_lt (by omega), show k + 6 = k + 5 + 1 from rfl, diffCompute_j1_eq]
        rcases rix_ok (k + 5 + 1 + 1) a b (by omega) (by omega) (by omega) with ⟨e1, e2⟩ | ⟨j, e1, e2, e3⟩
        · rw [e1, Option.bind_some, br_not, br_eq (by rfl)]
          by_cases hb1 : b.length = 1
          · rw [br_eq (by omega)]
            exact ⟨_, rfl, cmp_both ha hb (ed_single hb1 e2) (by omega), NE.cons ha0 (NE.cons hb0 NE.nil)⟩
          · rw [br_ne (by omega), nth1, half_none _ X hX, Option.bind_some, br_false, show k + 5 = k + 3 + 2 from rfl, j4_false]
            exact bis (by omega)
        · rw [e3, Option.bind_some, br_not, br_ne (by omega), br_lt (by omega), show k + 5 = k + 4 + 1 from rfl, j3_ok _ _ a b j _ (by omega) e1]
          exact ⟨_, rfl, (cmp_in ha hb hb0 (by omega) e1 e2).1, in_ne hb0 e1 e2 (.inl ⟨hc, hs⟩) _⟩
      · rw [br_ge (by omega), show k + 6 = k + 5 + 1 from rfl, diffCompute_j2_eq]
        rcases rix_ok (k + 5 + 1 + 1) b a (by omega) (by omega) (by omega) with ⟨e1, e2⟩ | ⟨j, e1, e2, e3⟩
        · rw [e1, Option.bind_some, br_not, br_eq (by rfl)]
          by_cases hb1 : a.length = 1
          · rw [br_eq (by omega)]
            refine ⟨_, rfl, cmp_both ha hb ?_ (by omega), NE.cons ha0 (NE.cons hb0 NE.nil)⟩
            rw [ed_symm, ed_single hb1 e2]
            omega
          · rw [br_ne (by omega), nth1, half_none _ X hX, Option.bind_some, br_false, show k + 5 = k + 3 + 2 from rfl, j4_false]
            exact bis (by omega)
        · have hb2 : 2 ≤ b.length := by
            apply Classical.byContradiction
            intro hno
            have h1 : b.length = 1 := by omega
            have h2 : a.length = 1 := by omega
            have hj : j = 0 := by omega
            subst hj
            rw [List.drop_zero, List.take_of_length_le (by omega)] at e2
            subst e2
            rw [ed_self] at h2T
            omega
          rw [e3, Option.bind_some, br_not, br_ne (by omega), br_ge (by omega), show k + 5 = k + 4 + 1 from rfl, j3_ok _ _ b a j _ (by omega) e1]
          exact ⟨_, rfl, (cmp_in hb ha ha0 hb2 e1 e2).2, in_ne ha0 e1 e2 (.inr ⟨hc, hs⟩) _⟩
/-- A difference: it leads from one list to the other one, with the least number of edits. -/
theorem main_all2 (X : TS1.den) (hX : X.1 = 0) : ∀ s : Nat, s ≤ 6000 → ∃ F : Nat, ∀ (a b : List Int) (K : Nat), a.length + b.length ≤ s → Okl a → Okl b → F ≤ K → ∃ l, diffMainRunes K X a b false = some (enc l) ∧ Res a b l ∧ NE l ∧ Ch l
  | 0, _ => ⟨10, fun a b K hs ha hb hK => by
    have h1 : a = [] := List.eq_nil_of_length_eq_zero (by omega)
    have h2 : b = [] := List.eq_nil_of_length_eq_zero (by omega)
    subst h1
    subst h2
    exact ⟨_, main_same K X [] false (by simp) (by simpa using hK), one1_res ha, one1_ne _, one1_ch _⟩⟩
  | s + 1, hs => by
    obtain ⟨F, hF⟩ := main_all2 X hX s (by omega)
    obtain ⟨G, hG⟩ := bisect_all X (s + 1) (by omega)
    obtain ⟨H, hH⟩ : ∃ H : Nat, H = F + G + 400 * (s + 1) + 1000 := ⟨_, rfl⟩
    refine ⟨H, fun a b K hab ha hb hK => ?_⟩
    by_cases he : a = b
    · subst he
      exact ⟨_, main_same K X a false (by omega) (by omega), one1_res ha, one1_ne _, one1_ch _⟩
    · obtain ⟨k, rfl⟩ : ∃ k, K = k + 4 := ⟨K - 4, by omega⟩
      have hml := mid_len a b
      have hed := mid_ed a b
      obtain ⟨lc, c1, c2, c3⟩ := compute_ok2 k X hX (mid a b a) (mid a b b) (by omega) (okl_tk (okl_dr ha _) _) (okl_tk (okl_dr hb _) _) (by
          apply Classical.byContradiction
          intro hno
          have h1 : mid a b a = [] := Classical.byContradiction fun h => hno (.inl h)
          have h2 : mid a b b = [] := Classical.byContradiction fun h => hno (.inr h)
          rw [h1, h2, ed_nil_left] at hed
          exact he (ed_zero hed)) (mid_cpl a b) (mid_csl a b) (fun h3 => hG _ _ (k + 1) h3 (by omega) (by omega)) (by omega)
        (fun a' b' h' ha' hb' => by
          obtain ⟨l, q1, q2, q3, _⟩ := hF a' b' k (by omega) ha' hb' (by omega)
          exact ⟨l, q1, q2, q3⟩)
      obtain ⟨r1, r2, r3, r4, r5, r6⟩ := around_res ha c2
      have hw := wt_len lc
      have hcw := c2.w
      rw [diffMainRunes_eq, req_ok _ a b (by omega) (by omega), Option.bind_some, decide_eq_false he, br_false, show k + 3 = k + 3 from rfl, j0_ok (k + 3) k X a b false (by omega) (by omega) (by omega) lc (by omega) c1]
      have hmu : mu (around a b lc) ≤ 8 * (a.length + b.length) := by omega
      rw [dcm_ok (mu (around a b lc) + 1) (around a b lc) (8 * (a.length + b.length)) (k + 3) X (by omega) r1 r2 (by omega) (by omega) (by omega)]
      obtain ⟨l', d1, _, d3, d4, d5, d6, _⟩ := dcm_spec (mu (around a b lc) + 1) (around a b lc) (by omega) r1 r2
      obtain ⟨_, _, _, _, _, p1, p2, _, _, _⟩ := p1_spec l' d4 d3
      have hm := dcm_mc (mu (around a b lc) + 1) (around a b lc) r1 r2
      have hne : NE (dcm (mu (around a b lc) + 1) (around a b lc)) := dcm_ne _ _ (by omega) r1 r2 (((one1_ne _).app c3).app (one1_ne _)) (by rw [r3, r4]; omega)
      refine ⟨_, rfl, ?_⟩
      rw [d1] at hm hne ⊢
      have hs1 := (d5 1 (.inl rfl)).trans r3
      have hs2 := (d5 (-1) (.inr rfl)).trans r4
      have hlow := mc_least p2
      rw [hs1, hs2] at hlow
      exact ⟨⟨p1, p2, hs1, hs2, by omega, by omega⟩, hne, p1_ch l' d4⟩
end Go.Proofs.YtmlfecgppnffgaaDoor.E
