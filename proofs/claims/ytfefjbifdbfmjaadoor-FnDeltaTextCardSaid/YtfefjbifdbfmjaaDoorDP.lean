import Derived.Test.YtfefjbifdbfmjaaDoorDN
/- Deltas: what a delta tells of a text. -/
set_option linter.unusedVariables false
set_option linter.unusedSimpArgs false
namespace Go.Proofs.YtfefjbifdbfmjaaDoor.E
open Go.Ev
/-- What tokens tell, from a place on. -/
inductive Rd (R : List Int) : List (List UInt8) → Nat → List (Int × ByteArray) → Prop
  | nil : Rd R [] R.length []
  | skip {ts : List (List UInt8)} {a : Nat} {x : List (Int × ByteArray)} : Rd R ts a x → Rd R ([] :: ts) a x
  | ins {p cs : List UInt8} {ts : List (List UInt8)} {a : Nat} {x : List (Int × ByteArray)} : decT p = some cs → Vt ⟨cs.toArray⟩ → Rd R ts a x → Rd R ((43 :: p) :: ts) a ((1, ⟨cs.toArray⟩) :: x)
  | num {o : UInt8} {ty : Int} {p : List UInt8} {n : Nat} {ts : List (List UInt8)} {a : Nat} {x : List (Int × ByteArray)} : (o = 61 ∧ ty = 0) ∨ (o = 45 ∧ ty = -1) → parseIntE ⟨p.toArray⟩ 10 0 = some ((n : Int), ()) → n ≤ 1000000000 → a + n ≤ R.length → Rd R ts (a + n) x → Rd R ((o :: p) :: ts) a ((ty, strOfRunes ((R.drop a).take n)) :: x)
theorem Rd.le {R : List Int} {ts : List (List UInt8)} {a : Nat} {x : List (Int × ByteArray)} (h : Rd R ts a x) : a ≤ R.length := by
  induction h with
  | nil => exact Nat.le_refl _
  | skip _ ih => exact ih
  | ins _ _ _ ih => exact ih
  | num _ _ _ h _ _ => omega
theorem Rd.of_full {R : List Int} : ∀ (ts : List (List UInt8)) {a : Nat} {x : List (Int × ByteArray)}, Rd R (full ts) a x → Rd R ts a x
  | [], _, _, h => h
  | [] :: ts, _, _, h => by
    rw [full_nil] at h
    exact .skip (Rd.of_full ts h)
  | (c :: t) :: ts, a, x, h => by
    rw [full_cons _ _ (by simp)] at h
    cases h with
    | ins h1 h2 h3 => exact .ins h1 h2 (Rd.of_full ts h3)
    | num h1 h2 h3 h4 h5 => exact .num h1 h2 h3 h4 (Rd.of_full ts h5)
theorem Rd.side {R : List Int} (hR : Okl R) {ts : List (List UInt8)} {a : Nat} {x : List (Int × ByteArray)} (h : Rd R ts a x) : sideR x = R.drop a := by
  induction h with
  | nil => rw [List.drop_eq_nil_of_le (Nat.le_refl _)]; rfl
  | skip _ ih => exact ih
  | ins _ _ _ ih =>
    have e2 : ∀ (s : ByteArray) (l : List (Int × ByteArray)), sideR ((1, s) :: l) = [] ++ sideR l := fun s l => List.flatMap_cons ..
    rw [e2, List.nil_append, ih]
  | @num o ty p n ts a x h1 h2 h3 h4 h5 ih =>
    have e2 : sideR ((ty, strOfRunes ((R.drop a).take n)) :: x) = (if ty = 1 then [] else runesI (strOfRunes ((R.drop a).take n))) ++ sideR x := List.flatMap_cons ..
    have ht : ¬ ty = 1 := by
      rcases h1 with ⟨_, h⟩ | ⟨_, h⟩ <;> (rw [h]; decide)
    rw [e2, if_neg ht, runesI_of ((hR.drop a).take n), ih, ← List.drop_drop, List.take_append_drop]
theorem enc_part (R : List Int) (a n : Nat) : (encs8 ((R.drop a).take n)).length ≤ (encs8 R).length := by
  have h1 : R = R.take a ++ ((R.drop a).take n ++ (R.drop a).drop n) := by rw [List.take_append_drop, List.take_append_drop]
  have h2 := congrArg (fun l => (encs8 l).length) h1
  simp only [encs8_append, List.length_append] at h2
  omega
theorem Rd.good {R : List Int} (hR : Okl R) (hs : (encs8 R).length ≤ 200) {ts : List (List UInt8)} {a : Nat} {x : List (Int × ByteArray)} (h : Rd R ts a x) : (∀ t ∈ ts, t.length ≤ 200) → ∀ d ∈ x, d.2.size ≤ 200 ∧ -1 ≤ d.1 ∧ d.1 ≤ 1 ∧ Vt d.2 := by
  induction h with
  | nil => exact fun _ d hd => by cases hd
  | skip _ ih => exact fun ht => ih fun t h => ht t (List.mem_cons_of_mem _ h)
  | @ins p cs ts a x h1 h2 h3 ih =>
    intro ht d hd
    rcases List.mem_cons.1 hd with rfl | hd
    · have h4 := ht _ (List.mem_cons_self ..)
      have h5 := decT_len _ _ _ (Nat.le_refl _) h1
      rw [List.length_cons] at h4
      refine ⟨?_, by show (-1 : Int) ≤ 1; decide, by show (1 : Int) ≤ 1; decide, h2⟩
      rw [mk_size]
      omega
    · exact ih (fun t h => ht t (List.mem_cons_of_mem _ h)) d hd
  | @num o ty p n ts a x h1 h2 h3 h4 h5 ih =>
    intro ht d hd
    rcases List.mem_cons.1 hd with rfl | hd
    · refine ⟨?_, ?_, ?_, Vt.of ((hR.drop a).take n)⟩
      · rw [strOfRunes_size]
        have := enc_part R a n
        omega
      · rcases h1 with ⟨_, h⟩ | ⟨_, h⟩ <;> (show -1 ≤ ty; rw [h]; decide)
      · rcases h1 with ⟨_, h⟩ | ⟨_, h⟩ <;> (show ty ≤ 1; rw [h]; decide)
    · exact ih (fun t h => ht t (List.mem_cons_of_mem _ h)) d hd
theorem Rd.len {R : List Int} {ts : List (List UInt8)} {a : Nat} {x : List (Int × ByteArray)} (h : Rd R ts a x) : x.length ≤ (full ts).length := by
  induction h with
  | nil => exact Nat.le_refl _
  | skip _ ih => rw [full_nil]; exact ih
  | ins _ _ _ ih => rw [full_cons _ _ (by simp)]; simpa using ih
  | num _ _ _ _ _ ih => rw [full_cons _ _ (by simp)]; simpa using ih
theorem join_len : ∀ ts : List (List UInt8), 2 * (full ts).length ≤ (joinB 9 ts).length + 1 ∧ ts.length ≤ (joinB 9 ts).length + 1 ∧ ∀ t ∈ ts, t.length ≤ (joinB 9 ts).length
  | [] => by simp [full, joinB]
  | [t] => by
    refine ⟨?_, by simp, fun u hu => by rw [List.mem_singleton.1 hu]; exact Nat.le_refl _⟩
    by_cases h : t = []
    · rw [h, full_nil]
      simp [full]
    · have := List.length_pos_iff.2 h
      rw [full_cons _ _ h]
      show 2 * ([] : List (List UInt8)).length.succ ≤ t.length + 1
      simp
      omega
  | t :: u :: r => by
    obtain ⟨h1, h2, h3⟩ := join_len (u :: r)
    have e : (joinB 9 (t :: u :: r)).length = t.length + 1 + (joinB 9 (u :: r)).length := by
      show (t ++ 9 :: joinB 9 (u :: r)).length = _
      rw [List.length_append, List.length_cons]
      omega
    rw [e]
    refine ⟨?_, by rw [List.length_cons]; omega, fun x hx => ?_⟩
    · by_cases h : t = []
      · rw [h, full_nil]
        simp
        omega
      · have := List.length_pos_iff.2 h
        rw [full_cons _ _ h, List.length_cons]
        omega
    · rcases List.mem_cons.1 hx with rfl | hx
      · omega
      · have := h3 x hx
        omega
/-! ### the specification -/
theorem nth_mks (ts : List (List UInt8)) (i : Nat) (h : i < ts.length) : nth .str (mks ts) (i : Int) = ⟨(ts[i]).toArray⟩ := by
  have := nth_at .str (mks ts) i (by unfold mks; rw [List.length_map]; exact h)
  rw [this]
  show (List.map _ _)[i]'(_) = _
  rw [List.getElem_map]
theorem mks_len (ts : List (List UInt8)) : (mks ts).length = ts.length := List.length_map ..
theorem tok_parts (o : UInt8) (p : List UInt8) : ((ByteArray.size (⟨(o :: p).toArray⟩ : ByteArray) : Nat) : Int) = (p.length : Int) + 1 ∧ ByteArray.extract (⟨(o :: p).toArray⟩ : ByteArray) (Int.toNat 1) (Int.toNat ((p.length : Int) + 1)) = ⟨p.toArray⟩ ∧ bt (⟨(o :: p).toArray⟩ : ByteArray) 0 = ((o.toNat : Nat) : Int) := by
  refine ⟨by rw [mk_size, List.length_cons]; omega, B_inj ?_, ?_⟩
  · rw [B_extract, B_mk, B_mk, show Int.toNat ((p.length : Int) + 1) - Int.toNat 1 = p.length by omega]
    show (List.drop 1 (o :: p)).take p.length = p
    rw [List.drop_succ_cons, List.drop_zero, List.take_of_length_le (Nat.le_refl _)]
  · have := bt_at (⟨(o :: p).toArray⟩ : ByteArray) 0 (by rw [mk_size]; simp)
    exact this
theorem ebytes (a b : List UInt8) (h : (⟨a.toArray⟩ : ByteArray) = ⟨b.toArray⟩) : a = b := congrArg B h
theorem read_step (K : Nat) (hK : 3000 ≤ K) (R : List Int) (hR : R.length ≤ 1000) (ts : List (List UInt8)) (hl : ts.length ≤ 300) (ht : ∀ t ∈ ts, t.length ≤ 200 ∧ t ≠ []) : ∀ (d i k a : Nat) (acc : List TS1.den), i + d = ts.length → acc.length ≤ i → a ≤ 1000000000 * i → 8 * d + 4 ≤ k →
    ∃ r, DeltaRead_l0 K k R acc (a : Int) (mks ts) (ts.length : Int) (i : Int) = some r ∧ (r.2.1 = ⟨#[]⟩ → r.2.2 = true → ∃ x, Rd R (ts.drop i) a x ∧ r.1 = acc ++ x)
  | 0, i, k, a, acc, h, hal, ha, hk => by
    obtain ⟨k, rfl⟩ : ∃ m, k = m + 1 := ⟨k - 1, by omega⟩
    obtain ⟨k, rfl⟩ : ∃ m, k = m + 1 := ⟨k - 1, by omega⟩
    rw [DeltaRead_l0_eq, br_ge (by omega), DeltaRead_j1_eq, br_not]
    by_cases c : a = R.length
    · refine ⟨_, br_eq (by omega), fun _ _ => ⟨[], ?_, by simp⟩⟩
      rw [List.drop_eq_nil_of_le (by omega), c]
      exact .nil
    · refine ⟨_, br_ne (by omega), fun h => ?_⟩
      exact absurd h (by decide)
  | d + 1, i, k, a, acc, h, hal, ha, hk => by
    have hi : i < ts.length := by omega
    obtain ⟨htl, htn⟩ := ht _ (List.getElem_mem hi)
    have hc : ts.drop i = ts[i] :: ts.drop (i + 1) := List.drop_eq_getElem_cons hi
    obtain ⟨o, p, hop⟩ : ∃ o p, ts[i] = o :: p := by
      cases e : ts[i] with
      | nil => exact absurd e htn
      | cons o p => exact ⟨o, p, rfl⟩
    rw [hop, List.length_cons] at htl
    obtain ⟨p1, p2, p3⟩ := tok_parts o p
    have hn : nth .str (mks ts) (i : Int) = ⟨(o :: p).toArray⟩ := by rw [nth_mks ts i hi, hop]
    obtain ⟨k, rfl⟩ : ∃ m, k = m + 1 + 1 + 1 + 1 + 1 + 1 := ⟨k - 6, by omega⟩
    rw [DeltaRead_l0_eq, br_lt (by omega), DeltaRead_j0_eq, hn, p1, p2, p3, mks_len, chk_le (by omega), chk_lt (by omega), chk_le (by omega), chk_le (by omega), chk_le (by omega), chk_le (by omega), chk_lt (by omega), e43, e61, e45, hc, hop]
    have no : ∀ (m : ByteArray) (b : Bool), (m = ⟨#[]⟩ → b = false) → ∃ r : List TS1.den × ByteArray × Bool, (some (([] : List TS1.den), m, b) : Option (List TS1.den × ByteArray × Bool)) = some r ∧ (r.2.1 = ⟨#[]⟩ → r.2.2 = true → ∃ x, Rd R ((o :: p) :: ts.drop (i + 1)) a x ∧ r.1 = acc ++ x) := fun m b h => ⟨_, rfl, fun h1 h2 => absurd (h h1) (by simp only [] at h2; rw [h2]; simp)⟩
    by_cases c1 : o = 43
    · rw [br_dec, if_pos c1]
      obtain ⟨r, hr, hrR⟩ := text_ok K ⟨p.toArray⟩ (by rw [mk_size]; omega) (by rw [mk_size]; omega)
      obtain ⟨t, ok⟩ := r
      rw [hr, Option.bind_some, br_not]
      cases ok with
      | false => exact no _ _ (fun h => absurd h (by decide))
      | true =>
        obtain ⟨cs, h1, h2⟩ := hrR rfl
        simp only [] at h2
        subst h2
        have h3 := decT_len _ _ _ (Nat.le_refl _) h1
        have h3' : cs.length ≤ p.length := h3
        have h4 := runesI_le (⟨cs.toArray⟩ : ByteArray)
        rw [mk_size] at h4
        rw [br_true, DeltaRead_j2_eq]
        simp only []
        rw [chk_nle (by omega), br_not, eqS_iff, br_dec]
        by_cases hv : strOfRunes (runesI (⟨cs.toArray⟩ : ByteArray)) = ⟨cs.toArray⟩
        · rw [if_pos hv, DeltaRead_j4_eq, wrap_id (by omega) (by omega), show (i : Int) + 1 = ((i + 1 : Nat) : Int) by omega]
          obtain ⟨r, e1, e2⟩ := read_step K hK R hR ts hl ht d (i + 1) (k + 1 + 1) a (acc ++ [(1, ⟨cs.toArray⟩)]) (by omega) (by rw [List.length_append]; simp; omega) (by omega) (by omega)
          refine ⟨r, ?_, fun g1 g2 => ?_⟩
          · have hq : ((List.length acc : Int) + (List.length ([((1 : Int), (⟨cs.toArray⟩ : ByteArray))] : List TS1.den) : Int)) < 1000000000000 := by
              simp only [List.length_cons, List.length_nil]
              omega
            exact (chk_lt hq).trans e1
          · obtain ⟨x, hx, hx2⟩ := e2 g1 g2
            refine ⟨(1, ⟨cs.toArray⟩) :: x, ?_, by rw [hx2, List.append_assoc]; rfl⟩
            rw [c1]
            exact .ins h1 ((Vt_iff _).1 hv) hx
        · rw [if_neg hv]
          exact no _ _ (fun h => absurd h (by decide))
    · rw [br_dec, if_neg c1]
      have j3 : ∀ c : Bool, (c = true → (o = 61 ∨ o = 45)) → ∃ r, DeltaRead_j3 K (k + 1 + 1 + 1 + 1) R acc (a : Int) ⟨(o :: p).toArray⟩ ⟨p.toArray⟩ (mks ts) (ts.length : Int) (i : Int) c = some r ∧ (r.2.1 = ⟨#[]⟩ → r.2.2 = true → ∃ x, Rd R ((o :: p) :: ts.drop (i + 1)) a x ∧ r.1 = acc ++ x) := by
        intro c hcc
        rw [DeltaRead_j3_eq]
        cases c with
        | false => exact no _ _ (fun h => absurd h (by decide))
        | true =>
          obtain ⟨r, hr, hrR⟩ := cnt_ok K ⟨p.toArray⟩ (by rw [mk_size]; omega) (by rw [mk_size]; omega)
          obtain ⟨n, ok⟩ := r
          rw [br_true, hr, Option.bind_some, br_not]
          cases ok with
          | false => exact no _ _ (fun h => absurd h (by decide))
          | true =>
            simp only [] at hrR
            rw [br_true]
            simp only []
            by_cases g1 : (1000000000 : Int) < n
            · rw [br_lt g1, DeltaRead_j5_eq, br_true]
              exact no _ _ (fun _ => rfl)
            rw [br_ge (by omega), DeltaRead_j5_eq]
            by_cases g2 : n < -1000000000
            · rw [br_lt g2]
              exact no _ _ (fun _ => rfl)
            rw [br_ge (by omega)]
            by_cases g3 : n < 0
            · rw [br_lt g3]
              exact no _ _ (fun h => absurd h (by decide))
            obtain ⟨m, rfl⟩ : ∃ m : Nat, n = (m : Int) := ⟨n.toNat, by omega⟩
            have hpe := hrR trivial (by omega) (by omega)
            rw [br_ge (by omega), DeltaRead_j6_eq, wrap_id (x := (a : Int) + (m : Int)) (by omega) (by omega), wrap_id (x := (i : Int) + 1) (by omega) (by omega), wrap_id (x := (a : Int) + (m : Int) - (m : Int)) (by omega) (by omega), show (a : Int) + (m : Int) - (m : Int) = (a : Int) by omega, show (a : Int) + (m : Int) = ((a + m : Nat) : Int) by omega, show (i : Int) + 1 = ((i + 1 : Nat) : Int) by omega]
            by_cases g4 : a + m ≤ R.length
            · have ecut : List.take (Int.toNat ((a + m : Nat) : Int) - Int.toNat (a : Int)) (List.drop (Int.toNat (a : Int)) R) = (R.drop a).take m := by
                rw [Int.toNat_natCast, Int.toNat_natCast, show a + m - a = m by omega]
              rw [br_le (by omega), chk_le (by omega), chk_le (by omega), chk_le (by omega), chk_le (by omega), p1, chk_lt (by omega), p3, e45, br_dec, ecut]
              have j7 : ∀ ty : Int, (o = 61 ∧ ty = 0) ∨ (o = 45 ∧ ty = -1) → ∃ r, DeltaRead_j7 K (k + 1) R acc ((a + m : Nat) : Int) 0 [(ty, strOfRunes ((R.drop a).take m))] (mks ts) (ts.length : Int) (i : Int) = some r ∧ (r.2.1 = ⟨#[]⟩ → r.2.2 = true → ∃ x, Rd R ((o :: p) :: ts.drop (i + 1)) a x ∧ r.1 = acc ++ x) := by
                intro ty hty
                obtain ⟨r, e1, e2⟩ := read_step K hK R hR ts hl ht d (i + 1) k (a + m) (acc ++ [(ty, strOfRunes ((R.drop a).take m))]) (by omega) (by rw [List.length_append]; simp; omega) (by omega) (by omega)
                refine ⟨r, ?_, fun q1 q2 => ?_⟩
                · rw [DeltaRead_j7_eq, wrap_id (by omega) (by omega), show (i : Int) + 1 = ((i + 1 : Nat) : Int) by omega]
                  have hq : ((List.length acc : Int) + (List.length ([((ty : Int), strOfRunes ((R.drop a).take m))] : List TS1.den) : Int)) < 1000000000000 := by
                    simp only [List.length_cons, List.length_nil]
                    omega
                  exact (chk_lt hq).trans e1
                · obtain ⟨x, hx, hx2⟩ := e2 q1 q2
                  exact ⟨(ty, strOfRunes ((R.drop a).take m)) :: x, .num hty hpe (by omega) g4 hx, by rw [hx2, List.append_assoc]; rfl⟩
              by_cases c2 : o = 45
              · rw [if_pos c2]
                exact j7 (-1) (.inr ⟨c2, rfl⟩)
              · rw [if_neg c2]
                exact j7 0 (.inl ⟨(hcc rfl).resolve_right c2, rfl⟩)
            · rw [br_gt (by omega)]
              obtain ⟨r, e1, e2⟩ := read_step K hK R hR ts hl ht d (i + 1) (k + 1) (a + m) acc (by omega) (by omega) (by omega) (by omega)
              refine ⟨r, e1, fun q1 q2 => ?_⟩
              obtain ⟨x, hx, hx2⟩ := e2 q1 q2
              exact absurd hx.le (by omega)
      rw [br_dec]
      split
      · rename_i c
        exact j3 _ (fun _ => .inl c)
      · rename_i c
        exact j3 _ (fun h => .inr (of_decide_eq_true h))
theorem deltaread_ok (K : Nat) (hK : 4000 ≤ K) (s t : ByteArray) (hs : s.size ≤ 200) (ht : t.size ≤ 200) : ∃ r, DeltaRead K s t = some r ∧ (r.2.1 = ⟨#[]⟩ → r.2.2 = true → Rd (runesI s) (splitC 9 (B t)) 0 r.1) := by
  obtain ⟨K, rfl⟩ : ∃ m, K = m + 1 := ⟨K - 1, by omega⟩
  have h1 := runesI_le s
  obtain ⟨j1, j2, j3⟩ := join_len (splitC 9 (B t))
  rw [splitC_join, B_size] at j1 j2 j3
  rw [DeltaRead_eq, chk_nle (by omega), tokens_ok K t (by omega) (by omega), Option.bind_some, mks_len]
  have hf : (full (splitC 9 (B t))).length ≤ 300 := by omega
  obtain ⟨r, hr, hR⟩ := read_step K (by omega) (runesI s) (by omega) (full (splitC 9 (B t))) hf (fun u hu => by
    have h1 := List.mem_filter.1 hu
    refine ⟨by have := j3 u h1.1; omega, fun e => ?_⟩
    rw [e] at h1
    exact absurd h1.2 (by decide)) (full (splitC 9 (B t))).length 0 K 0 [] (by omega) (by simp) (by omega) (by omega)
  refine ⟨r, hr, fun q1 q2 => ?_⟩
  obtain ⟨x, hx, hx2⟩ := hR q1 q2
  rw [hx2]
  exact Rd.of_full _ hx
end Go.Proofs.YtfefjbifdbfmjaaDoor.E
