import Derived.Test.YtfglahmbnnkijaaSD
/- The text behind edits, and what is asked of edits. -/
set_option linter.unusedVariables false
set_option linter.unusedSimpArgs false
namespace Go.Proofs.Ytfglahmbnnkijaa.E
open Go.Ev Go.Lcs
theorem ba_assoc (a b c : ByteArray) : a ++ b ++ c = a ++ (b ++ c) := by
  apply B_inj
  rw [B_append, B_append, B_append, B_append, List.append_assoc]
theorem ba_nil_app (a : ByteArray) : (⟨#[]⟩ : ByteArray) ++ a = a := by
  apply B_inj
  rw [B_append]
  rfl
theorem ex_nil (s : ByteArray) (i j : Nat) (h : j ≤ i) : s.extract i j = ⟨#[]⟩ := by
  apply size0
  rw [← B_size, B_extract, List.length_take]
  omega
theorem app_j3 (K k : Nat) (src : ByteArray) (sz : Int) (X : ByteArray) (e : Ed) (r : Rf) (n i : Int) (h : Hp) (hX : X.size ≤ 100000) (he : e.2.2.size ≤ 60) (hi : 0 ≤ i) (hi' : i ≤ 1000) :
    Apply_j3 K (k + 1) src sz (bytesI X) (0 : Int) [e] r n i h = Apply_l0 K k src sz (bytesI (X ++ e.2.2)) e.2.1 r n (i + 1) h := by
  have hn : nth TS1 [e] (0 : Int) = e := nth_mid TS1 [] e []
  rw [Apply_j3_eq, hn]
  show chk (ltI (((bytesI X).length : Int) + ((bytesI e.2.2).length : Int)) _) _ = _
  rw [bytesI_len, bytesI_len, chk_lt (by omega), wrap_id (by omega) (by omega), bytesI_app]
theorem Apply_loop (K : Nat) (src : ByteArray) (h : Hp) (r : Rf) (S : List Ed) (hs : SlL h 74 TS1 r S) (hb : ∀ e ∈ S, Small e) (hsrc : src.size ≤ 200) (hl : S.length ≤ 12) (sz : Int) (W : ByteArray) (hW : sz = (W.size : Int)) :
    ∀ (R P : List Ed) (last : Int) (X : ByteArray) (k : Nat), P ++ R = S → 3 * R.length + 2 ≤ k → 0 ≤ last → last ≤ src.size → X.size ≤ 1000 * P.length → vchk src.size last R = 0 → apB src X last R = W →
      Apply_l0 K k src sz (bytesI X) last r (S.length : Int) (P.length : Int) h = some (h, (W, .nil)) := by
  intro R
  induction R with
  | nil =>
    intro P last X k hP hk h0 h1 hX hv hA
    obtain ⟨k, rfl⟩ : ∃ m, k = m + 2 := ⟨k - 2, by omega⟩
    rw [List.append_nil] at hP
    subst hP
    have hA : X ++ src.extract last.toNat src.size = W := hA
    rw [Apply_l0_eq, br_ge (by omega), Apply_j2_eq, Int.toNat_natCast, ← bytesI_app, hA, bytesI_len, bytesI_len, bytesI_len, ex_size src _ _ (by omega) (Nat.le_refl _), chk_le (by omega), chk_le (by omega), chk_le (by omega), chk_lt (by omega), br_not, br_eq (by omega), strOf_bytesI]
  | cons e R ih =>
    intro P last X k hP hk h0 h1 hX hv hA
    simp only [List.length_cons] at hk
    obtain ⟨k, rfl⟩ : ∃ m, k = m + 3 := ⟨k - 3, by omega⟩
    have hll : S.length = P.length + (R.length + 1) := by rw [← hP]; simp
    have hL : S[P.length]'(by omega) = e := by
      have : S[P.length]? = some e := by rw [← hP]; simp
      exact (List.getElem?_eq_some_iff.1 this).2
    have he : Small e := hb e (by rw [← hP]; simp)
    unfold Small at he
    unfold vchk at hv
    by_cases c1 : 0 ≤ e.1 ∧ e.1 ≤ e.2.1 ∧ e.2.1 ≤ src.size
    · rw [if_pos c1] at hv
      by_cases c2 : e.1 < last
      · rw [if_pos c2] at hv
        cases hv
      · rw [if_neg c2] at hv
        have hA : apB src (X ++ (src.extract last.toNat e.1.toNat ++ e.2.2)) e.2.1 R = W := hA
        have hsz : (X ++ (src.extract last.toNat e.1.toNat ++ e.2.2)).size ≤ 1000 * (P ++ [e]).length := by
          rw [ba_size_app, ba_size_app, ex_size src _ _ (by omega) (by omega), List.length_append]
          simp only [List.length_cons, List.length_nil]
          omega
        have nxt := ih (P ++ [e]) e.2.1 _ k (by rw [List.append_assoc]; exact hP) (by omega) (by omega) (by omega) hsz hv hA
        rw [List.length_append] at nxt
        have nxt : Apply_l0 K k src sz (bytesI (X ++ (src.extract last.toNat e.1.toNat ++ e.2.2))) e.2.1 r (S.length : Int) ((P.length : Int) + 1) h = some (h, (W, .nil)) := nxt
        rw [Apply_l0_eq, br_lt (by omega), Apply_j1_eq, hs.rlen, chk_le (by omega), chk_lt (by omega), SlL.ld3 hs P.length (by omega), obs, hL]
        by_cases c3 : last < e.1
        · rw [br_lt c3, chk_le (by omega), chk_le (by omega), chk_le (by omega), bytesI_len, bytesI_len, ex_size src _ _ (by omega) (by omega), chk_lt (by omega), ← bytesI_app, app_j3 K k src sz _ e r _ _ h (by rw [ba_size_app, ex_size src _ _ (by omega) (by omega)]; omega) (by omega) (by omega) (by omega), ba_assoc]
          exact nxt
        · rw [br_ge (by omega), app_j3 K k src sz X e r _ _ h (by omega) (by omega) (by omega) (by omega)]
          rw [ex_nil src last.toNat e.1.toNat (by omega), ba_nil_app] at nxt
          exact nxt
    · rw [if_neg c1] at hv
      cases hv
/-- What Apply answers. -/
def ARes (src : ByteArray) (S : List Ed) (o : Option (Hp × (ByteArray × If))) : Prop :=
  (vchk src.size 0 S = 0 ∧ ∃ h', o = some (h', (apB src ⟨#[]⟩ 0 S, .nil))) ∨ (vchk src.size 0 S ≠ 0 ∧ ∃ h' i, o = some (h', (⟨#[]⟩, i)) ∧ ErrIs h' i (if vchk src.size 0 S = 1 then outB else ovlB))
theorem errNil {h : Hp} {i : If} {s : ByteArray} (he : ErrIs h i s) : inil i = false := by
  obtain ⟨n, _, rfl, _⟩ := he
  rfl
theorem Apply_ok (K : Nat) {h0 h : Hp} {r : Rf} {L : List Ed} (src : ByteArray) (hb : Blt h0 h 74 TS1 r L) (hs : ∀ e ∈ L, Small e) (hsrc : src.size ≤ 200) (hl : L.length ≤ 12) (hK : 60010 ≤ K) : ARes src (isV eLt L).reverse (Apply K h src r) := by
  obtain ⟨K, rfl⟩ : ∃ m, K = m + 1 := ⟨K - 1, by omega⟩
  rw [Apply_eq]
  obtain ⟨h', r', b', v⟩ := validate_ok K src hb hs hsrc hl (by omega)
  have hlen : (isV eLt L).reverse.length = L.length := by rw [List.length_reverse, isV_length]
  have hS : ∀ e ∈ (isV eLt L).reverse, Small e := fun e he => hs e ((isV_perm eLt L).mem_iff.1 he)
  generalize (isV eLt L).reverse = S at *
  rcases v with ⟨v0, v1⟩ | ⟨v0, h2, i, v1, v2, v3⟩
  · refine .inl ⟨v0, h', ?_⟩
    rw [v1, obs]
    show br false _ (Apply_j0 K K src r' ((src.size : Int) + szs S) h') = _
    obtain ⟨k, hk⟩ : ∃ m, K = m + 1 := ⟨K - 1, by omega⟩
    have j0 : Apply_j0 K K src r' ((src.size : Int) + szs S) h' = Apply_j0 K (k + 1) src r' ((src.size : Int) + szs S) h' := by rw [← hk]
    have hsz := apB_size src S ⟨#[]⟩ 0 (Int.le_refl 0) (by omega) v0
    have hsz : ((apB src ⟨#[]⟩ 0 S).size : Int) = (src.size : Int) + szs S := by
      rw [hsz]
      show ((0 : Nat) : Int) + _ + _ = _
      omega
    have hbd : ((apB src ⟨#[]⟩ 0 S).size : Int) < 1000000000000 := by
      have : ∀ R : List Ed, (∀ e ∈ R, Small e) → szs R ≤ 5000000000 * (R.length : Int) := by
        intro R
        induction R with
        | nil => intro _; exact Int.le_refl 0
        | cons e R ih =>
          intro hR
          have h1 := ih fun x hx => hR x (List.mem_cons_of_mem _ hx)
          have h2 := hR e (List.mem_cons_self ..)
          unfold Small at h2
          show (e.2.2.size : Int) + e.1 - e.2.1 + szs R ≤ _
          simp only [List.length_cons]
          omega
      have := this S hS
      omega
    rw [br_false, j0, Apply_j0_eq, b'.sl.rlen, chk_le (by omega), chk_le (by omega), chk_lt (by omega)]
    exact Apply_loop K src h' r' S b'.sl hS hsrc (by omega) _ _ hsz.symm S [] 0 ⟨#[]⟩ k rfl (by omega) (Int.le_refl 0) (by omega) (Nat.zero_le _) v0 rfl
  · refine .inr ⟨v0, h2, i, ?_, v3⟩
    rw [v2, obs]
    show br (!inil i) _ _ = _
    rw [errNil v3]
    rfl
/-- The text behind edits, and the error's text. -/
def aout (src : ByteArray) (S : List Ed) : ByteArray := if vchk src.size 0 S = 0 then apB src ⟨#[]⟩ 0 S else ⟨#[]⟩
def aerr (src : ByteArray) (S : List Ed) : ByteArray := if vchk src.size 0 S = 0 then ⟨#[]⟩ else if vchk src.size 0 S = 1 then outB else ovlB
theorem ApplyEdits_ok (K : Nat) (src : ByteArray) (L : List Ed) (hs : ∀ e ∈ L, Small e) (hsrc : src.size ≤ 200) (hl : L.length ≤ 12) (hK : 60020 ≤ K) : ApplyEdits K src L = some (aout src (isV eLt L).reverse, aerr src (isV eLt L).reverse) := by
  obtain ⟨K, rfl⟩ : ∃ m, K = m + 1 := ⟨K - 1, by omega⟩
  obtain ⟨h1, r, e1, b1⟩ := edits_ok K Hp.empty FreeH.empty L (by omega) (by omega)
  rw [ApplyEdits_eq, e1, obs]
  have a := Apply_ok K src b1 hs hsrc hl (by omega)
  unfold aout aerr
  show Option.bind (Apply K h1 src r) _ = _
  rcases a with ⟨v0, h', e2⟩ | ⟨v0, h', i, e2, e3⟩
  · rw [e2, obs, if_pos v0, if_pos v0]
    show Option.bind (word K h' .nil) _ = _
    rw [word_nil K h' (by omega), obs]
  · rw [e2, obs, if_neg v0, if_neg v0]
    show Option.bind (word K h' i) _ = _
    rw [word_ok K h' i _ e3 (by omega), obs]
theorem decL_u8 : ∀ (n : Nat) (L : List Int), n ≤ L.length → decL (.p (.int .u8)) n (L.map fun x => Cell.v (.int .u8 x)) = some (L.take n)
  | 0, L, _ => by rw [List.take_zero]; rfl
  | n + 1, [], h => by simp at h
  | n + 1, x :: L, h => by
    have ih := decL_u8 n L (by simp at h; omega)
    unfold decL
    have e1 : HTy.dec (.p (.int .u8)) (List.take (HTy.p (.int .u8)).sz (List.map (fun x => Cell.v (.int .u8 x)) (x :: L))) = some x := rfl
    have e2 : List.drop (HTy.p (.int .u8)).sz (List.map (fun x => Cell.v (.int .u8 x)) (x :: L)) = L.map (fun x => Cell.v (.int .u8 x)) := rfl
    rw [e1, e2, ih]
    rfl
theorem rd_ro (h : Hp) (s : ByteArray) : Hp.rd (h.push (.ro (roBytes s))) (.int .u8) (.at h.nx 0 s.size) = some (bytesI s) := by
  unfold Hp.rd
  have hc : (h.push (.ro (roBytes s))).cl h.nx = some (roBytes s) := by
    unfold Hp.cl
    rw [push_ob, if_pos rfl]
  simp only [hc]
  have hl : (roBytes s).length = s.size := by
    unfold roBytes
    rw [List.length_map, bytesI_len]
  rw [show Nat.ble (0 + s.size * Ty.sz (.int .u8)) (roBytes s).length = true by rw [hl]; exact Nat.ble_eq_true_of_le (by show 0 + s.size * 1 ≤ _; omega)]
  simp only [cond_true, List.drop_zero]
  have := decL_u8 s.size (bytesI s) (by rw [bytesI_len]; exact Nat.le_refl _)
  rw [List.take_of_length_le (by rw [bytesI_len]; exact Nat.le_refl _)] at this
  exact this
theorem ErrIs.push {h : Hp} {i : If} {s : ByteArray} (he : ErrIs h i s) (o : Ev.Obj) : ErrIs (h.push o) i s := by
  obtain ⟨n, h0, h1, h2⟩ := he
  exact ⟨n, Nat.lt_succ_of_lt h0, h1, by rw [push_ob, if_neg (by omega)]; exact h2⟩
theorem ApplyEditsBytes_ok (K : Nat) (src : ByteArray) (L : List Ed) (hs : ∀ e ∈ L, Small e) (hsrc : src.size ≤ 200) (hl : L.length ≤ 12) (hK : 60020 ≤ K) : ApplyEditsBytes K (bytesI src) L = some (bytesI (aout src (isV eLt L).reverse), aerr src (isV eLt L).reverse) := by
  obtain ⟨K, rfl⟩ : ∃ m, K = m + 1 := ⟨K - 1, by omega⟩
  obtain ⟨h1, r, e1, b1⟩ := edits_ok K Hp.empty FreeH.empty L (by omega) (by omega)
  have hb : ∀ h' s i, Apply (K - 1) h1 src r = some (h', (s, i)) → ApplyBytes K h1 (bytesI src) r = some (h'.push (.ro (roBytes s)), (.at h'.nx 0 s.size, i)) := by
    intro h' s i he
    obtain ⟨k, rfl⟩ : ∃ m, K = m + 1 := ⟨K - 1, by omega⟩
    rw [ApplyBytes_eq, strOf_bytesI, show Apply k h1 src r = _ from he, obs]
  rw [ApplyEditsBytes_eq, bytesI_len, chk_lt (by omega), e1, obs]
  have a := Apply_ok (K - 1) src b1 hs hsrc hl (by omega)
  have hlen : (isV eLt L).reverse.length = L.length := by rw [List.length_reverse, isV_length]
  have hS : ∀ e ∈ (isV eLt L).reverse, Small e := fun e he => hs e ((isV_perm eLt L).mem_iff.1 he)
  unfold aout aerr
  generalize (isV eLt L).reverse = S at *
  show Option.bind (ApplyBytes K h1 (bytesI src) r) _ = _
  rcases a with ⟨v0, h', e2⟩ | ⟨v0, h', i, e2, e3⟩
  · have hsz := apB_size src S ⟨#[]⟩ 0 (Int.le_refl 0) (by omega) v0
    have hbd : ((apB src ⟨#[]⟩ 0 S).size : Int) < 1000000000000 := by
      have : ∀ R : List Ed, (∀ e ∈ R, Small e) → szs R ≤ 5000000000 * (R.length : Int) := by
        intro R
        induction R with
        | nil => intro _; exact Int.le_refl 0
        | cons e R ih =>
          intro hR
          have h1 := ih fun x hx => hR x (List.mem_cons_of_mem _ hx)
          have h2 := hR e (List.mem_cons_self ..)
          unfold Small at h2
          show (e.2.2.size : Int) + e.1 - e.2.1 + szs R ≤ _
          simp only [List.length_cons]
          omega
      have := this S hS
      have e0 : ((⟨#[]⟩ : ByteArray).size : Int) = 0 := rfl
      omega
    rw [hb _ _ _ e2, obs, if_pos v0, if_pos v0]
    show Option.bind (Hp.rd (h'.push _) (.int .u8) (.at h'.nx 0 (apB src ⟨#[]⟩ 0 S).size)) _ = _
    rw [rd_ro, obs, bytesI_len, chk_lt hbd]
    show Option.bind (word K (h'.push _) .nil) _ = _
    rw [word_nil K _ (by omega), obs]
  · rw [hb _ _ _ e2, obs, if_neg v0, if_neg v0]
    show Option.bind (Hp.rd (h'.push _) (.int .u8) (.at h'.nx 0 (ByteArray.size ⟨#[]⟩))) _ = _
    rw [rd_ro, obs, bytesI_len, chk_lt (by show ((0 : Nat) : Int) < _; omega)]
    show Option.bind (word K (h'.push _) i) _ = _
    rw [word_ok K _ i _ (e3.push _) (by omega), obs]
/-! ### as specified -/
def inB (n : Int) (L : List Ed) : Bool := L.all fun e => decide (0 ≤ e.1 ∧ e.1 ≤ e.2.1 ∧ e.2.1 ≤ n)
def apartB : List Ed → Bool
  | [] => true
  | [_] => true
  | a :: b :: L => decide (a.2.1 ≤ b.1) && apartB (b :: L)
theorem EditsIn_ok (K : Nat) (h : Hp) (r : Rf) (L : List Ed) (n : Int) (hs : SlL h 41 TS1 r L) (hl : L.length ≤ 1000) (hK : 4000 ≤ K) : EditsIn K h r n = some (h, inB n L) := by
  obtain ⟨K, rfl⟩ : ∃ m, K = m + 1 := ⟨K - 1, by omega⟩
  rw [EditsIn_eq, hs.rlen]
  unfold inB
  have key : ∀ (R P : List Ed) (k : Nat), P ++ R = L → 3 * R.length + 1 ≤ k → EditsIn_l0 K k n r (L.length : Int) (P.length : Int) h = some (h, R.all fun e => decide (0 ≤ e.1 ∧ e.1 ≤ e.2.1 ∧ e.2.1 ≤ n)) := by
    intro R
    induction R with
    | nil =>
      intro P k hP hk
      obtain ⟨k, rfl⟩ : ∃ m, k = m + 1 := ⟨k - 1, by omega⟩
      rw [List.append_nil] at hP
      rw [EditsIn_l0_eq, br_ge (by rw [hP]; omega)]
      rfl
    | cons e R ih =>
      intro P k hP hk
      simp only [List.length_cons] at hk
      have hll : L.length = P.length + (R.length + 1) := by rw [← hP]; simp
      obtain ⟨k, rfl⟩ : ∃ m, k = m + 3 := ⟨k - 3, by omega⟩
      have hL : L[P.length]'(by omega) = e := by
        have : L[P.length]? = some e := by rw [← hP]; simp
        exact (List.getElem?_eq_some_iff.1 this).2
      have := ih (P ++ [e]) k (by rw [List.append_assoc]; exact hP) (by omega)
      rw [List.length_append] at this
      have this : EditsIn_l0 K k n r (L.length : Int) ((P.length : Int) + 1) h = _ := this
      rw [EditsIn_l0_eq, br_lt (by omega), EditsIn_j0_eq, hs.rlen, chk_le (by omega), chk_lt (by omega), SlL.ld3 hs P.length (by omega), obs, hL, List.all_cons]
      have t : EditsIn_j1 K (k + 1) n r (L.length : Int) (P.length : Int) true h = some (h, false) := by rw [EditsIn_j1_eq, br_true]
      have f : EditsIn_j1 K (k + 1) n r (L.length : Int) (P.length : Int) false h = some (h, R.all fun e => decide (0 ≤ e.1 ∧ e.1 ≤ e.2.1 ∧ e.2.1 ≤ n)) := by rw [EditsIn_j1_eq, br_false, wrap_id (by omega) (by omega)]; exact this
      obtain ⟨a, b, s⟩ := e
      show br (ltI a 0) (EditsIn_j1 K (k + 1) n r (L.length : Int) (P.length : Int) true h) (br (ltI b a) (EditsIn_j1 K (k + 1) n r (L.length : Int) (P.length : Int) true h) (EditsIn_j1 K (k + 1) n r (L.length : Int) (P.length : Int) (ltI n b) h)) = some (h, decide (0 ≤ a ∧ a ≤ b ∧ b ≤ n) && _)
      rw [t]
      by_cases c1 : a < 0
      · rw [br_lt c1, decide_eq_false (by omega), Bool.false_and]
      rw [br_ge (by omega)]
      by_cases c2 : b < a
      · rw [br_lt c2, decide_eq_false (by omega), Bool.false_and]
      rw [br_ge (by omega), ltI_eq]
      by_cases c3 : n < b
      · rw [decide_eq_true c3, t, decide_eq_false (by omega), Bool.false_and]
      · rw [decide_eq_false c3, f, decide_eq_true (by omega), Bool.true_and]
  exact key L [] K rfl (by omega)
theorem SlL.f0 {h : Hp} {e : TypeId} {r : Rf} {L : List Ed} (hs : SlL h e TS1 r L) (i : Nat) (hi : i < L.length) : Hp.ld h (.p (.int .i64)) (padd 0 (radr 3 (Int.toNat (i : Int)) r)) = some L[i].1 ∧ (!pnil (radr 3 (Int.toNat (i : Int)) r)) = true := by
  rcases hs with ⟨rfl, rfl⟩ | ⟨_, n, _, rfl, ho⟩
  · simp at hi
  · rw [radr0]
    exact ⟨HO.f0 ho i hi, rfl⟩
theorem SlL.f1 {h : Hp} {e : TypeId} {r : Rf} {L : List Ed} (hs : SlL h e TS1 r L) (i : Nat) (hi : i < L.length) : Hp.ld h (.p (.int .i64)) (padd 1 (radr 3 (Int.toNat (i : Int)) r)) = some L[i].2.1 ∧ (!pnil (radr 3 (Int.toNat (i : Int)) r)) = true := by
  rcases hs with ⟨rfl, rfl⟩ | ⟨_, n, _, rfl, ho⟩
  · simp at hi
  · rw [radr0]
    exact ⟨HO.f1 ho i hi, rfl⟩
theorem chk_true {R : Type} (a : Option R) : chk true a = a := rfl
theorem EditsApart_ok (K : Nat) (h : Hp) (r : Rf) (L : List Ed) (hs : SlL h 41 TS1 r L) (hl : L.length ≤ 1000) (hK : 4000 ≤ K) : EditsApart K h r = some (h, apartB L) := by
  obtain ⟨K, rfl⟩ : ∃ m, K = m + 1 := ⟨K - 1, by omega⟩
  rw [EditsApart_eq]
  have key : ∀ (R P : List Ed) (a : Ed) (k : Nat), P ++ a :: R = L → 2 * R.length + 1 ≤ k → EditsApart_l0 K k r ((P.length : Int) + 1) h = some (h, apartB (a :: R)) := by
    intro R
    induction R with
    | nil =>
      intro P a k hP hk
      obtain ⟨k, rfl⟩ : ∃ m, k = m + 1 := ⟨k - 1, by omega⟩
      have hll : L.length = P.length + 1 := by rw [← hP]; simp
      rw [EditsApart_l0_eq, hs.rlen, br_ge (by omega)]
      rfl
    | cons b R ih =>
      intro P a k hP hk
      simp only [List.length_cons] at hk
      have hll : L.length = P.length + (R.length + 2) := by rw [← hP]; simp
      obtain ⟨k, rfl⟩ : ∃ m, k = m + 2 := ⟨k - 2, by omega⟩
      have g1 : L[P.length]'(by omega) = a := by
        have : L[P.length]? = some a := by rw [← hP]; simp
        exact (List.getElem?_eq_some_iff.1 this).2
      have g2 : L[P.length + 1]'(by omega) = b := by
        have : L[P.length + 1]? = some b := by rw [← hP]; simp [List.getElem?_append_right]
        exact (List.getElem?_eq_some_iff.1 this).2
      have a1 := SlL.f0 hs (P.length + 1) (by omega)
      have a2 := SlL.f1 hs P.length (by omega)
      rw [g2] at a1
      rw [g1] at a2
      have w : IntKind.wrap IntKind.i64 ((P.length : Int) + 1 - 1) = (P.length : Int) := by rw [wrap_id (by omega) (by omega)]; omega
      rw [show (P.length : Int) + 1 = ((P.length + 1 : Nat) : Int) by omega] at w ⊢
      rw [EditsApart_l0_eq, hs.rlen, br_lt (by omega), EditsApart_j0_eq, hs.rlen, w, chk_le (by omega), chk_lt (by omega), a1.2, chk_true, a1.1, obs, chk_le (by omega), chk_lt (by omega), a2.2, chk_true, a2.1, obs]
      have := ih (P ++ [a]) b k (by rw [List.append_assoc]; exact hP) (by omega)
      rw [List.length_append] at this
      by_cases c : b.1 < a.2.1
      · rw [br_lt c]
        show _ = some (h, decide (a.2.1 ≤ b.1) && _)
        rw [decide_eq_false (by omega)]
        rfl
      · rw [br_ge (by omega), wrap_id (by omega) (by omega)]
        show _ = some (h, decide (a.2.1 ≤ b.1) && _)
        rw [decide_eq_true (by omega), Bool.true_and]
        exact this
  cases hL : L with
  | nil =>
    obtain ⟨K, rfl⟩ : ∃ m, K = m + 1 := ⟨K - 1, by omega⟩
    rw [EditsApart_l0_eq, hs.rlen, hL, br_ge (by show ((0 : Nat) : Int) ≤ 1; omega)]
    rfl
  | cons a R =>
    have := key R [] a K hL.symm (by rw [hL] at hl; simp only [List.length_cons] at hl; omega)
    rw [← hL]
    rw [hL]
    exact this
theorem EditsApplied_ok (K : Nat) (src : ByteArray) (h : Hp) (r : Rf) (S : List Ed) (hs : SlL h 41 TS1 r S) (hb : ∀ e ∈ S, e.2.2.size ≤ 100000) (hsrc : src.size ≤ 100000) (hl : S.length ≤ 1000) (hv : vchk src.size 0 S = 0) (hK : 4000 ≤ K) : EditsApplied K h src r = some (h, apB src ⟨#[]⟩ 0 S) := by
  obtain ⟨K, rfl⟩ : ∃ m, K = m + 1 := ⟨K - 1, by omega⟩
  rw [EditsApplied_eq, hs.rlen]
  have key : ∀ (R P : List Ed) (last : Int) (X : ByteArray) (k : Nat), P ++ R = S → 2 * R.length + 2 ≤ k → 0 ≤ last → last ≤ src.size → X.size ≤ 1000000 * P.length → vchk src.size last R = 0 →
      EditsApplied_l0 K k src X last r (S.length : Int) (P.length : Int) h = some (h, apB src X last R) := by
    intro R
    induction R with
    | nil =>
      intro P last X k hP hk h0 h1 hX hv
      obtain ⟨k, rfl⟩ : ∃ m, k = m + 2 := ⟨k - 2, by omega⟩
      rw [List.append_nil] at hP
      subst hP
      rw [EditsApplied_l0_eq, br_ge (by omega), EditsApplied_j1_eq, Int.toNat_natCast, ex_size src _ _ (by omega) (Nat.le_refl _), chk_le (by omega), chk_le (by omega), chk_le (by omega), chk_nle (by omega)]
      rfl
    | cons e R ih =>
      intro P last X k hP hk h0 h1 hX hv
      simp only [List.length_cons] at hk
      obtain ⟨k, rfl⟩ : ∃ m, k = m + 2 := ⟨k - 2, by omega⟩
      have hll : S.length = P.length + (R.length + 1) := by rw [← hP]; simp
      have hL : S[P.length]'(by omega) = e := by
        have : S[P.length]? = some e := by rw [← hP]; simp
        exact (List.getElem?_eq_some_iff.1 this).2
      have he := hb e (by rw [← hP]; simp)
      unfold vchk at hv
      by_cases c1 : 0 ≤ e.1 ∧ e.1 ≤ e.2.1 ∧ e.2.1 ≤ src.size
      · rw [if_pos c1] at hv
        by_cases c2 : e.1 < last
        · rw [if_pos c2] at hv
          cases hv
        · rw [if_neg c2] at hv
          have hsz0 : (ByteArray.append (src.extract last.toNat e.1.toNat) e.2.2).size ≤ 200000 := by
            have := ba_size_app (src.extract last.toNat e.1.toNat) e.2.2
            rw [ex_size src _ _ (by omega) (by omega)] at this
            have e0 : (ByteArray.append (src.extract last.toNat e.1.toNat) e.2.2).size = _ := this
            omega
          have hsz : (X ++ (src.extract last.toNat e.1.toNat ++ e.2.2)).size ≤ 1000000 * (P ++ [e]).length := by
            rw [ba_size_app, ba_size_app, ex_size src _ _ (by omega) (by omega), List.length_append]
            simp only [List.length_cons, List.length_nil]
            omega
          have nxt := ih (P ++ [e]) e.2.1 _ k (by rw [List.append_assoc]; exact hP) (by omega) (by omega) (by omega) hsz hv
          rw [List.length_append] at nxt
          rw [EditsApplied_l0_eq, br_lt (by omega), EditsApplied_j0_eq, hs.rlen, chk_le (by omega), chk_lt (by omega), SlL.ld3 hs P.length (by omega), obs, hL, chk_le (by omega), chk_le (by omega), chk_le (by omega), chk_nle (by rw [ex_size src _ _ (by omega) (by omega)]; omega), chk_nle (by omega), wrap_id (by omega) (by omega)]
          exact nxt
      · rw [if_neg c1] at hv
        cases hv
  exact key S [] 0 ⟨#[]⟩ K rfl (by omega) (Int.le_refl 0) (by omega) (Nat.zero_le _) hv
theorem vchk_in : ∀ (n : Int) (L : List Ed) (last : Int), (vchk n last L = 0 → inB n L = true) ∧ (vchk n last L = 1 → inB n L = false)
  | n, [], last => ⟨fun _ => rfl, fun h => by cases h⟩
  | n, e :: L, last => by
    have ih := vchk_in n L e.2.1
    unfold vchk
    have hI : inB n (e :: L) = (decide (0 ≤ e.1 ∧ e.1 ≤ e.2.1 ∧ e.2.1 ≤ n) && inB n L) := by unfold inB; rw [List.all_cons]
    rw [hI]
    by_cases c : 0 ≤ e.1 ∧ e.1 ≤ e.2.1 ∧ e.2.1 ≤ n
    · rw [if_pos c, decide_eq_true c, Bool.true_and]
      by_cases c2 : e.1 < last
      · rw [if_pos c2]
        exact ⟨fun h => (by cases h), fun h => (by cases h)⟩
      · rw [if_neg c2]
        exact ih
    · rw [if_neg c, decide_eq_false c, Bool.false_and]
      exact ⟨fun h => (by cases h), fun _ => rfl⟩
theorem vchk_le : ∀ (n : Int) (L : List Ed) (last : Int), vchk n last L ≤ 2
  | n, [], last => by show 0 ≤ 2; omega
  | n, e :: L, last => by
    unfold vchk
    split
    · split
      · exact Nat.le_refl 2
      · exact vchk_le n L e.2.1
    · omega
theorem vchk_apart : ∀ (n : Int) (L : List Ed) (p : Ed), (vchk n p.2.1 L = 0 → apartB (p :: L) = true) ∧ (vchk n p.2.1 L = 2 → apartB (p :: L) = false)
  | n, [], p => ⟨fun _ => rfl, fun h => by cases h⟩
  | n, e :: L, p => by
    have ih := vchk_apart n L e
    unfold vchk
    show (_ → (decide (p.2.1 ≤ e.1) && apartB (e :: L)) = true) ∧ (_ → (decide (p.2.1 ≤ e.1) && apartB (e :: L)) = false)
    by_cases c : 0 ≤ e.1 ∧ e.1 ≤ e.2.1 ∧ e.2.1 ≤ n
    · rw [if_pos c]
      by_cases c2 : e.1 < p.2.1
      · rw [if_pos c2, decide_eq_false (by omega), Bool.false_and]
        exact ⟨fun h => (by cases h), fun _ => rfl⟩
      · rw [if_neg c2, decide_eq_true (by omega), Bool.true_and]
        exact ih
    · rw [if_neg c]
      exact ⟨fun h => (by cases h), fun h => (by cases h)⟩
theorem vchk_apart0 (n : Int) (L : List Ed) : (vchk n 0 L = 0 → apartB L = true) ∧ (vchk n 0 L = 2 → apartB L = false) := by
  cases L with
  | nil => exact ⟨fun _ => rfl, fun h => by cases h⟩
  | cons e L =>
    unfold vchk
    by_cases c : 0 ≤ e.1 ∧ e.1 ≤ e.2.1 ∧ e.2.1 ≤ n
    · rw [if_pos c, if_neg (by omega)]
      exact vchk_apart n L e
    · rw [if_neg c]
      exact ⟨fun h => (by cases h), fun h => (by cases h)⟩
end Go.Proofs.Ytfglahmbnnkijaa.E
