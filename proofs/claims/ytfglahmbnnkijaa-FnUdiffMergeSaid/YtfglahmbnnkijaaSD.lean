import Derived.Test.YtfglahmbnnkijaaSC
/- Edits applied to a text: by the library, and as specified. -/
set_option linter.unusedVariables false
set_option linter.unusedSimpArgs false
namespace Go.Proofs.Ytfglahmbnnkijaa.E
open Go.Ev Go.Lcs
/-! ### plain -/
/-- What is wrong with sorted edits: 0 nothing, 1 one lies outside, 2 two overlap. -/
def vchk (n : Int) : Int → List Ed → Nat
  | _, [] => 0
  | last, e :: L => if 0 ≤ e.1 ∧ e.1 ≤ e.2.1 ∧ e.2.1 ≤ n then (if e.1 < last then 2 else vchk n e.2.1 L) else 1
def szs : List Ed → Int
  | [] => 0
  | e :: L => (e.2.2.size : Int) + e.1 - e.2.1 + szs L
def apB (s : ByteArray) : ByteArray → Int → List Ed → ByteArray
  | X, at_, [] => X ++ s.extract at_.toNat s.size
  | X, at_, e :: L => apB s (X ++ (s.extract at_.toNat e.1.toNat ++ e.2.2)) e.2.1 L
theorem ex_size (s : ByteArray) (i j : Nat) (h1 : i ≤ j) (h2 : j ≤ s.size) : (s.extract i j).size = j - i := by
  rw [← B_size, B_extract, List.length_take, List.length_drop, B_size]
  omega
theorem ba_size_app (a b : ByteArray) : (a ++ b).size = a.size + b.size := size_app a b
theorem apB_size (s : ByteArray) : ∀ (R : List Ed) (X : ByteArray) (at_ : Int), 0 ≤ at_ → at_ ≤ s.size → vchk s.size at_ R = 0 → ((apB s X at_ R).size : Int) = X.size + (s.size - at_) + szs R
  | [], X, at_, h0, h1, _ => by
    unfold apB szs
    rw [ba_size_app, ex_size s _ _ (by omega) (Nat.le_refl _)]
    omega
  | e :: R, X, at_, h0, h1, hv => by
    unfold vchk at hv
    by_cases c1 : 0 ≤ e.1 ∧ e.1 ≤ e.2.1 ∧ e.2.1 ≤ s.size
    · rw [if_pos c1] at hv
      by_cases c2 : e.1 < at_
      · rw [if_pos c2] at hv
        cases hv
      · rw [if_neg c2] at hv
        unfold apB szs
        rw [apB_size s R _ e.2.1 (by omega) (by omega) hv, ba_size_app, ba_size_app, ex_size s _ _ (by omega) (by omega)]
        omega
    · rw [if_neg c1] at hv
      cases hv
theorem bytesI_app (a b : ByteArray) : bytesI (a ++ b) = bytesI a ++ bytesI b := by
  unfold bytesI
  have := B_append a b
  unfold B at this
  rw [this, List.map_append]
theorem bytesI_len (s : ByteArray) : (bytesI s).length = s.size := by
  unfold bytesI
  rw [List.length_map]
  exact szL s
theorem strOf_bytesI (s : ByteArray) : strOfBytes (bytesI s) = s := by
  apply ba_ext
  unfold strOfBytes bytesI
  rw [List.map_map]
  show (s.data.toList.map _) = _
  conv => rhs; rw [← List.map_id s.data.toList]
  apply List.map_congr_left
  intro b _
  show UInt8.ofNat (Int.toNat (b.toNat : Int)) = b
  rw [Int.toNat_natCast]
  simp
/-- Edits that are in order stay as they are. -/
def ord : List Ed → Bool
  | [] => true
  | [_] => true
  | a :: b :: L => !eLt b a && ord (b :: L)
theorem isV_ord : ∀ (R P : List Ed) (x : Ed), ord (x :: R) = true → isV eLt (P ++ [x]) = x :: P.reverse → isV eLt (P ++ x :: R) = (P ++ x :: R).reverse
  | [], P, x, _, h => by rw [h]; simp
  | y :: R, P, x, ho, h => by
    have ho' : (!eLt y x && ord (y :: R)) = true := ho
    rw [Bool.and_eq_true] at ho'
    have hy : eLt y x = false := by cases hb : eLt y x with | true => rw [hb] at ho'; cases ho'.1 | false => rfl
    have := isV_ord R (P ++ [x]) y ho'.2 (by
      rw [isV_snoc, h, insV_cons, hy]
      simp)
    rw [List.append_assoc] at this
    exact this
theorem ord_isV (L : List Ed) (h : ord L = true) : (isV eLt L).reverse = L := by
  match L, h with
  | [], _ => rfl
  | x :: R, h =>
    have := isV_ord R [] x h rfl
    rw [List.nil_append] at this
    rw [this, List.reverse_reverse]
theorem ord_snoc : ∀ (P : List Ed) (a b : Ed), ord (P ++ [a, b]) = (ord (P ++ [a]) && !eLt b a)
  | [], a, b => by show (!eLt b a && true) = (true && !eLt b a); cases eLt b a <;> rfl
  | [p], a, b => by show (!eLt a p && (!eLt b a && true)) = ((!eLt a p && true) && !eLt b a); cases eLt a p <;> cases eLt b a <;> rfl
  | p :: q :: P, a, b => by
    show (!eLt q p && ord (q :: (P ++ [a, b]))) = ((!eLt q p && ord (q :: (P ++ [a]))) && !eLt b a)
    have := ord_snoc (q :: P) a b
    rw [List.cons_append, List.cons_append] at this
    rw [this, Bool.and_assoc]
/-! ### the library -/
theorem IsSorted_ok (K : Nat) {h : Hp} {r : Rf} {L : List Ed} (hs : SlL h 74 TS1 r L) (hb : ∀ e ∈ L, Small e) (hl : L.length ≤ 100) (hK : 300 ≤ K) : ∃ b, IsSorted K h (If.sl 82 r) = some (h, b) ∧ (b = true → (isV eLt L).reverse = L) := by
  obtain ⟨K, rfl⟩ : ∃ m, K = m + 1 := ⟨K - 1, by omega⟩
  obtain ⟨K, rfl⟩ : ∃ m, K = m + 1 := ⟨K - 1, by omega⟩
  rw [IsSorted_eq, itag_sl, br_true, ifs_sl, obs, udiff_editsSort_Len_eq, obs]
  show ∃ b, IsSorted_l0 (K + 1) (K + 1) (If.sl 82 r) (IntKind.wrap IntKind.i64 ((rlen r : Int) - 1)) h = _ ∧ _
  rw [hs.rlen, wrap_id (by omega) (by omega)]
  have key : ∀ (m k : Nat) (R P : List Ed), P ++ R = L → P.length = m + 1 → 2 * m + 1 ≤ k → ∃ b, IsSorted_l0 (K + 1) k (If.sl 82 r) (m : Int) h = some (h, b) ∧ (b = true → ord P = true) := by
    intro m
    induction m with
    | zero =>
      intro k R P hP hm hk
      obtain ⟨k, rfl⟩ : ∃ m, k = m + 1 := ⟨k - 1, by omega⟩
      refine ⟨true, by rw [IsSorted_l0_eq, br_ge (by omega)], fun _ => ?_⟩
      match P, hm with
      | [x], _ => rfl
    | succ m ih =>
      intro k R P hP hm hk
      obtain ⟨k, rfl⟩ : ∃ m, k = m + 1 := ⟨k - 1, by omega⟩
      obtain ⟨k, rfl⟩ : ∃ m, k = m + 1 := ⟨k - 1, by omega⟩
      rcases hs with ⟨rfl, _⟩ | ⟨_, n, hn, rfl, ho⟩
      · have : P = [] := (List.append_eq_nil_iff.1 hP).1
        subst this
        simp at hm
      have hlen : L.length = m + 2 + R.length := by rw [← hP, List.length_append, hm]
      have hl := Less_ok (K + 1) ho hb (m + 1) m (by omega) (by omega) (by omega)
      obtain ⟨Q, b, a, rfl⟩ : ∃ Q b a, P = Q ++ [a, b] := by
        have hr : P.reverse.length = m + 2 := by rw [List.length_reverse]; exact hm
        match hpr : P.reverse, hr with
        | b :: a :: Q, _ => exact ⟨Q.reverse, b, a, by rw [← List.reverse_reverse P, hpr]; simp⟩
      have hQ : Q.length = m := by simp at hm; exact hm
      have g1 : L[m + 1]'(by omega) = b := by
        have : L[m + 1]? = some b := by rw [← hP, ← hQ]; simp
        exact (List.getElem?_eq_some_iff.1 this).2
      have g2 : L[m]'(by omega) = a := by
        have : L[m]? = some a := by rw [← hP, ← hQ]; simp
        exact (List.getElem?_eq_some_iff.1 this).2
      rw [g1, g2] at hl
      have hw : IntKind.wrap IntKind.i64 (((m + 1 : Nat) : Int) - 1) = (m : Int) := by rw [wrap_id (by omega) (by omega)]; omega
      rw [IsSorted_l0_eq, br_lt (by omega), IsSorted_j0_eq, itag_sl, br_true, ifs_sl, obs, hw, hl, obs]
      cases hc : eLt b a with
      | true =>
        rw [br_true]
        exact ⟨false, rfl, fun h => by cases h⟩
      | false =>
        rw [br_false]
        obtain ⟨b', e1, e2⟩ := ih k (b :: R) (Q ++ [a]) (by rw [← hP]; simp) (by simp [hQ]) (by omega)
        exact ⟨b', e1, fun h => by rw [ord_snoc, e2 h, hc]; rfl⟩
  cases hL : L with
  | nil =>
    refine ⟨true, ?_, fun _ => rfl⟩
    rw [IsSorted_l0_eq, br_ge (by simp)]
  | cons x R =>
    obtain ⟨b, e1, e2⟩ := key R.length (K + 1) [] L (by simp) (by rw [hL]; rfl) (by rw [hL] at hl; simp only [List.length_cons] at hl; omega)
    rw [← hL]
    refine ⟨b, ?_, fun h => ord_isV L (e2 h)⟩
    rw [show ((L.length : Int) - 1) = (R.length : Int) by rw [hL]; simp only [List.length_cons]; omega]
    exact e1
theorem clone_ok (K : Nat) {h0 h : Hp} {r : Rf} {L : List Ed} (hb : Blt h0 h 74 TS1 r L) (hl : L.length ≤ 100) (hK : 3 ≤ K) : ∃ h' r', Edit_ K h r = some (h', r') ∧ Blt h0 h' 74 TS1 r' L := by
  obtain ⟨K, rfl⟩ : ∃ m, K = m + 1 := ⟨K - 1, by omega⟩
  obtain ⟨K, rfl⟩ : ∃ m, K = m + 1 := ⟨K - 1, by omega⟩
  have hs := hb.sl
  obtain ⟨hk, hf, hL⟩ := hb
  rcases hL with ⟨rfl, rfl⟩ | ⟨hne, n, hn0, hn, rfl, ho⟩
  · exact ⟨h, .nil, by rw [Edit__eq]; rfl, hk, hf, .inl ⟨rfl, rfl⟩⟩
  · have h1 : 0 < L.length := by cases L with | nil => exact absurd rfl hne | cons => simp
    have hN : HO (Hp.new h 74 (.p TS1) ([] : List Ed)) 74 TS1 h.nx [] := HO.new h 74 TS1 []
    have ho1 : HO (Hp.new h 74 (.p TS1) ([] : List Ed)) 74 TS1 n L := ho.push (by omega) _
    have happ := hN.app L hne
    have hcs := ho1.cs
    have hrs : rsure (.at n 0 L.length) = true := by
      show Nat.blt 0 L.length = true
      exact Nat.ble_eq_true_of_le h1
    have hk1 : KeepH h0 (Hp.new h 74 (.p TS1) ([] : List Ed)) := hk.push _
    have hf1 : FreeH (Hp.new h 74 (.p TS1) ([] : List Ed)) := hf.push _
    refine ⟨((Hp.new h 74 (.p TS1) ([] : List Ed)).set h.nx none).push (.cells 74 TS1.sz (([] ++ L).map (HTy.cc (.p TS1))).flatten), .at (Hp.new h 74 (.p TS1) ([] : List Ed)).nx 0 L.length, ?_, ((hk1.set (n := h.nx) hk.nx none).push _), ((hf1.set (n := h.nx) (Nat.lt_succ_self _) none).push _), .inr ⟨hne, (Hp.new h 74 (.p TS1) ([] : List Ed)).nx, Nat.le_trans hk.nx (Nat.le_succ _), Nat.lt_succ_self _, rfl, ?_⟩⟩
    rotate_left
    · unfold HO
      rw [push_ob, if_pos (show (Hp.new h 74 (.p TS1) ([] : List Ed)).nx = ((Hp.new h 74 (.p TS1) ([] : List Ed)).set h.nx none).nx from rfl), List.nil_append]
    · have hct : ∀ a : Option (Hp × Rf), chk true a = a := fun _ => rfl
      rw [Edit__eq, hrs, hct, show rnil (.at n 0 L.length) = false from rfl, br_false, Edit__j0_eq]
      show Option.bind (Hp.cs (Hp.new h 74 (.p TS1) ([] : List Ed)) 3 (.at n 0 L.length)) _ = _
      have hcs : Hp.cs (Hp.new h 74 (.p TS1) ([] : List Ed)) 3 (.at n 0 L.length) = some ((L.map (HTy.cc (.p TS1))).flatten, L.length) := hcs
      have happ : Hp.app (Hp.new h 74 (.p TS1) ([] : List Ed)) 74 3 (L.map (HTy.cc (.p TS1))).flatten L.length (.at h.nx 0 0) = some (.at (Hp.new h 74 (.p TS1) ([] : List Ed)).nx 0 (0 + L.length), _) := happ
      rw [hcs, obs]
      show chk _ (Option.bind (Hp.app (Hp.new h 74 (.p TS1) ([] : List Ed)) 74 3 (L.map (HTy.cc (.p TS1))).flatten L.length (.at h.nx 0 0)) _) = _
      rw [happ, obs, chk_lt (by show ((0 : Nat) : Int) + (L.length : Int) < _; omega)]
      simp only [Nat.zero_add]
def outB : ByteArray := ByteArray.mk (List.toArray [100, 105, 102, 102, 32, 104, 97, 115, 32, 111, 117, 116, 45, 111, 102, 45, 98, 111, 117, 110, 100, 115, 32, 101, 100, 105, 116, 115])
def ovlB : ByteArray := ByteArray.mk (List.toArray [100, 105, 102, 102, 32, 104, 97, 115, 32, 111, 118, 101, 114, 108, 97, 112, 112, 105, 110, 103, 32, 101, 100, 105, 116, 115])
/-- An error that tells a text. -/
def ErrIs (h : Hp) (i : If) (s : ByteArray) : Prop := ∃ n, n < h.nx ∧ i = .pt 123 (.at n 0) ∧ h.ob n = some (.cells 125 1 [.v (.string s)])
theorem New_ok (K : Nat) (h : Hp) (s : ByteArray) (hK : 1 ≤ K) : ∃ i, New K h s = some (Hp.new h 125 (.p TS4) [s], i) ∧ ErrIs (Hp.new h 125 (.p TS4) [s]) i s := by
  obtain ⟨K, rfl⟩ : ∃ m, K = m + 1 := ⟨K - 1, by omega⟩
  refine ⟨_, New_eq K h s, h.nx, Nat.lt_succ_self _, rfl, ?_⟩
  unfold Hp.new
  rw [push_ob, if_pos rfl]
  rfl
theorem word_ok (K : Nat) (h : Hp) (i : If) (s : ByteArray) (he : ErrIs h i s) (hK : 4 ≤ K) : word K h i = some (h, s) := by
  obtain ⟨K, rfl⟩ : ∃ m, K = m + 4 := ⟨K - 4, by omega⟩
  obtain ⟨n, _, rfl, ho⟩ := he
  have hl : Hp.ld h (.p .str) (padd 0 (.at n 0)) = some s := by
    show Hp.ld h (.p .str) (.at n 0) = _
    unfold Hp.ld Hp.cl
    simp only [ho]
    rfl
  rw [word_eq]
  show br false _ _ = _
  rw [br_false, word_j0_eq]
  show br (Nat.beq 123 123) (Option.bind (some (Pf.at n 0)) _) _ = _
  show br true _ _ = _
  rw [br_true, obs, errors_errorString_Error_eq]
  show Option.bind (Option.bind (Hp.ld h (.p .str) (padd 0 (.at n 0))) _) _ = _
  rw [hl, obs, obs]
theorem word_nil (K : Nat) (h : Hp) (hK : 1 ≤ K) : word K h .nil = some (h, ⟨#[]⟩) := by
  obtain ⟨K, rfl⟩ : ∃ m, K = m + 1 := ⟨K - 1, by omega⟩
  rw [word_eq]
  rfl
/-- What validate answers for sorted edits. -/
def VRes (h : Hp) (src : ByteArray) (r : Rf) (c : Nat) (S : List Ed) (o : Option (Hp × (Rf × (Int × If)))) : Prop :=
  (c = 0 ∧ o = some (h, (r, ((src.size : Int) + szs S, .nil)))) ∨ (c ≠ 0 ∧ ∃ h' i, KeepH h h' ∧ o = some (h', (.nil, (0, i))) ∧ ErrIs h' i (if c = 1 then outB else ovlB))
theorem validate_loop (K : Nat) (src : ByteArray) (h : Hp) (r : Rf) (S : List Ed) (hs : SlL h 74 TS1 r S) (hb : ∀ e ∈ S, Small e) (hsrc : src.size ≤ 200) (hl : S.length ≤ 12) (hK : 5 ≤ K) :
    ∀ (R P : List Ed) (last : Int) (k : Nat), P ++ R = S → 5 * R.length + 2 ≤ k → -1000 * (P.length : Int) ≤ szs P → szs P ≤ 1000 * (P.length : Int) →
      VRes h src r (vchk src.size last R) S (validate_l0 K k src r ((src.size : Int) + szs P) last r (S.length : Int) (P.length : Int) h) := by
  have szs_app : ∀ (P : List Ed) (e : Ed), szs (P ++ [e]) = szs P + ((e.2.2.size : Int) + e.1 - e.2.1) := by
    intro P e
    induction P with
    | nil => show (e.2.2.size : Int) + e.1 - e.2.1 + 0 = 0 + _; omega
    | cons p P ih => show (p.2.2.size : Int) + p.1 - p.2.1 + szs (P ++ [e]) = (p.2.2.size : Int) + p.1 - p.2.1 + szs P + _; rw [ih]; omega
  intro R
  induction R with
  | nil =>
    intro P last k hP hk _ _
    obtain ⟨k, rfl⟩ : ∃ m, k = m + 2 := ⟨k - 2, by omega⟩
    rw [List.append_nil] at hP
    subst hP
    refine .inl ⟨rfl, ?_⟩
    rw [validate_l0_eq, br_ge (by omega), validate_j2_eq]
  | cons e R ih =>
    intro P last k hP hk s1 s2
    simp only [List.length_cons] at hk
    obtain ⟨k, rfl⟩ : ∃ m, k = m + 5 := ⟨k - 5, by omega⟩
    have hll : S.length = P.length + (R.length + 1) := by rw [← hP]; simp
    have hL : S[P.length]'(by omega) = e := by
      have : S[P.length]? = some e := by rw [← hP]; simp
      exact (List.getElem?_eq_some_iff.1 this).2
    have he : Small e := hb e (by rw [← hP]; simp)
    unfold Small at he
    have hn : nth TS1 [e] (0 : Int) = e := nth_mid TS1 [] e []
    have bad : ∀ k, VRes h src r 1 S (validate_j3 K (k + 1) src r ((src.size : Int) + szs P) last (0 : Int) [e] r (S.length : Int) (P.length : Int) true h) := by
      intro k
      obtain ⟨i, n1, n2⟩ := New_ok K h outB (by omega)
      refine .inr ⟨by omega, _, i, (KeepH.refl h).push _, ?_, n2⟩
      rw [validate_j3_eq, br_true]
      show Option.bind (New K h outB) _ = _
      rw [n1, obs]
      rfl
    rw [validate_l0_eq, br_lt (by omega), validate_j1_eq, hs.rlen, chk_le (by omega), chk_lt (by omega), SlL.ld3 hs P.length (by omega), obs, hL]
    unfold vchk
    by_cases c1 : 0 ≤ e.1
    · rw [br_le c1]
      by_cases c2 : e.1 ≤ e.2.1
      · rw [br_le c2, leI_eq]
        by_cases c3 : e.2.1 ≤ (src.size : Int)
        · rw [decide_eq_true c3, if_pos ⟨c1, c2, c3⟩]
          show VRes h src r _ S (validate_j3 K (k + 3) src r ((src.size : Int) + szs P) last (0 : Int) [e] r (S.length : Int) (P.length : Int) false h)
          rw [validate_j3_eq, br_false, validate_j4_eq, hn]
          by_cases c4 : e.1 < last
          · rw [if_pos c4, br_lt c4]
            obtain ⟨i, n1, n2⟩ := New_ok K h ovlB (by omega)
            refine .inr ⟨by omega, _, i, (KeepH.refl h).push _, ?_, n2⟩
            show Option.bind (New K h ovlB) _ = _
            rw [n1, obs]
            rfl
          · rw [if_neg c4, br_ge (by omega), validate_j5_eq, hn]
            have w1 : IntKind.wrap IntKind.i64 ((e.2.2.size : Int) + e.1) = (e.2.2.size : Int) + e.1 := wrap_id (by omega) (by omega)
            have w2 : IntKind.wrap IntKind.i64 ((e.2.2.size : Int) + e.1 - e.2.1) = (e.2.2.size : Int) + e.1 - e.2.1 := wrap_id (by omega) (by omega)
            have w3 : IntKind.wrap IntKind.i64 ((src.size : Int) + szs P + ((e.2.2.size : Int) + e.1 - e.2.1)) = (src.size : Int) + szs P + ((e.2.2.size : Int) + e.1 - e.2.1) := wrap_id (by omega) (by omega)
            rw [w1, w2, w3, wrap_id (by omega) (by omega)]
            have := ih (P ++ [e]) e.2.1 k (by rw [List.append_assoc]; exact hP) (by omega) (by rw [szs_app, List.length_append]; simp only [List.length_cons, List.length_nil]; omega) (by rw [szs_app, List.length_append]; simp only [List.length_cons, List.length_nil]; omega)
            rw [szs_app, List.length_append] at this
            rw [Int.add_assoc]
            exact this
        · rw [decide_eq_false c3, if_neg (by omega)]
          exact bad _
      · rw [br_gt (by omega), if_neg (by omega)]
        exact bad _
    · rw [br_gt (by omega), if_neg (by omega)]
      exact bad _
theorem validate_ok (K : Nat) {h0 h : Hp} {r : Rf} {L : List Ed} (src : ByteArray) (hb : Blt h0 h 74 TS1 r L) (hs : ∀ e ∈ L, Small e) (hsrc : src.size ≤ 200) (hl : L.length ≤ 12) (hK : 60000 ≤ K) :
    ∃ h' r', Blt h0 h' 74 TS1 r' (isV eLt L).reverse ∧ VRes h' src r' (vchk src.size 0 (isV eLt L).reverse) (isV eLt L).reverse (validate K h src r) := by
  obtain ⟨K, rfl⟩ : ∃ m, K = m + 1 := ⟨K - 1, by omega⟩
  rw [validate_eq]
  obtain ⟨b, e1, e2⟩ := IsSorted_ok K hb.sl hs (by omega) (by omega)
  rw [e1, obs]
  have main : ∀ h' r', Blt h0 h' 74 TS1 r' (isV eLt L).reverse → VRes h' src r' (vchk src.size 0 (isV eLt L).reverse) (isV eLt L).reverse (validate_j0 K K src r' h') := by
    intro h' r' hb'
    obtain ⟨k, hk⟩ : ∃ m, K = m + 1 := ⟨K - 1, by omega⟩
    have j0 : validate_j0 K K src r' h' = validate_j0 K (k + 1) src r' h' := by rw [← hk]
    have hlen : (isV eLt L).reverse.length = L.length := by rw [List.length_reverse, isV_length]
    rw [j0, validate_j0_eq, hb'.sl.rlen]
    have := validate_loop K src h' r' _ hb'.sl (fun e he => hs e ((isV_perm eLt L).mem_iff.1 he)) hsrc (by omega) (by omega) (isV eLt L).reverse [] 0 k rfl (by omega) (by show -1000 * ((0 : Nat) : Int) ≤ 0; omega) (by show (0 : Int) ≤ 1000 * ((0 : Nat) : Int); omega)
    have e0 : (src.size : Int) + szs [] = (src.size : Int) := Int.add_zero _
    rw [e0] at this
    exact this
  cases b with
  | true =>
    have := e2 rfl
    refine ⟨h, r, by rw [this]; exact hb, ?_⟩
    show VRes _ _ _ _ _ (br false _ _)
    rw [br_false]
    exact main h r (by rw [this]; exact hb)
  | false =>
    obtain ⟨h1, r1, c1, c2⟩ := clone_ok K hb (by omega) (by omega)
    obtain ⟨h2, d1, d2⟩ := sortE K h0 h1 r1 L c2 hs (by omega) (by omega)
    refine ⟨h2, r1, d2, ?_⟩
    show VRes _ _ _ _ _ (br true _ _)
    rw [br_true, c1, obs, d1, obs]
    exact main h2 r1 d2
end Go.Proofs.Ytfglahmbnnkijaa.E
