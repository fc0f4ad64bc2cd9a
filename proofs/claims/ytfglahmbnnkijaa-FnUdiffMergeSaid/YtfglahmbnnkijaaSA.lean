import Derived.Test.YtfglahmbnnkijaaLA
import Derived.Test.YtfglahmbnnkijaaEvQ0
import Derived.Test.YtfglahmbnnkijaaEvQ1
import Derived.Test.YtfglahmbnnkijaaEvQ2

/- Edits that lie in the heap: read, compared, swapped, sorted. -/
set_option linter.unusedVariables false
set_option linter.unusedSimpArgs false
namespace Go.Ev
/-- Only one object is another one. -/
def Only (n : Nat) (h h' : Hp) : Prop := h'.nx = h.nx ∧ ∀ m, m ≠ n → h'.ob m = h.ob m
theorem Only.refl (n : Nat) (h : Hp) : Only n h h := ⟨rfl, fun _ _ => rfl⟩
theorem Only.trans {n : Nat} {a b c : Hp} (h : Only n a b) (g : Only n b c) : Only n a c := ⟨g.1.trans h.1, fun m hm => (g.2 m hm).trans (h.2 m hm)⟩
theorem Only.keep {n : Nat} {h0 a b : Hp} (h : Only n a b) (k : KeepH h0 a) (hn : h0.nx ≤ n) : KeepH h0 b := ⟨by rw [h.1]; exact k.nx, fun m hm => (h.2 m (by omega)).trans (k.ob m hm)⟩
theorem Only.free {n : Nat} {a b : Hp} (h : Only n a b) (k : FreeH a) (hn : n < a.nx) : FreeH b := fun m hm => by rw [h.1] at hm; exact (h.2 m (by omega)).trans (k m hm)
theorem HO.wr {h : Hp} {e : TypeId} {t : Ty} {n : Nat} {L : List t.den} (ho : HO h e t n L) (i : Nat) (hi : i < L.length) (x : t.den) : ∃ h', Hp.st h (.p t) (.at n (i * t.sz)) x = some h' ∧ HO h' e t n (L.set i x) ∧ Only n h h' := by
  obtain ⟨h', h1, rfl⟩ := ho.st i hi x
  refine ⟨_, h1, ?_, rfl, fun m hm => ?_⟩
  · unfold HO
    rw [set_ob, if_pos rfl]
  · rw [set_ob, if_neg hm]
theorem radr0 (z i n len : Nat) : radr z (Int.toNat (i : Int)) (.at n 0 len) = .at n (i * z) := by
  show Pf.at n (0 + Int.toNat (i : Int) * z) = _
  rw [Nat.zero_add, Int.toNat_natCast]
theorem itag_sl (t : TypeId) (r : Rf) : itag t (.sl t r) = true := Nat.beq_refl t
theorem ifs_sl (t : TypeId) (r : Rf) : ifs t (.sl t r) = some r := by
  show (bif Nat.beq t t then some r else none) = some r
  rw [Nat.beq_refl]
  rfl
theorem rlen0 (n k len : Nat) : rlen (.at n k len) = len := rfl
end Go.Ev
namespace Go.Proofs.Ytfglahmbnnkijaa.E
open Go.Ev Go.Lcs
/-- An edit: its start, its end, its text. -/
abbrev Ed := Int × Int × ByteArray
theorem HO.f0 {h : Hp} {e : TypeId} {n : Nat} {L : List TS1.den} (ho : HO h e TS1 n L) (i : Nat) (hi : i < L.length) : Hp.ld h (.p (.int .i64)) (padd 0 (.at n (i * 3))) = some L[i].1 := by
  show Hp.ld h (.p (.int .i64)) (.at n (i * 3 + 0)) = _
  unfold Hp.ld
  simp only [ho.cl]
  rw [show Nat.ble (i * 3 + 0 + (HTy.p (.int .i64)).sz) ((L.map (HTy.cc (.p TS1))).flatten).length = true by rw [flat_len]; exact Nat.ble_eq_true_of_le (by show i * 3 + 0 + 1 ≤ L.length * 3; omega)]
  simp only [cond_true]
  have hd := flat_drop TS1 L i (Nat.le_of_lt hi)
  rw [show TS1.sz = 3 from rfl] at hd
  rw [Nat.add_zero, hd, List.drop_eq_getElem_cons hi, List.map_cons, List.flatten_cons]
  rfl
theorem HO.f1 {h : Hp} {e : TypeId} {n : Nat} {L : List TS1.den} (ho : HO h e TS1 n L) (i : Nat) (hi : i < L.length) : Hp.ld h (.p (.int .i64)) (padd 1 (.at n (i * 3))) = some L[i].2.1 := by
  show Hp.ld h (.p (.int .i64)) (.at n (i * 3 + 1)) = _
  unfold Hp.ld
  simp only [ho.cl]
  rw [show Nat.ble (i * 3 + 1 + (HTy.p (.int .i64)).sz) ((L.map (HTy.cc (.p TS1))).flatten).length = true by rw [flat_len]; exact Nat.ble_eq_true_of_le (by show i * 3 + 1 + 1 ≤ L.length * 3; omega)]
  simp only [cond_true]
  have hd := flat_drop TS1 L i (Nat.le_of_lt hi)
  rw [show TS1.sz = 3 from rfl] at hd
  rw [← List.drop_drop, hd, List.drop_eq_getElem_cons hi, List.map_cons, List.flatten_cons]
  rfl
theorem insV_cons {α : Type} (less : α → α → Bool) (e x : α) (q : List α) : insV less e (x :: q) = if less e x then x :: insV less e q else e :: x :: q := rfl
/-- An edit stands ahead of another one. -/
def eLt (a b : Ed) : Bool := decide (a.1 < b.1) || (decide (a.1 = b.1) && decide (a.2.1 < b.2.1))
theorem EditBefore_ok (K : Nat) (a b : Ed) (hK : 1 ≤ K) : EditBefore K a b = some (eLt a b) := by
  obtain ⟨K, rfl⟩ : ∃ m, K = m + 1 := ⟨K - 1, by omega⟩
  rw [EditBefore_eq]
  unfold eLt
  by_cases h : a.1 < b.1
  · rw [br_lt h, decide_eq_true h]
    rfl
  · rw [br_ge (by omega), decide_eq_false h]
    by_cases h2 : a.1 = b.1
    · rw [br_eq h2, decide_eq_true h2, ltI_eq]
      rfl
    · rw [br_ne h2, decide_eq_false h2]
      rfl
def Small (e : Ed) : Prop := -2147483648 ≤ e.1 ∧ e.1 ≤ 2147483647 ∧ -2147483648 ≤ e.2.1 ∧ e.2.1 ≤ 2147483647 ∧ e.2.2.size ≤ 60
theorem Less_ok (K : Nat) {h : Hp} {n : Nat} {L : List Ed} (ho : HO h 74 TS1 n L) (hb : ∀ e ∈ L, Small e) (i j : Nat) (hi : i < L.length) (hj : j < L.length) (hK : 2 ≤ K) :
    Less K h (.at n 0 L.length) (i : Int) (j : Int) = some (h, eLt L[i] L[j]) := by
  obtain ⟨K, rfl⟩ : ∃ m, K = m + 1 := ⟨K - 1, by omega⟩
  obtain ⟨K, rfl⟩ : ∃ m, K = m + 1 := ⟨K - 1, by omega⟩
  have b1 := hb _ (List.getElem_mem hi)
  have b2 := hb _ (List.getElem_mem hj)
  unfold Small at b1 b2
  rw [Less_eq, radr0, radr0, rlen0, chk_le (by omega), chk_lt (by omega), HO.f0 ho i hi, obs, chk_le (by omega), chk_lt (by omega), HO.f0 ho j hj, obs]
  show br (Bool.not (eqI (IntKind.wrap IntKind.i64 (L[i].1 - L[j].1)) 0)) _ _ = _
  rw [wrap_id (by omega) (by omega), br_not]
  unfold eLt
  by_cases h0 : L[i].1 - L[j].1 = 0
  · rw [br_eq h0, Less_j0_eq, radr0, radr0, rlen0, chk_le (by omega), chk_lt (by omega), HO.f1 ho i hi, obs, chk_le (by omega), chk_lt (by omega), HO.f1 ho j hj, obs, ltI_eq, decide_eq_false (p := L[i].1 < L[j].1) (by omega), decide_eq_true (p := L[i].1 = L[j].1) (by omega)]
    rfl
  · rw [br_ne h0, ltI_eq, decide_eq_false (p := L[i].1 = L[j].1) (by omega)]
    by_cases h1 : L[i].1 < L[j].1
    · rw [decide_eq_true h1, decide_eq_true (p := L[i].1 - L[j].1 < 0) (by omega)]
      rfl
    · rw [decide_eq_false h1, decide_eq_false (p := L[i].1 - L[j].1 < 0) (by omega)]
      rfl
theorem Swap_ok (K : Nat) {h : Hp} {n : Nat} {L : List Ed} (ho : HO h 74 TS1 n L) (i j : Nat) (hi : i < L.length) (hj : j < L.length) (hK : 1 ≤ K) :
    ∃ h', Swap K h (.at n 0 L.length) (i : Int) (j : Int) = some h' ∧ HO h' 74 TS1 n ((L.set i L[j]).set j L[i]) ∧ Only n h h' := by
  obtain ⟨K, rfl⟩ : ∃ m, K = m + 1 := ⟨K - 1, by omega⟩
  have l1 : Hp.ld h (.p TS1) (.at n (j * 3)) = some L[j] := ho.ld j hj
  have l2 : Hp.ld h (.p TS1) (.at n (i * 3)) = some L[i] := ho.ld i hi
  obtain ⟨h1, e1, o1, u1⟩ := ho.wr i hi L[j]
  obtain ⟨h2, e2, o2, u2⟩ := o1.wr j (by rw [List.length_set]; exact hj) L[i]
  have e1 : Hp.st h (.p TS1) (.at n (i * 3)) L[j] = some h1 := e1
  have e2 : Hp.st h1 (.p TS1) (.at n (j * 3)) L[i] = some h2 := e2
  refine ⟨h2, ?_, o2, u1.trans u2⟩
  rw [Swap_eq, radr0, radr0, rlen0, chk_le (by omega), chk_lt (by omega), l1, obs, chk_le (by omega), chk_lt (by omega), l2, obs, chk_le (by omega), chk_lt (by omega), e1, obs, chk_le (by omega), chk_lt (by omega), e2, obs]
theorem swap_mid {α : Type} (A : List α) (x e : α) (R : List α) (i j : Nat) (hi : i = A.length + 1) (hj : j = A.length) (h1 : i < (A ++ x :: e :: R).length) (h2 : j < (A ++ x :: e :: R).length) :
    ((A ++ x :: e :: R).set i (A ++ x :: e :: R)[j]).set j (A ++ x :: e :: R)[i] = A ++ e :: x :: R := by
  subst hi; subst hj
  have g1 : (A ++ x :: e :: R)[A.length] = x := by simp
  have g2 : (A ++ x :: e :: R)[A.length + 1] = e := by simp [List.getElem_append_right]
  rw [g1, g2]
  apply List.ext_getElem?
  intro k
  simp only [List.getElem?_set, List.getElem?_append, List.length_set, List.length_append, List.length_cons]
  by_cases k1 : k = A.length
  · subst k1
    simp
  · by_cases k2 : k = A.length + 1
    · subst k2
      simp
    · rw [if_neg (by omega), if_neg (by omega)]
      by_cases k3 : k < A.length
      · rw [if_pos k3, if_pos k3]
      · rw [if_neg k3, if_neg k3]
        obtain ⟨m, hm⟩ : ∃ m, k - A.length = m + 2 := ⟨k - A.length - 2, by omega⟩
        rw [hm]
        rfl
theorem ins_l1 (K : Nat) (b i : Int) (n : Nat) (hK : 2 ≤ K) (m : Nat) : ∀ (q p : List Ed) (e : Ed) (R : List Ed) (h : Hp) (k : Nat), HO h 74 TS1 n (q.reverse ++ e :: (p.reverse ++ R)) → (∀ x ∈ q.reverse ++ e :: (p.reverse ++ R), Small x) → q.length ≤ 1000000 → i ≤ 1000000 → 0 ≤ i → 2 * q.length + 2 + m ≤ k →
    ∃ k' h', m ≤ k' ∧ insertionSort_l1 K k (If.sl 82 (.at n 0 (q.reverse ++ e :: (p.reverse ++ R)).length)) 0 b i (q.length : Int) h = insertionSort_l0 K k' (If.sl 82 (.at n 0 (q.reverse ++ e :: (p.reverse ++ R)).length)) 0 b (i + 1) h' ∧ HO h' 74 TS1 n ((p ++ insV eLt e q).reverse ++ R) ∧ Only n h h'
  | [], p, e, R, h, k, ho, hs, hq, hi, hi0, hk => by
    obtain ⟨k, rfl⟩ : ∃ m, k = m + 1 := ⟨k - 1, by omega⟩
    refine ⟨k, h, by simp only [List.length_nil] at hk; omega, ?_, ?_, Only.refl n h⟩
    · rw [insertionSort_l1_eq, br_ge (by simp), wrap_id (by omega) (by omega)]
    · have : (p ++ insV eLt e []).reverse ++ R = [].reverse ++ e :: (p.reverse ++ R) := by simp [insV]
      rw [this]
      exact ho
  | x :: q, p, e, R, h, k, ho, hs, hq, hi, hi0, hk => by
    simp only [List.length_cons] at hk hq
    obtain ⟨k, rfl⟩ : ∃ m, k = m + 1 := ⟨k - 1, by omega⟩
    obtain ⟨k, rfl⟩ : ∃ m, k = m + 1 := ⟨k - 1, by omega⟩
    have hL : (x :: q).reverse ++ e :: (p.reverse ++ R) = q.reverse ++ x :: e :: (p.reverse ++ R) := by simp
    rw [hL] at ho hs ⊢
    have hlen : (q.reverse ++ x :: e :: (p.reverse ++ R)).length = q.length + 2 + (p.length + R.length) := by simp; omega
    have ge : (q.reverse ++ x :: e :: (p.reverse ++ R))[q.length + 1]'(by omega) = e := by
      have : q.length + 1 = q.reverse.length + 1 := by simp
      simp only [this]
      simp [List.getElem_append_right]
    have gx : (q.reverse ++ x :: e :: (p.reverse ++ R))[q.length]'(by omega) = x := by
      have : q.length = q.reverse.length := by simp
      simp only [this]
      simp
    have hl := Less_ok K ho hs (q.length + 1) q.length (by omega) (by omega) hK
    rw [ge, gx] at hl
    have hw : IntKind.wrap IntKind.i64 (((x :: q).length : Int) - 1) = (q.length : Int) := by
      rw [wrap_id (by simp only [List.length_cons]; omega) (by simp only [List.length_cons]; omega)]
      simp only [List.length_cons]
      omega
    rw [insertionSort_l1_eq, br_lt (by simp only [List.length_cons]; omega), hw]
    rw [itag_sl, br_true, ifs_sl, obs, show ((x :: q).length : Int) = ((q.length + 1 : Nat) : Int) by simp, hl, obs]
    by_cases hc : eLt e x = true
    · rw [hc, br_true, insertionSort_j1_eq, itag_sl, br_true, ifs_sl]
      obtain ⟨h1, e1, o1, u1⟩ := Swap_ok K ho (q.length + 1) q.length (by omega) (by omega) (by omega)
      have hw' : IntKind.wrap IntKind.i64 (((q.length + 1 : Nat) : Int) - 1) = (q.length : Int) := by rw [wrap_id (by omega) (by omega)]; omega
      rw [obs, hw', e1, obs]
      rw [swap_mid q.reverse x e (p.reverse ++ R) (q.length + 1) q.length (by simp) (by simp)] at o1
      have hp : q.reverse ++ e :: x :: (p.reverse ++ R) = q.reverse ++ e :: ((p ++ [x]).reverse ++ R) := by simp
      have hp' : (q.reverse ++ x :: e :: (p.reverse ++ R)).length = (q.reverse ++ e :: ((p ++ [x]).reverse ++ R)).length := by simp
      rw [hp] at o1
      obtain ⟨k', h', g1, g2, g3, g4⟩ := ins_l1 K b i n hK m q (p ++ [x]) e R h1 k o1 (fun y hy => hs y (by
        simp only [List.mem_append, List.mem_cons, List.mem_reverse, List.not_mem_nil, or_false] at hy ⊢
        rcases hy with hy | hy | (hy | hy) | hy <;> simp [hy])) (by omega) hi hi0 (by omega)
      rw [hp']
      refine ⟨k', h', g1, g2, ?_, u1.trans g4⟩
      have : insV eLt e (x :: q) = x :: insV eLt e q := by rw [insV_cons, if_pos hc]
      rw [this]
      have : p ++ x :: insV eLt e q = p ++ [x] ++ insV eLt e q := by simp
      rw [this]
      exact g3
    · have hc' : eLt e x = false := by cases hb : eLt e x with | true => exact absurd hb hc | false => rfl
      rw [hc', br_false, wrap_id (by omega) (by omega)]
      refine ⟨k + 1, h, by omega, rfl, ?_, Only.refl n h⟩
      have : insV eLt e (x :: q) = e :: x :: q := by rw [insV_cons, if_neg hc]
      rw [this]
      have : (p ++ e :: x :: q).reverse ++ R = q.reverse ++ x :: e :: (p.reverse ++ R) := by simp
      rw [this]
      exact ho
theorem insertionSort_ok (K : Nat) (n : Nat) (L : List Ed) (h : Hp) (ho : HO h 74 TS1 n L) (hs : ∀ x ∈ L, Small x) (hn : 1 ≤ L.length) (hl : L.length ≤ 100) (hK : 40000 ≤ K) :
    ∃ h', insertionSort K h (If.sl 82 (.at n 0 L.length)) 0 (L.length : Int) = some h' ∧ HO h' 74 TS1 n (isV eLt L).reverse ∧ Only n h h' := by
  obtain ⟨K, rfl⟩ : ∃ m, K = m + 1 := ⟨K - 1, by omega⟩
  rw [insertionSort_eq, wrap_id (by omega) (by omega)]
  have key : ∀ (R P : List Ed) (h : Hp) (k : Nat), P ++ R = L → 1 ≤ P.length → HO h 74 TS1 n ((isV eLt P).reverse ++ R) → 300 * R.length + 1 ≤ k →
      ∃ h', insertionSort_l0 K k (If.sl 82 (.at n 0 L.length)) 0 (L.length : Int) (P.length : Int) h = some h' ∧ HO h' 74 TS1 n (isV eLt L).reverse ∧ Only n h h' := by
    intro R
    induction R with
    | nil =>
      intro P h k hP h1 ho' hk
      rw [List.append_nil] at hP ho'
      obtain ⟨k, rfl⟩ : ∃ m, k = m + 1 := ⟨k - 1, by omega⟩
      exact ⟨h, by rw [hP, insertionSort_l0_eq, br_ge (by omega)], hP ▸ ho', Only.refl n h⟩
    | cons e R ih =>
      intro P h k hP h1 ho hk
      simp only [List.length_cons] at hk
      have hll : L.length = P.length + (R.length + 1) := by rw [← hP]; simp
      obtain ⟨k, rfl⟩ : ∃ m, k = m + 1 := ⟨k - 1, by omega⟩
      obtain ⟨k, rfl⟩ : ∃ m, k = m + 1 := ⟨k - 1, by omega⟩
      rw [insertionSort_l0_eq, br_lt (by omega), insertionSort_j0_eq]
      have hlen : ((isV eLt P).reverse ++ e :: ([].reverse ++ R)).length = L.length := by
        rw [List.length_append, List.length_reverse, isV_length]
        simp
        omega
      have hmem : ∀ x ∈ (isV eLt P).reverse ++ e :: ([].reverse ++ R), Small x := by
        intro x hx
        apply hs
        rw [← hP]
        rcases List.mem_append.1 hx with hx | hx
        · exact List.mem_append.2 (.inl ((isV_perm eLt P).mem_iff.1 hx))
        · exact List.mem_append.2 (.inr hx)
      obtain ⟨k', h', g1, g2, g3, g4⟩ := ins_l1 K (L.length : Int) (P.length : Int) n (by omega) (300 * R.length + 1) (isV eLt P) [] e R h k ho hmem (by rw [isV_length]; omega) (by omega) (by omega) (by rw [isV_length]; omega)
      rw [hlen, isV_length] at g2
      rw [g2]
      have e1 : ([] ++ insV eLt e (isV eLt P)) = isV eLt (P ++ [e]) := by rw [isV_snoc]; rfl
      rw [e1] at g3
      obtain ⟨h2, r1, r2, r3⟩ := ih (P ++ [e]) h' k' (by rw [List.append_assoc]; exact hP) (by simp) g3 g1
      rw [List.length_append] at r1
      exact ⟨h2, r1, r2, g4.trans r3⟩
  match L, hn with
  | e :: R, _ =>
    have := key R [e] h K rfl (by simp) ho (by simp only [List.length_cons] at hl; omega)
    exact this
theorem sortEdits_ok (K : Nat) (n : Nat) (L : List Ed) (h : Hp) (ho : HO h 74 TS1 n L) (hs : ∀ x ∈ L, Small x) (hn : 1 ≤ L.length) (hl : L.length ≤ 19) (hK : 50000 ≤ K) :
    ∃ h', udiff_SortEdits K h (.at n 0 L.length) = some h' ∧ HO h' 74 TS1 n (isV eLt L).reverse ∧ Only n h h' := by
  obtain ⟨K, rfl⟩ : ∃ m, K = m + 6 := ⟨K - 6, by omega⟩
  obtain ⟨h', e1, e2, e3⟩ := insertionSort_ok (K + 3) n L h ho hs hn (by omega) (by omega)
  refine ⟨h', ?_, e2, e3⟩
  rw [udiff_SortEdits_eq, Stable_eq, itag_sl, br_true, ifs_sl, obs, udiff_editsSort_Len_eq, obs]
  show Option.bind (Option.bind (stable (K + 4) h (If.sl 82 (.at n 0 L.length)) (L.length : Int)) _) _ = _
  rw [stable_eq, stable_l0_eq, br_gt (by omega), stable_j1_eq, e1, obs, stable_l1_eq, br_ge (by omega), obs, obs]
end Go.Proofs.Ytfglahmbnnkijaa.E
