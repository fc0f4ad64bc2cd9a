import Derived.Test.YtfefjbifdbfmjaaDoorDE
/- Deltas: what is written is what the specification says. -/
set_option linter.unusedVariables false
set_option linter.unusedSimpArgs false
namespace Go.Proofs.YtfefjbifdbfmjaaDoor.E
open Go.Ev
/-! ### escapes that need not be -/
theorem unb_fin : ∀ n : Fin 256, (unresD (n.val : Int) = true → plainD (n.val : Int) = true ∧ n.val ≠ 37) ∧ (unresD (n.val : Int) = false → n.val ≠ 32 → (plainD (n.val : Int) = true → unbS ⟨#[hx (n.val / 16), hx (n.val % 16)]⟩ = (n.val : Int) ∧ n.val ≠ 0) ∧ (plainD (n.val : Int) = false → unbS ⟨#[hx (n.val / 16), hx (n.val % 16)]⟩ = 0)) ∧ (hx (n.val / 16) ≠ 37 ∧ hx (n.val % 16) ≠ 37) := by decide +kernel
def unitB (u : Bool × UInt8) : List UInt8 := if u.1 then escD u.2 else [u.2]
def outB (u : Bool × UInt8) : List UInt8 := if u.1 then specD u.2 else [u.2]
def Oku (us : List (Bool × UInt8)) : Prop := ∀ u ∈ us, u.1 = false → u.2 ≠ 37
theorem Oku.append {a b : List (Bool × UInt8)} (ha : Oku a) (hb : Oku b) : Oku (a ++ b) := fun u hu => (List.mem_append.1 hu).elim (ha u) (hb u)
theorem Oku.cons {u : Bool × UInt8} {b : List (Bool × UInt8)} (hu : u.1 = false → u.2 ≠ 37) (hb : Oku b) : Oku (u :: b) := fun v hv => by
  rcases List.mem_cons.1 hv with rfl | h
  · exact hu
  · exact hb v h
theorem at_drop {l : List UInt8} {i : Nat} {x : UInt8} {r : List UInt8} (h : l.drop i = x :: r) : ∃ hi : i < l.length, l[i] = x ∧ l.drop (i + 1) = r := by
  have hi : i < l.length := by
    rcases Nat.lt_or_ge i l.length with h' | h'
    · exact h'
    · rw [List.drop_eq_nil_of_le h'] at h
      cases h
  rw [List.drop_eq_getElem_cons hi] at h
  injection h with h1 h2
  exact ⟨hi, h1, h2⟩
theorem un_plain (K k : Nat) (s : ByteArray) (hs : s.size ≤ 100000) (i : Nat) (acc : List UInt8) (x : UInt8) (r : List UInt8) (h : (B s).drop i = x :: r) (hx : x ≠ 37) (ha : acc.length ≤ i) :
    zzUnescape_l0 K (k + 1 + 1 + 1 + 1) s (ints acc) (i : Int) = zzUnescape_l0 K k s (ints (acc ++ [x])) ((i + 1 : Nat) : Int) := by
  obtain ⟨hi, h1, h2⟩ := at_drop h
  have hi' : i < s.size := by rwa [B_size] at hi
  have hl := ints_len acc
  rw [zzUnescape_l0_eq, br_lt (by omega), zzUnescape_j0_eq, chk_le (by omega), chk_lt (by omega), bt_at s i hi', h1, e37, br_dec, if_neg hx, zzUnescape_j1_eq, br_false, zzUnescape_j2_eq, chk_le (by omega), chk_lt (by omega), bt_at s i hi', h1]
  rw [chk_lt (by rw [hl]; show (acc.length : Int) + 1 < _; omega), wrap_id (by omega) (by omega), ints_append]
  rfl
theorem un_pct (K k : Nat) (s : ByteArray) (hs : s.size ≤ 100000) (i : Nat) (acc : List UInt8) (a b c : UInt8) (r : List UInt8) (h : (B s).drop i = 37 :: a :: b :: r) (ha : acc.length ≤ i) :
    (unbS ⟨#[a, b]⟩ = (c.toNat : Int) → c.toNat ≠ 0 → zzUnescape_l0 (K + 1) (k + 1 + 1 + 1) s (ints acc) (i : Int) = zzUnescape_l0 (K + 1) k s (ints (acc ++ [c])) ((i + 3 : Nat) : Int)) ∧
    (unbS ⟨#[a, b]⟩ = 0 → zzUnescape_l0 (K + 1) (k + 1 + 1 + 1 + 1) s (ints acc) (i : Int) = zzUnescape_l0 (K + 1) k s (ints (acc ++ [37])) ((i + 1 : Nat) : Int)) := by
  obtain ⟨hi, h1, h2⟩ := at_drop h
  obtain ⟨hi1, h3, h4⟩ := at_drop h2
  obtain ⟨hi2, h5, h6⟩ := at_drop h4
  rw [B_size] at hi hi1 hi2
  have hl := ints_len acc
  have hx : ByteArray.extract s (Int.toNat ((i : Int) + 1)) (Int.toNat ((i : Int) + 3)) = ⟨#[a, b]⟩ := B_inj (by
    rw [B_extract, show Int.toNat ((i : Int) + 3) - Int.toNat ((i : Int) + 1) = 2 by omega, show Int.toNat ((i : Int) + 1) = i + 1 by omega, h2]
    rfl)
  have key : ∀ k, zzUnescape_l0 (K + 1) (k + 1 + 1 + 1) s (ints acc) (i : Int) = br (!eqI (unbS ⟨#[a, b]⟩) 0) (zzUnescape_l0 (K + 1) k s (ints acc ++ [unbS ⟨#[a, b]⟩]) ((i + 3 : Nat) : Int)) (zzUnescape_j2 (K + 1) k s (ints acc) (i : Int)) := by
    intro k
    rw [zzUnescape_l0_eq, br_lt (by omega), zzUnescape_j0_eq, chk_le (by omega), chk_lt (by omega), bt_at s i hi, h1, e37, br_dec, if_pos rfl, zzUnescape_j1_eq]
    rw [wrap_id (x := (i : Int) + 2) (by omega) (by omega), wrap_id (x := (i : Int) + 1) (by omega) (by omega), wrap_id (x := (i : Int) + 3) (by omega) (by omega), wrap_id (x := (i : Int) + 2 + 1) (by omega) (by omega)]
    rw [br_lt (by omega), chk_le (by omega), chk_le (by omega), chk_le (by omega), hx, unescaped_ok, Option.bind_some, chk_lt (by rw [hl]; show (acc.length : Int) + 1 < _; omega), show (i : Int) + 2 + 1 = ((i + 3 : Nat) : Int) by omega]
  constructor
  · intro hv hc
    rw [key, hv, eqI_f (by omega), Bool.not_false, br_true, ints_append]
    rfl
  · intro hv
    rw [key, hv, eqI_t rfl, Bool.not_true, br_false, zzUnescape_j2_eq, chk_le (by omega), chk_lt (by omega), bt_at s i hi, h1, chk_lt (by rw [hl]; show (acc.length : Int) + 1 < _; omega), wrap_id (by omega) (by omega), ints_append]
    rfl
theorem un_loop (K : Nat) (s : ByteArray) (hs : s.size ≤ 100000) : ∀ (n k : Nat) (us : List (Bool × UInt8)) (i : Nat) (acc : List UInt8), (us.flatMap unitB).length ≤ n → (B s).drop i = us.flatMap unitB → acc.length ≤ i → i ≤ s.size → Oku us → 4 * n + 1 ≤ k →
    zzUnescape_l0 (K + 1) k s (ints acc) (i : Int) = some ⟨(acc ++ us.flatMap outB).toArray⟩
  | n, k, [], i, acc, hn, hd, ha, hi, ho, hk => by
    obtain ⟨k, rfl⟩ : ∃ m, k = m + 1 := ⟨k - 1, by omega⟩
    have : s.size ≤ i := by
      have := congrArg List.length hd
      rw [List.length_drop, B_size, List.flatMap_nil, List.length_nil] at this
      omega
    rw [zzUnescape_l0_eq, br_ge (by omega), List.flatMap_nil, List.append_nil, strOf_ints]
  | n, k, (b, c) :: us, i, acc, hn, hd, ha, hi, ho, hk => by
    have ho' : Oku us := fun u hu => ho u (List.mem_cons_of_mem _ hu)
    have single : ∀ x : UInt8, unitB (b, c) = [x] → outB (b, c) = [x] → x ≠ 37 → zzUnescape_l0 (K + 1) k s (ints acc) (i : Int) = some ⟨(acc ++ ((b, c) :: us).flatMap outB).toArray⟩ := by
      intro x hu hout hx
      rw [List.flatMap_cons, hu] at hd hn
      rw [List.length_append, List.length_singleton] at hn
      obtain ⟨n, rfl⟩ : ∃ m, n = m + 1 := ⟨n - 1, by omega⟩
      obtain ⟨k, rfl⟩ : ∃ m, k = m + 1 + 1 + 1 + 1 := ⟨k - 4, by omega⟩
      obtain ⟨hi', _, h2⟩ := at_drop (show (B s).drop i = x :: us.flatMap unitB from hd)
      rw [B_size] at hi'
      rw [un_plain (K + 1) k s hs i acc x _ hd hx ha, un_loop K s hs n k us (i + 1) (acc ++ [x]) (by omega) h2 (by rw [List.length_append]; simp; omega) (by omega) ho' (by omega), List.flatMap_cons, hout, List.append_assoc]
    cases b with
    | false => exact single c rfl rfl (ho (false, c) (List.mem_cons_self ..) rfl)
    | true =>
      obtain ⟨f1, f2, f3, f4⟩ := unb_fin ⟨c.toNat, c.toNat_lt⟩
      simp only [] at f1 f2 f3 f4
      by_cases c1 : unresD (c.toNat : Int) = true
      · refine single c ?_ ?_ ?_
        · show escD c = [c]
          unfold escD
          rw [if_pos c1]
        · show specD c = [c]
          unfold specD
          rw [if_pos (f1 c1).1]
        · rintro rfl
          exact (f1 c1).2 rfl
      · have c1' : unresD (c.toNat : Int) = false := by simpa using c1
        by_cases c2 : c = 32
        · subst c2
          exact single 32 (by decide +kernel) (by decide +kernel) (by decide)
        · have c2' : c.toNat ≠ 32 := fun e => c2 (by rw [← show UInt8.ofNat c.toNat = c by simp, e]; rfl)
          have hu : unitB (true, c) = 37 :: hx (c.toNat / 16) :: [hx (c.toNat % 16)] := by
            show escD c = _
            unfold escD
            rw [if_neg c1, if_neg c2]
            rfl
          rw [List.flatMap_cons, hu] at hd hn
          simp only [List.cons_append, List.nil_append, List.length_cons] at hd hn
          obtain ⟨hi1, _, h2⟩ := at_drop hd
          obtain ⟨hi2, _, h4⟩ := at_drop h2
          obtain ⟨hi3, _, h6⟩ := at_drop h4
          rw [B_size] at hi1 hi2 hi3
          obtain ⟨n, rfl⟩ : ∃ m, n = m + 3 := ⟨n - 3, by omega⟩
          cases c3 : plainD (c.toNat : Int) with
          | true =>
            obtain ⟨g1, g2⟩ := (f2 c1' c2').1 c3
            obtain ⟨k, rfl⟩ : ∃ m, k = m + 1 + 1 + 1 := ⟨k - 3, by omega⟩
            rw [(un_pct K k s hs i acc _ _ c _ hd ha).1 g1 g2, un_loop K s hs n k us (i + 3) (acc ++ [c]) (by omega) h6 (by rw [List.length_append]; simp; omega) (by omega) ho' (by omega), List.flatMap_cons]
            have : outB (true, c) = [c] := by
              show specD c = [c]
              unfold specD
              rw [if_pos c3]
            rw [this, List.append_assoc]
          | false =>
            have g1 := (f2 c1' c2').2 c3
            obtain ⟨k, rfl⟩ : ∃ m, k = m + 1 + 1 + 1 + 1 := ⟨k - 4, by omega⟩
            have hus : Oku ((false, hx (c.toNat / 16)) :: (false, hx (c.toNat % 16)) :: us) := Oku.cons (fun _ => f3) (Oku.cons (fun _ => f4) ho')
            rw [(un_pct K k s hs i acc _ _ c _ hd ha).2 g1, un_loop K s hs (n + 2) k ((false, hx (c.toNat / 16)) :: (false, hx (c.toNat % 16)) :: us) (i + 1) (acc ++ [37]) (by show ([hx (c.toNat / 16)] ++ ([hx (c.toNat % 16)] ++ us.flatMap unitB)).length ≤ n + 2; simp only [List.length_append, List.length_singleton]; omega) h2 (by rw [List.length_append]; simp; omega) (by omega) hus (by omega)]
            have : outB (true, c) = pct c := by
              show specD c = pct c
              unfold specD
              rw [if_neg (by rw [c3]; simp)]
            have e : ((true, c) :: us).flatMap outB = pct c ++ us.flatMap outB := by rw [List.flatMap_cons, this]
            rw [e]
            simp [List.flatMap_cons, outB, pct]
  termination_by n => n
theorem un_ok (K : Nat) (us : List (Bool × UInt8)) (ho : Oku us) (hs : (us.flatMap unitB).length ≤ 100000) (hK : 4 * (us.flatMap unitB).length + 4 ≤ K) : zzUnescape K ⟨(us.flatMap unitB).toArray⟩ = some ⟨(us.flatMap outB).toArray⟩ := by
  obtain ⟨K, rfl⟩ : ∃ m, K = m + 1 := ⟨K - 1, by omega⟩
  obtain ⟨K, rfl⟩ : ∃ m, K = m + 1 := ⟨K - 1, by omega⟩
  rw [zzUnescape_eq]
  have := un_loop K ⟨(us.flatMap unitB).toArray⟩ (by rw [mk_size]; exact hs) _ (K + 1) us 0 [] (Nat.le_refl _) rfl (by simp) (by omega) ho (by omega)
  simpa [ints] using this
end Go.Proofs.YtfefjbifdbfmjaaDoor.E
