import Derived.Test.YtfefjbifdbfmjaaDoorDA
/- Texts as bytes: escapes, replacements, HTML. -/
set_option linter.unusedVariables false
set_option linter.unusedSimpArgs false
namespace Go.Proofs.YtfefjbifdbfmjaaDoor.E
open Go.Ev
theorem u8e (c : UInt8) (n : Nat) (hn : n < 256) : eqI (c.toNat : Int) (n : Int) = decide (c = UInt8.ofNat n) := by
  rw [eqI_eq]
  apply decide_eq_decide.2
  constructor
  · intro h
    have h' : c.toNat = n := by omega
    rw [← h']
    simp
  · intro h
    rw [h, tn n hn]
theorem e38 (c : UInt8) : eqI (c.toNat : Int) 38 = decide (c = 38) := u8e c 38 (by omega)
theorem e39 (c : UInt8) : eqI (c.toNat : Int) 39 = decide (c = 39) := u8e c 39 (by omega)
theorem e60 (c : UInt8) : eqI (c.toNat : Int) 60 = decide (c = 60) := u8e c 60 (by omega)
theorem e62 (c : UInt8) : eqI (c.toNat : Int) 62 = decide (c = 62) := u8e c 62 (by omega)
theorem e34 (c : UInt8) : eqI (c.toNat : Int) 34 = decide (c = 34) := u8e c 34 (by omega)
theorem e10 (c : UInt8) : eqI (c.toNat : Int) 10 = decide (c = 10) := u8e c 10 (by omega)
theorem br_dec {α : Type} (p : Prop) [Decidable p] (a b : α) : br (decide p) a b = if p then a else b := by
  by_cases h : p
  · rw [decide_eq_true h, if_pos h]; rfl
  · rw [decide_eq_false h, if_neg h]; rfl
/-- Bytes as numbers. -/
def ints (l : List UInt8) : List Int := l.map fun b => (b.toNat : Int)
theorem ints_append (a b : List UInt8) : ints (a ++ b) = ints a ++ ints b := List.map_append
theorem ints_len (a : List UInt8) : (ints a).length = a.length := List.length_map ..
theorem bytesI_ints (s : ByteArray) : bytesI s = ints (B s) := rfl
theorem strOf_ints (l : List UInt8) : strOfBytes (ints l) = ⟨l.toArray⟩ := by
  unfold strOfBytes ints
  rw [List.map_map]
  congr 2
  conv => rhs; rw [← List.map_id l]
  apply List.map_congr_left
  intro b _
  simp
theorem bt_at (s : ByteArray) (i : Nat) (h : i < s.size) : bt s (i : Int) = (((B s)[i]'(by rw [B_size]; exact h)).toNat : Int) := by
  unfold bt
  rw [dif_pos (by simpa using h)]
  rfl
theorem mk_append (a b : List UInt8) : ByteArray.append ⟨a.toArray⟩ ⟨b.toArray⟩ = ⟨(a ++ b).toArray⟩ := B_inj (by
  show B ((⟨a.toArray⟩ : ByteArray) ++ ⟨b.toArray⟩) = _
  rw [B_append]
  rfl)
theorem mk_B (s : ByteArray) : (⟨(B s).toArray⟩ : ByteArray) = s := ofL s
theorem mk_size (l : List UInt8) : ByteArray.size ⟨l.toArray⟩ = l.length := rfl
def escB (c : UInt8) : List UInt8 := if c = 38 then [38, 97, 109, 112, 59] else if c = 39 then [38, 35, 51, 57, 59] else if c = 60 then [38, 108, 116, 59] else if c = 62 then [38, 103, 116, 59] else if c = 34 then [38, 35, 51, 52, 59] else [c]
theorem escB_len (c : UInt8) : (escB c).length ≤ 5 := by
  unfold escB
  repeat' split
  all_goals simp
theorem flat_len {f : UInt8 → List UInt8} {n : Nat} (h : ∀ c, (f c).length ≤ n) : ∀ l : List UInt8, (l.flatMap f).length ≤ n * l.length
  | [] => by simp
  | c :: l => by
    have := h c
    have := flat_len h l
    rw [List.flatMap_cons, List.length_append, List.length_cons, Nat.mul_add]
    omega
theorem esc_loop (K : Nat) (s : ByteArray) (hs : s.size ≤ 100000) : ∀ (d i k : Nat) (acc : List UInt8), i + d = s.size → acc.length ≤ 5 * i → 2 * d + 1 ≤ k →
    zzEscapeHTML_l0 K k s (ints acc) (i : Int) = some ⟨(acc ++ ((B s).drop i).flatMap escB).toArray⟩
  | 0, i, k, acc, h, ha, hk => by
    obtain ⟨k, rfl⟩ : ∃ m, k = m + 1 := ⟨k - 1, by omega⟩
    rw [zzEscapeHTML_l0_eq]
    simp (disch := omega) only [chk_le, chk_lt, chk_eq, chk_nle, chk_neq, br_lt, br_ge, br_le, br_gt, br_eq, br_ne, br_not, br_true, br_false, br_and, wrap_id, Option.bind_some, List.length_set, List.length_append, List.length_cons, List.length_nil, List.length_take, List.length_drop]
    rw [List.drop_eq_nil_of_le (by rw [B_size]; omega), List.flatMap_nil, List.append_nil, strOf_ints]
  | d + 1, i, k, acc, h, ha, hk => by
    obtain ⟨k, rfl⟩ : ∃ m, k = m + 1 := ⟨k - 1, by omega⟩
    obtain ⟨k, rfl⟩ : ∃ m, k = m + 1 := ⟨k - 1, by omega⟩
    have hi : i < (B s).length := by rw [B_size]; omega
    have hl := ints_len acc
    have step : ∀ x : List UInt8, x.length ≤ 5 → escB (B s)[i] = x → zzEscapeHTML_l0 K k s (ints acc ++ ints x) (IntKind.i64.wrap ((i : Int) + 1)) = some ⟨(acc ++ ((B s).drop i).flatMap escB).toArray⟩ := by
      intro x hx he
      rw [wrap_id (by omega) (by omega), show (i : Int) + 1 = ((i + 1 : Nat) : Int) by omega, ← ints_append, esc_loop K s hs d (i + 1) k _ (by omega) (by rw [List.length_append]; omega) (by omega), List.drop_eq_getElem_cons hi, List.flatMap_cons, he, List.append_assoc]
    rw [zzEscapeHTML_l0_eq, br_lt (by omega), zzEscapeHTML_j0_eq, chk_le (by omega), chk_lt (by omega), bt_at s i (by omega), e38, e39, e60, e62, e34]
    simp only [br_dec, bytesI_ints]
    have lim : ∀ (n : Nat) (o : Option ByteArray), n ≤ 5 → chk (ltI (((ints acc).length : Int) + (n : Int)) 1000000000000) o = o := fun n o hn => chk_lt (by rw [hl]; omega)
    unfold escB at step
    split
    · rename_i c
      rw [if_pos c] at step
      exact (lim 5 _ (by omega)).trans (step _ (by decide) rfl)
    · rename_i c1
      rw [if_neg c1] at step
      split
      · rename_i c
        rw [if_pos c] at step
        exact (lim 5 _ (by omega)).trans (step _ (by decide) rfl)
      · rename_i c2
        rw [if_neg c2] at step
        split
        · rename_i c
          rw [if_pos c] at step
          exact (lim 4 _ (by omega)).trans (step _ (by decide) rfl)
        · rename_i c3
          rw [if_neg c3] at step
          split
          · rename_i c
            rw [if_pos c] at step
            exact (lim 4 _ (by omega)).trans (step _ (by decide) rfl)
          · rename_i c4
            rw [if_neg c4] at step
            split
            · rename_i c
              rw [if_pos c] at step
              exact (lim 5 _ (by omega)).trans (step _ (by decide) rfl)
            · rename_i c5
              rw [if_neg c5] at step
              rw [chk_le (by omega), chk_lt (by omega)]
              exact (lim 1 _ (by omega)).trans (step _ (by simp) rfl)
theorem esc_ok (K : Nat) (s : ByteArray) (hs : s.size ≤ 100000) (hK : 2 * s.size + 2 ≤ K) : zzEscapeHTML K s = some ⟨((B s).flatMap escB).toArray⟩ := by
  obtain ⟨K, rfl⟩ : ∃ m, K = m + 1 := ⟨K - 1, by omega⟩
  rw [zzEscapeHTML_eq]
  have := esc_loop K s hs s.size 0 K [] (by omega) (by simp) (by omega)
  simpa [ints] using this
/-! ### the place of a byte; replacements of a byte -/
theorem idx_loop (K : Nat) (s : ByteArray) (c : UInt8) (hs : s.size ≤ 1000000) : ∀ (d i k : Nat), i + d = s.size → 2 * d + 1 ≤ k →
    (∀ (a b : List UInt8), (B s).drop i = a ++ c :: b → c ∉ a → zzIndex_l0 K k s ⟨#[c]⟩ (i : Int) = some ((i + a.length : Nat) : Int)) ∧ (c ∉ (B s).drop i → zzIndex_l0 K k s ⟨#[c]⟩ (i : Int) = some (-1))
  | 0, i, k, h, hk => by
    obtain ⟨k, rfl⟩ : ∃ m, k = m + 1 := ⟨k - 1, by omega⟩
    have h1 : ((ByteArray.size ⟨#[c]⟩ : Nat) : Int) = 1 := rfl
    have hd : (B s).drop i = [] := List.drop_eq_nil_of_le (by rw [B_size]; omega)
    refine ⟨fun a b hab => ?_, fun _ => ?_⟩
    · rw [hd] at hab
      simp at hab
    · rw [zzIndex_l0_eq, h1, wrap_id (by omega) (by omega), br_gt (by omega)]
  | d + 1, i, k, h, hk => by
    obtain ⟨k, rfl⟩ : ∃ m, k = m + 1 := ⟨k - 1, by omega⟩
    obtain ⟨k, rfl⟩ : ∃ m, k = m + 1 := ⟨k - 1, by omega⟩
    have h1 : ((ByteArray.size ⟨#[c]⟩ : Nat) : Int) = 1 := rfl
    have hi : i < (B s).length := by rw [B_size]; omega
    have ih := idx_loop K s c hs d (i + 1) k (by omega) (by omega)
    have hx : B (ByteArray.extract s (Int.toNat (i : Int)) (Int.toNat ((i : Int) + 1))) = [(B s)[i]] := by
      rw [B_extract, show Int.toNat ((i : Int) + 1) - Int.toNat (i : Int) = 1 by omega, Int.toNat_natCast, List.drop_eq_getElem_cons hi]
      rfl
    have hq : eqS (ByteArray.extract s (Int.toNat (i : Int)) (Int.toNat ((i : Int) + 1))) ⟨#[c]⟩ = decide ((B s)[i] = c) := by
      rw [eqS_iff]
      apply decide_eq_decide.2
      constructor
      · intro e
        have := congrArg B e
        rw [hx] at this
        simpa [B] using this
      · intro e
        apply B_inj
        rw [hx, e]
        rfl
    have hstep : zzIndex_l0 K (k + 1 + 1) s ⟨#[c]⟩ (i : Int) = if (B s)[i] = c then some (i : Int) else zzIndex_l0 K k s ⟨#[c]⟩ ((i + 1 : Nat) : Int) := by
      rw [zzIndex_l0_eq, h1, wrap_id (by omega) (by omega), br_le (by omega), zzIndex_j0_eq, h1, wrap_id (by omega) (by omega), chk_le (by omega), chk_le (by omega), chk_le (by omega), hq, br_dec]
      rfl
    rw [hstep]
    refine ⟨fun a b hab hna => ?_, fun hn => ?_⟩
    · rw [List.drop_eq_getElem_cons hi] at hab
      cases a with
      | nil =>
        simp only [List.nil_append, List.cons.injEq] at hab
        rw [if_pos hab.1]
        simp
      | cons x a =>
        simp only [List.cons_append, List.cons.injEq] at hab
        have hne : (B s)[i] ≠ c := by
          rintro e
          apply hna
          rw [← hab.1, e]
          exact List.mem_cons_self ..
        rw [if_neg hne, ih.1 a b hab.2 (fun hm => hna (List.mem_cons_of_mem _ hm)), List.length_cons]
        congr 2
        omega
    · rw [List.drop_eq_getElem_cons hi] at hn
      have hne : (B s)[i] ≠ c := by
        rintro e
        apply hn
        rw [e]
        exact List.mem_cons_self ..
      rw [if_neg hne, ih.2 (fun hm => hn (List.mem_cons_of_mem _ hm))]
theorem idx_ok (K : Nat) (s : ByteArray) (c : UInt8) (hs : s.size ≤ 1000000) (hK : 2 * s.size + 2 ≤ K) :
    (∀ (a b : List UInt8), B s = a ++ c :: b → c ∉ a → zzIndex K s ⟨#[c]⟩ = some (a.length : Int)) ∧ (c ∉ B s → zzIndex K s ⟨#[c]⟩ = some (-1)) := by
  obtain ⟨K, rfl⟩ : ∃ m, K = m + 1 := ⟨K - 1, by omega⟩
  have h := idx_loop K s c hs s.size 0 K (by omega) (by omega)
  rw [zzIndex_eq]
  refine ⟨fun a b hab hna => ?_, fun hn => ?_⟩
  · have := h.1 a b (by simpa using hab) hna
    simpa using this
  · exact h.2 (by simpa using hn)
/-- A byte becomes a text. -/
def repB (c : UInt8) (new : List UInt8) (x : UInt8) : List UInt8 := if x = c then new else [x]
theorem first_of (c : UInt8) : ∀ l : List UInt8, c ∈ l → ∃ a b, l = a ++ c :: b ∧ c ∉ a
  | [], h => by cases h
  | x :: l, h => by
    by_cases e : x = c
    · exact ⟨[], l, by rw [e]; rfl, by simp⟩
    · have : c ∈ l := by
        rcases List.mem_cons.1 h with h | h
        · exact absurd h.symm e
        · exact h
      obtain ⟨a, b, rfl, hn⟩ := first_of c l this
      exact ⟨x :: a, b, rfl, fun hm => by
        rcases List.mem_cons.1 hm with h | h
        · exact e h.symm
        · exact hn h⟩
theorem rep_none (c : UInt8) (new : List UInt8) : ∀ l : List UInt8, c ∉ l → l.flatMap (repB c new) = l
  | [], _ => rfl
  | x :: l, h => by
    have e : x ≠ c := fun e => h (by rw [e]; exact List.mem_cons_self ..)
    rw [List.flatMap_cons, rep_none c new l (fun hm => h (List.mem_cons_of_mem _ hm))]
    unfold repB
    rw [if_neg e]
    rfl
theorem rep_loop (K : Nat) (c : UInt8) (new : ByteArray) (hw : new.size ≤ 20) : ∀ (n k : Nat) (s : ByteArray) (acc : List UInt8), s.size ≤ n → s.size ≤ 100000 → acc.length ≤ 10000000 → 2 * s.size + 2 ≤ K → 2 * n + 1 ≤ k →
    21 * s.size + acc.length ≤ 10000000 → zzReplace_l0 K k s ⟨#[c]⟩ new ⟨acc.toArray⟩ = some ⟨(acc ++ (B s).flatMap (repB c (B new))).toArray⟩
  | n, k, s, acc, hn, hs, ha, hK, hk, hw2 => by
    obtain ⟨k, rfl⟩ : ∃ m, k = m + 1 := ⟨k - 1, by omega⟩
    have hidx := idx_ok K s c (by omega) (by omega)
    have h1 : ((ByteArray.size ⟨#[c]⟩ : Nat) : Int) = 1 := rfl
    rw [zzReplace_l0_eq]
    by_cases hc : c ∈ B s
    · obtain ⟨a, b, hab, hna⟩ := first_of c _ hc
      have hlen : a.length + b.length + 1 = s.size := by
        rw [← B_size, hab, List.length_append, List.length_cons]
        omega
      rw [hidx.1 a b hab hna, Option.bind_some, br_ge (by omega)]
      obtain ⟨k, rfl⟩ : ∃ m, k = m + 1 := ⟨k - 1, by omega⟩
      obtain ⟨n, rfl⟩ : ∃ m, n = m + 1 := ⟨n - 1, by omega⟩
      have e1 : ByteArray.extract s (Int.toNat 0) (Int.toNat (a.length : Int)) = ⟨a.toArray⟩ := B_inj (by
        rw [B_extract, hab]
        simp [B])
      have e2 : ByteArray.extract s (Int.toNat ((a.length : Int) + 1)) (Int.toNat (s.size : Int)) = ⟨b.toArray⟩ := B_inj (by
        rw [B_extract, hab, show Int.toNat ((a.length : Int) + 1) = a.length + 1 by omega, ← List.drop_drop, List.drop_left']
        · simp only [List.drop_succ_cons, List.drop_zero]
          rw [List.take_of_length_le (by omega)]
          rfl
        · rfl)
      have hsa : ByteArray.size (⟨a.toArray⟩ : ByteArray) = a.length := rfl
      have e3 : ByteArray.append ⟨a.toArray⟩ new = ⟨(a ++ B new).toArray⟩ := by
        conv => lhs; rw [← mk_B new]
        exact mk_append a (B new)
      have hsz : (a ++ B new).length = a.length + new.size := by rw [List.length_append, B_size]
      rw [zzReplace_j0_eq, h1, wrap_id (by omega) (by omega), chk_le (by omega), chk_le (by omega), chk_le (by omega), e1, e2, e3]
      simp only [mk_size]
      rw [chk_nle (by omega), chk_nle (by omega), chk_le (by omega), chk_le (by omega), chk_le (by omega), mk_append,
        rep_loop K c new hw n k ⟨b.toArray⟩ (acc ++ (a ++ B new)) (by rw [mk_size]; omega) (by rw [mk_size]; omega) (by rw [List.length_append, hsz]; omega) (by rw [mk_size]; omega) (by omega) (by rw [List.length_append, hsz, mk_size]; omega)]
      rw [hab, List.flatMap_append, List.flatMap_cons, rep_none c _ a hna]
      have : repB c (B new) c = B new := by unfold repB; rw [if_pos rfl]
      rw [this]
      simp [B]
    · rw [hidx.2 hc, Option.bind_some, br_lt (by omega), mk_size, chk_nle (by omega), rep_none c _ _ hc]
      conv => lhs; rw [← mk_B s]
      rw [mk_append]
theorem rep_ok (K : Nat) (s : ByteArray) (c : UInt8) (new : ByteArray) (hw : new.size ≤ 20) (hs : s.size ≤ 100000) (hK : 2 * s.size + 3 ≤ K) : zzReplace K s ⟨#[c]⟩ new = some ⟨((B s).flatMap (repB c (B new))).toArray⟩ := by
  obtain ⟨K, rfl⟩ : ∃ m, K = m + 1 := ⟨K - 1, by omega⟩
  rw [zzReplace_eq]
  have := rep_loop K c new hw s.size K s [] (Nat.le_refl _) hs (by simp) (by omega) (by omega) (by simp; omega)
  simpa using this
end Go.Proofs.YtfefjbifdbfmjaaDoor.E
