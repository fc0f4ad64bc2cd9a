import Derived.Test.YtmdgnglgabnhnaaPx
import Derived.Test.YtmdgnglgabnhnaaXAlpha
import Derived.Test.YtmdgnglgabnhnaaXEvt
/- The plain law of FnAlphabet: the bits of the places of each byte. -/
namespace Go.Proofs.Ytmdgnglgabnhnaa.Pure
open Go.RowKit Go.Proofs.YtmdgnglgabnhnaaW.PrintWords Go.Proofs.YtmdgnglgabnhnaaX Go.Proofs.Ytmdgnglgabnhnaa.P
theorem or64 (a b : Nat) (ha : a < 2 ^ 62) (hb : b < 2 ^ 62) : Go.bits .or .i64 (a : Int) (b : Int) = ((a ||| b : Nat) : Int) := by
  have hx : a ||| b < 2 ^ 62 := Nat.or_lt_two_pow ha hb
  have h1 : (BitVec.ofInt 64 (a : Int)).toNat = a := by
    rw [BitVec.ofInt_natCast, BitVec.toNat_ofNat]; exact Nat.mod_eq_of_lt (by omega)
  have h2 : (BitVec.ofInt 64 (b : Int)).toNat = b := by
    rw [BitVec.ofInt_natCast, BitVec.toNat_ofNat]; exact Nat.mod_eq_of_lt (by omega)
  show IntKind.i64.wrap ((BitVec.ofInt 64 (a : Int) ||| BitVec.ofInt 64 (b : Int)).toNat : Int) = _
  rw [BitVec.toNat_or, h1, h2]
  exact IntWalk.i64_in _ (by omega)
/-- The places of a byte, the last one the lowest bit, behind what is there. -/
def msk (x : Int) : List Int → Nat → Nat
  | [], a => a
  | c :: r, a => msk x r (2 * a + if c = x then 1 else 0)
theorem msk_ge (x : Int) : ∀ (l : List Int) (a : Nat), a ≤ msk x l a
  | [], a => Nat.le_refl _
  | c :: r, a => Nat.le_trans (by omega) (msk_ge x r _)
theorem msk_pos (x : Int) : ∀ (l : List Int) (a : Nat), x ∈ l → 1 ≤ msk x l a
  | c :: r, a, h => by
    unfold msk
    rcases List.mem_cons.1 h with rfl | h
    · rw [if_pos rfl]
      exact Nat.le_trans (by omega) (msk_ge x r _)
    · exact msk_pos x r _ h
theorem pow_pos' (n : Nat) : 0 < 2 ^ n := Nat.two_pow_pos n
theorem alpha2_at (n : Nat) (hn : n ≤ 62) (x : Int) : ∀ (r : List Int) (i : Nat) (g : Int → Option Int) (a : Nat), i + r.length = n → g x = some ((a * 2 ^ (n - i) : Nat) : Int) → a < 2 ^ i → alpha2 n r i g x = some (msk x r a : Int)
  | [], i, g, a, h, hg, _ => by
    obtain rfl : i = n := by simpa using h
    rw [Nat.sub_self, Nat.pow_zero, Nat.mul_one] at hg
    exact hg
  | c :: r, i, g, a, h, hg, ha => by
    rw [List.length_cons] at h
    unfold alpha2 msk
    have hp : 2 ^ (n - i) = 2 * 2 ^ (n - i - 1) := by rw [show n - i = (n - i - 1) + 1 from by omega, Nat.pow_succ, Nat.mul_comm]; rfl
    have hlt : a * 2 ^ (n - i) < 2 ^ 62 := by
      calc a * 2 ^ (n - i) < 2 ^ i * 2 ^ (n - i) := Nat.mul_lt_mul_of_pos_right ha (pow_pos' _)
        _ = 2 ^ n := by rw [← Nat.pow_add]; congr 1; omega
        _ ≤ 2 ^ 62 := Nat.pow_le_pow_right (by decide) hn
    have hlt2 : 2 ^ (n - i - 1) < 2 ^ 62 := Nat.pow_lt_pow_right (by decide) (by omega)
    by_cases c1 : c = x
    · subst c1
      rw [if_pos rfl]
      refine alpha2_at n hn c r (i + 1) _ (2 * a + 1) (by omega) ?_ (by rw [Nat.pow_succ]; omega)
      unfold upd
      rw [if_pos rfl, hg]
      have hw : wrap64 (IntKind.u64.wrap (2 ^ (n - i - 1))) = ((2 ^ (n - i - 1) : Nat) : Int) := by
        have e1 : (2 ^ (n - i - 1) : Int) = ((2 ^ (n - i - 1) : Nat) : Int) := by simp
        rw [e1]
        generalize 2 ^ (n - i - 1) = q at hlt2
        rw [IntWalk.u64_in _ (by omega), wrap64_eq (by omega) (by omega)]
      rw [hw]
      simp only [Option.getD_some]
      rw [or64 _ _ hlt hlt2]
      have e2 : a * 2 ^ (n - i) ||| 2 ^ (n - i - 1) = (2 * a + 1) * 2 ^ (n - (i + 1)) := by
        have h3 := Nat.two_pow_add_eq_or_of_lt (i := n - i) (b := 2 ^ (n - i - 1)) (by rw [hp]; have := pow_pos' (n - i - 1); omega) a
        rw [Nat.mul_comm a, ← h3, hp, show n - (i + 1) = n - i - 1 from by omega, Nat.add_mul, Nat.one_mul, Nat.mul_assoc, Nat.mul_assoc, Nat.mul_comm a]
      rw [e2]
    · rw [if_neg c1]
      refine alpha2_at n hn x r (i + 1) _ (2 * a + 0) (by omega) ?_ (by rw [Nat.pow_succ]; omega)
      unfold upd
      rw [if_neg (Ne.symm c1), hg, hp, show n - (i + 1) = n - i - 1 from by omega, Nat.add_zero, Nat.mul_comm 2 a, Nat.mul_assoc]
theorem alpha2_none (n : Nat) (x : Int) : ∀ (r : List Int) (i : Nat) (g : Int → Option Int), x ∉ r → g x = none → alpha2 n r i g x = none
  | [], _, _, _, hg => hg
  | c :: r, i, g, h, hg => by
    unfold alpha2
    refine alpha2_none n x r (i + 1) _ (fun h' => h (List.mem_cons_of_mem _ h')) ?_
    unfold upd
    rw [if_neg (fun e => h (by rw [e]; exact List.mem_cons_self)), hg]
theorem alpha1_zero (x : Int) : ∀ (r : List Int) (g : Int → Option Int), g x = some 0 → alpha1 r g x = some 0
  | [], _, h => h
  | c :: r, g, h => by
    unfold alpha1
    refine alpha1_zero x r _ ?_
    split
    · exact h
    · unfold upd
      split
      · rfl
      · exact h
theorem alpha1_mem (x : Int) : ∀ (r : List Int) (g : Int → Option Int), x ∈ r → g x = none → alpha1 r g x = some 0
  | c :: r, g, h, hg => by
    unfold alpha1
    by_cases c1 : x = c
    · subst c1
      refine alpha1_zero x r _ ?_
      rw [hg]
      simp [upd]
    · refine alpha1_mem x r _ ((List.mem_cons.1 h).resolve_left c1) ?_
      split
      · exact hg
      · unfold upd
        rw [if_neg c1, hg]
theorem alpha1_none (x : Int) : ∀ (r : List Int) (g : Int → Option Int), x ∉ r → g x = none → alpha1 r g x = none
  | [], _, _, hg => hg
  | c :: r, g, h, hg => by
    unfold alpha1
    refine alpha1_none x r _ (fun h' => h (List.mem_cons_of_mem _ h')) ?_
    split
    · exact hg
    · unfold upd
      rw [if_neg (fun e => h (by rw [e]; exact List.mem_cons_self)), hg]
theorem alphaG_mem (s : ByteArray) (hs : s.size ≤ 62) (x : Int) (h : x ∈ bytesOf s) : alphaG s x = some (msk x (bytesOf s) 0 : Int) := by
  unfold alphaG
  refine alpha2_at s.size hs x _ 0 _ 0 (by rw [bytesOf_length, Nat.zero_add]) ?_ (by decide)
  rw [alpha1_mem x _ _ h rfl, Nat.zero_mul]
  rfl
theorem alphaG_none (s : ByteArray) (x : Int) (h : x ∉ bytesOf s) : alphaG s x = none := alpha2_none _ x _ _ _ h (alpha1_none x _ _ h rfl)
/-! ### The letters -/
theorem letters_mem (g : Int → Option Int) : ∀ (m b : Nat) (y : S25), y ∈ lettersFrom g m b → (b : Int) ≤ y.f0 ∧ y.f0 < ((b + m : Nat) : Int) ∧ g y.f0 = some y.f1
  | 0, b, y, h => by simp [lettersFrom] at h
  | m + 1, b, y, h => by
    unfold lettersFrom at h
    rcases List.mem_append.1 h with h | h
    · cases hg : g (b : Int) with
      | none => rw [hg] at h; simp at h
      | some v =>
        rw [hg] at h
        obtain rfl := List.mem_singleton.1 h
        exact ⟨by simp, by simp; omega, hg⟩
    · obtain ⟨h1, h2, h3⟩ := letters_mem g m (b + 1) y h
      exact ⟨by omega, by omega, h3⟩
theorem letters_rise (g : Int → Option Int) : ∀ (m b : Nat), (lettersFrom g m b).Pairwise fun y z => y.f0 < z.f0
  | 0, b => List.Pairwise.nil
  | m + 1, b => by
    unfold lettersFrom
    refine List.pairwise_append.2 ⟨?_, letters_rise g m (b + 1), fun y hy z hz => ?_⟩
    · split <;> simp
    · have h1 := (letters_mem g m (b + 1) z hz).1
      cases hg : g (b : Int) with
      | none => rw [hg] at hy; simp at hy
      | some v =>
        rw [hg] at hy
        obtain rfl := List.mem_singleton.1 hy
        show (b : Int) < z.f0
        omega
/-- The sum over numbers from b on. -/
def sumc (f : Int → Nat) : Nat → Nat → Nat
  | 0, _ => 0
  | m + 1, b => f (b : Int) + sumc f m (b + 1)
theorem letters_sum (g : Int → Option Int) (f : Int → Nat) (h : ∀ x, g x = none → f x = 0) : ∀ (m b : Nat), ((lettersFrom g m b).map fun y => f y.f0).sum = sumc f m b
  | 0, b => rfl
  | m + 1, b => by
    unfold lettersFrom sumc
    rw [List.map_append, List.sum_append, letters_sum g f h m (b + 1)]
    cases hg : g (b : Int) with
    | none => simp [h _ hg]
    | some v => simp
theorem sumc_add (f g : Int → Nat) : ∀ (m b : Nat), sumc (fun x => f x + g x) m b = sumc f m b + sumc g m b
  | 0, b => rfl
  | m + 1, b => by unfold sumc; rw [sumc_add f g m (b + 1)]; omega
theorem sumc_zero : ∀ (m b : Nat), sumc (fun _ => 0) m b = 0
  | 0, b => rfl
  | m + 1, b => by unfold sumc; rw [sumc_zero m (b + 1)]
theorem sumc_one (c : Int) : ∀ (m b : Nat), (b : Int) ≤ c → c < ((b + m : Nat) : Int) → sumc (fun x => if c = x then 1 else 0) m b = 1
  | 0, b, h1, h2 => by omega
  | m + 1, b, h1, h2 => by
    unfold sumc
    by_cases h : c = (b : Int)
    · rw [if_pos h]
      have : ∀ (m b' : Nat), b < b' → sumc (fun x => if c = x then 1 else 0) m b' = 0 := by
        intro m
        induction m with
        | zero => intro b' _; rfl
        | succ m ih => intro b' hb; unfold sumc; rw [if_neg (by omega), ih (b' + 1) (by omega)]
      rw [this m (b + 1) (by omega)]
    · rw [if_neg h, sumc_one c m (b + 1) (by omega) (by omega)]
def cnt (x : Int) : List Int → Nat
  | [] => 0
  | c :: r => (if c = x then 1 else 0) + cnt x r
theorem cnt_none (x : Int) : ∀ l : List Int, x ∉ l → cnt x l = 0
  | [], _ => rfl
  | c :: r, h => by
    unfold cnt
    rw [if_neg (fun e => h (by rw [e]; exact List.mem_cons_self)), cnt_none x r (fun h' => h (List.mem_cons_of_mem _ h'))]
theorem sumc_cnt : ∀ l : List Int, (∀ c ∈ l, 0 ≤ c ∧ c ≤ 255) → sumc (fun x => cnt x l) 256 0 = l.length
  | [], _ => sumc_zero 256 0
  | c :: r, h => by
    have h1 : (fun x => cnt x (c :: r)) = fun x => (if c = x then 1 else 0) + cnt x r := rfl
    obtain ⟨h2, h3⟩ := h c List.mem_cons_self
    rw [h1, sumc_add, sumc_one c 256 0 (by simpa using h2) (by omega), sumc_cnt r (fun z hz => h z (List.mem_cons_of_mem _ hz)), List.length_cons]
    omega
theorem bytes_ok (s : ByteArray) : ∀ c ∈ bytesOf s, 0 ≤ c ∧ c ≤ 255 := by
  intro c hc
  obtain ⟨i, hi, rfl⟩ := List.getElem_of_mem hc
  have h := byte_ok s i (by rw [← bytesOf_length]; exact hi)
  have : rd (bytesOf s) (i : Int) = (bytesOf s)[i] := by simp [rd, List.getD_eq_getElem?_getD, List.getElem?_eq_getElem hi]
  rwa [this] at h
/-! ### The loops -/
theorem mask_loop (s : ByteArray) (hs : s.size ≤ 62) (x : Int) : ∀ (d i a : Nat), i + d = s.size → a < 2 ^ i → Evt (fun k => spec_PatchMask.l0 k s x (a : Int) (s.size : Int) (i : Int)) (msk x ((bytesOf s).drop i) a : Int) := by
  intro d
  induction d with
  | zero =>
    intro i a h _
    rw [List.drop_eq_nil_of_le (by rw [bytesOf_length]; omega)]
    refine Evt.succ (fun k => by rw [spec_PatchMask.l0]) (Evt.neg (by omega) ?_)
    exact Evt.ret _
  | succ d ih =>
    intro i a h ha
    have hp : 2 ^ (i + 1) ≤ 2 ^ 62 := Nat.pow_le_pow_right (by decide) (by omega)
    have hp2 : 2 ^ (i + 1) = 2 * 2 ^ i := by rw [Nat.pow_succ, Nat.mul_comm]
    rw [bytes_drop s i (by omega), rd_bytesOf]
    simp only [msk]
    have hw : wrap64 ((a : Int) * 2) = ((2 * a : Nat) : Int) := by rw [wrap64_eq (by omega) (by omega)]; omega
    refine Evt.succ (fun k => by rw [spec_PatchMask.l0]) (Evt.pos (by omega) (Evt.pos (by omega) (Evt.pos (by omega) (Evt.ite (fun c => ?_) (fun c => ?_)))))
    · rw [if_pos c, hw, wadd1 i (by omega)]
      have e : Go.bits .or .i64 ((2 * a : Nat) : Int) 1 = ((2 * a + 1 : Nat) : Int) := by
        have h1 := or64 (2 * a) 1 (by omega) (by decide)
        have h2 := Nat.two_pow_add_eq_or_of_lt (i := 1) (b := 1) (by decide) a
        rw [show (2 ^ 1 : Nat) = 2 from rfl] at h2
        rw [h2]
        exact h1
      rw [e]
      exact ih (i + 1) (2 * a + 1) (by omega) (by omega)
    · rw [if_neg c, hw, wadd1 i (by omega)]
      exact ih (i + 1) (2 * a + 0) (by omega) (by omega)
theorem rd25 (l : List S25) (i : Nat) (h : i < l.length) : rd_T25 l (i : Int) = l[i] := by
  simp [rd_T25, List.getD_eq_getElem?_getD, List.getElem?_eq_getElem h]
theorem seen_loop (s : ByteArray) (hs : s.size ≤ 62) (x3 : Bool) (L : List S25) (i : Nat) (f0 f1 : Int) (r : Bool) : ∀ (d j seen : Nat), j + d = s.size → seen ≤ 1000000 + j →
    Evt (fun k => laws_FnAlphabet.l0 k s x3 L ((seen + cnt f0 ((bytesOf s).drop j) : Nat) : Int) L (L.length : Int) (wrap64 ((i : Int) + 1))) r →
    Evt (fun k => laws_FnAlphabet.l1 k s x3 L (seen : Int) L (L.length : Int) (i : Int) (s.size : Int) (j : Int) f0 f1) r := by
  intro d
  induction d with
  | zero =>
    intro j seen h _ hE
    rw [List.drop_eq_nil_of_le (by rw [bytesOf_length]; omega)] at hE
    refine Evt.succ (fun k => by rw [laws_FnAlphabet.l1]) (Evt.neg (by omega) ?_)
    simpa only [cnt, Nat.add_zero] using hE
  | succ d ih =>
    intro j seen h hse hE
    rw [bytes_drop s j (by omega), rd_bytesOf] at hE
    simp only [cnt] at hE
    refine Evt.succ (fun k => by rw [laws_FnAlphabet.l1]) (Evt.pos (by omega) (Evt.pos (by omega) (Evt.pos (by omega) (Evt.ite (fun c => ?_) (fun c => ?_)))))
    · rw [if_pos c] at hE
      rw [wadd1 j (by omega), wadd1 seen (by omega)]
      refine ih (j + 1) (seen + 1) (by omega) (by omega) ?_
      rw [Nat.add_assoc]
      exact hE
    · rw [if_neg c] at hE
      rw [wadd1 j (by omega)]
      refine ih (j + 1) seen (by omega) (by omega) ?_
      rw [Nat.zero_add] at hE
      exact hE
theorem cnt_le (x : Int) : ∀ l : List Int, cnt x l ≤ l.length
  | [] => Nat.le_refl _
  | c :: r => by unfold cnt; have := cnt_le x r; rw [List.length_cons]; split <;> omega
theorem main_loop (s : ByteArray) (hs : s.size ≤ 62) (x3 : Bool) (L : List S25) (hL : L.length ≤ 256) (h1 : ∀ y ∈ L, y.f1 ≠ 0 ∧ y.f1 = (msk y.f0 (bytesOf s) 0 : Int)) (h2 : L.Pairwise fun y z => y.f0 < z.f0) (h3 : (L.map fun y => cnt y.f0 (bytesOf s)).sum = s.size) :
    ∀ (d i : Nat), i + d = L.length → Evt (fun k => laws_FnAlphabet.l0 k s x3 L ((((L.take i).map fun y => cnt y.f0 (bytesOf s)).sum : Nat) : Int) L (L.length : Int) (i : Int)) x3 := by
  intro d
  induction d with
  | zero =>
    intro i h
    rw [List.take_of_length_le (by omega), h3]
    exact Evt.succ (fun k => by rw [laws_FnAlphabet.l0]) (Evt.neg (by omega) (Evt.pos rfl (Evt.ret _)))
  | succ d ih =>
    intro i h
    have hi : i < L.length := by omega
    obtain ⟨hy0, hy1⟩ := h1 L[i] (List.getElem_mem hi)
    have hseen : ((L.take i).map fun y => cnt y.f0 (bytesOf s)).sum ≤ s.size := by
      rw [← h3]
      conv => rhs; rw [← List.take_append_drop i L]
      rw [List.map_append, List.sum_append]
      omega
    have hnext : ((L.take (i + 1)).map fun y => cnt y.f0 (bytesOf s)).sum = ((L.take i).map fun y => cnt y.f0 (bytesOf s)).sum + cnt L[i].f0 (bytesOf s) := by
      rw [List.take_add_one, List.map_append, List.sum_append, List.getElem?_eq_getElem hi]
      simp
    have hj : Evt (fun k => laws_FnAlphabet.j1 k s x3 L ((((L.take i).map fun y => cnt y.f0 (bytesOf s)).sum : Nat) : Int) L (L.length : Int) (i : Int) false L[i].f0 L[i].f1) x3 := by
      refine Evt.succ (fun k => by rw [laws_FnAlphabet.j1]) (Evt.neg (by decide) ?_)
      refine seen_loop s hs x3 L i _ _ x3 s.size 0 _ (by omega) (by omega) ?_
      rw [List.drop_zero, ← hnext, wadd1 i (by omega)]
      exact ih (i + 1) (by omega)
    refine Evt.succ (fun k => by rw [laws_FnAlphabet.l0]) (Evt.pos (by omega) (Evt.pos (by omega) (Evt.pos (by omega) ?_)))
    rw [rd25 L i hi]
    refine Evt.neg hy0 (Evt.bind (f := fun k => spec_PatchMask.f k s L[i].f0) (x := (msk L[i].f0 (bytesOf s) 0 : Int)) (mask_loop s hs L[i].f0 s.size 0 0 (by omega) (by decide)) (Evt.pos hy1 ?_))
    refine Evt.ite (fun c => ?_) (fun c => hj)
    rw [wsub1 i (by omega) (by omega)]
    refine Evt.pos (by omega) (Evt.pos (by omega) ?_)
    rw [rd25 L (i - 1) (by omega)]
    have hlt := List.pairwise_iff_getElem.1 h2 (i - 1) i (by omega) hi (by omega)
    rw [decide_eq_false (by omega : ¬ (L[i - 1]'(by omega)).f0 ≥ L[i].f0)]
    exact hj
theorem letters_len (g : Int → Option Int) : ∀ (m b : Nat), (lettersFrom g m b).length ≤ m
  | 0, _ => Nat.le_refl _
  | m + 1, b => by
    unfold lettersFrom
    rw [List.length_append]
    have := letters_len g m (b + 1)
    split <;> simp <;> omega
theorem awake : (lettersFrom (alphaG ⟨#[97]⟩) 256 0).length = 1 := by decide +kernel
theorem FnAlphabet : ∀ (a0 : ByteArray), (a0.size ≤ 9223372036854775807) → ∃ k, laws_FnAlphabet.f k a0 = some true := by
  intro s _
  refine Evt.some_ ?_
  unfold laws_FnAlphabet.f
  refine Evt.ite (fun _ => Evt.ret _) (fun c1 => ?_)
  refine Evt.obind (x := lettersFrom (alphaG ⟨#[97]⟩) 256 0) (by unfold impl_Alphabet.f; rw [if_pos (by decide)]) ?_
  rw [awake]
  refine Evt.ite (fun _ => Evt.ret _) (fun c2 => ?_)
  have hs : s.size ≤ 62 := by omega
  refine Evt.obind (x := lettersFrom (alphaG s) 256 0) (by unfold impl_Alphabet.f; rw [if_pos hs]) ?_
  have hmem : ∀ y ∈ lettersFrom (alphaG s) 256 0, y.f0 ∈ bytesOf s ∧ y.f1 = (msk y.f0 (bytesOf s) 0 : Int) := by
    intro y hy
    have hg := (letters_mem _ _ _ y hy).2.2
    by_cases c : y.f0 ∈ bytesOf s
    · rw [alphaG_mem s hs _ c] at hg
      exact ⟨c, (Option.some.inj hg).symm⟩
    · rw [alphaG_none s _ c] at hg
      cases hg
  have h := main_loop s hs true (lettersFrom (alphaG s) 256 0) (letters_len _ _ _)
    (fun y hy => ⟨by have := msk_pos y.f0 (bytesOf s) 0 (hmem y hy).1; rw [(hmem y hy).2]; omega, (hmem y hy).2⟩) (letters_rise _ _ _)
    (by
      rw [letters_sum _ (fun x => cnt x (bytesOf s)) (fun x hx => ?_), sumc_cnt _ (bytes_ok s), bytesOf_length]
      by_cases c : x ∈ bytesOf s
      · rw [alphaG_mem s hs _ c] at hx; cases hx
      · exact cnt_none x _ c)
    (lettersFrom (alphaG s) 256 0).length 0 (by omega)
  exact h
end Go.Proofs.Ytmdgnglgabnhnaa.Pure
