import Derived.Test.YtfglahmbnnkijaaLZ
/- The edits by lines. -/
set_option linter.unusedVariables false
set_option linter.unusedSimpArgs false
namespace Go.Proofs.Ytfglahmbnnkijaa.E
open Go.Ev Go.Lcs Go.Lib
theorem decL_str : ∀ (n : Nat) (L : List ByteArray), n ≤ L.length → decL (.p .str) n (L.map fun x => Cell.v (.string x)) = some (L.take n)
  | 0, L, _ => by rw [List.take_zero]; rfl
  | n + 1, [], h => by simp at h
  | n + 1, x :: L, h => by
    have ih := decL_str n L (by simp at h; omega)
    unfold decL
    have e1 : HTy.dec (.p .str) (List.take (HTy.p .str).sz (List.map (fun x => Cell.v (.string x)) (x :: L))) = some x := rfl
    have e2 : List.drop (HTy.p .str).sz (List.map (fun x => Cell.v (.string x)) (x :: L)) = L.map (fun x => Cell.v (.string x)) := rfl
    rw [e1, e2, ih]
    rfl
theorem rdok_str {h : Hp} {n : Nat} {l : List ByteArray} (ho : h.ob n = some (.cells 9 1 (l.map fun x => Cell.v (.string x)))) (hn : n < h.nx) : RdOk h .str (.at n 0 l.length) l := by
  refine ⟨rfl, fun h' hk lo hi h1 h2 => ?_⟩
  have hc : h'.cl n = some (l.map fun x => Cell.v (.string x)) := by
    unfold Hp.cl
    rw [hk.ob n hn, ho]
  show Hp.rd h' .str (.at n (0 + lo * 1) (hi - lo)) = _
  unfold Hp.rd
  simp only [hc]
  rw [show Nat.ble (0 + lo * 1 + (hi - lo) * Ty.sz .str) (l.map fun x => Cell.v (.string x)).length = true by rw [List.length_map]; exact Nat.ble_eq_true_of_le (by show 0 + lo * 1 + (hi - lo) * 1 ≤ _; omega)]
  simp only [cond_true]
  have e : (l.map fun x => Cell.v (.string x)).drop (0 + lo * 1) = (l.drop lo).map fun x => Cell.v (.string x) := by
    rw [List.map_drop, show 0 + lo * 1 = lo by omega]
  rw [e]
  exact decL_str (hi - lo) (l.drop lo) (by rw [List.length_drop]; omega)
theorem new_str (h : Hp) (l : List ByteArray) : (Hp.new h 9 (.p .str) l).ob h.nx = some (.cells 9 1 (l.map fun x => Cell.v (.string x))) := by
  unfold Hp.new
  rw [push_ob, if_pos rfl]
  have : ∀ l : List ByteArray, (l.map (HTy.cc (.p .str))).flatten = l.map fun x => Cell.v (.string x) := by
    intro l
    induction l with
    | nil => rfl
    | cons a l ih => rw [List.map_cons, List.flatten_cons, ih]; rfl
  rw [this]
  rfl
theorem jn_take (l : List ByteArray) (i j : Nat) : (jn ((l.drop i).take j)).size ≤ (jn l).size := by
  rw [jn_size, jn_size]
  have e : l = l.take i ++ ((l.drop i).take j ++ (l.drop i).drop j) := by rw [List.take_append_drop, List.take_append_drop]
  conv => rhs; rw [e]
  rw [jb_append, jb_append, List.length_append, List.length_append]
  omega
theorem zzJoin_ok (K : Nat) (l : List ByteArray) (hl : l.length ≤ 10000) (hs : (jn l).size ≤ 100000) (hK : 3 * l.length + 10 ≤ K) : udiff_zzJoin K l (ByteArray.mk (List.toArray [])) = some (jn l) := by
  obtain ⟨K, rfl⟩ : ∃ m, K = m + 1 := ⟨K - 1, by omega⟩
  have key : ∀ (R P : List ByteArray) (k : Nat), P ++ R = l → 3 * R.length + 1 ≤ k → udiff_zzJoin_l0 K k (ByteArray.mk (List.toArray [])) (bytesI (jn P)) l (l.length : Int) (P.length : Int) = some (jn l) := by
    intro R
    induction R with
    | nil =>
      intro P k hP hk
      obtain ⟨k, rfl⟩ : ∃ q, k = q + 1 := ⟨k - 1, by omega⟩
      rw [List.append_nil] at hP
      rw [udiff_zzJoin_l0_eq, br_ge (by rw [hP]; omega), strOf_bytesI, hP]
    | cons x R ih =>
      intro P k hP hk
      simp only [List.length_cons] at hk
      obtain ⟨k, rfl⟩ : ∃ q, k = q + 3 := ⟨k - 3, by omega⟩
      have hll : l.length = P.length + (R.length + 1) := by rw [← hP]; simp
      have hn : nth .str l (P.length : Int) = x := by rw [← hP]; exact nth_mid .str P x R
      have hsz : (jn P).size ≤ (jn l).size ∧ x.size ≤ (jn l).size := by
        rw [← hP, jn_append]
        show _ ≤ (jn P ++ (x ++ jn R)).size ∧ _ ≤ (jn P ++ (x ++ jn R)).size
        rw [ba_size_app, ba_size_app]
        omega
      have hst := ih (P ++ [x]) k (by rw [List.append_assoc]; exact hP) (by omega)
      rw [jn_append, jn_one, List.length_append] at hst
      have e0 : bytesI (ByteArray.mk (List.toArray [])) = [] := rfl
      have j1 : udiff_zzJoin_j1 K (k + 1) (ByteArray.mk (List.toArray [])) (bytesI (jn P)) x l (l.length : Int) (P.length : Int) = some (jn l) := by
        rw [udiff_zzJoin_j1_eq, bytesI_len, bytesI_len, chk_lt (by omega), ← bytesI_app, wp1 P.length (by omega)]
        exact hst
      rw [udiff_zzJoin_l0_eq, br_lt (by omega), udiff_zzJoin_j0_eq, hn, e0, List.append_nil, chk_le (by omega), chk_lt (by omega), j1]
      by_cases hc : (0 : Int) < (P.length : Int)
      · rw [br_lt hc, bytesI_len, chk_lt (by show ((jn P).size : Int) + ((0 : Nat) : Int) < _; omega)]
      · rw [br_ge (by omega)]
  rw [udiff_zzJoin_eq]
  exact key l [] K rfl (by omega)
theorem lines_loop (K : Nat) {hb : Hp} {ro rb : Rf} {A Bl : List ByteArray} {O : List Int} (hro : SlL hb 3 (.int .i64) ro O) (hO : O.length = A.length + 1) (hOi : ∀ i, i ≤ A.length → O[i]? = some (lpos A i : Int)) (hrb : RdOk hb .str rb Bl) (ha : A.length ≤ 1000) (hlb : Bl.length ≤ 1000) (hsz : (jn Bl).size ≤ 100000) (D : List Sp) (hD : D.length ≤ 3000) (n : Nat) (hn : hb.nx ≤ n) (hK : 10000 ≤ K) : ∀ (R P : List Sp) (i k : Int) (h : Hp) (k' : Nat), P ++ R = D → 0 ≤ i → 0 ≤ k → Ld (EM (Eqs A Bl) A.length Bl.length) R i k A.length Bl.length → KeepH hb h → FreeH h → n < h.nx → HO h 74 TS1 n (P.map (edL A Bl) ++ List.replicate R.length zE) → 2 * R.length + 1 ≤ k' →
    ∃ h', Lines_l0 K k' ro rb (.at n 0 D.length) D (D.length : Int) (P.length : Int) h = some (h', .at n 0 D.length) ∧ HO h' 74 TS1 n (D.map (edL A Bl)) ∧ KeepH hb h' ∧ FreeH h' ∧ n < h'.nx := by
  intro R
  induction R with
  | nil =>
    intro P i k h k' hP hi hk0 hld hk hf hnx ho hk'
    obtain ⟨k', rfl⟩ : ∃ q, k' = q + 1 := ⟨k' - 1, by simp only [List.length_nil] at hk'; omega⟩
    rw [List.append_nil] at hP
    rw [show List.replicate ([] : List Sp).length zE = [] from rfl, List.append_nil, hP] at ho
    exact ⟨h, by rw [Lines_l0_eq, br_ge (by rw [hP]; omega)], ho, hk, hf, hnx⟩
  | cons s R ih =>
    intro P i k h k' hP hi hk0 hld hk hf hnx ho hk'
    simp only [List.length_cons] at hk'
    obtain ⟨k', rfl⟩ : ∃ q, k' = q + 2 := ⟨k' - 2, by omega⟩
    have hll : D.length = P.length + (R.length + 1) := by rw [← hP]; simp
    have hs : nth TS0 D (P.length : Int) = s := by rw [← hP]; exact nth_mid TS0 P s R
    obtain ⟨h1, h2, h3, h4, h5, h6, h7, h8, h9, h10⟩ := hld
    have rd := hrb.2 h hk s.2.2.1.toNat s.2.2.2.toNat (by omega) (by omega)
    have ldO : ∀ x : Int, 0 ≤ x → x ≤ A.length → Hp.ld h (.p (.int .i64)) (radr 1 (Int.toNat x) ro) = some (lpos A x.toNat : Int) := by
      intro x x1 x2
      have hx := List.getElem?_eq_some_iff.1 (hOi x.toNat (by omega))
      obtain ⟨hx1, hx2⟩ := hx
      have := (hro.keep hk).ld x.toNat hx1
      rw [hx2] at this
      exact this
    have hlen : (P.map (edL A Bl) ++ List.replicate (s :: R).length zE).length = D.length := by
      rw [List.length_append, List.length_map, List.length_replicate, List.length_cons]
      omega
    have e1 : (((lpos A s.1.toNat : Nat) : Int), (((lpos A s.2.1.toNat : Nat) : Int), jn ((Bl.drop s.2.2.1.toNat).take (s.2.2.2.toNat - s.2.2.1.toNat)))) = edL A Bl s := by
      unfold edL
      rw [show s.2.2.2.toNat - s.2.2.1.toNat = (s.2.2.2 - s.2.2.1).toNat by omega]
    have hjn := zzJoin_ok K ((Bl.drop s.2.2.1.toNat).take (s.2.2.2.toNat - s.2.2.1.toNat)) (by rw [List.length_take, List.length_drop]; omega) (by have := jn_take Bl s.2.2.1.toNat (s.2.2.2.toNat - s.2.2.1.toNat); omega) (by rw [List.length_take, List.length_drop]; omega)
    obtain ⟨h', w1', w2, w3⟩ := ho.wr P.length (by rw [hlen]; omega) (edL A Bl s)
    have w1' : Hp.st h (.p TS1) (.at n (P.length * 3)) (edL A Bl s) = some h' := w1'
    have hset : (P.map (edL A Bl) ++ List.replicate (s :: R).length zE).set P.length (edL A Bl s) = (P ++ [s]).map (edL A Bl) ++ List.replicate R.length zE := by
      have := set_rep (P.map (edL A Bl)) (edL A Bl s) zE R.length
      rw [List.length_map] at this
      rw [List.length_cons, this, List.map_append]
      rfl
    rw [hset] at w2
    obtain ⟨h2', g1, g2⟩ := ih (P ++ [s]) s.2.1 s.2.2.2 h' k' (by rw [List.append_assoc]; exact hP) (by omega) (by omega) h10 (w3.keep hk hn) (w3.free hf hnx) (by rw [w3.1]; exact hnx) w2 (by omega)
    rw [List.length_append] at g1
    refine ⟨h2', ?_, g2⟩
    rw [Lines_l0_eq, br_lt (by omega), Lines_j0_eq, hs, hro.rlen, hrb.1, chk_le (by omega), chk_lt (by omega), chk_le (by omega), chk_lt (by omega), ldO s.1 (by omega) (by omega), obs, chk_le (by omega), chk_lt (by omega), ldO s.2.1 (by omega) (by omega), obs, chk_le (by omega), chk_le (by omega), chk_le (by omega), rd, obs, hjn, obs, radr0, rlen0, chk_le (by omega), chk_lt (by omega)]
    show Option.bind (Hp.st h (.p TS1) (.at n (P.length * 3)) (((lpos A s.1.toNat : Nat) : Int), (((lpos A s.2.1.toNat : Nat) : Int), jn ((Bl.drop s.2.2.1.toNat).take (s.2.2.2.toNat - s.2.2.1.toNat))))) _ = _
    rw [e1, w1', obs, wrap_id (by omega) (by omega)]
    exact g1
/-- What is found. -/
def FoundL (A B : List ByteArray) (D : List Sp) : Prop := Ld (EM (Eqs A B) A.length B.length) D 0 0 A.length B.length ∧ ∀ s, Dist (EM (Eqs A B) A.length B.length) A.length B.length s → s ≤ 99 → ssum D = s
theorem Lines_ok (K : Nat) {h : Hp} (a b : ByteArray) (hf : FreeH h) (sa : a.size ≤ 200) (sb : b.size ≤ 200) (hK : 90000000 ≤ K) :
    ∃ h' n D O, Lines K h a b = some (h', .at n 0 D.length) ∧ HO h' 74 TS1 n (D.map (edL (linesOf a) (linesOf b))) ∧ FreeH h' ∧ n < h'.nx ∧ FoundL (linesOf a) (linesOf b) D ∧ Lns a O ∧ jn (linesOf b) = b ∧ (linesOf b).length ≤ b.size := by
  obtain ⟨K, rfl⟩ : ∃ m, K = m + 1 := ⟨K - 1, by omega⟩
  obtain ⟨h1, ro, O, a1, a2, a3, a4, a5⟩ := splitLines_ok K h a hf (by omega) (by omega)
  obtain ⟨h2, ro2, O2, b1, b2, b3, b4, b5⟩ := splitLines_ok K h1 b a3 (by omega) (by omega)
  have la := a5.2.1
  have lb := b5.2.1
  obtain ⟨h3, hh3⟩ : ∃ h3, h3 = Hp.new (Hp.new h2 9 (.p .str) (linesOf a)) 9 (.p .str) (linesOf b) := ⟨_, rfl⟩
  have k3 : KeepH h2 h3 := by rw [hh3]; exact ((KeepH.refl h2).push _).push _
  have f3 : FreeH h3 := by rw [hh3]; exact (b3.push _).push _
  have nx3 : h3.nx = h2.nx + 2 := by rw [hh3]; rfl
  have o1 : h3.ob h2.nx = some (.cells 9 1 ((linesOf a).map fun x => Cell.v (.string x))) := by
    have := new_str h2 (linesOf a)
    rw [hh3]
    show ((Hp.new h2 9 (.p .str) (linesOf a)).push _).ob h2.nx = _
    rw [push_ob, if_neg (show ¬ h2.nx = (Hp.new h2 9 (.p .str) (linesOf a)).nx by show ¬ h2.nx = h2.nx + 1; omega)]
    exact this
  have o2 : h3.ob (h2.nx + 1) = some (.cells 9 1 ((linesOf b).map fun x => Cell.v (.string x))) := by
    rw [hh3]
    exact new_str (Hp.new h2 9 (.p .str) (linesOf a)) (linesOf b)
  have r1 := rdok_str o1 (by omega)
  have r2 := rdok_str o2 (by omega)
  obtain ⟨h4, D, c1, c2, c3, c4⟩ := diffLines_ok K f3 r1 r2 (by omega) (by omega) (by omega)
  have fd : FoundL (linesOf a) (linesOf b) D := c4
  have hlen : D.length ≤ 2000 := by
    have := (ld_bound D 0 0 fd.1).2
    omega
  have hN : HO (Hp.new h4 74 (.p TS1) (List.replicate D.length zE)) 74 TS1 h4.nx (List.replicate D.length zE) := HO.new h4 74 TS1 _
  have kO : KeepH h1 h4 := (b2.trans k3).trans c2
  obtain ⟨h5, d1, d2, d3, d4, d5⟩ := lines_loop K (a4.keep kO) a5.2.2.1 (fun i hi => (a5.2.2.2 i hi).1) (r2.mono c2) (by omega) (by omega) (by rw [b5.1]; omega) D (by omega) h4.nx (Nat.le_refl _) (by omega) D [] 0 0 _ K rfl (Int.le_refl 0) (Int.le_refl 0) fd.1 ((KeepH.refl h4).push _) (c3.push _) (Nat.lt_succ_self _) hN (by omega)
  refine ⟨h5, h4.nx, D, O, ?_, d2, d4, d5, fd, a5, b5.1, lb⟩
  rw [Lines_eq, a1, obs]
  show Option.bind (udiff_splitLines K h1 b) _ = _
  rw [b1, obs]
  show Option.bind (DiffLines K (Hp.new (Hp.new h2 9 (.p .str) (linesOf a)) 9 (.p .str) (linesOf b)) (.at h2.nx 0 (linesOf a).length) (.at (h2.nx + 1) 0 (linesOf b).length)) _ = _
  rw [← hh3, c1, obs]
  show chk _ (chk _ (chk _ (Lines_l0 K K ro (.at (h2.nx + 1) 0 (linesOf b).length) (.at h4.nx 0 (Int.toNat (D.length : Int))) D (D.length : Int) 0 (Hp.new h4 74 (.p TS1) (List.replicate (Int.toNat (D.length : Int)) zE))))) = _
  rw [Int.toNat_natCast, chk_le (by show (0 : Int) ≤ (D.length : Int); omega), chk_le (by show (D.length : Int) ≤ (D.length : Int); omega), chk_lt (by show (D.length : Int) < _; omega)]
  exact d1
theorem EditLine_ok (K : Nat) (s : ByteArray) (p : Nat) (hb : Bord s p) (hp : p ≤ 100000) (hK : 1 ≤ K) : EditLine K s (p : Int) = some true := by
  obtain ⟨K, rfl⟩ : ∃ m, K = m + 1 := ⟨K - 1, by omega⟩
  rw [EditLine_eq]
  by_cases h0 : p = 0
  · rw [br_eq (by omega)]
  rw [br_ne (by omega)]
  by_cases h1 : p = s.size
  · rw [br_eq (by omega)]
  rw [br_ne (by omega)]
  rcases hb with hb | hb | ⟨b1, b2, b3⟩
  · exact absurd hb h0
  · exact absurd hb h1
  rw [br_lt (by omega), br_lt (by omega), wrap_id (by omega) (by omega), chk_le (by omega), chk_lt (by omega), b3, eqI_t rfl]
theorem ssum_nonneg {E : Int → Int → Prop} {N M : Int} : ∀ (D : List Sp) (i k : Int), Ld E D i k N M → 0 ≤ ssum D ∧ (D ≠ [] → 1 ≤ ssum D)
  | [], _, _, _ => ⟨Int.le_refl 0, fun h => absurd rfl h⟩
  | s :: D, i, k, h => by
    obtain ⟨h1, h2, h3, h4, h5, h6, h7, h8, h9, h10⟩ := h
    have := (ssum_nonneg D _ _ h10).1
    have e : ssum (s :: D) = s.2.1 - s.1 + s.2.2.2 - s.2.2.1 + ssum D := rfl
    rw [e]
    exact ⟨by omega, fun _ => by omega⟩
theorem foundL_same {A : List ByteArray} {D : List Sp} (h : FoundL A A D) : D = [] := by
  have hE : ∀ j : Int, 0 ≤ j → j < A.length → EM (Eqs A A) A.length A.length j j := fun j h1 h2 => ⟨h1, h2, h1, h2, rfl⟩
  have key : ∀ n : Nat, n ≤ A.length → FP (EM (Eqs A A) A.length A.length) 0 (n : Int) (n : Int) := by
    intro n
    induction n with
    | zero => intro _; exact FP.zero
    | succ n ih => intro hn; exact (ih (by omega)).diag (hE n (by omega) (by omega))
  have h0 := h.2 0 ⟨key A.length (Nat.le_refl _), fun _ _ => Nat.zero_le _⟩ (by omega)
  have h1 := (ssum_nonneg D 0 0 h.1).2
  by_cases hc : D = []
  · exact hc
  · have := h1 hc
    rw [h0] at this
    omega
end Go.Proofs.Ytfglahmbnnkijaa.E
