import Derived.Test.YtmlfecgppnffgaaDoorRA
/- The walk of DiffBisect in plain terms: what the rows of furthest places hold. -/
set_option linter.unusedVariables false
set_option linter.unusedSimpArgs false
namespace Go.Proofs.YtmlfecgppnffgaaDoor.E
open Go.Ev
def vat (v : List Int) (m : Nat) (k : Int) : Int := nth (.int .i64) v ((m : Int) + k)
theorem vat_set (v : List Int) (m : Nat) (k j x : Int) (hl : v.length = 2 * m) (h1 : -(m : Int) ≤ k) (h2 : k < m) (h3 : -(m : Int) ≤ j) : vat (v.set (Int.toNat ((m : Int) + k)) x) m j = if j = k then x else vat v m j := by
  unfold vat nth
  rw [List.getD_eq_getElem?_getD, List.getD_eq_getElem?_getD, List.getElem?_set]
  by_cases h : j = k
  · subst h
    rw [if_pos rfl, if_pos rfl, if_pos (by omega)]
    rfl
  · rw [if_neg (by omega), if_neg h]
def good (v : List Int) (m : Nat) (k : Int) : Prop := 0 ≤ vat v m k ∧ 0 ≤ vat v m k - k
def Snd (a b : List Int) (d k x : Int) : Prop := ∀ x' y' : Nat, (x' : Int) - y' = k → (x' : Int) ≤ x → x' ≤ a.length → y' ≤ b.length → (edP a b x' y' : Int) ≤ d
def Lb (a b : List Int) (d k x : Int) : Prop := (ed a b : Int) ≤ d + a.length + b.length - x - (x - k)
theorem edP_x0 {a b : List Int} {x : Nat} (h : x ≤ a.length) : edP a b x 0 = x := by simp [edP, ed_nil_right]; omega
theorem edP_0y {a b : List Int} {y : Nat} (h : y ≤ b.length) : edP a b 0 y = y := by simp [edP, ed_nil_left]; omega
theorem edS_le {a b : List Int} {x y : Nat} (hx : x ≤ a.length) (hy : y ≤ b.length) : edS a b x y ≤ (a.length - x) + (b.length - y) := by
  have := ed_le_sum (a.drop x) (b.drop y)
  simpa [edS] using this
theorem Snd.down {a b : List Int} {d k q : Int} (h : Snd a b (d - 1) (k + 1) q) (hk : k ≤ d) : Snd a b d k q := by
  intro x' y' h1 h2 h3 h4
  cases y' with
  | zero =>
    rw [edP_x0 h3]
    omega
  | succ y =>
    have e := h x' y (by omega) h2 h3 (by omega)
    have := edP_down (a := a) (b := b) (x := x') (y := y) h4
    omega
theorem Snd.right {a b : List Int} {d k p : Int} (h : Snd a b (d - 1) (k - 1) p) (hk : -d ≤ k) : Snd a b d k (p + 1) := by
  intro x' y' h1 h2 h3 h4
  cases x' with
  | zero =>
    rw [edP_0y h4]
    omega
  | succ x =>
    have e := h x y' (by omega) (by omega) (by omega) h4
    have := edP_right (a := a) (b := b) (x := x) (y := y') h3
    omega
theorem Snd.mono {a b : List Int} {d e k x : Int} (h : Snd a b d k x) (hd : d ≤ e) : Snd a b e k x := fun x' y' h1 h2 h3 h4 => Int.le_trans (h x' y' h1 h2 h3 h4) hd
theorem Lb.mono {a b : List Int} {d e k x : Int} (h : Lb a b d k x) (hd : d ≤ e) : Lb a b e k x := by
  unfold Lb at h ⊢
  omega
theorem cpl_step2 (x y : List Int) (i j : Nat) (h1 : i < x.length) (h2 : j < y.length) : cpl (x.drop i) (y.drop j) = if x[i] = y[j] then cpl (x.drop (i + 1)) (y.drop (j + 1)) + 1 else 0 := by
  rw [List.drop_eq_getElem_cons h1, List.drop_eq_getElem_cons h2]
  show (if x[i] = y[j] then _ else _) = _
  split <;> omega
theorem edP_snakes {a b : List Int} : ∀ (n x y : Nat), n ≤ cpl (a.drop x) (b.drop y) → edP a b (x + n) (y + n) = edP a b x y
  | 0, _, _, _ => rfl
  | n + 1, x, y, h => by
    have hx : x < a.length := by
      apply Classical.byContradiction
      intro hx
      rw [cpl_out _ _ (.inl (List.drop_eq_nil_of_le (by omega)))] at h
      omega
    have hy : y < b.length := by
      apply Classical.byContradiction
      intro hy
      rw [cpl_out _ _ (.inr (List.drop_eq_nil_of_le (by omega)))] at h
      omega
    rw [cpl_step2 a b x y hx hy] at h
    split at h
    · rename_i e
      have := edP_snakes (a := a) (b := b) n (x + 1) (y + 1) (by omega)
      rw [show x + (n + 1) = x + 1 + n by omega, show y + (n + 1) = y + 1 + n by omega, this, edP_snake hx hy e]
    · omega
theorem cpl_in {a b : List Int} {x y : Nat} (h : 0 < cpl (a.drop x) (b.drop y)) : x + cpl (a.drop x) (b.drop y) ≤ a.length ∧ y + cpl (a.drop x) (b.drop y) ≤ b.length := by
  have h1 := cpl_le (a.drop x) (b.drop y)
  simp only [List.length_drop] at h1
  omega
theorem Snd.snake {a b : List Int} {d k : Int} {x y : Nat} (hk : (x : Int) - y = k) (h : Snd a b d k x) : Snd a b d k ((x + cpl (a.drop x) (b.drop y) : Nat) : Int) := by
  intro x' y' h1 h2 h3 h4
  by_cases hx : (x' : Int) ≤ x
  · exact h x' y' h1 hx h3 h4
  · have e := edP_snakes (a := a) (b := b) (x' - x) x y (by omega)
    rw [show x + (x' - x) = x' by omega, show y + (x' - x) = y' by omega] at e
    have := h x y hk (Int.le_refl _) (by omega) (by omega)
    rw [e]
    exact this
theorem Lb.snake {a b : List Int} {d k : Int} {x y : Nat} (hk : (x : Int) - y = k) (h : Snd a b d k x) (hl : Lb a b d k x) : Lb a b d k ((x + cpl (a.drop x) (b.drop y) : Nat) : Int) := by
  by_cases h0 : cpl (a.drop x) (b.drop y) = 0
  · rw [h0]
    exact hl
  · obtain ⟨i1, i2⟩ := cpl_in (a := a) (b := b) (x := x) (y := y) (by omega)
    have h1 := Snd.snake hk h (x + cpl (a.drop x) (b.drop y)) (y + cpl (a.drop x) (b.drop y)) (by omega) (Int.le_refl _) i1 i2
    have h2 := ed_through a b (x + cpl (a.drop x) (b.drop y)) (y + cpl (a.drop x) (b.drop y))
    have h3 := edS_le i1 i2
    unfold Lb
    omega
def lv (d k : Int) : Int := if (k + d) % 2 = 0 then d else d - 1
theorem lv_same {d k : Int} (h : (k + d) % 2 = 0) : lv d k = d := if_pos h
theorem lv_prev {d k : Int} (h : (k + d) % 2 = 1) : lv d k = d - 1 := if_neg (by omega)
theorem lv_succ (d k : Int) : lv d k ≤ lv (d + 1) k := by
  unfold lv
  split <;> split <;> omega
structure Ent (a b : List Int) (m : Nat) (d : Int) (v : List Int) : Prop where
  len : v.length = 2 * m
  at_ : ∀ k : Int, -(m : Int) ≤ k → k < m → vat v m k = -1 ∨ (0 ≤ vat v m k ∧ (0 ≤ vat v m k - k ∨ (k = 1 ∧ vat v m k = 0)) ∧ Snd a b (lv d k) k (vat v m k) ∧ Lb a b (lv d k) k (vat v m k))
theorem Ent.next {a b : List Int} {m : Nat} {d : Int} {v : List Int} (h : Ent a b m d v) : Ent a b m (d + 1) v :=
  ⟨h.len, fun k h1 h2 => (h.at_ k h1 h2).imp id fun ⟨a1, a2, a3, a4⟩ => ⟨a1, a2, a3.mono (lv_succ d k), a4.mono (lv_succ d k)⟩⟩
/-- The place from which the diagonal k is entered. -/
def pick (v : List Int) (m : Nat) (d k : Int) : Int := if k = -d ∨ (k ≠ d ∧ vat v m (k - 1) < vat v m (k + 1)) then vat v m (k + 1) else vat v m (k - 1) + 1
structure Pst (a b : List Int) (m d : Nat) (v : List Int) (ksp kep ks0 k ks ke : Int) : Prop where
  ent : Ent a b m d v
  pw : ∀ j : Int, (j + d) % 2 = 1 → -((d : Int) - 1) + ksp ≤ j → j ≤ d - 1 - kep → good v m j
  vis : ∀ j : Int, (j + d) % 2 = 0 → -(d : Int) + ks0 ≤ j → j < k → j ≤ d → good v m j
  pc : ∀ e x y : Nat, e + 1 = d → Best a b e x y → (x : Int) ≤ vat v m ((x : Int) - y)
  cmp : ∀ x y : Nat, Best a b d x y → (x : Int) - y < k → (x : Int) ≤ vat v m ((x : Int) - y)
  d0 : d = 0 → vat v m 1 = 0
  par : (k + d) % 2 = 0
  ev : ksp % 2 = 0 ∧ kep % 2 = 0 ∧ ks0 % 2 = 0 ∧ ks % 2 = 0 ∧ ke % 2 = 0
  ord : 0 ≤ ksp ∧ ksp ≤ ks0 ∧ ks0 ≤ ks ∧ 0 ≤ kep ∧ kep ≤ ke ∧ -(d : Int) + ks ≤ k
  bs0 : ks0 = 0 ∨ (ed a b : Int) - (a.length - b.length) ≤ 2 * ((d : Int) - 1) - ks0
  bs : ks = 0 ∨ (ed a b : Int) - (a.length - b.length) ≤ 2 * d - ks
  be : ke = 0 ∨ (ed a b : Int) + (a.length - b.length) ≤ 2 * d - ke
  ne : d = 0 ∨ ksp + kep ≤ 2 * ((d : Int) - 1)
section
variable {a b : List Int} {m d : Nat} {v : List Int} {ksp kep ks0 k ks ke : Int}
theorem Pst.kd (h : Pst a b m d v ksp kep ks0 k ks ke) (hk : k ≤ d - ke) : -(d : Int) ≤ k ∧ k ≤ d := by
  have := h.ord
  omega
/-- The place from which a diagonal is entered is sound. -/
theorem Pst.start (h : Pst a b m d v ksp kep ks0 k ks ke) (hk : k ≤ d - ke) (hm : d < m) (hm2 : 2 ≤ m) : 0 ≤ pick v m d k ∧ 0 ≤ pick v m d k - k ∧ Snd a b d k (pick v m d k) ∧ Lb a b d k (pick v m d k) := by
  have ho := h.ord
  have hp := h.par
  have hv := h.ev
  have hn := h.ne
  have hkd := h.kd hk
  -- what a neighbour that is good says
  have gd : ∀ j : Int, (j + d) % 2 = 1 → -(m : Int) ≤ j → j < m → 0 ≤ vat v m j → (0 ≤ vat v m j - j ∨ (j = 1 ∧ vat v m j = 0)) ∧ Snd a b ((d : Int) - 1) j (vat v m j) ∧ Lb a b ((d : Int) - 1) j (vat v m j) := by
    intro j h1 h2 h3 h4
    rcases h.ent.at_ j h2 h3 with e | ⟨_, e1, e2, e3⟩
    · omega
    · rw [lv_prev h1] at e2 e3
      exact ⟨e1, e2, e3⟩
  have dn : ∀ _ : 0 ≤ vat v m (k + 1), k + 1 < m → 0 ≤ vat v m (k + 1) ∧ 0 ≤ vat v m (k + 1) - k ∧ Snd a b d k (vat v m (k + 1)) ∧ Lb a b d k (vat v m (k + 1)) := by
    intro hq hkm
    obtain ⟨e1, e2, e3⟩ := gd (k + 1) (by omega) (by omega) hkm hq
    rw [show (d : Int) - 1 = (d : Int) - 1 from rfl] at e2
    refine ⟨hq, by omega, e2.down hkd.2, ?_⟩
    unfold Lb at e3 ⊢
    omega
  have rt : ∀ _ : 0 ≤ vat v m (k - 1), 0 ≤ vat v m (k - 1) - (k - 1) → -(m : Int) ≤ k - 1 → 0 ≤ vat v m (k - 1) + 1 ∧ 0 ≤ vat v m (k - 1) + 1 - k ∧ Snd a b d k (vat v m (k - 1) + 1) ∧ Lb a b d k (vat v m (k - 1) + 1) := by
    intro hq hy hkm
    obtain ⟨e1, e2, e3⟩ := gd (k - 1) (by omega) hkm (by omega) hq
    refine ⟨by omega, by omega, e2.right hkd.1, ?_⟩
    unfold Lb at e3 ⊢
    omega
  by_cases hd0 : d = 0
  · have hk0 : k = 0 := by omega
    subst hk0
    have e := h.d0 hd0
    unfold pick
    rw [if_pos (.inl (by omega))]
    exact dn (by rw [show (0 : Int) + 1 = 1 from rfl, e]; omega) (by omega)
  · have hn : ksp + kep ≤ 2 * ((d : Int) - 1) := by omega
    unfold pick
    split
    · rename_i hc
      refine dn ?_ (by rcases hc with hc | ⟨hc, _⟩ <;> omega)
      rcases hc with hc | ⟨hc, hlt⟩
      · exact (h.pw (k + 1) (by omega) (by omega) (by omega)).1
      · by_cases h1 : -((d : Int) - 1) + ksp ≤ k - 1
        · have := (h.pw (k - 1) (by omega) h1 (by omega)).1
          omega
        · exact (h.pw (k + 1) (by omega) (by omega) (by omega)).1
    · rename_i hc
      have hc1 : k ≠ -(d : Int) := fun e => hc (.inl e)
      by_cases h1 : -((d : Int) - 1) + ksp ≤ k - 1
      · have g := h.pw (k - 1) (by omega) h1 (by omega)
        exact rt g.1 g.2 (by omega)
      · have g := h.pw (k + 1) (by omega) (by omega) (by omega)
        have g1 := g.1
        have g2 := g.2
        have hlt : ¬ vat v m (k - 1) < vat v m (k + 1) := fun e => hc (.inr ⟨by omega, e⟩)
        obtain ⟨e1, _, _⟩ := gd (k - 1) (by omega) (by omega) (by omega) (by omega)
        exact rt (by omega) (by omega) (by omega)
/-- The furthest place on the diagonal k. -/
def far (a b : List Int) (v : List Int) (m : Nat) (d k : Int) : Nat := (pick v m d k).toNat + cpl (a.drop (pick v m d k).toNat) (b.drop (pick v m d k - k).toNat)
theorem Pst.far_ok (h : Pst a b m d v ksp kep ks0 k ks ke) (hk : k ≤ d - ke) (hm : d < m) (hm2 : 2 ≤ m) : 0 ≤ (far a b v m d k : Int) - k ∧ Snd a b d k (far a b v m d k) ∧ Lb a b d k (far a b v m d k) := by
  obtain ⟨h1, h2, h3, h4⟩ := h.start hk hm hm2
  have e1 : ((pick v m d k).toNat : Int) = pick v m d k := by omega
  have e2 : ((pick v m d k).toNat : Int) - ((pick v m d k - k).toNat : Nat) = k := by omega
  rw [← e1] at h3 h4
  refine ⟨?_, Snd.snake e2 h3, Lb.snake e2 h3 h4⟩
  unfold far
  omega
/-- A place on a best way is reached. -/
theorem Pst.far_best (h : Pst a b m d v ksp kep ks0 k ks ke) (hk : k ≤ d - ke) (hm : d < m) (hm2 : 2 ≤ m) {x y : Nat} (hb : Best a b d x y) (hxy : (x : Int) - y = k) : x ≤ far a b v m d k := by
  obtain ⟨s1, s2, _, _⟩ := h.start hk hm hm2
  have hdg := hb.diag
  -- from the place x0 on the way's diagonal on, all are equal
  have run : ∀ n : Nat, n ≤ x → n ≤ y → (∀ j, j < n → ∃ (h1 : x - n + j < a.length) (h2 : y - n + j < b.length), a[x - n + j] = b[y - n + j]) → ((x - n : Nat) : Int) ≤ pick v m d k → x ≤ far a b v m d k := by
    intro n n1 n2 hj hp
    unfold far
    by_cases hx : x ≤ (pick v m d k).toNat
    · omega
    · have key : ∀ t u : Nat, u + t = x → x - n ≤ u → t ≤ cpl (a.drop u) (b.drop (u + y - x)) := by
        intro t
        induction t with
        | zero => intro u _ _; exact Nat.zero_le _
        | succ t ih =>
          intro u hu hn
          obtain ⟨g1, g2, g3⟩ := hj (u - (x - n)) (by omega)
          have q1 : x - n + (u - (x - n)) = u := by omega
          have q2 : y - n + (u - (x - n)) = u + y - x := by omega
          have gx : u < a.length := by omega
          have gy : u + y - x < b.length := by omega
          have g3' : a[u] = b[u + y - x] := by
            simp only [q1, q2] at g3
            exact g3
          rw [cpl_step2 a b u (u + y - x) gx gy, if_pos g3']
          have := ih (u + 1) (by omega) (by omega)
          rw [show u + 1 + y - x = u + y - x + 1 by omega] at this
          omega
      have := key (x - (pick v m d k).toNat) (pick v m d k).toNat (by omega) (by omega)
      rw [show (pick v m d k).toNat + y - x = (pick v m d k - k).toNat by omega] at this
      omega
  cases hd : d with
  | zero =>
    subst hd
    have hz : ∀ {x y : Nat}, Best a b 0 x y → ∃ n, n ≤ x ∧ n ≤ y ∧ x - n = 0 ∧ y - n = 0 ∧ (∀ j, j < n → ∃ (h1 : x - n + j < a.length) (h2 : y - n + j < b.length), a[x - n + j] = b[y - n + j]) := by
      intro x y hb
      have e0 := hb.hd
      have ez := ed_zero (show ed (a.take x) (b.take y) = 0 from e0)
      have hx := hb.hx
      have hy := hb.hy
      have hl := congrArg List.length ez
      simp only [List.length_take] at hl
      have hxy : x = y := by omega
      subst hxy
      refine ⟨x, Nat.le_refl _, Nat.le_refl _, by omega, by omega, fun j hj => ⟨by omega, by omega, ?_⟩⟩
      have e1 : (a.take x)[j]? = (b.take x)[j]? := by rw [ez]
      rw [List.getElem?_take_of_lt hj, List.getElem?_take_of_lt hj, List.getElem?_eq_getElem (by omega), List.getElem?_eq_getElem (by omega)] at e1
      have q1 : x - x + j = j := by omega
      simp only [q1]
      exact Option.some.inj e1
    obtain ⟨n, n1, n2, n3, n4, n5⟩ := hz hb
    refine run n n1 n2 n5 ?_
    have : (x - n : Nat) = 0 := n3
    omega
  | succ e =>
    subst hd
    obtain ⟨n, n1, n2, n3, n4⟩ := hb.back
    refine run n n1 n2 n3 ?_
    have hkd := h.kd hk
    rcases n4 with ⟨g1, g2⟩ | ⟨g1, g2⟩
    · have p1 := h.pc e _ _ rfl g2
      have hd2 := g2.diag
      rw [show ((x - n - 1 : Nat) : Int) - ((y - n : Nat) : Int) = k - 1 by omega] at p1
      unfold pick
      split
      · rename_i hc
        rcases hc with hc | ⟨_, hc⟩
        · exfalso
          omega
        · omega
      · omega
    · have p1 := h.pc e _ _ rfl g2
      have hd2 := g2.diag
      rw [show ((x - n : Nat) : Int) - ((y - n - 1 : Nat) : Int) = k + 1 by omega] at p1
      unfold pick
      split
      · omega
      · rename_i hc
        have hc1 : k ≠ -((e + 1 : Nat) : Int) := fun e => hc (.inl e)
        have : ¬ vat v m (k - 1) < vat v m (k + 1) := fun e' => hc (.inr ⟨by omega, e'⟩)
        omega
end
end Go.Proofs.YtmlfecgppnffgaaDoor.E
