import Derived.Test.YtmlfecgppnffgaaDoorRB
/- The walk of DiffBisect in plain terms: one diagonal, one pass, what is found. -/
set_option linter.unusedVariables false
set_option linter.unusedSimpArgs false
namespace Go.Proofs.YtmlfecgppnffgaaDoor.E
open Go.Ev
section
variable {a b : List Int} {m d : Nat} {v : List Int} {ksp kep ks0 k ks ke : Int}
theorem Pst.visit0 (h : Pst a b m d v ksp kep ks0 k ks ke) (hk : k ≤ d - ke) (hm : d < m) (hm2 : 2 ≤ m) : Pst a b m d (v.set (Int.toNat ((m : Int) + k)) (far a b v m d k : Int)) ksp kep ks0 (k + 2) ks ke := by
  have ho := h.ord
  have hp := h.par
  have hv := h.ev
  have hkd := h.kd hk
  obtain ⟨f1, f2, f3⟩ := h.far_ok hk hm hm2
  have st : ∀ j : Int, -(m : Int) ≤ j → vat (v.set (Int.toNat ((m : Int) + k)) (far a b v m d k : Int)) m j = if j = k then (far a b v m d k : Int) else vat v m j := fun j hj => vat_set v m k j _ h.ent.len (by omega) (by omega) hj
  refine ⟨⟨by rw [List.length_set]; exact h.ent.len, fun j h1 h2 => ?_⟩, fun j h1 h2 h3 => ?_, fun j h1 h2 h3 h4 => ?_, fun e x y he hb => ?_, fun x y hb hx => ?_, fun hd => ?_, by omega, hv, by omega, h.bs0, h.bs, h.be, h.ne⟩
  · rw [st j h1]
    by_cases hj : j = k
    · subst hj
      rw [if_pos rfl, lv_same hp]
      exact .inr ⟨by omega, .inl f1, f2, f3⟩
    · rw [if_neg hj]
      exact h.ent.at_ j h1 h2
  · have := h.pw j h1 h2 h3
    unfold good at this ⊢
    rw [st j (by omega), if_neg (by omega)]
    exact this
  · unfold good
    rw [st j (by omega)]
    by_cases hj : j = k
    · subst hj
      rw [if_pos rfl]
      exact ⟨by omega, f1⟩
    · rw [if_neg hj]
      exact h.vis j h1 h2 (by omega) h4
  · have hdg := hb.diag
    rw [st _ (by omega), if_neg (by omega)]
    exact h.pc e x y he hb
  · have hdg := hb.diag
    rw [st _ (by omega)]
    by_cases hj : (x : Int) - y = k
    · rw [if_pos hj]
      have := h.far_best hk hm hm2 hb hj
      omega
    · rw [if_neg hj]
      exact h.cmp x y hb (by omega)
  · rw [st 1 (by omega), if_neg (by omega)]
    exact h.d0 hd
theorem Pst.visitR (h : Pst a b m d v ksp kep ks0 k ks ke) (hk : k ≤ d - ke) (hm : d < m) (hm2 : 2 ≤ m) (hx : a.length < far a b v m d k) : Pst a b m d (v.set (Int.toNat ((m : Int) + k)) (far a b v m d k : Int)) ksp kep ks0 (k + 2) ks (ke + 2) := by
  have g := h.visit0 hk hm hm2
  obtain ⟨f1, f2, f3⟩ := h.far_ok hk hm hm2
  unfold Lb at f3
  have he := g.ev
  have ho := g.ord
  exact { g with ev := by omega, ord := by omega, be := .inr (by omega) }
theorem Pst.visitD (h : Pst a b m d v ksp kep ks0 k ks ke) (hk : k ≤ d - ke) (hm : d < m) (hm2 : 2 ≤ m) (hy : (b.length : Int) < (far a b v m d k : Int) - k) : Pst a b m d (v.set (Int.toNat ((m : Int) + k)) (far a b v m d k : Int)) ksp kep ks0 (k + 2) (ks + 2) ke := by
  have g := h.visit0 hk hm hm2
  obtain ⟨f1, f2, f3⟩ := h.far_ok hk hm hm2
  unfold Lb at f3
  have he := g.ev
  have ho := g.ord
  have ho' := h.ord
  exact { g with ev := by omega, ord := by omega, bs := .inr (by omega) }
/-- A place on a best way does not run off the grid. -/
theorem Pst.best_in (h : Pst a b m d v ksp kep ks0 k ks ke) (hk : k ≤ d - ke) (hm : d < m) (hm2 : 2 ≤ m) {x y : Nat} (hb : Best a b d x y) (hxy : (x : Int) - y = k) : far a b v m d k ≤ a.length ∧ (far a b v m d k : Int) - k ≤ b.length := by
  obtain ⟨f1, f2, f3⟩ := h.far_ok hk hm hm2
  have hr := hb.rest
  unfold Lb at f3
  omega
end
/-- Behind a pass. -/
structure Done (a b : List Int) (m d : Nat) (v : List Int) (ks0 ks ke : Int) : Prop where
  ent : Ent a b m d v
  w : ∀ j : Int, (j + d) % 2 = 0 → -(d : Int) + ks0 ≤ j → j ≤ d - ke → good v m j
  c : ∀ x y : Nat, Best a b d x y → (x : Int) ≤ vat v m ((x : Int) - y)
  ev : ks0 % 2 = 0 ∧ ks % 2 = 0 ∧ ke % 2 = 0
  ord : 0 ≤ ks0 ∧ ks0 ≤ ks ∧ 0 ≤ ke
  bs : ks = 0 ∨ (ed a b : Int) - (a.length - b.length) ≤ 2 * d - ks
  be : ke = 0 ∨ (ed a b : Int) + (a.length - b.length) ≤ 2 * d - ke
section
variable {a b : List Int} {m d : Nat} {v : List Int} {ksp kep ks0 k ks ke : Int}
theorem Best.top (hb : ke = 0 ∨ (ed a b : Int) + (a.length - b.length) ≤ 2 * d - ke) {x y : Nat} (h : Best a b d x y) : (x : Int) - y ≤ d - ke := by
  have h1 := h.rest
  have h2 := h.diag
  omega
theorem Pst.done (h : Pst a b m d v ksp kep ks0 k ks ke) (hk : d - ke < k) : Done a b m d v ks0 ks ke := by
  have ho := h.ord
  have hv := h.ev
  refine ⟨h.ent, fun j h1 h2 h3 => h.vis j h1 h2 (by omega) (by omega), fun x y hb => h.cmp x y hb ?_, by omega, by omega, h.bs, h.be⟩
  have := Best.top h.be hb
  omega
theorem Done.next (h : Done a b m d v ks0 ks ke) (hT : 2 * d + 1 ≤ ed a b) : Pst a b m (d + 1) v ks0 ke ks (-((d : Int) + 1) + ks) ks ke := by
  have ho := h.ord
  have hv := h.ev
  have hbs := h.bs
  have hbe := h.be
  have hdf := ed_diff a b
  have hE := h.ent.next
  refine ⟨by rw [show ((d + 1 : Nat) : Int) = (d : Int) + 1 by omega]; exact hE, fun j h1 h2 h3 => h.w j (by omega) (by omega) (by omega), fun j h1 h2 h3 h4 => by omega, fun e x y he hb => ?_, fun x y hb hx => ?_, fun hd => by omega, by omega, by omega, by omega, by omega, by omega, by omega, by omega⟩
  · obtain rfl : e = d := by omega
    exact h.c x y hb
  · have h1 := hb.rest
    have h2 := hb.diag
    omega
theorem vat_v0 (m : Nat) (hm : 2 ≤ m) (j : Int) (h1 : -(m : Int) ≤ j) (h2 : j < m) : vat ((List.replicate (2 * m) (-1 : Int)).set (m + 1) 0) m j = if j = 1 then 0 else -1 := by
  have e := vat_set (List.replicate (2 * m) (-1 : Int)) m 1 j 0 (List.length_replicate ..) (by omega) (by omega) h1
  rw [show Int.toNat ((m : Int) + 1) = m + 1 by omega] at e
  rw [e]
  split
  · rfl
  · unfold vat nth
    rw [List.getD_eq_getElem?_getD, List.getElem?_replicate, if_pos (by omega)]
    rfl
theorem Pst.first (a b : List Int) (m : Nat) (hm : 2 ≤ m) : Pst a b m 0 ((List.replicate (2 * m) (-1 : Int)).set (m + 1) 0) 0 0 0 0 0 0 := by
  have hs := ed_le_sum a b
  refine ⟨⟨by rw [List.length_set, List.length_replicate], fun j h1 h2 => ?_⟩, fun j h1 h2 h3 => by omega, fun j h1 h2 h3 h4 => by omega, fun e x y he hb => by omega, fun x y hb hx => ?_, fun _ => ?_, by omega, by omega, by omega, .inl rfl, .inl rfl, .inl rfl, .inl rfl⟩
  · rw [vat_v0 m hm j h1 h2]
    by_cases hj : j = 1
    · subst hj
      rw [if_pos rfl]
      refine .inr ⟨Int.le_refl _, .inr ⟨rfl, rfl⟩, fun x' y' g1 g2 g3 g4 => by omega, ?_⟩
      unfold Lb lv
      rw [if_neg (by omega)]
      omega
    · rw [if_neg hj]
      exact .inl rfl
  · have := hb.diag
    omega
  · rw [vat_v0 m hm 1 (by omega) (by omega)]
    rfl
end
/-! ### where both walks meet -/
theorem meet_sound {a b v : List Int} {m : Nat} {e D k z : Int} (h : Ent a.reverse b.reverse m e v) (hz : z = vat v m ((a.length : Int) - b.length - k)) (h1 : -(m : Int) ≤ (a.length : Int) - b.length - k) (h2 : (a.length : Int) - b.length - k < m)
    (hn : z ≠ -1) (hl : lv e ((a.length : Int) - b.length - k) ≤ D) {x y : Nat} (hx : x ≤ a.length) (hy : y ≤ b.length) (hk : (x : Int) - y = k) (hm : (a.length : Int) - z ≤ x) : (edS a b x y : Int) ≤ D := by
  rcases h.at_ _ h1 h2 with g | ⟨g0, _, g2, _⟩
  · exact absurd (hz.trans g) hn
  · rw [← hz] at g2
    have := g2 (a.length - x) (b.length - y) (by omega) (by omega) (by simp) (by simp)
    rw [edP_reverse a b _ _ (by omega) (by omega), show a.length - (a.length - x) = x by omega, show b.length - (b.length - y) = y by omega] at this
    omega
/-- The first walk meets the other one behind d steps. -/
theorem front_hit {a b v w : List Int} {m d : Nat} {ksp kep ks0 k ks ke lsp lep ls0 ls l le : Int} (h1 : Pst a b m d v ksp kep ks0 k ks ke) (h2 : Pst a.reverse b.reverse m d w lsp lep ls0 l ls le) (hk : k ≤ d - ke) (hm : d < m) (hm2 : 2 ≤ m)
    (hodd : ((a.length : Int) - b.length) % 2 = 1) (hT : 2 * d ≤ ed a b + 1) (hx : far a b v m d k ≤ a.length) (hy : (far a b v m d k : Int) - k ≤ b.length) {z : Int} (hz : z = vat w m ((a.length : Int) - b.length - k)) (b1 : -(m : Int) ≤ (a.length : Int) - b.length - k) (b2 : (a.length : Int) - b.length - k < m)
    (hn : z ≠ -1) (hmeet : (a.length : Int) - z ≤ far a b v m d k) :
    ∃ x y : Nat, x = far a b v m d k ∧ (y : Int) = far a b v m d k - k ∧ x ≤ a.length ∧ y ≤ b.length ∧ edP a b x y + edS a b x y = ed a b ∧ edP a b x y = d ∧ edS a b x y + 1 = d := by
  obtain ⟨f1, f2, f3⟩ := h1.far_ok hk hm hm2
  have hp := h1.par
  obtain ⟨y, hy'⟩ : ∃ y : Nat, (y : Int) = far a b v m d k - k := ⟨((far a b v m d k : Int) - k).toNat, by omega⟩
  have e1 := f2 (far a b v m d k) y (by omega) (Int.le_refl _) hx (by omega)
  have e2 := meet_sound (D := (d : Int) - 1) h2.ent hz b1 b2 hn (by rw [lv_prev (by omega)]; exact Int.le_refl _) (x := far a b v m d k) (y := y) hx (by omega) (by omega) hmeet
  have e3 := ed_through a b (far a b v m d k) y
  exact ⟨_, y, rfl, hy', hx, by omega, by omega, by omega, by omega⟩
theorem front_miss {a b v w : List Int} {m d : Nat} {ksp kep ks0 k ks ke lsp lep ls0 ls l le : Int} (h1 : Pst a b m d v ksp kep ks0 k ks ke) (h2 : Pst a.reverse b.reverse m d w lsp lep ls0 l ls le) (hk : k ≤ d - ke) (hm : d < m) (hm2 : 2 ≤ m)
    (hT : ed a b + 1 = 2 * d) {x y : Nat} (hb : Best a b d x y) (hxy : (x : Int) - y = k) :
    far a b v m d k ≤ a.length ∧ (far a b v m d k : Int) - k ≤ b.length ∧ -(m : Int) ≤ (a.length : Int) - b.length - k ∧ (a.length : Int) - b.length - k < m ∧ vat w m ((a.length : Int) - b.length - k) ≠ -1 ∧ (a.length : Int) - vat w m ((a.length : Int) - b.length - k) ≤ far a b v m d k := by
  obtain ⟨i1, i2⟩ := h1.best_in hk hm hm2 hb hxy
  have f := h1.far_best hk hm hm2 hb hxy
  have hr := hb.reverse
  have hx := hb.hx
  have hy := hb.hy
  have hd := hr.diag
  have hc := h2.pc (ed a b - d) _ _ (by omega) hr
  rw [show ((a.length - x : Nat) : Int) - ((b.length - y : Nat) : Int) = (a.length : Int) - b.length - k by omega] at hc
  exact ⟨i1, i2, by omega, by omega, by omega, by omega⟩
/-- The other walk meets the first one. -/
theorem rear_hit {a b v w : List Int} {m d : Nat} {ks0 ks ke lsp lep ls0 ls l le : Int} (h1 : Done a b m d v ks0 ks ke) (h2 : Pst a.reverse b.reverse m d w lsp lep ls0 l ls le) (hk : l ≤ d - le) (hm : d < m) (hm2 : 2 ≤ m)
    (hT : 2 * d ≤ ed a b) (hx : far a.reverse b.reverse w m d l ≤ a.length) (hy : (far a.reverse b.reverse w m d l : Int) - l ≤ b.length) {z : Int} (hz : z = vat v m ((a.length : Int) - b.length - l)) (b1 : -(m : Int) ≤ (a.length : Int) - b.length - l) (b2 : (a.length : Int) - b.length - l < m)
    (hn : z ≠ -1) (hmeet : (a.length : Int) - far a.reverse b.reverse w m d l ≤ z) :
    ∃ x y : Nat, (x : Int) = z ∧ (y : Int) = z - ((a.length : Int) - b.length - l) ∧ x ≤ a.length ∧ y ≤ b.length ∧ edP a b x y + edS a b x y = ed a b ∧ edP a b x y = d ∧ edS a b x y = d := by
  obtain ⟨f1, f2, f3⟩ := h2.far_ok hk hm hm2
  have hkd := h2.kd hk
  have hl : ∀ j : Int, lv d j ≤ d := fun j => by unfold lv; split <;> omega
  rcases h1.ent.at_ _ b1 b2 with g | ⟨g0, g1, g2, g3⟩
  · exact absurd (hz.trans g) hn
  · rw [← hz] at g0 g1 g2 g3
    have g2 := g2.mono (hl _)
    have g3 := g3.mono (hl _)
    unfold Lb at g3
    obtain ⟨x, hx'⟩ : ∃ x : Nat, (x : Int) = z := ⟨z.toNat, by omega⟩
    obtain ⟨y, hy'⟩ : ∃ y : Nat, (y : Int) = z - ((a.length : Int) - b.length - l) := ⟨(z - ((a.length : Int) - b.length - l)).toNat, by omega⟩
    have hxN : x ≤ a.length := by omega
    have hyM : y ≤ b.length := by omega
    have e1 := g2 x y (by omega) (by omega) hxN hyM
    have e2 := f2 (a.length - x) (b.length - y) (by omega) (by omega) (by simp) (by simp)
    rw [edP_reverse a b _ _ (by omega) (by omega), show a.length - (a.length - x) = x by omega, show b.length - (b.length - y) = y by omega] at e2
    have e3 := ed_through a b x y
    exact ⟨x, y, hx', hy', hxN, hyM, by omega, by omega, by omega⟩
theorem rear_miss {a b v w : List Int} {m d : Nat} {ks0 ks ke lsp lep ls0 ls l le : Int} (h1 : Done a b m d v ks0 ks ke) (h2 : Pst a.reverse b.reverse m d w lsp lep ls0 l ls le) (hk : l ≤ d - le) (hm : d < m) (hm2 : 2 ≤ m)
    (hT : ed a b = 2 * d) {x y : Nat} (hb : Best a.reverse b.reverse d x y) (hxy : (x : Int) - y = l) :
    far a.reverse b.reverse w m d l ≤ a.length ∧ (far a.reverse b.reverse w m d l : Int) - l ≤ b.length ∧ -(m : Int) ≤ (a.length : Int) - b.length - l ∧ (a.length : Int) - b.length - l < m ∧ vat v m ((a.length : Int) - b.length - l) ≠ -1 ∧ (a.length : Int) - far a.reverse b.reverse w m d l ≤ vat v m ((a.length : Int) - b.length - l) := by
  obtain ⟨i1, i2⟩ := h2.best_in hk hm hm2 hb hxy
  have f := h2.far_best hk hm hm2 hb hxy
  have hr := hb.reverse
  have hx := hb.hx
  have hy := hb.hy
  rw [List.reverse_reverse, List.reverse_reverse, ed_reverse] at hr
  simp only [List.length_reverse] at hr i1 i2 hx hy
  rw [show ed a b - d = d by omega] at hr
  have hd := hr.diag
  have hc := h1.c _ _ hr
  rw [show ((a.length - x : Nat) : Int) - ((b.length - y : Nat) : Int) = (a.length : Int) - b.length - l by omega] at hc
  exact ⟨i1, i2, by omega, by omega, by omega, by omega⟩
end Go.Proofs.YtmlfecgppnffgaaDoor.E
