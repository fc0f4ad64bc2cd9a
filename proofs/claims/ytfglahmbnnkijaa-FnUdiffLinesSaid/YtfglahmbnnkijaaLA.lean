import Derived.Test.YtfglahmbnnkijaaZB
/- Ways through an edit graph: how far they lead, and how they meet. -/
set_option linter.unusedVariables false
set_option linter.unusedSimpArgs false
namespace Go.Lcs
/-- A way from the origin with d steps to the right or down, and any number of diagonals. -/
inductive FP (E : Int → Int → Prop) : Nat → Int → Int → Prop
  | zero : FP E 0 0 0
  | right {d x y} : FP E d x y → FP E (d + 1) (x + 1) y
  | down {d x y} : FP E d x y → FP E (d + 1) x (y + 1)
  | diag {d x y} : FP E d x y → E x y → FP E d (x + 1) (y + 1)
/-- Diagonals lie within a rectangle. -/
def Box (E : Int → Int → Prop) (N M : Int) : Prop := 0 ≤ N ∧ 0 ≤ M ∧ ∀ x y, E x y → 0 ≤ x ∧ x < N ∧ 0 ≤ y ∧ y < M
section
variable {E : Int → Int → Prop} {N M : Int}
theorem FP.cast {d d' : Nat} {x x' y y' : Int} (p : FP E d x y) (hd : d = d') (hx : x = x') (hy : y = y') : FP E d' x' y' := by
  subst hd; subst hx; subst hy; exact p
theorem FP.form {d : Nat} {x y : Int} (p : FP E d x y) : ∃ c r l : Nat, x = c + r ∧ y = c + l ∧ d = r + l := by
  induction p with
  | zero => exact ⟨0, 0, 0, rfl, rfl, rfl⟩
  | right _ ih => obtain ⟨c, r, l, h1, h2, h3⟩ := ih; exact ⟨c, r + 1, l, by omega, by omega, by omega⟩
  | down _ ih => obtain ⟨c, r, l, h1, h2, h3⟩ := ih; exact ⟨c, r, l + 1, by omega, by omega, by omega⟩
  | diag _ _ ih => obtain ⟨c, r, l, h1, h2, h3⟩ := ih; exact ⟨c + 1, r, l, by omega, by omega, by omega⟩
theorem FP.rights {d : Nat} {x y : Int} (p : FP E d x y) : ∀ r : Nat, FP E (d + r) (x + r) y
  | 0 => p.cast rfl (by omega) rfl
  | r + 1 => (p.rights r).right.cast (by omega) (by omega) rfl
theorem FP.downs {d : Nat} {x y : Int} (p : FP E d x y) : ∀ r : Nat, FP E (d + r) x (y + r)
  | 0 => p.cast rfl rfl (by omega)
  | r + 1 => (p.downs r).down.cast (by omega) rfl (by omega)
theorem FP.axis (r l : Nat) : FP E (r + l) r l := ((FP.zero.rights r).downs l).cast (by omega) (by omega) (by omega)
/-- The way to an earlier point of a diagonal is not longer. -/
theorem FP.back {d : Nat} {x y : Int} (p : FP E d x y) : 1 ≤ x → 1 ≤ y → ∃ d', d' ≤ d ∧ FP E d' (x - 1) (y - 1) := by
  induction p with
  | zero => intro h; omega
  | @right d x y p ih =>
    intro hx hy
    by_cases h : 1 ≤ x
    · obtain ⟨d', h1, q⟩ := ih h hy
      exact ⟨d' + 1, by omega, q.right.cast rfl (by omega) rfl⟩
    · obtain ⟨c, r, l, h1, h2, h3⟩ := p.form
      have hr : r = 0 := by omega
      have hc : c = 0 := by omega
      refine ⟨0 + (l - 1), by omega, (FP.axis 0 (l - 1)).cast rfl (by omega) (by omega)⟩
  | @down d x y p ih =>
    intro hx hy
    by_cases h : 1 ≤ y
    · obtain ⟨d', h1, q⟩ := ih hx h
      exact ⟨d' + 1, by omega, q.down.cast rfl rfl (by omega)⟩
    · obtain ⟨c, r, l, h1, h2, h3⟩ := p.form
      have hr : l = 0 := by omega
      have hc : c = 0 := by omega
      refine ⟨(r - 1) + 0, by omega, (FP.axis (r - 1) 0).cast rfl (by omega) (by omega)⟩
  | @diag d x y p e ih => intro _ _; exact ⟨d, Nat.le_refl d, p.cast rfl (by omega) (by omega)⟩
theorem FP.backs {d : Nat} {x y : Int} (p : FP E d x y) : ∀ i : Nat, (i : Int) ≤ x → (i : Int) ≤ y → ∃ d', d' ≤ d ∧ FP E d' (x - i) (y - i)
  | 0, _, _ => ⟨d, Nat.le_refl d, p.cast rfl (by omega) (by omega)⟩
  | i + 1, hx, hy => by
    obtain ⟨d1, h1, q⟩ := p.backs i (by omega) (by omega)
    obtain ⟨d2, h2, q⟩ := q.back (by omega) (by omega)
    exact ⟨d2, by omega, q.cast rfl (by omega) (by omega)⟩
/-- What lies outside the rectangle is as much farther as it lies outside. -/
theorem FP.clip (hE : Box E N M) {d : Nat} {x y : Int} (p : FP E d x y) : ∃ d', FP E d' (min x N) (min y M) ∧ (d' : Int) + (x - min x N) + (y - min y M) = d := by
  obtain ⟨hN, hM, hE⟩ := hE
  induction p with
  | zero => exact ⟨0, FP.zero.cast rfl (by omega) (by omega), by omega⟩
  | @right d x y p ih =>
    obtain ⟨d', q, h⟩ := ih
    by_cases hx : x < N
    · exact ⟨d' + 1, q.right.cast rfl (by omega) rfl, by omega⟩
    · exact ⟨d', q.cast rfl (by omega) rfl, by omega⟩
  | @down d x y p ih =>
    obtain ⟨d', q, h⟩ := ih
    by_cases hx : y < M
    · exact ⟨d' + 1, q.down.cast rfl rfl (by omega), by omega⟩
    · exact ⟨d', q.cast rfl rfl (by omega), by omega⟩
  | @diag d x y p e ih =>
    have := hE x y e
    exact ⟨d, (FP.diag p e).cast rfl (by omega) (by omega), by omega⟩
/-- The farthest point of a diagonal. -/
def FR (E : Int → Int → Prop) (d : Nat) (k x : Int) : Prop := FP E d x (x - k) ∧ ∀ x', FP E d x' (x' - k) → x' ≤ x
/-- As far as a diagonal leads. -/
def Look (E : Int → Int → Prop) (k s t : Int) : Prop := s ≤ t ∧ (∀ x, s ≤ x → x < t → E x (x - k)) ∧ ¬ E t (t - k)
theorem FP.run {d : Nat} {k s : Int} (p : FP E d s (s - k)) : ∀ (n : Nat), (∀ x, s ≤ x → x < s + n → E x (x - k)) → FP E d (s + n) (s + n - k)
  | 0, _ => p.cast rfl (by omega) (by omega)
  | n + 1, h => ((p.run n fun x h1 h2 => h x h1 (by omega)).diag (h (s + n) (by omega) (by omega))).cast rfl (by omega) (by omega)
theorem FP.look {d : Nat} {k s t : Int} (p : FP E d s (s - k)) (h : Look E k s t) : FP E d t (t - k) := by
  have := p.run (t - s).toNat fun x h1 h2 => h.2.1 x h1 (by have := h.1; omega)
  have ht := h.1
  exact this.cast rfl (by omega) (by omega)
theorem FP.last {d : Nat} {x y : Int} (p : FP E d x y) : ∃ s, s ≤ x ∧ (∀ z, s ≤ z → z < x → E z (z - (x - y))) ∧ ((d = 0 ∧ s = 0 ∧ x - y = 0) ∨ ∃ e, d = e + 1 ∧ (FP E e (s - 1) (s - (x - y)) ∨ FP E e s (s - (x - y) - 1))) := by
  induction p with
  | zero => exact ⟨0, by omega, fun z h1 h2 => by omega, .inl ⟨rfl, rfl, by omega⟩⟩
  | @right d x y p ih => exact ⟨x + 1, by omega, fun z h1 h2 => by omega, .inr ⟨d, rfl, .inl (p.cast rfl (by omega) (by omega))⟩⟩
  | @down d x y p ih => exact ⟨x, by omega, fun z h1 h2 => by omega, .inr ⟨d, rfl, .inr (p.cast rfl (by omega) (by omega))⟩⟩
  | @diag d x y p e ih =>
    obtain ⟨s, h1, h2, h3⟩ := ih
    have hk : x + 1 - (y + 1) = x - y := by omega
    rw [hk]
    refine ⟨s, by omega, fun z g1 g2 => ?_, h3⟩
    by_cases hz : z < x
    · exact h2 z g1 hz
    · have : z = x := by omega
      subst this
      rw [show z - (z - y) = y by omega]
      exact e
theorem Look.reach {k s t s' x : Int} (h : Look E k s t) (hs : s' ≤ s) (hx : ∀ z, s' ≤ z → z < x → E z (z - k)) : x ≤ t := by
  by_cases hc : x ≤ t
  · exact hc
  · exact absurd (hx t (by have := h.1; omega) (by omega)) h.2.2
theorem FR.zero {t : Int} (h : Look E 0 0 t) : FR E 0 0 t := by
  refine ⟨(FP.zero.cast rfl rfl (by omega) : FP E 0 0 (0 - 0)).look h, fun x' p => ?_⟩
  obtain ⟨s, h1, h2, h3⟩ := p.last
  rcases h3 with ⟨_, h4, h5⟩ | ⟨e, he, _⟩
  · subst h4
    exact h.reach (Int.le_refl 0) (fun z g1 g2 => by rw [← h5]; exact h2 z g1 g2)
  · omega
/-- One round more: from the diagonal before and the one behind. -/
theorem FR.step {d : Nat} {k p q t1 t2 : Int} (hp : FR E d (k - 1) p) (hq : FR E d (k + 1) q) (l1 : Look E k (p + 1) t1) (l2 : Look E k q t2) : FR E (d + 1) k (max t1 t2) := by
  have p1 : FP E (d + 1) t1 (t1 - k) := ((hp.1.right).cast rfl rfl (by omega) : FP E (d + 1) (p + 1) (p + 1 - k)).look l1
  have p2 : FP E (d + 1) t2 (t2 - k) := ((hq.1.down).cast rfl rfl (by omega) : FP E (d + 1) q (q - k)).look l2
  refine ⟨?_, fun x' w => ?_⟩
  · by_cases h : t1 ≤ t2
    · exact p2.cast rfl (by omega) (by omega)
    · exact p1.cast rfl (by omega) (by omega)
  · obtain ⟨s, h1, h2, h3⟩ := w.last
    rw [show x' - (x' - k) = k by omega] at h2 h3
    rcases h3 with ⟨h, _⟩ | ⟨e, he, h3⟩
    · omega
    · have : e = d := by omega
      subst this
      rcases h3 with h3 | h3
      · have := hp.2 (s - 1) (h3.cast rfl rfl (by omega))
        have := l1.reach (s' := s) (by omega) h2
        omega
      · have := hq.2 s (h3.cast rfl rfl (by omega))
        have := l2.reach (s' := s) (by omega) h2
        omega
theorem FR.low {d : Nat} {q t : Int} (hq : FR E d (-(d : Int)) q) (l : Look E (-((d : Int) + 1)) q t) : FR E (d + 1) (-((d : Int) + 1)) t := by
  refine ⟨((hq.1.down).cast rfl rfl (by omega) : FP E (d + 1) q (q - (-((d : Int) + 1)))).look l, fun x' w => ?_⟩
  obtain ⟨s, h1, h2, h3⟩ := w.last
  rw [show x' - (x' - -((d : Int) + 1)) = -((d : Int) + 1) by omega] at h2 h3
  rcases h3 with ⟨h, _⟩ | ⟨e, he, h3⟩
  · omega
  · have : e = d := by omega
    subst this
    rcases h3 with h3 | h3
    · obtain ⟨c, r, l, h4, h5, h6⟩ := h3.form
      omega
    · have := hq.2 s (h3.cast rfl rfl (by omega))
      exact l.reach (s' := s) (by omega) h2
theorem FR.high {d : Nat} {p t : Int} (hp : FR E d (d : Int) p) (l : Look E ((d : Int) + 1) (p + 1) t) : FR E (d + 1) ((d : Int) + 1) t := by
  refine ⟨((hp.1.right).cast rfl rfl (by omega) : FP E (d + 1) (p + 1) (p + 1 - ((d : Int) + 1))).look l, fun x' w => ?_⟩
  obtain ⟨s, h1, h2, h3⟩ := w.last
  rw [show x' - (x' - ((d : Int) + 1)) = ((d : Int) + 1) by omega] at h2 h3
  rcases h3 with ⟨h, _⟩ | ⟨e, he, h3⟩
  · omega
  · have : e = d := by omega
    subst this
    rcases h3 with h3 | h3
    · have := hp.2 (s - 1) (h3.cast rfl rfl (by omega))
      exact l.reach (s' := s) (by omega) h2
    · obtain ⟨c, r, l, h4, h5, h6⟩ := h3.form
      omega
/-! ### back from the end -/
/-- The graph seen from its end. -/
def Rev (E : Int → Int → Prop) (N M : Int) (x y : Int) : Prop := E (N - 1 - x) (M - 1 - y)
theorem Box.rev (h : Box E N M) : Box (Rev E N M) N M := ⟨h.1, h.2.1, fun x y e => by have := h.2.2 _ _ e; omega⟩
theorem Rev.rev : Rev (Rev E N M) N M = E := by
  funext x y
  show E (N - 1 - (N - 1 - x)) (M - 1 - (M - 1 - y)) = E x y
  rw [show N - 1 - (N - 1 - x) = x by omega, show M - 1 - (M - 1 - y) = y by omega]
theorem FP.join {d2 : Nat} {x' y' : Int} (q : FP (Rev E N M) d2 x' y') : ∀ {d : Nat}, FP E d (N - x') (M - y') → FP E (d + d2) N M := by
  induction q with
  | zero => intro d p; exact p.cast rfl (by omega) (by omega)
  | @right e x y q ih => intro d p; exact (ih (p.right.cast rfl (by omega) rfl)).cast (by omega) rfl rfl
  | @down e x y q ih => intro d p; exact (ih (p.down.cast rfl rfl (by omega))).cast (by omega) rfl rfl
  | @diag e x y q h ih =>
    intro d p
    refine ih ((p.diag ?_).cast rfl (by omega) (by omega))
    rw [show N - (x + 1) = N - 1 - x by omega, show M - (y + 1) = M - 1 - y by omega]
    exact h
theorem FP.split {d : Nat} {x y : Int} (p : FP E d x y) : ∀ {d2 : Nat}, FP (Rev E N M) d2 (N - x) (M - y) → ∀ d1, d1 ≤ d → ∃ i j, FP E d1 i j ∧ FP (Rev E N M) (d + d2 - d1) (N - i) (M - j) := by
  induction p with
  | zero => intro d2 q d1 h; exact ⟨0, 0, FP.zero.cast (by omega) rfl rfl, q.cast (by omega) rfl rfl⟩
  | @right d x y p ih =>
    intro d2 q d1 h
    by_cases hd : d1 = d + 1
    · exact ⟨x + 1, y, p.right.cast (by omega) rfl rfl, q.cast (by omega) rfl rfl⟩
    · obtain ⟨i, j, h1, h2⟩ := ih (q.right.cast rfl (by omega) rfl) d1 (by omega)
      exact ⟨i, j, h1, h2.cast (by omega) rfl rfl⟩
  | @down d x y p ih =>
    intro d2 q d1 h
    by_cases hd : d1 = d + 1
    · exact ⟨x, y + 1, p.down.cast (by omega) rfl rfl, q.cast (by omega) rfl rfl⟩
    · obtain ⟨i, j, h1, h2⟩ := ih (q.down.cast rfl rfl (by omega)) d1 (by omega)
      exact ⟨i, j, h1, h2.cast (by omega) rfl rfl⟩
  | @diag d x y p e ih =>
    intro d2 q d1 h
    refine ih ((q.diag ?_).cast rfl (by omega) (by omega)) d1 h
    show E (N - 1 - (N - (x + 1))) (M - 1 - (M - (y + 1)))
    rw [show N - 1 - (N - (x + 1)) = x by omega, show M - 1 - (M - (y + 1)) = y by omega]
    exact e
/-- A way of df + db steps is met half way. -/
theorem meet {df db : Nat} (p : FP E (df + db) N M) : ∃ k, (∀ x, FR E df k x → ∀ u, FR (Rev E N M) db (N - M - k) (N - u) → u ≤ x) ∧ -(df : Int) ≤ k ∧ k ≤ df ∧ -(db : Int) ≤ N - M - k ∧ N - M - k ≤ db ∧ (∃ c : Int, k = df - 2 * c) := by
  obtain ⟨i, j, h1, h2⟩ := p.split (N := N) (M := M) (d2 := 0) (FP.zero.cast rfl (by omega) (by omega)) df (by omega)
  obtain ⟨c, r, l, e1, e2, e3⟩ := h1.form
  obtain ⟨c', r', l', e1', e2', e3'⟩ := h2.form
  refine ⟨i - j, fun x hx u hu => ?_, by omega, by omega, by omega, by omega, ⟨l, by omega⟩⟩
  have := hx.2 i (h1.cast rfl rfl (by omega))
  have := hu.2 (N - i) (h2.cast (by omega) rfl (by omega))
  omega
/-- Where two ways meet first they lie within, and each leads on. -/
theorem hit (hE : Box E N M) {df db : Nat} (hmin : ∀ d, FP E d N M → df + db ≤ d) {k x u : Int} (hx : FP E df x (x - k)) (hu : FP (Rev E N M) db (N - u) (M - (u - k))) (h : u ≤ x) :
    0 ≤ u ∧ 0 ≤ u - k ∧ x ≤ N ∧ x - k ≤ M ∧ FP E df u (u - k) ∧ FP (Rev E N M) db (N - x) (M - (x - k)) := by
  have hB := hE
  obtain ⟨hN, hM, _⟩ := hB
  obtain ⟨c, r, l, e1, e2, e3⟩ := hx.form
  obtain ⟨c', r', l', e1', e2', e3'⟩ := hu.form
  have a1 : 0 ≤ u ∧ 0 ≤ u - k := by
    obtain ⟨d', q, h1⟩ := hu.clip hE.rev
    have w := (q.join (d := 0 + 0 + (N - min (N - u) N).toNat + (M - min (M - (u - k)) M).toNat) ((((FP.zero.rights 0).rights (N - min (N - u) N).toNat).downs (M - min (M - (u - k)) M).toNat).cast (by omega) (by omega) (by omega)))
    have := hmin _ w
    omega
  have a2 : x ≤ N ∧ x - k ≤ M := by
    obtain ⟨d', q, h1⟩ := hx.clip hE
    have w0 := (((FP.zero (E := Rev E N M)).rights (N - min x N).toNat).downs (M - min (x - k) M).toNat)
    have w1 : FP (Rev E N M) (0 + (N - min x N).toNat + (M - min (x - k) M).toNat) (N - min x N) (M - min (x - k) M) := w0.cast rfl (by omega) (by omega)
    have w := w1.join (q.cast rfl (by omega) (by omega))
    have := hmin _ w
    omega
  refine ⟨a1.1, a1.2, a2.1, a2.2, ?_, ?_⟩
  · obtain ⟨d', h1, q⟩ := hx.backs (x - u).toNat (by omega) (by omega)
    have q : FP E d' u (u - k) := q.cast rfl (by omega) (by omega)
    have := hmin _ (hu.join (q.cast rfl (by omega) (by omega)))
    exact q.cast (by omega) rfl rfl
  · obtain ⟨d', h1, q⟩ := hu.backs (x - u).toNat (by omega) (by omega)
    have q : FP (Rev E N M) d' (N - x) (M - (x - k)) := q.cast rfl (by omega) (by omega)
    have := hmin _ (q.join (hx.cast rfl (by omega) (by omega)))
    exact q.cast (by omega) rfl rfl
end
end Go.Lcs
/- Chains of diagonals; the way back from a label; insertion sort. -/
namespace Go.Lcs
abbrev Dg := Int × Int × Int
def Good (E : Int → Int → Prop) (d : Dg) : Prop := 1 ≤ d.2.2 ∧ ∀ i, 0 ≤ i → i < d.2.2 → E (d.1 + i) (d.2.1 + i)
/-- Diagonals one behind the other, from a point to a point. -/
def Ch (E : Int → Int → Prop) : List Dg → Int → Int → Int → Int → Prop
  | [], x, y, X, Y => x ≤ X ∧ y ≤ Y
  | d :: L, x, y, X, Y => x ≤ d.1 ∧ y ≤ d.2.1 ∧ Good E d ∧ Ch E L (d.1 + d.2.2) (d.2.1 + d.2.2) X Y
def dsum : List Dg → Int
  | [] => 0
  | d :: L => d.2.2 + dsum L
theorem dsum_append : ∀ K L : List Dg, dsum (K ++ L) = dsum K + dsum L
  | [], L => by show dsum L = 0 + dsum L; omega
  | d :: K, L => by
    show d.2.2 + dsum (K ++ L) = d.2.2 + dsum K + dsum L
    rw [dsum_append K L]
    omega
section
variable {E : Int → Int → Prop}
theorem Ch.le : ∀ {L : List Dg} {x y X Y : Int}, Ch E L x y X Y → x ≤ X ∧ y ≤ Y
  | [], _, _, _, _, h => h
  | d :: L, _, _, _, _, h => by
    have := Ch.le h.2.2.2
    have := h.2.2.1.1
    have := h.1
    have := h.2.1
    omega
theorem Ch.weak : ∀ {L : List Dg} {x y X Y x' y' X' Y' : Int}, Ch E L x y X Y → x' ≤ x → y' ≤ y → X ≤ X' → Y ≤ Y' → Ch E L x' y' X' Y'
  | [], _, _, _, _, _, _, _, _, h, h1, h2, h3, h4 => ⟨by have := h.1; omega, by have := h.2; omega⟩
  | d :: L, _, _, _, _, _, _, _, _, h, h1, h2, h3, h4 => ⟨by have := h.1; omega, by have := h.2.1; omega, h.2.2.1, Ch.weak h.2.2.2 (Int.le_refl _) (Int.le_refl _) h3 h4⟩
theorem Ch.append : ∀ {K L : List Dg} {x y a b X Y : Int}, Ch E K x y a b → Ch E L a b X Y → Ch E (K ++ L) x y X Y
  | [], _, _, _, _, _, _, _, h, g => g.weak h.1 h.2 (Int.le_refl _) (Int.le_refl _)
  | d :: K, _, _, _, _, _, _, _, h, g => ⟨h.1, h.2.1, h.2.2.1, Ch.append h.2.2.2 g⟩
theorem Ch.good : ∀ {L : List Dg} {x y X Y : Int}, Ch E L x y X Y → ∀ d ∈ L, Good E d ∧ x ≤ d.1 ∧ y ≤ d.2.1 ∧ d.1 + d.2.2 ≤ X ∧ d.2.1 + d.2.2 ≤ Y
  | [], _, _, _, _, _, d, hd => by simp at hd
  | e :: L, x, y, X, Y, h, d, hd => by
    rcases List.mem_cons.1 hd with rfl | hd
    · have := Ch.le h.2.2.2
      exact ⟨h.2.2.1, h.1, h.2.1, this.1, this.2⟩
    · obtain ⟨h1, h2, h3, h4, h5⟩ := Ch.good h.2.2.2 d hd
      have := h.2.2.1.1
      have := h.1
      have := h.2.1
      exact ⟨h1, by omega, by omega, h4, h5⟩
/-- One stands ahead of the other. -/
def Lt (d e : Dg) : Prop := d.1 + d.2.2 ≤ e.1 ∧ d.2.1 + d.2.2 ≤ e.2.1
theorem Ch.pair : ∀ {L : List Dg} {x y X Y : Int}, Ch E L x y X Y → L.Pairwise Lt
  | [], _, _, _, _, _ => List.Pairwise.nil
  | d :: L, _, _, _, _, h => by
    refine List.Pairwise.cons (fun e he => ?_) (Ch.pair h.2.2.2)
    obtain ⟨_, h2, h3, _⟩ := Ch.good h.2.2.2 e he
    exact ⟨h2, h3⟩
theorem Ch.of_pair : ∀ {L : List Dg} {x y X Y : Int}, x ≤ X → y ≤ Y → L.Pairwise Lt → (∀ d ∈ L, Good E d ∧ x ≤ d.1 ∧ y ≤ d.2.1 ∧ d.1 + d.2.2 ≤ X ∧ d.2.1 + d.2.2 ≤ Y) → Ch E L x y X Y
  | [], _, _, _, _, h1, h2, _, _ => ⟨h1, h2⟩
  | d :: L, x, y, X, Y, h1, h2, hp, hg => by
    obtain ⟨g1, g2, g3, g4, g5⟩ := hg d (List.mem_cons_self ..)
    rw [List.pairwise_cons] at hp
    refine ⟨g2, g3, g1, Ch.of_pair g4 g5 hp.2 fun e he => ?_⟩
    obtain ⟨k1, _, _, k4, k5⟩ := hg e (List.mem_cons_of_mem _ he)
    have := hp.1 e he
    exact ⟨k1, this.1, this.2, k4, k5⟩
/-- Diagonals any two of which stand one ahead of the other, in the order of where they begin. -/
theorem Ch.of_sorted {L : List Dg} {X Y : Int} (hX : 0 ≤ X) (hY : 0 ≤ Y) (hg : ∀ d ∈ L, Good E d ∧ 0 ≤ d.1 ∧ 0 ≤ d.2.1 ∧ d.1 + d.2.2 ≤ X ∧ d.2.1 + d.2.2 ≤ Y)
    (hc : L.Pairwise fun d e => Lt d e ∨ Lt e d) (hs : L.Pairwise fun d e => d.1 ≤ e.1) : Ch E L 0 0 X Y := by
  refine Ch.of_pair hX hY ?_ hg
  refine List.Pairwise.imp_of_mem (fun {d e} hd he h => ?_) (hc.and hs)
  rcases h.1 with h1 | h1
  · exact h1
  · have := (hg e he).1.1
    have := h1.1
    have := h.2
    omega
theorem Ch.perm {R C : List Dg} {X Y : Int} (h : Ch E C 0 0 X Y) (hp : R.Perm C) (hs : R.Pairwise fun d e => d.1 ≤ e.1) : Ch E R 0 0 X Y := by
  have hc : C.Pairwise fun d e => Lt d e ∨ Lt e d := h.pair.imp Or.inl
  have hc' : R.Pairwise fun d e => Lt d e ∨ Lt e d := (hp.pairwise_iff (fun h => h.symm)).2 hc
  have hl := h.le
  exact Ch.of_sorted hl.1 hl.2 (fun d hd => Ch.good h d (hp.mem_iff.1 hd)) hc' hs
theorem dsum_perm {R C : List Dg} (hp : R.Perm C) : dsum R = dsum C := by
  induction hp with
  | nil => rfl
  | cons d _ ih => show d.2.2 + _ = d.2.2 + _; rw [ih]
  | swap d e l => show e.2.2 + (d.2.2 + dsum l) = d.2.2 + (e.2.2 + dsum l); omega
  | trans _ _ ih1 ih2 => rw [ih1, ih2]
def pre (L : List Dg) (x y : Int) : List Dg := match L with
  | [] => [(x, y, 1)]
  | d :: L' => if d.1 = x + 1 ∧ d.2.1 = y + 1 then (x, y, d.2.2 + 1) :: L' else (x, y, 1) :: d :: L'
theorem Good.one {x y : Int} (e : E x y) : Good E (x, y, 1) := by
  refine ⟨Int.le_refl 1, fun i h1 h2 => ?_⟩
  have h2 : i < 1 := h2
  have : i = 0 := by omega
  subst this
  show E (x + 0) (y + 0)
  rw [Int.add_zero, Int.add_zero]
  exact e
theorem Ch.pre {L : List Dg} {x y X Y : Int} (h : Ch E L (x + 1) (y + 1) X Y) (e : E x y) : Ch E (Lcs.pre L x y) x y X Y ∧ dsum (Lcs.pre L x y) = dsum L + 1 := by
  cases L with
  | nil => exact ⟨⟨Int.le_refl _, Int.le_refl _, Good.one e, h⟩, rfl⟩
  | cons d L =>
    show Ch E (if d.1 = x + 1 ∧ d.2.1 = y + 1 then (x, y, d.2.2 + 1) :: L else (x, y, 1) :: d :: L) x y X Y ∧ dsum (if d.1 = x + 1 ∧ d.2.1 = y + 1 then (x, y, d.2.2 + 1) :: L else (x, y, 1) :: d :: L) = dsum (d :: L) + 1
    by_cases hd : d.1 = x + 1 ∧ d.2.1 = y + 1
    · rw [if_pos hd]
      obtain ⟨h1, h2, h3, h4⟩ := h
      refine ⟨⟨Int.le_refl _, Int.le_refl _, ⟨?_, fun i i1 i2 => ?_⟩, ?_⟩, ?_⟩
      · have := h3.1
        show 1 ≤ d.2.2 + 1
        omega
      · show E (x + i) (y + i)
        have i2 : i < d.2.2 + 1 := i2
        by_cases hi : i = 0
        · subst hi
          rw [Int.add_zero, Int.add_zero]
          exact e
        · have := h3.2 (i - 1) (by omega) (by omega)
          rw [hd.1, hd.2, show x + 1 + (i - 1) = x + i by omega, show y + 1 + (i - 1) = y + i by omega] at this
          exact this
      · show Ch E L (x + (d.2.2 + 1)) (y + (d.2.2 + 1)) X Y
        rw [hd.1, hd.2, show x + 1 + d.2.2 = x + (d.2.2 + 1) by omega, show y + 1 + d.2.2 = y + (d.2.2 + 1) by omega] at h4
        exact h4
      · show d.2.2 + 1 + dsum L = d.2.2 + dsum L + 1
        omega
    · rw [if_neg hd]
      refine ⟨⟨Int.le_refl _, Int.le_refl _, Good.one e, h⟩, ?_⟩
      show 1 + dsum (d :: L) = dsum (d :: L) + 1
      omega
def snoc : List Dg → Int → Int → List Dg
  | [], x, y => [(x, y, 1)]
  | [d], x, y => if d.1 + d.2.2 = x ∧ d.2.1 + d.2.2 = y then [(d.1, d.2.1, d.2.2 + 1)] else [d, (x, y, 1)]
  | d :: e :: L, x, y => d :: snoc (e :: L) x y
theorem Ch.snoc : ∀ {L : List Dg} {x0 y0 x y : Int}, Ch E L x0 y0 x y → E x y → Ch E (Lcs.snoc L x y) x0 y0 (x + 1) (y + 1) ∧ dsum (Lcs.snoc L x y) = dsum L + 1
  | [], x0, y0, x, y, h, e => ⟨⟨h.1, h.2, Good.one e, Int.le_refl _, Int.le_refl _⟩, rfl⟩
  | [d], x0, y0, x, y, h, e => by
    obtain ⟨h1, h2, h3, h4⟩ := h
    unfold Lcs.snoc
    by_cases hd : d.1 + d.2.2 = x ∧ d.2.1 + d.2.2 = y
    · rw [if_pos hd]
      refine ⟨⟨h1, h2, ⟨?_, fun i i1 i2 => ?_⟩, ?_⟩, ?_⟩
      · have := h3.1
        show 1 ≤ d.2.2 + 1
        omega
      · show E (d.1 + i) (d.2.1 + i)
        have i2 : i < d.2.2 + 1 := i2
        by_cases hi : i = d.2.2
        · subst hi
          rw [hd.1, hd.2]
          exact e
        · exact h3.2 i i1 (by omega)
      · show d.1 + (d.2.2 + 1) ≤ x + 1 ∧ d.2.1 + (d.2.2 + 1) ≤ y + 1
        omega
      · show d.2.2 + 1 + 0 = d.2.2 + 0 + 1
        omega
    · rw [if_neg hd]
      refine ⟨⟨h1, h2, h3, h4.1, h4.2, Good.one e, Int.le_refl _, Int.le_refl _⟩, ?_⟩
      show d.2.2 + (1 + 0) = d.2.2 + 0 + 1
      omega
  | d :: e' :: L, x0, y0, x, y, h, e => by
    obtain ⟨h1, h2, h3, h4⟩ := h
    obtain ⟨k1, k2⟩ := Ch.snoc h4 e
    refine ⟨⟨h1, h2, h3, k1⟩, ?_⟩
    show d.2.2 + dsum (Lcs.snoc (e' :: L) x y) = d.2.2 + dsum (e' :: L) + 1
    rw [k2]
    omega
end
end Go.Lcs
/- The way back from a label. -/
namespace Go.Lcs
section
variable {E : Int → Int → Prop}
/-- Labels: the farthest points, round by round. -/
def Labs (E : Int → Int → Prop) (V : Nat → Int → Int) (D : Nat) : Prop := ∀ d, d ≤ D → ∀ k : Int, -(d : Int) ≤ k → k ≤ d → (∃ c : Int, k = d - 2 * c) → FR E d k (V d k)
/-- A place on the way back. -/
structure BK (E : Int → Int → Prop) (V : Nat → Int → Int) (D : Nat) (k x : Int) : Prop where
  p : FP E D x (x - k)
  l : ∀ e : Nat, D = e + 1 → -(e : Int) ≤ k - 1 → k - 1 ≤ e → V e (k - 1) + 1 ≤ x
  h : ∀ e : Nat, D = e + 1 → -(e : Int) ≤ k + 1 → k + 1 ≤ e → V e (k + 1) ≤ x
theorem FP.par {d : Nat} {x k : Int} (p : FP E d x (x - k)) : (∃ c : Int, k = d - 2 * c) ∧ -(d : Int) ≤ k ∧ k ≤ d := by
  obtain ⟨c, r, l, h1, h2, h3⟩ := p.form
  exact ⟨⟨l, by omega⟩, by omega, by omega⟩
theorem BK.top {V : Nat → Int → Int} {D : Nat} (hV : Labs E V D) {k : Int} (h1 : -(D : Int) ≤ k) (h2 : k ≤ D) (h3 : ∃ c : Int, k = D - 2 * c) : BK E V D k (V D k) := by
  have hF := hV D (Nat.le_refl _) k h1 h2 h3
  obtain ⟨c, hc⟩ := h3
  refine ⟨hF.1, fun e he g1 g2 => ?_, fun e he g1 g2 => ?_⟩
  · have := (hV e (by omega) (k - 1) g1 g2 ⟨c, by omega⟩).1
    exact hF.2 _ (this.right.cast (by omega) rfl (by omega))
  · have := (hV e (by omega) (k + 1) g1 g2 ⟨c - 1, by omega⟩).1
    exact hF.2 _ (this.down.cast (by omega) rfl (by omega))
theorem BK.left {V : Nat → Int → Int} {e : Nat} {k x : Int} (hV : Labs E V e) (b : BK E V (e + 1) k x) (h1 : -(e : Int) ≤ k - 1) (h2 : k - 1 ≤ e) (hx : x - 1 = V e (k - 1)) : BK E V e (k - 1) (x - 1) := by
  obtain ⟨⟨c, hc⟩, _, _⟩ := b.p.par
  rw [hx]
  exact BK.top hV h1 h2 ⟨c, by omega⟩
theorem BK.down {V : Nat → Int → Int} {e : Nat} {k x : Int} (hV : Labs E V e) (b : BK E V (e + 1) k x) (h1 : -(e : Int) ≤ k + 1) (h2 : k + 1 ≤ e) (hx : x = V e (k + 1)) : BK E V e (k + 1) x := by
  obtain ⟨⟨c, hc⟩, _, _⟩ := b.p.par
  rw [hx]
  exact BK.top hV h1 h2 ⟨c - 1, by omega⟩
theorem BK.diag {V : Nat → Int → Int} {D : Nat} {k x : Int} (hV : ∀ e, D = e + 1 → Labs E V e) (b : BK E V D k x) (h0 : ¬(x = 0 ∧ x - k = 0))
    (h1 : ∀ e : Nat, D = e + 1 → -(e : Int) ≤ k - 1 → k - 1 ≤ e → x - 1 ≠ V e (k - 1)) (h2 : ∀ e : Nat, D = e + 1 → -(e : Int) ≤ k + 1 → k + 1 ≤ e → x ≠ V e (k + 1)) :
    E (x - 1) (x - 1 - k) ∧ BK E V D k (x - 1) := by
  have main : E (x - 1) (x - 1 - k) ∧ FP E D (x - 1) (x - 1 - k) := by
    obtain ⟨⟨c0, hc0⟩, _, _⟩ := b.p.par
    have hl := b.l
    have hh := b.h
    have key : ∀ y, FP E D x y → y = x - k → E (x - 1) (x - 1 - k) ∧ FP E D (x - 1) (x - 1 - k) := by
      intro y p hy
      cases p with
      | zero => exact absurd ⟨rfl, by omega⟩ h0
      | @right d x' y' q =>
        exfalso
        obtain ⟨_, g1, g2⟩ := (q.cast rfl rfl (by omega) : FP E d x' (x' - (k - 1))).par
        have a := (hV d rfl d (Nat.le_refl _) (k - 1) g1 g2 ⟨c0, by omega⟩).2 x' (q.cast rfl rfl (by omega))
        have := hl d rfl g1 g2
        have := h1 d rfl g1 g2
        omega
      | @down d x' y' q =>
        exfalso
        obtain ⟨_, g1, g2⟩ := (q.cast rfl rfl (by omega) : FP E d x (x - (k + 1))).par
        have a := (hV d rfl d (Nat.le_refl _) (k + 1) g1 g2 ⟨c0 - 1, by omega⟩).2 x (q.cast rfl rfl (by omega))
        have := hh d rfl g1 g2
        have := h2 d rfl g1 g2
        omega
      | @diag d x' y' q e =>
        rw [show x' + 1 - 1 = x' by omega, show x' - k = y' by omega]
        exact ⟨e, q⟩
    exact key _ b.p rfl
  refine ⟨main.1, main.2, fun e he g1 g2 => ?_, fun e he g1 g2 => ?_⟩
  · have := b.l e he g1 g2
    have := h1 e he g1 g2
    omega
  · have := b.h e he g1 g2
    have := h2 e he g1 g2
    omega
theorem BK.fin {V : Nat → Int → Int} {D : Nat} {k x : Int} (b : BK E V D k x) (h0 : x = 0 ∧ x - k = 0) : D = 0 := by
  obtain ⟨c, r, l, h1, h2, h3⟩ := b.p.form
  omega
end
/-! ### insertion sort -/
section
variable {α : Type} (less : α → α → Bool)
/-- An element is put into a list that stands the other way round. -/
def insV (e : α) : List α → List α
  | [] => [e]
  | x :: r => if less e x then x :: insV e r else e :: x :: r
def isV (L : List α) : List α := L.foldl (fun r e => insV less e r) []
theorem insV_perm (e : α) : ∀ r : List α, (insV less e r).Perm (e :: r)
  | [] => List.Perm.refl _
  | x :: r => by
    unfold insV
    split
    · exact ((insV_perm e r).cons x).trans (List.Perm.swap e x r)
    · exact List.Perm.refl _
theorem foldl_perm : ∀ (L r : List α), (L.foldl (fun r e => insV less e r) r).Perm (L ++ r)
  | [], r => List.Perm.refl _
  | e :: L, r => by
    rw [List.foldl_cons]
    refine (foldl_perm L (insV less e r)).trans ?_
    refine ((insV_perm less e r).append_left L).trans ?_
    exact List.perm_middle
theorem isV_perm (L : List α) : (isV less L).reverse.Perm L := by
  refine (List.reverse_perm _).trans ?_
  have := foldl_perm less L []
  rw [List.append_nil] at this
  exact this
theorem insV_sorted (hasym : ∀ a b, less a b = true → less b a = false) (htr : ∀ a b c, less a b = false → less b c = false → less a c = false) (e : α) : ∀ r : List α, r.Pairwise (fun a b => less a b = false) → (insV less e r).Pairwise (fun a b => less a b = false)
  | [], _ => List.pairwise_singleton _ _
  | x :: r, h => by
    rw [List.pairwise_cons] at h
    unfold insV
    by_cases he : less e x = true
    · rw [if_pos he, List.pairwise_cons]
      refine ⟨fun y hy => ?_, insV_sorted hasym htr e r h.2⟩
      rcases List.mem_cons.1 ((insV_perm less e r).mem_iff.1 hy) with rfl | hy
      · exact hasym _ _ he
      · exact h.1 y hy
    · rw [if_neg he, List.pairwise_cons, List.pairwise_cons]
      have he : less e x = false := by cases hb : less e x with | true => exact absurd hb he | false => rfl
      refine ⟨fun y hy => ?_, h⟩
      rcases List.mem_cons.1 hy with rfl | hy
      · exact he
      · exact htr e x y he (h.1 y hy)
theorem isV_sorted (hasym : ∀ a b, less a b = true → less b a = false) (htr : ∀ a b c, less a b = false → less b c = false → less a c = false) (L : List α) : (isV less L).reverse.Pairwise (fun a b => less b a = false) := by
  rw [List.pairwise_reverse]
  unfold isV
  have : ∀ (L r : List α), r.Pairwise (fun a b => less a b = false) → (L.foldl (fun r e => insV less e r) r).Pairwise (fun a b => less a b = false) := by
    intro L
    induction L with
    | nil => intro r h; exact h
    | cons e L ih => intro r h; exact ih _ (insV_sorted less hasym htr e r h)
  exact this L [] List.Pairwise.nil
theorem isV_snoc (L : List α) (e : α) : isV less (L ++ [e]) = insV less e (isV less L) := by
  unfold isV
  rw [List.foldl_append]
  rfl
theorem isV_length (L : List α) : (isV less L).length = L.length := by
  have := (isV_perm less L).length_eq
  rw [List.length_reverse] at this
  exact this
end
end Go.Lcs
/- From diagonals to differences; diagonals that are cut so that they do not overlap; the least number of steps, row by row. -/
namespace Go.Lcs
abbrev Sp := Int × Int × Int × Int
def tod : List Dg → Int → Int → Int → Int → List Sp
  | [], pa, pb, N, M => if pa < N ∨ pb < M then [(pa, N, pb, M)] else []
  | d :: L, pa, pb, N, M => if pa < d.1 ∨ pb < d.2.1 then (pa, d.1, pb, d.2.1) :: tod L (d.1 + d.2.2) (d.2.1 + d.2.2) N M else tod L (d.1 + d.2.2) (d.2.1 + d.2.2) N M
/-- Differences that lead from one list to the other, from a point on. -/
def Ld (E : Int → Int → Prop) : List Sp → Int → Int → Int → Int → Prop
  | [], i, k, N, M => N - i = M - k ∧ i ≤ N ∧ ∀ j, 0 ≤ j → j < N - i → E (i + j) (k + j)
  | s :: L, i, k, N, M => i ≤ s.1 ∧ s.1 ≤ s.2.1 ∧ s.2.1 ≤ N ∧ k ≤ s.2.2.1 ∧ s.2.2.1 ≤ s.2.2.2 ∧ s.2.2.2 ≤ M ∧ s.1 - i = s.2.2.1 - k ∧ (∀ j, 0 ≤ j → j < s.1 - i → E (i + j) (k + j)) ∧ (s.1 < s.2.1 ∨ s.2.2.1 < s.2.2.2) ∧ Ld E L s.2.1 s.2.2.2 N M
def ssum : List Sp → Int
  | [] => 0
  | s :: L => s.2.1 - s.1 + s.2.2.2 - s.2.2.1 + ssum L
section
variable {E : Int → Int → Prop}
theorem tod_ok {N M : Int} : ∀ (L : List Dg) (i k m : Int), 0 ≤ m → (∀ j, 0 ≤ j → j < m → E (i + j) (k + j)) → Ch E L (i + m) (k + m) N M →
    Ld E (tod L (i + m) (k + m) N M) i k N M ∧ ssum (tod L (i + m) (k + m) N M) + 2 * dsum L = N - (i + m) + (M - (k + m))
  | [], i, k, m, hm, he, h => by
    have h1 := h.1
    have h2 := h.2
    unfold tod
    by_cases hc : i + m < N ∨ k + m < M
    · rw [if_pos hc]
      refine ⟨⟨?_, h1, Int.le_refl _, ?_, h2, Int.le_refl _, ?_, fun j j1 j2 => he j j1 ?_, hc, ?_, Int.le_refl _, fun j j1 j2 => ?_⟩, ?_⟩
      · show i ≤ i + m; omega
      · show k ≤ k + m; omega
      · show i + m - i = k + m - k; omega
      · have j2 : j < i + m - i := j2; omega
      · show N - N = M - M; omega
      · have j2 : j < N - N := j2; omega
      · show N - (i + m) + M - (k + m) + 0 + 2 * 0 = _; omega
    · rw [if_neg hc]
      refine ⟨⟨by omega, by omega, fun j j1 j2 => he j j1 (by omega)⟩, ?_⟩
      show 0 + 2 * 0 = _
      omega
  | d :: L, i, k, m, hm, he, h => by
    obtain ⟨h1, h2, h3, h4⟩ := h
    have h3l := h3.1
    have hl := h4.le
    unfold tod
    by_cases hc : i + m < d.1 ∨ k + m < d.2.1
    · rw [if_pos hc]
      obtain ⟨g1, g2⟩ := tod_ok L d.1 d.2.1 d.2.2 (by omega) h3.2 h4
      refine ⟨⟨?_, h1, ?_, ?_, h2, ?_, ?_, fun j j1 j2 => he j j1 ?_, hc, g1⟩, ?_⟩
      · show i ≤ i + m; omega
      · show d.1 ≤ N; omega
      · show k ≤ k + m; omega
      · show d.2.1 ≤ M; omega
      · show i + m - i = k + m - k; omega
      · have j2 : j < i + m - i := j2; omega
      · show d.1 - (i + m) + d.2.1 - (k + m) + ssum (tod L (d.1 + d.2.2) (d.2.1 + d.2.2) N M) + 2 * (d.2.2 + dsum L) = _
        omega
    · rw [if_neg hc]
      have e1 : d.1 = i + m := by omega
      have e2 : d.2.1 = k + m := by omega
      obtain ⟨g1, g2⟩ := tod_ok L i k (m + d.2.2) (by omega) (fun j j1 j2 => by
        by_cases hj : j < m
        · exact he j j1 hj
        · have := h3.2 (j - m) (by omega) (by omega)
          rw [e1, e2, show i + m + (j - m) = i + j by omega, show k + m + (j - m) = k + j by omega] at this
          exact this) (by rw [show i + (m + d.2.2) = d.1 + d.2.2 by omega, show k + (m + d.2.2) = d.2.1 + d.2.2 by omega]; exact h4)
      rw [show i + (m + d.2.2) = d.1 + d.2.2 by omega, show k + (m + d.2.2) = d.2.1 + d.2.2 by omega] at g1 g2
      refine ⟨g1, ?_⟩
      show _ + 2 * (d.2.2 + dsum L) = _
      omega
theorem tod_all {N M : Int} {L : List Dg} (h : Ch E L 0 0 N M) : Ld E (tod L 0 0 N M) 0 0 N M ∧ ssum (tod L 0 0 N M) = N + M - 2 * dsum L := by
  obtain ⟨g1, g2⟩ := tod_ok L 0 0 0 (Int.le_refl 0) (fun j h1 h2 => by omega) (by exact h)
  have e : (0 : Int) + 0 = 0 := rfl
  rw [e] at g1 g2
  exact ⟨g1, by omega⟩
/-! ### parts of diagonals -/
def Sub (p' p : Dg) : Prop := ∃ δ : Int, 0 ≤ δ ∧ p'.1 = p.1 + δ ∧ p'.2.1 = p.2.1 + δ ∧ δ + p'.2.2 ≤ p.2.2
theorem Sub.refl (p : Dg) : Sub p p := ⟨0, Int.le_refl 0, by omega, by omega, by omega⟩
theorem Sub.trans {a b c : Dg} (h : Sub a b) (g : Sub b c) : Sub a c := by
  obtain ⟨x, h1, h2, h3, h4⟩ := h
  obtain ⟨y, g1, g2, g3, g4⟩ := g
  exact ⟨x + y, by omega, by omega, by omega, by omega⟩
theorem Sub.good {p' p : Dg} (h : Sub p' p) (g : Good E p) (hl : 1 ≤ p'.2.2) : Good E p' := by
  obtain ⟨x, h1, h2, h3, h4⟩ := h
  refine ⟨hl, fun i i1 i2 => ?_⟩
  have := g.2 (x + i) (by omega) (by omega)
  rw [h2, h3, Int.add_assoc, Int.add_assoc]
  exact this
theorem Sub.cmp {p' p d : Dg} (h : Sub p' p) (g : Lt p d ∨ Lt d p) : Lt p' d ∨ Lt d p' := by
  obtain ⟨x, h1, h2, h3, h4⟩ := h
  rcases g with ⟨g1, g2⟩ | ⟨g1, g2⟩
  · exact .inl ⟨by omega, by omega⟩
  · exact .inr ⟨by omega, by omega⟩
/-! ### the least number of steps -/
def Dist (E : Int → Int → Prop) (i k : Int) (n : Nat) : Prop := FP E n i k ∧ ∀ d, FP E d i k → n ≤ d
theorem Dist.top (k : Nat) : Dist E 0 k k := by
  refine ⟨(FP.axis 0 k).cast (by omega) rfl rfl, fun d p => ?_⟩
  obtain ⟨c, r, l, h1, h2, h3⟩ := p.form
  omega
theorem Dist.same {i k : Nat} {n : Nat} (h : Dist E i k n) (e : E i k) : Dist E ((i : Int) + 1) ((k : Int) + 1) n := by
  refine ⟨h.1.diag e, fun d p => ?_⟩
  obtain ⟨d', h1, q⟩ := p.back (by omega) (by omega)
  exact Nat.le_trans (h.2 d' (q.cast rfl (by omega) (by omega))) h1
theorem Dist.diff {i k : Nat} {n m : Nat} (h1 : Dist E i ((k : Int) + 1) n) (h2 : Dist E ((i : Int) + 1) k m) (e : ¬ E i k) : Dist E ((i : Int) + 1) ((k : Int) + 1) (min n m + 1) := by
  refine ⟨?_, fun d p => ?_⟩
  · by_cases hc : n ≤ m
    · exact h1.1.right.cast (by omega) rfl rfl
    · exact h2.1.down.cast (by omega) rfl rfl
  · have key : ∀ x y, FP E d x y → x = (i : Int) + 1 → y = (k : Int) + 1 → min n m + 1 ≤ d := by
      intro x y p hx hy
      cases p with
      | zero => omega
      | @right d x' y' q => have := h1.2 d (q.cast rfl (by omega) hy); omega
      | @down d x' y' q => have := h2.2 d (q.cast rfl hx (by omega)); omega
      | @diag d x' y' q e' =>
        exfalso
        have a : x' = i := by omega
        have b : y' = k := by omega
        rw [a, b] at e'
        exact e e'
    exact key _ _ p rfl rfl
/-- A chain tells a way. -/
theorem Ch.way {N M : Int} : ∀ {L : List Dg} {x y : Int} {d : Nat}, FP E d x y → Ch E L x y N M → ∃ d', FP E d' N M ∧ (d' : Int) = d + (N - x) + (M - y) - 2 * dsum L
  | [], x, y, d, p, h => by
    have h1 := h.1
    have h2 := h.2
    refine ⟨d + (N - x).toNat + (M - y).toNat, ((p.rights (N - x).toNat).downs (M - y).toNat).cast rfl (by omega) (by omega), ?_⟩
    show _ = (d : Int) + (N - x) + (M - y) - 2 * 0
    omega
  | e :: L, x, y, d, p, h => by
    obtain ⟨h1, h2, h3, h4⟩ := h
    have q := ((p.rights (e.1 - x).toNat).downs (e.2.1 - y).toNat)
    have q : FP E (d + (e.1 - x).toNat + (e.2.1 - y).toNat) e.1 (e.1 - (e.1 - e.2.1)) := q.cast rfl (by omega) (by omega)
    have h3l := h3.1
    have q := q.run e.2.2.toNat (fun z z1 z2 => by
      have := h3.2 (z - e.1) (by omega) (by omega)
      rw [show e.1 + (z - e.1) = z by omega, show e.2.1 + (z - e.1) = z - (e.1 - e.2.1) by omega] at this
      exact this)
    obtain ⟨d', g1, g2⟩ := Ch.way (q.cast rfl (x' := e.1 + e.2.2) (y' := e.2.1 + e.2.2) (by omega) (by omega)) h4
    refine ⟨d', g1, ?_⟩
    show _ = (d : Int) + (N - x) + (M - y) - 2 * (e.2.2 + dsum L)
    omega
theorem Ch.least {N M : Int} {L : List Dg} {n : Nat} (h : Ch E L 0 0 N M) (hd : Dist E N M n) : (n : Int) ≤ N + M - 2 * dsum L := by
  obtain ⟨d', g1, g2⟩ := Ch.way FP.zero h
  have := hd.2 d' g1
  omega
end
end Go.Lcs
