import Derived.Test.YtmlfecgppnffgaaDoorRC
/- The first walk of diffBisect as the code has it. -/
set_option linter.unusedVariables false
set_option linter.unusedSimpArgs false
namespace Go.Proofs.YtmlfecgppnffgaaDoor.E
open Go.Ev
theorem Ent.bd {a b v : List Int} {m : Nat} {d : Int} (h : Ent a b m d v) {k : Int} (h1 : -(m : Int) ≤ k) (h2 : k < m) (hd : d ≤ m) : -1 ≤ vat v m k ∧ vat v m k ≤ 2 * m + a.length + b.length := by
  rcases h.at_ k h1 h2 with e | ⟨e1, e2, _, e4⟩
  · omega
  · unfold Lb at e4
    have : lv d k ≤ d := by unfold lv; split <;> omega
    omega
theorem rdV (v : List Int) (m : Nat) (k p : Int) (hp : p = (m : Int) + k) : nth (.int .i64) v p = vat v m k := by subst hp; rfl
theorem nth1 (X : TS1.den) : nth TS1 [X] 0 = X := rfl
/-- What a bisection may answer. -/
def Out (K : Nat) (X : TS1.den) (a b : List Int) (r : Option (List TS2.den)) : Prop :=
  (r = some (enc [(-1, a), (1, b)]) ∧ ed a b = a.length + b.length) ∨
    ∃ x y : Nat, x ≤ a.length ∧ y ≤ b.length ∧ edP a b x y + edS a b x y = ed a b ∧ (2 ≤ ed a b → 0 < edP a b x y ∧ 0 < edS a b x y) ∧ r = diffBisectSplit K X a b (x : Int) (y : Int)
section
variable (K : Nat) (X : TS1.den) (a b : List Int) (m d : Nat) (fr : Bool)
theorem snake1 (hl : a.length + b.length ≤ 1000000) (v w : List Int) (ks ke ls le D k p : Int) : ∀ (n x y f : Nat), cpl (a.drop x) (b.drop y) = n → x ≤ 3000000 → y ≤ 3000000 → 2 * n + 3 ≤ f → ∃ f', f ≤ f' + 2 * n + 2 ∧
    diffBisect_l4 K f 0 [X] a b (a.length : Int) (b.length : Int) (m : Int) (m : Int) ((2 * m : Nat) : Int) v w ((a.length : Int) - b.length) fr ks ke ls le D k p (x : Int) (y : Int) =
    diffBisect_j11 K f' 0 [X] a b (a.length : Int) (b.length : Int) (m : Int) (m : Int) ((2 * m : Nat) : Int) v w ((a.length : Int) - b.length) fr ks ke ls le D k p ((x + n : Nat) : Int) ((y + n : Nat) : Int)
  | n, x, y, f, hn, hx3, hy3, hf => by
    obtain ⟨f, rfl⟩ : ∃ m, f = m + 1 := ⟨f - 1, by omega⟩
    rw [diffBisect_l4_eq]
    by_cases hx : x < a.length
    · by_cases hy : y < b.length
      · rw [br_lt (by omega), br_lt (by omega)]
        obtain ⟨f, rfl⟩ : ∃ m, f = m + 1 := ⟨f - 1, by omega⟩
        rw [diffBisect_j10_eq, chk_le (by omega), chk_lt (by omega), chk_le (by omega), chk_lt (by omega), rdI a x hx, rdI b y hy]
        rw [cpl_step2 a b x y hx hy] at hn
        by_cases he : a[x] = b[y]
        · rw [if_pos he] at hn
          rw [br_not, br_eq he]
          cases n with
          | zero => omega
          | succ n =>
            obtain ⟨f', h1, h2⟩ := snake1 hl v w ks ke ls le D k p n (x + 1) (y + 1) f (by omega) (by omega) (by omega) (by omega)
            refine ⟨f', by omega, ?_⟩
            rw [wrap_id (by omega) (by omega), wrap_id (by omega) (by omega), show (x : Int) + 1 = ((x + 1 : Nat) : Int) by omega, show (y : Int) + 1 = ((y + 1 : Nat) : Int) by omega, h2, show x + 1 + n = x + (n + 1) by omega, show y + 1 + n = y + (n + 1) by omega]
        · rw [if_neg he] at hn
          subst hn
          rw [br_not, br_ne he]
          exact ⟨f, by omega, rfl⟩
      · rw [br_lt (by omega), br_ge (by omega)]
        rw [cpl_out _ _ (.inr (List.drop_eq_nil_of_le (by omega)))] at hn
        subst hn
        exact ⟨f, by omega, rfl⟩
    · rw [br_ge (by omega)]
      rw [cpl_out _ _ (.inl (List.drop_eq_nil_of_le (by omega)))] at hn
      subst hn
      exact ⟨f, by omega, rfl⟩
variable {K X a b m d fr} {v w : List Int} {ksp kep ks0 k ks ke lsp lep ls0 l ls le : Int}
theorem enter1 (h : Pst a b m d v ksp kep ks0 k ks ke) (hl : a.length + b.length ≤ 1000000) (hm : d < m) (hm2 : 2 ≤ m) (hm3 : m ≤ 1000000) (hk : k ≤ d - ke) (f : Nat) :
    diffBisect_j4 K (f + 2) 0 [X] a b (a.length : Int) (b.length : Int) (m : Int) (m : Int) ((2 * m : Nat) : Int) v w ((a.length : Int) - b.length) fr ks ke ls le (d : Int) k =
    diffBisect_j7 K f 0 [X] a b (a.length : Int) (b.length : Int) (m : Int) (m : Int) ((2 * m : Nat) : Int) v w ((a.length : Int) - b.length) fr ks ke ls le (d : Int) k ((m : Int) + k) (pick v m d k) := by
  have hlen := h.ent.len
  have hkd := h.kd hk
  have hp := h.par
  rw [diffBisect_j4_eq, wrap_id (x := 0 - (d : Int)) (by omega) (by omega), wrap_id (x := (m : Int) + k) (by omega) (by omega)]
  by_cases h1 : k = -(d : Int)
  · rw [br_eq (by omega), diffBisect_j6_eq, br_true, wrap_id (x := (m : Int) + k + 1) (by omega) (by omega), chk_le (by omega), chk_lt (by omega), rdV v m (k + 1) _ (by omega)]
    unfold pick
    rw [if_pos (.inl h1)]
  · rw [br_ne (by omega)]
    have b1 := h.ent.bd (k := k - 1) (by omega) (by omega) (by omega)
    by_cases h2 : k = (d : Int)
    · rw [br_not, br_eq h2, diffBisect_j6_eq, br_false, wrap_id (x := (m : Int) + k - 1) (by omega) (by omega), chk_le (by omega), chk_lt (by omega), rdV v m (k - 1) _ (by omega), wrap_id (by omega) (by omega)]
      unfold pick
      rw [if_neg (by rintro (e | ⟨e, _⟩) <;> omega)]
    · rw [br_not, br_ne h2, wrap_id (x := (m : Int) + k - 1) (by omega) (by omega), wrap_id (x := (m : Int) + k + 1) (by omega) (by omega), chk_le (by omega), chk_lt (by omega), chk_le (by omega), chk_lt (by omega), diffBisect_j6_eq, rdV v m (k - 1) _ (by omega), rdV v m (k + 1) _ (by omega)]
      unfold pick
      by_cases h3 : vat v m (k - 1) < vat v m (k + 1)
      · rw [br_lt h3, if_pos (.inr ⟨h2, h3⟩), wrap_id (x := (m : Int) + k + 1) (by omega) (by omega), chk_le (by omega), chk_lt (by omega), rdV v m (k + 1) _ (by omega)]
      · rw [br_ge (by omega), if_neg (by rintro (e | ⟨_, e⟩) <;> omega), wrap_id (x := (m : Int) + k - 1) (by omega) (by omega), chk_le (by omega), chk_lt (by omega), rdV v m (k - 1) _ (by omega), wrap_id (by omega) (by omega)]
/-- The first walk, one pass. -/
theorem walk1 (h2 : Pst a.reverse b.reverse m d w lsp lep ls0 l ls le) (hl : a.length + b.length ≤ 1000000) (hm : d < m) (hm2 : 2 ≤ m) (hm3 : m ≤ 1000000) (hT : 2 * d ≤ ed a b + 1) (hfr : fr = true ↔ ((a.length : Int) - b.length) % 2 = 1) (C R : Nat) (hC : C = 2 * a.length + 20)
    (rest : ∀ (v' : List Int) (ks' ke' : Int) (f' : Nat), Done a b m d v' ks0 ks' ke' → (fr = true → 2 * d ≤ ed a b) → R ≤ f' → Out K X a b (diffBisect_j5 K f' 0 [X] a b (a.length : Int) (b.length : Int) (m : Int) (m : Int) ((2 * m : Nat) : Int) v' w ((a.length : Int) - b.length) fr ks' ke' ls le (d : Int))) :
    ∀ (n f : Nat) (k ks ke : Int) (v : List Int), Pst a b m d v ksp kep ks0 k ks ke → (fr = true → ∀ x y : Nat, Best a b d x y → ed a b + 1 = 2 * d → k ≤ (x : Int) - y) → (d : Int) - ke - k < 2 * n → k ≤ 1000002 → ke ≤ 3000000 → ks ≤ 3000000 → n * C + R + 2 ≤ f →
      Out K X a b (diffBisect_l2 K f 0 [X] a b (a.length : Int) (b.length : Int) (m : Int) (m : Int) ((2 * m : Nat) : Int) v w ((a.length : Int) - b.length) fr ks ke ls le (d : Int) k)
  | n, f, k, ks, ke, v, h, nd, hn, hk2, hke, hks, hf => by
    have ho := h.ord
    obtain ⟨f, rfl⟩ : ∃ m, f = m + 1 := ⟨f - 1, by omega⟩
    rw [diffBisect_l2_eq, wrap_id (x := (d : Int) - ke) (by omega) (by omega)]
    by_cases hk : k ≤ d - ke
    · rw [br_le hk]
      cases n with
      | zero => omega
      | succ n =>
        have hmul : (n + 1) * C = n * C + C := Nat.succ_mul n C
        have hkd := h.kd hk
        have hlen := h.ent.len
        have hlen2 := h2.ent.len
        obtain ⟨s1, s2, _, _⟩ := h.start hk hm hm2
        obtain ⟨f1, f2, f3⟩ := h.far_ok hk hm hm2
        have hLb := f3
        unfold Lb at hLb
        have hcp := cpl_le (a.drop (pick v m d k).toNat) (b.drop (pick v m d k - k).toNat)
        simp only [List.length_drop] at hcp
        have hfar : far a b v m d k = (pick v m d k).toNat + cpl (a.drop (pick v m d k).toNat) (b.drop (pick v m d k - k).toNat) := rfl
        obtain ⟨f, rfl⟩ : ∃ m, f = m + 1 := ⟨f - 1, by omega⟩
        obtain ⟨f, rfl⟩ : ∃ m, f = m + 1 := ⟨f - 1, by omega⟩
        rw [show f + 1 + 1 = f + 2 from rfl, enter1 h hl hm hm2 hm3 hk f]
        obtain ⟨f, rfl⟩ : ∃ m, f = m + 1 := ⟨f - 1, by omega⟩
        rw [diffBisect_j7_eq, wrap_id (x := pick v m d k - k) (by omega) (by omega)]
        obtain ⟨fu, g1, g2⟩ := snake1 K X a b m fr hl v w ks ke ls le (d : Int) k ((m : Int) + k) _ (pick v m d k).toNat (pick v m d k - k).toNat f rfl (by omega) (by omega) (by omega)
        rw [show (((pick v m d k).toNat : Nat) : Int) = pick v m d k by omega, show (((pick v m d k - k).toNat : Nat) : Int) = pick v m d k - k by omega] at g2
        rw [g2, ← hfar]
        clear g2
        have hy0 : (((pick v m d k - k).toNat + cpl (a.drop (pick v m d k).toNat) (b.drop (pick v m d k - k).toNat) : Nat) : Int) = (far a b v m d k : Int) - k := by omega
        rw [hy0]
        obtain ⟨fu, rfl⟩ : ∃ m, fu = m + 1 := ⟨fu - 1, by omega⟩
        rw [diffBisect_j11_eq, chk_le (by omega), chk_lt (by omega), wrap_id (x := k + 2) (by omega) (by omega)]
        -- the walk goes on
        have more : ∀ (ks' ke' : Int) (f'' : Nat), Pst a b m d (v.set (Int.toNat ((m : Int) + k)) (far a b v m d k : Int)) ksp kep ks0 (k + 2) ks' ke' → (fr = true → ∀ x y : Nat, Best a b d x y → ed a b + 1 = 2 * d → k + 2 ≤ (x : Int) - y) → ke ≤ ke' → ke' ≤ 3000000 → ks' ≤ 3000000 → n * C + R + 2 ≤ f'' →
            Out K X a b (diffBisect_l2 K f'' 0 [X] a b (a.length : Int) (b.length : Int) (m : Int) (m : Int) ((2 * m : Nat) : Int) (v.set (Int.toNat ((m : Int) + k)) (far a b v m d k : Int)) w ((a.length : Int) - b.length) fr ks' ke' ls le (d : Int) (k + 2)) :=
          fun ks' ke' f'' hp hnd hk1 hk3 hk4 hff => walk1 h2 hl hm hm2 hm3 hT hfr C R hC rest n f'' (k + 2) ks' ke' _ hp hnd (by omega) (by omega) hk3 hk4 hff
        have nd' : (¬ (far a b v m d k ≤ a.length ∧ (far a b v m d k : Int) - k ≤ b.length)) → fr = true → ∀ x y : Nat, Best a b d x y → ed a b + 1 = 2 * d → k + 2 ≤ (x : Int) - y := by
          intro hno hf x y hb hTT
          have h1 := nd hf x y hb hTT
          have h3 := hb.diag
          have hp := h.par
          by_cases hxy : (x : Int) - y = k
          · exact absurd (h.best_in hk hm hm2 hb hxy) hno
          · omega
        by_cases hR : a.length < far a b v m d k
        · rw [br_lt (by omega), wrap_id (x := ke + 2) (by omega) (by omega)]
          have hp := h.visitR hk hm hm2 hR
          have hbe := hp.be
          have hed := ed_diff a b
          exact more ks (ke + 2) fu hp (nd' (by omega)) (by omega) (by omega) hks (by omega)
        · rw [br_ge (by omega)]
          by_cases hD : (b.length : Int) < (far a b v m d k : Int) - k
          · rw [br_lt hD, wrap_id (x := ks + 2) (by omega) (by omega)]
            have hp := h.visitD hk hm hm2 hD
            have hbs := hp.bs
            have hed := ed_diff a b
            exact more (ks + 2) ke fu hp (nd' (by omega)) (by omega) hke (by omega) (by omega)
          · rw [br_ge (by omega)]
            have hp := h.visit0 hk hm hm2
            cases hfc : fr with
            | false =>
              rw [br_false]
              rw [hfc] at more
              exact more ks ke fu hp (fun e => by cases e) (Int.le_refl _) hke hks (by omega)
            | true =>
              rw [br_true]
              have hodd := hfr.1 hfc
              rw [hfc] at more
              have h3 : ∀ j : Int, j = (m : Int) + ((a.length : Int) - b.length) → IntKind.i64.wrap (IntKind.i64.wrap j - k) = (m : Int) + ((a.length : Int) - b.length - k) := fun j hj => by rw [wrap_id (x := j) (by omega) (by omega), wrap_id (by omega) (by omega)]; omega
              rw [h3 _ rfl]
              clear h3
              -- no meeting: on
              have go : ¬ (-(m : Int) ≤ (a.length : Int) - b.length - k ∧ (a.length : Int) - b.length - k < m ∧ vat w m ((a.length : Int) - b.length - k) ≠ -1 ∧ (a.length : Int) - vat w m ((a.length : Int) - b.length - k) ≤ far a b v m d k) → ∀ f'' : Nat, n * C + R + 2 ≤ f'' →
                  Out K X a b (diffBisect_l2 K f'' 0 [X] a b (a.length : Int) (b.length : Int) (m : Int) (m : Int) ((2 * m : Nat) : Int) (v.set (Int.toNat ((m : Int) + k)) (far a b v m d k : Int)) w ((a.length : Int) - b.length) true ks ke ls le (d : Int) (k + 2)) := by
                intro hno f'' hff
                refine more ks ke f'' hp (fun _ x y hb hTT => ?_) (Int.le_refl _) hke hks hff
                have h1 := nd hfc x y hb hTT
                have h3 := hb.diag
                have hpar := h.par
                by_cases hxy : (x : Int) - y = k
                · exact absurd (front_miss h h2 hk hm hm2 hTT hb hxy).2.2 hno
                · omega
              by_cases hb1 : -(m : Int) ≤ (a.length : Int) - b.length - k
              · rw [br_le (by omega)]
                by_cases hb2 : (a.length : Int) - b.length - k < m
                · have hbd := h2.ent.bd hb1 hb2 (by omega)
                  simp only [List.length_reverse] at hbd
                  rw [br_lt (by omega), chk_le (by omega), chk_lt (by omega), rdV w m ((a.length : Int) - b.length - k) _ rfl]
                  obtain ⟨fu, rfl⟩ : ∃ m, fu = m + 1 := ⟨fu - 1, by omega⟩
                  rw [diffBisect_j13_eq, rdV w m ((a.length : Int) - b.length - k) _ rfl]
                  by_cases hz : vat w m ((a.length : Int) - b.length - k) = -1
                  · rw [br_not, br_eq hz, wrap_id (x := k + 2) (by omega) (by omega)]
                    exact go (fun e => e.2.2.1 hz) fu (by omega)
                  · rw [br_not, br_ne hz, chk_le (by omega), chk_lt (by omega), wrap_id (x := (a.length : Int) - vat w m ((a.length : Int) - b.length - k)) (by omega) (by omega)]
                    by_cases hmeet : (a.length : Int) - vat w m ((a.length : Int) - b.length - k) ≤ far a b v m d k
                    · rw [br_le hmeet]
                      obtain ⟨x, y, e1, e2, e3, e4, e5, e6, e7⟩ := front_hit h h2 hk hm hm2 hodd hT (by omega) (by omega) rfl hb1 hb2 hz hmeet
                      refine .inr ⟨x, y, e3, e4, e5, fun h2T => by omega, ?_⟩
                      rw [nth1, ← e2, ← e1]
                      cases diffBisectSplit K X a b (x : Int) (y : Int) <;> rfl
                    · rw [br_gt (by omega), wrap_id (x := k + 2) (by omega) (by omega)]
                      exact go (fun e => hmeet e.2.2.2) fu (by omega)
                · rw [br_ge (by omega)]
                  obtain ⟨fu, rfl⟩ : ∃ m, fu = m + 1 := ⟨fu - 1, by omega⟩
                  rw [diffBisect_j13_eq, br_false, wrap_id (x := k + 2) (by omega) (by omega)]
                  exact go (fun e => hb2 e.2.1) fu (by omega)
              · rw [br_gt (by omega)]
                obtain ⟨fu, rfl⟩ : ∃ m, fu = m + 1 := ⟨fu - 1, by omega⟩
                rw [diffBisect_j13_eq, br_false, wrap_id (x := k + 2) (by omega) (by omega)]
                exact go (fun e => hb1 e.1) fu (by omega)
    · rw [br_gt (by omega)]
      refine rest v ks ke f (h.done (by omega)) (fun hf => ?_) (by omega)
      apply Classical.byContradiction
      intro hno
      obtain ⟨x, y, hb⟩ := Best.exists_ (a := a) (b := b) (d := d) (by have := hfr.1 hf; have := ed_parity a b; omega)
      have h1 := nd hf x y hb (by omega)
      have h3 := Best.top h.be hb
      omega
end
end Go.Proofs.YtmlfecgppnffgaaDoor.E
