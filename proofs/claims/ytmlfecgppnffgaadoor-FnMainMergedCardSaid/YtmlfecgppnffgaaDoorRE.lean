import Derived.Test.YtmlfecgppnffgaaDoorRD
/- The other walk of diffBisect as the code has it. -/
set_option linter.unusedVariables false
set_option linter.unusedSimpArgs false
namespace Go.Proofs.YtmlfecgppnffgaaDoor.E
open Go.Ev
section
variable (K : Nat) (X : TS1.den) (a b : List Int) (m : Nat) (fr : Bool)
theorem snake2 (hl : a.length + b.length ≤ 1000000) (v w : List Int) (ks ke ls le D k p : Int) : ∀ (n x y f : Nat), cpl (a.reverse.drop x) (b.reverse.drop y) = n → x ≤ 3000000 → y ≤ 3000000 → 2 * n + 3 ≤ f → ∃ f', f ≤ f' + 2 * n + 2 ∧
    diffBisect_l5 K f 0 [X] a b (a.length : Int) (b.length : Int) (m : Int) (m : Int) ((2 * m : Nat) : Int) v w ((a.length : Int) - b.length) fr ks ke ls le D k p (x : Int) (y : Int) =
    diffBisect_j15 K f' 0 [X] a b (a.length : Int) (b.length : Int) (m : Int) (m : Int) ((2 * m : Nat) : Int) v w ((a.length : Int) - b.length) fr ks ke ls le D k p ((x + n : Nat) : Int) ((y + n : Nat) : Int)
  | n, x, y, f, hn, hx3, hy3, hf => by
    obtain ⟨f, rfl⟩ : ∃ m, f = m + 1 := ⟨f - 1, by omega⟩
    rw [diffBisect_l5_eq]
    by_cases hx : x < a.length
    · by_cases hy : y < b.length
      · rw [br_lt (by omega), br_lt (by omega)]
        obtain ⟨f, rfl⟩ : ∃ m, f = m + 1 := ⟨f - 1, by omega⟩
        rw [diffBisect_j14_eq, wrap_id (x := (a.length : Int) - x) (by omega) (by omega), wrap_id (x := (b.length : Int) - y) (by omega) (by omega), wrap_id (x := (a.length : Int) - x - 1) (by omega) (by omega), wrap_id (x := (b.length : Int) - y - 1) (by omega) (by omega), chk_le (by omega), chk_lt (by omega), chk_le (by omega), chk_lt (by omega), show (a.length : Int) - x - 1 = ((a.length - 1 - x : Nat) : Int) by omega, show (b.length : Int) - y - 1 = ((b.length - 1 - y : Nat) : Int) by omega, rdI a (a.length - 1 - x) (by omega), rdI b (b.length - 1 - y) (by omega)]
        rw [cpl_step2 a.reverse b.reverse x y (by simp; omega) (by simp; omega), List.getElem_reverse, List.getElem_reverse] at hn
        by_cases he : a[a.length - 1 - x]'(by omega) = b[b.length - 1 - y]'(by omega)
        · rw [if_pos he] at hn
          rw [br_not, br_eq he]
          cases n with
          | zero => omega
          | succ n =>
            obtain ⟨f', h1, h2⟩ := snake2 hl v w ks ke ls le D k p n (x + 1) (y + 1) f (by omega) (by omega) (by omega) (by omega)
            refine ⟨f', by omega, ?_⟩
            rw [wrap_id (by omega) (by omega), wrap_id (by omega) (by omega), show (x : Int) + 1 = ((x + 1 : Nat) : Int) by omega, show (y : Int) + 1 = ((y + 1 : Nat) : Int) by omega, h2, show x + 1 + n = x + (n + 1) by omega, show y + 1 + n = y + (n + 1) by omega]
        · rw [if_neg he] at hn
          subst hn
          rw [br_not, br_ne he]
          exact ⟨f, by omega, rfl⟩
      · rw [br_lt (by omega), br_ge (by omega)]
        rw [cpl_out _ _ (.inr (List.drop_eq_nil_of_le (by simp; omega)))] at hn
        subst hn
        exact ⟨f, by omega, rfl⟩
    · rw [br_ge (by omega)]
      rw [cpl_out _ _ (.inl (List.drop_eq_nil_of_le (by simp; omega)))] at hn
      subst hn
      exact ⟨f, by omega, rfl⟩
variable {K X a b m fr} {d : Nat} {v w : List Int} {ks0 k ks ke lsp lep ls0 l ls le : Int}
theorem enter2 (h : Pst a.reverse b.reverse m d w lsp lep ls0 k ls le) (hl : a.length + b.length ≤ 1000000) (hm : d < m) (hm2 : 2 ≤ m) (hm3 : m ≤ 1000000) (hk : k ≤ d - le) (f : Nat) :
    diffBisect_j8 K (f + 2) 0 [X] a b (a.length : Int) (b.length : Int) (m : Int) (m : Int) ((2 * m : Nat) : Int) v w ((a.length : Int) - b.length) fr ks ke ls le (d : Int) k =
    diffBisect_j12 K f 0 [X] a b (a.length : Int) (b.length : Int) (m : Int) (m : Int) ((2 * m : Nat) : Int) v w ((a.length : Int) - b.length) fr ks ke ls le (d : Int) k ((m : Int) + k) (pick w m d k) := by
  have hlen := h.ent.len
  have hkd := h.kd hk
  have hp := h.par
  rw [diffBisect_j8_eq, wrap_id (x := 0 - (d : Int)) (by omega) (by omega), wrap_id (x := (m : Int) + k) (by omega) (by omega)]
  by_cases h1 : k = -(d : Int)
  · rw [br_eq (by omega), diffBisect_j9_eq, br_true, wrap_id (x := (m : Int) + k + 1) (by omega) (by omega), chk_le (by omega), chk_lt (by omega), rdV w m (k + 1) _ (by omega)]
    unfold pick
    rw [if_pos (.inl h1)]
  · rw [br_ne (by omega)]
    have b1 := h.ent.bd (k := k - 1) (by omega) (by omega) (by omega)
    simp only [List.length_reverse] at b1
    by_cases h2 : k = (d : Int)
    · rw [br_not, br_eq h2, diffBisect_j9_eq, br_false, wrap_id (x := (m : Int) + k - 1) (by omega) (by omega), chk_le (by omega), chk_lt (by omega), rdV w m (k - 1) _ (by omega), wrap_id (by omega) (by omega)]
      unfold pick
      rw [if_neg (by rintro (e | ⟨e, _⟩) <;> omega)]
    · rw [br_not, br_ne h2, wrap_id (x := (m : Int) + k - 1) (by omega) (by omega), wrap_id (x := (m : Int) + k + 1) (by omega) (by omega), chk_le (by omega), chk_lt (by omega), chk_le (by omega), chk_lt (by omega), diffBisect_j9_eq, rdV w m (k - 1) _ (by omega), rdV w m (k + 1) _ (by omega)]
      unfold pick
      by_cases h3 : vat w m (k - 1) < vat w m (k + 1)
      · rw [br_lt h3, if_pos (.inr ⟨h2, h3⟩), wrap_id (x := (m : Int) + k + 1) (by omega) (by omega), chk_le (by omega), chk_lt (by omega), rdV w m (k + 1) _ (by omega)]
      · rw [br_ge (by omega), if_neg (by rintro (e | ⟨_, e⟩) <;> omega), wrap_id (x := (m : Int) + k - 1) (by omega) (by omega), chk_le (by omega), chk_lt (by omega), rdV w m (k - 1) _ (by omega), wrap_id (by omega) (by omega)]
/-- The other walk, one pass. -/
theorem walk2 (h1 : Done a b m d v ks0 ks ke) (hl : a.length + b.length ≤ 1000000) (hm : d < m) (hm2 : 2 ≤ m) (hm3 : m ≤ 1000000) (hT : 2 * d ≤ ed a b) (hfr : fr = true ↔ ((a.length : Int) - b.length) % 2 = 1) (C R : Nat) (hC : C = 2 * a.length + 20)
    (rest : ∀ (w' : List Int) (ls' le' : Int) (f' : Nat), Done a.reverse b.reverse m d w' ls0 ls' le' → 2 * d + 1 ≤ ed a b → R ≤ f' → Out K X a b (diffBisect_l1 K f' 0 [X] a b (a.length : Int) (b.length : Int) (m : Int) (m : Int) ((2 * m : Nat) : Int) v w' ((a.length : Int) - b.length) fr ks ke ls' le' ((d + 1 : Nat) : Int))) :
    ∀ (n f : Nat) (k ls le : Int) (w : List Int), Pst a.reverse b.reverse m d w lsp lep ls0 k ls le → (fr = false → ∀ x y : Nat, Best a.reverse b.reverse d x y → ed a b = 2 * d → k ≤ (x : Int) - y) → (d : Int) - le - k < 2 * n → k ≤ 1000002 → le ≤ 3000000 → ls ≤ 3000000 → n * C + R + 2 ≤ f →
      Out K X a b (diffBisect_l3 K f 0 [X] a b (a.length : Int) (b.length : Int) (m : Int) (m : Int) ((2 * m : Nat) : Int) v w ((a.length : Int) - b.length) fr ks ke ls le (d : Int) k)
  | n, f, k, ls, le, w, h, nd, hn, hk2, hke, hks, hf => by
    have ho := h.ord
    obtain ⟨f, rfl⟩ : ∃ m, f = m + 1 := ⟨f - 1, by omega⟩
    rw [diffBisect_l3_eq, wrap_id (x := (d : Int) - le) (by omega) (by omega)]
    by_cases hk : k ≤ d - le
    · rw [br_le hk]
      cases n with
      | zero => omega
      | succ n =>
        have hmul : (n + 1) * C = n * C + C := Nat.succ_mul n C
        have hkd := h.kd hk
        have hlen := h.ent.len
        have hlen2 := h1.ent.len
        obtain ⟨s1, s2, _, _⟩ := h.start hk hm hm2
        obtain ⟨f1, f2, f3⟩ := h.far_ok hk hm hm2
        have hLb := f3
        unfold Lb at hLb
        simp only [List.length_reverse, ed_reverse] at hLb
        have hcp := cpl_le (a.reverse.drop (pick w m d k).toNat) (b.reverse.drop (pick w m d k - k).toNat)
        simp only [List.length_drop, List.length_reverse] at hcp
        have hfar : far a.reverse b.reverse w m d k = (pick w m d k).toNat + cpl (a.reverse.drop (pick w m d k).toNat) (b.reverse.drop (pick w m d k - k).toNat) := rfl
        obtain ⟨f, rfl⟩ : ∃ m, f = m + 1 := ⟨f - 1, by omega⟩
        obtain ⟨f, rfl⟩ : ∃ m, f = m + 1 := ⟨f - 1, by omega⟩
        rw [show f + 1 + 1 = f + 2 from rfl, enter2 h hl hm hm2 hm3 hk f]
        obtain ⟨f, rfl⟩ : ∃ m, f = m + 1 := ⟨f - 1, by omega⟩
        rw [diffBisect_j12_eq, wrap_id (x := pick w m d k - k) (by omega) (by omega)]
        obtain ⟨fu, g1, g2⟩ := snake2 K X a b m fr hl v w ks ke ls le (d : Int) k ((m : Int) + k) _ (pick w m d k).toNat (pick w m d k - k).toNat f rfl (by omega) (by omega) (by omega)
        rw [show (((pick w m d k).toNat : Nat) : Int) = pick w m d k by omega, show (((pick w m d k - k).toNat : Nat) : Int) = pick w m d k - k by omega] at g2
        rw [g2, ← hfar]
        clear g2
        have hy0 : (((pick w m d k - k).toNat + cpl (a.reverse.drop (pick w m d k).toNat) (b.reverse.drop (pick w m d k - k).toNat) : Nat) : Int) = (far a.reverse b.reverse w m d k : Int) - k := by omega
        rw [hy0]
        obtain ⟨fu, rfl⟩ : ∃ m, fu = m + 1 := ⟨fu - 1, by omega⟩
        rw [diffBisect_j15_eq, chk_le (by omega), chk_lt (by omega), wrap_id (x := k + 2) (by omega) (by omega)]
        -- the walk goes on
        have more : ∀ (ls' le' : Int) (f'' : Nat), Pst a.reverse b.reverse m d (w.set (Int.toNat ((m : Int) + k)) (far a.reverse b.reverse w m d k : Int)) lsp lep ls0 (k + 2) ls' le' → (fr = false → ∀ x y : Nat, Best a.reverse b.reverse d x y → ed a b = 2 * d → k + 2 ≤ (x : Int) - y) → le ≤ le' → le' ≤ 3000000 → ls' ≤ 3000000 → n * C + R + 2 ≤ f'' →
            Out K X a b (diffBisect_l3 K f'' 0 [X] a b (a.length : Int) (b.length : Int) (m : Int) (m : Int) ((2 * m : Nat) : Int) v (w.set (Int.toNat ((m : Int) + k)) (far a.reverse b.reverse w m d k : Int)) ((a.length : Int) - b.length) fr ks ke ls' le' (d : Int) (k + 2)) :=
          fun ls' le' f'' hp hnd hk1 hk3 hk4 hff => walk2 h1 hl hm hm2 hm3 hT hfr C R hC rest n f'' (k + 2) ls' le' _ hp hnd (by omega) (by omega) hk3 hk4 hff
        have nd' : (¬ (far a.reverse b.reverse w m d k ≤ a.length ∧ (far a.reverse b.reverse w m d k : Int) - k ≤ b.length)) → fr = false → ∀ x y : Nat, Best a.reverse b.reverse d x y → ed a b = 2 * d → k + 2 ≤ (x : Int) - y := by
          intro hno hf x y hb hTT
          have h1 := nd hf x y hb hTT
          have h3 := hb.diag
          have hp := h.par
          by_cases hxy : (x : Int) - y = k
          · have hbi := h.best_in hk hm hm2 hb hxy
            simp only [List.length_reverse] at hbi
            exact absurd hbi hno
          · omega
        by_cases hR : a.length < far a.reverse b.reverse w m d k
        · rw [br_lt (by omega), wrap_id (x := le + 2) (by omega) (by omega)]
          have hp := h.visitR hk hm hm2 (by simpa using hR)
          have hbe := hp.be
          have hed := ed_diff a b
          simp only [List.length_reverse, ed_reverse] at hbe
          exact more ls (le + 2) fu hp (nd' (by omega)) (by omega) (by omega) hks (by omega)
        · rw [br_ge (by omega)]
          by_cases hD : (b.length : Int) < (far a.reverse b.reverse w m d k : Int) - k
          · rw [br_lt hD, wrap_id (x := ls + 2) (by omega) (by omega)]
            have hp := h.visitD hk hm hm2 (by simpa using hD)
            have hbs := hp.bs
            have hed := ed_diff a b
            simp only [List.length_reverse, ed_reverse] at hbs
            exact more (ls + 2) le fu hp (nd' (by omega)) (by omega) hke (by omega) (by omega)
          · rw [br_ge (by omega)]
            have hp := h.visit0 hk hm hm2
            cases hfc : fr with
            | true =>
              rw [br_not, br_true]
              rw [hfc] at more
              exact more ls le fu hp (fun e => by cases e) (Int.le_refl _) hke hks (by omega)
            | false =>
              rw [br_not, br_false]
              rw [hfc] at more
              have h3 : ∀ j : Int, j = (m : Int) + ((a.length : Int) - b.length) → IntKind.i64.wrap (IntKind.i64.wrap j - k) = (m : Int) + ((a.length : Int) - b.length - k) := fun j hj => by rw [wrap_id (x := j) (by omega) (by omega), wrap_id (by omega) (by omega)]; omega
              rw [h3 _ rfl]
              clear h3
              -- no meeting: on
              have go : ¬ (-(m : Int) ≤ (a.length : Int) - b.length - k ∧ (a.length : Int) - b.length - k < m ∧ vat v m ((a.length : Int) - b.length - k) ≠ -1 ∧ (a.length : Int) - far a.reverse b.reverse w m d k ≤ vat v m ((a.length : Int) - b.length - k)) → ∀ f'' : Nat, n * C + R + 2 ≤ f'' →
                  Out K X a b (diffBisect_l3 K f'' 0 [X] a b (a.length : Int) (b.length : Int) (m : Int) (m : Int) ((2 * m : Nat) : Int) v (w.set (Int.toNat ((m : Int) + k)) (far a.reverse b.reverse w m d k : Int)) ((a.length : Int) - b.length) false ks ke ls le (d : Int) (k + 2)) := by
                intro hno f'' hff
                refine more ls le f'' hp (fun _ x y hb hTT => ?_) (Int.le_refl _) hke hks hff
                have h1' := nd hfc x y hb hTT
                have h3 := hb.diag
                have hpar := h.par
                by_cases hxy : (x : Int) - y = k
                · exact absurd (rear_miss h1 h hk hm hm2 hTT hb hxy).2.2 hno
                · omega
              by_cases hb1 : -(m : Int) ≤ (a.length : Int) - b.length - k
              · rw [br_le (by omega)]
                by_cases hb2 : (a.length : Int) - b.length - k < m
                · have hbd := h1.ent.bd hb1 hb2 (by omega)
                  rw [br_lt (by omega), chk_le (by omega), chk_lt (by omega), rdV v m ((a.length : Int) - b.length - k) _ rfl]
                  obtain ⟨fu, rfl⟩ : ∃ m, fu = m + 1 := ⟨fu - 1, by omega⟩
                  rw [diffBisect_j16_eq, rdV v m ((a.length : Int) - b.length - k) _ rfl]
                  by_cases hz : vat v m ((a.length : Int) - b.length - k) = -1
                  · rw [br_not, br_eq hz, wrap_id (x := k + 2) (by omega) (by omega)]
                    exact go (fun e => e.2.2.1 hz) fu (by omega)
                  · rw [br_not, br_ne hz, chk_le (by omega), chk_lt (by omega), wrap_id (x := (a.length : Int) - (far a.reverse b.reverse w m d k : Int)) (by omega) (by omega)]
                    by_cases hmeet : (a.length : Int) - far a.reverse b.reverse w m d k ≤ vat v m ((a.length : Int) - b.length - k)
                    · rw [br_le hmeet]
                      obtain ⟨x, y, e1, e2, e3, e4, e5, e6, e7⟩ := rear_hit h1 h hk hm hm2 hT (by omega) (by omega) rfl hb1 hb2 hz hmeet
                      refine .inr ⟨x, y, e3, e4, e5, fun h2T => by omega, ?_⟩
                      rw [nth1, wrap_id (x := (m : Int) + vat v m ((a.length : Int) - b.length - k)) (by omega) (by omega), wrap_id (x := (m : Int) + vat v m ((a.length : Int) - b.length - k) - _) (by omega) (by omega), show (m : Int) + vat v m ((a.length : Int) - b.length - k) - ((m : Int) + ((a.length : Int) - b.length - k)) = (y : Int) by omega, ← e1]
                      cases diffBisectSplit K X a b (x : Int) (y : Int) <;> rfl
                    · rw [br_gt (by omega), wrap_id (x := k + 2) (by omega) (by omega)]
                      exact go (fun e => hmeet e.2.2.2) fu (by omega)
                · rw [br_ge (by omega)]
                  obtain ⟨fu, rfl⟩ : ∃ m, fu = m + 1 := ⟨fu - 1, by omega⟩
                  rw [diffBisect_j16_eq, br_false, wrap_id (x := k + 2) (by omega) (by omega)]
                  exact go (fun e => hb2 e.2.1) fu (by omega)
              · rw [br_gt (by omega)]
                obtain ⟨fu, rfl⟩ : ∃ m, fu = m + 1 := ⟨fu - 1, by omega⟩
                rw [diffBisect_j16_eq, br_false, wrap_id (x := k + 2) (by omega) (by omega)]
                exact go (fun e => hb1 e.1) fu (by omega)
    · rw [br_gt (by omega), wrap_id (x := (d : Int) + 1) (by omega) (by omega), show (d : Int) + 1 = ((d + 1 : Nat) : Int) by omega]
      refine rest w ls le f (h.done (by omega)) ?_ (by omega)
      apply Classical.byContradiction
      intro hno
      have hTd : ed a b = 2 * d := by omega
      cases hfc : fr with
      | true =>
        have h1 := hfr.1 hfc
        have := ed_parity a b
        omega
      | false =>
        obtain ⟨x, y, hb⟩ := Best.exists_ (a := a.reverse) (b := b.reverse) (d := d) (by rw [ed_reverse]; omega)
        have h1 := nd hfc x y hb hTd
        have h3 := Best.top h.be hb
        omega
end
end Go.Proofs.YtmlfecgppnffgaaDoor.E
