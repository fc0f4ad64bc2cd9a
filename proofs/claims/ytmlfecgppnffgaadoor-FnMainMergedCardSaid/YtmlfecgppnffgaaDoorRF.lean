import Derived.Test.YtmlfecgppnffgaaDoorRE
/- diffBisect: the whole. -/
set_option linter.unusedVariables false
set_option linter.unusedSimpArgs false
namespace Go.Proofs.YtmlfecgppnffgaaDoor.E
open Go.Ev
section
variable {K : Nat} {X : TS1.den} {a b : List Int} {m : Nat} {fr : Bool}
theorem Pst.nd {d : Nat} {v : List Int} {ksp kep k ks ke : Int} (h : Pst a b m d v ksp kep ks k ks ke) {x y : Nat} (hb : Best a b d x y) : -(d : Int) + ks ≤ (x : Int) - y := by
  have h1 := h.bs0
  have h2 := hb.rest
  have h3 := hb.diag
  omega
theorem steps (hl : a.length + b.length ≤ 1000000) (hm2 : 2 ≤ m) (hmm : m = (a.length + b.length + 1) / 2) (hfr : fr = true ↔ ((a.length : Int) - b.length) % 2 = 1) (C D : Nat) (hC : C = 2 * a.length + 20) (hD : D = 2 * (m * C) + 20) :
    ∀ (n d f : Nat) (v w : List Int) (ksp kep ks ke lsp lep ls le : Int), d + n = m → Pst a b m d v ksp kep ks (-(d : Int) + ks) ks ke → Pst a.reverse b.reverse m d w lsp lep ls (-(d : Int) + ls) ls le → 2 * d ≤ ed a b + 1 → n * D + 4 ≤ f →
      Out K X a b (diffBisect_l1 K f 0 [X] a b (a.length : Int) (b.length : Int) (m : Int) (m : Int) ((2 * m : Nat) : Int) v w ((a.length : Int) - b.length) fr ks ke ls le (d : Int))
  | 0, d, f, v, w, ksp, kep, ks, ke, lsp, lep, ls, le, hn, h1, h2, hT, hf => by
    obtain ⟨f, rfl⟩ : ∃ m, f = m + 1 := ⟨f - 1, by omega⟩
    rw [diffBisect_l1_eq, br_ge (by omega)]
    obtain ⟨f, rfl⟩ : ∃ m, f = m + 1 := ⟨f - 1, by omega⟩
    rw [diffBisect_j3_eq]
    refine .inl ⟨rfl, ?_⟩
    have := ed_parity a b
    have := ed_le_sum a b
    omega
  | n + 1, d, f, v, w, ksp, kep, ks, ke, lsp, lep, ls, le, hn, h1, h2, hT, hf => by
    have hmul : (n + 1) * D = n * D + D := Nat.succ_mul n D
    have hdC : (d + 1) * C ≤ m * C := Nat.mul_le_mul_right C (by omega)
    have ho1 := h1.ord
    have ho2 := h2.ord
    have b1 := h1.bs
    have b2 := h1.be
    have b3 := h2.bs
    have b4 := h2.be
    simp only [List.length_reverse, ed_reverse] at b3 b4
    have hdf := ed_diff a b
    obtain ⟨f, rfl⟩ : ∃ m, f = m + 1 := ⟨f - 1, by omega⟩
    rw [diffBisect_l1_eq, br_lt (by omega)]
    obtain ⟨f, rfl⟩ : ∃ m, f = m + 1 := ⟨f - 1, by omega⟩
    rw [diffBisect_j2_eq, wrap_id (x := 0 - (d : Int)) (by omega) (by omega), wrap_id (x := 0 - (d : Int) + ks) (by omega) (by omega), show 0 - (d : Int) + ks = -(d : Int) + ks by omega]
    refine walk1 h2 hl (by omega) hm2 (by omega) hT hfr C ((d + 1) * C + (n * D + 4) + 10) hC (fun v' ks' ke' fq hdone hT2 hf' => ?_) (d + 1) f _ ks ke v h1 (fun _ x y hb _ => h1.nd hb) (by omega) (by omega) (by omega) (by omega) (by omega)
    have hT3 : 2 * d ≤ ed a b := by
      cases hfc : fr with
      | true => exact hT2 hfc
      | false =>
        have : ¬ ((a.length : Int) - b.length) % 2 = 1 := fun e => by have := hfr.2 e; rw [hfc] at this; cases this
        have := ed_parity a b
        omega
    obtain ⟨fq, rfl⟩ : ∃ m, fq = m + 1 := ⟨fq - 1, by omega⟩
    rw [diffBisect_j5_eq, wrap_id (x := 0 - (d : Int)) (by omega) (by omega), wrap_id (x := 0 - (d : Int) + ls) (by omega) (by omega), show 0 - (d : Int) + ls = -(d : Int) + ls by omega]
    refine walk2 hdone hl (by omega) hm2 (by omega) hT3 hfr C (n * D + 4) hC (fun w' ls' le' f'' hdone2 hT4 hf'' => ?_) (d + 1) fq _ ls le w h2 (fun _ x y hb _ => h2.nd hb) (by omega) (by omega) (by omega) (by omega) (by omega)
    have g1 := hdone.next hT4
    have g2 := hdone2.next (by rw [ed_reverse]; exact hT4)
    rw [show -((d : Int) + 1) + ks' = -((d + 1 : Nat) : Int) + ks' by omega] at g1
    rw [show -((d : Int) + 1) + ls' = -((d + 1 : Nat) : Int) + ls' by omega] at g2
    exact steps hl hm2 hmm hfr C D hC hD n (d + 1) f'' v' w' _ _ ks' ke' _ _ ls' le' (by omega) g1 g2 (by omega) hf''
theorem fill_set (i n : Nat) : (List.replicate i (-1 : Int) ++ List.replicate (n + 1) 0).set i (-1) = List.replicate (i + 1) (-1) ++ List.replicate n 0 := by
  rw [List.set_append_right _ _ (by simp), List.length_replicate, Nat.sub_self, List.replicate_succ, List.set_cons_zero, List.replicate_succ', List.append_assoc]
  rfl
theorem fill (fr0 : Bool) (hfr0 : fr0 = (!eqI (Int.tmod ((a.length : Int) - b.length) 2) 0)) (hl : a.length + b.length ≤ 1000000) (hm2 : 2 ≤ m) (hm3 : m ≤ 1000000) : ∀ (n i f : Nat), i + n = 2 * m → 2 * n + 3 ≤ f → ∃ f', f ≤ f' + 2 * n + 3 ∧
    diffBisect_l0 K f 0 [X] a b (a.length : Int) (b.length : Int) (m : Int) (m : Int) ((2 * m : Nat) : Int) (List.replicate i (-1 : Int) ++ List.replicate n 0) (List.replicate i (-1 : Int) ++ List.replicate n 0) ((2 * m : Nat) : Int) (i : Int) =
    diffBisect_l1 K f' 0 [X] a b (a.length : Int) (b.length : Int) (m : Int) (m : Int) ((2 * m : Nat) : Int) ((List.replicate (2 * m) (-1 : Int)).set (m + 1) 0) ((List.replicate (2 * m) (-1 : Int)).set (m + 1) 0) ((a.length : Int) - b.length) fr0 0 0 0 0 0
  | 0, i, f, hi, hf => by
    obtain ⟨f, rfl⟩ : ∃ m, f = m + 1 := ⟨f - 1, by omega⟩
    rw [diffBisect_l0_eq, br_ge (by omega)]
    obtain ⟨f, rfl⟩ : ∃ m, f = m + 1 := ⟨f - 1, by omega⟩
    have hl0 : (List.replicate i (-1 : Int) ++ List.replicate 0 0) = List.replicate (2 * m) (-1) := by simp; omega
    rw [hl0, diffBisect_j1_eq, wrap_id (x := (m : Int) + 1) (by omega) (by omega), List.length_replicate, chk_le (by omega), chk_lt (by omega), chk_le (by omega), chk_lt (by omega), chk_neq (by omega), wrap_id (x := (a.length : Int) - b.length) (by omega) (by omega), ← hfr0, show Int.toNat ((m : Int) + 1) = m + 1 by omega]
    exact ⟨f, by omega, rfl⟩
  | n + 1, i, f, hi, hf => by
    obtain ⟨f, rfl⟩ : ∃ m, f = m + 1 := ⟨f - 1, by omega⟩
    rw [diffBisect_l0_eq, br_lt (by omega)]
    obtain ⟨f, rfl⟩ : ∃ m, f = m + 1 := ⟨f - 1, by omega⟩
    have hlen : ((List.replicate i (-1 : Int) ++ List.replicate (n + 1) 0).length : Int) = (i : Int) + n + 1 := by simp; omega
    rw [diffBisect_j0_eq, hlen, chk_le (by omega), chk_lt (by omega), chk_le (by omega), chk_lt (by omega), Int.toNat_natCast, fill_set, wrap_id (by omega) (by omega), show (i : Int) + 1 = ((i + 1 : Nat) : Int) by omega]
    obtain ⟨f', g1, g2⟩ := fill fr0 hfr0 hl hm2 hm3 n (i + 1) f (by omega) (by omega)
    exact ⟨f', by omega, g2⟩
theorem odd_iff (δ : Int) : (!eqI (Int.tmod δ 2) 0) = true ↔ δ % 2 = 1 := by
  rw [eqI_eq]
  have h : Int.tmod δ 2 = 0 ↔ δ % 2 = 0 := by
    constructor
    · intro e
      exact Int.emod_eq_zero_of_dvd (Int.dvd_of_tmod_eq_zero e)
    · intro e
      exact Int.tmod_eq_zero_of_dvd (Int.dvd_of_emod_eq_zero e)
  by_cases e : Int.tmod δ 2 = 0
  · have := h.1 e
    simp [e, this]
  · have : ¬ δ % 2 = 0 := fun x => e (h.2 x)
    simp [e]
    omega
/-- A bisection. -/
theorem bisect_ok (X : TS1.den) (a b : List Int) (h3 : 3 ≤ a.length + b.length) (hl : a.length + b.length ≤ 100000) (K : Nat) (hK : (a.length + b.length + 1) / 2 * (2 * ((a.length + b.length + 1) / 2 * (2 * a.length + 20)) + 20) + 4 * ((a.length + b.length + 1) / 2) + 100 ≤ K) : Out K X a b (diffBisect (K + 1) X a b) := by
  obtain ⟨m, hm⟩ : ∃ m : Nat, m = (a.length + b.length + 1) / 2 := ⟨_, rfl⟩
  obtain ⟨C, hC⟩ : ∃ C : Nat, C = 2 * a.length + 20 := ⟨_, rfl⟩
  obtain ⟨D, hD⟩ : ∃ D : Nat, D = 2 * (m * C) + 20 := ⟨_, rfl⟩
  rw [← hm, ← hC, ← hD] at hK
  have ht : Int.tdiv ((a.length : Int) + (b.length : Int) + 1) 2 = (m : Int) := by
    rw [Int.tdiv_eq_ediv_of_nonneg (by omega)]
    omega
  rw [diffBisect_eq, wrap_id (x := (a.length : Int) + (b.length : Int)) (by omega) (by omega), wrap_id (x := (a.length : Int) + (b.length : Int) + 1) (by omega) (by omega), ht, wrap_id (x := (m : Int)) (by omega) (by omega), show 2 * (m : Int) = ((2 * m : Nat) : Int) by omega, wrap_id (x := ((2 * m : Nat) : Int)) (by omega) (by omega), Int.toNat_natCast, List.length_replicate,
    chk_neq (by omega), chk_le (by omega), chk_le (by omega), chk_lt (by omega), chk_le (by omega), chk_le (by omega), chk_lt (by omega)]
  obtain ⟨f', g1, g2⟩ := fill (K := K) (X := X) (a := a) (b := b) (m := m) _ rfl (by omega) (by omega) (by omega) (2 * m) 0 K (by omega) (by omega)
  rw [show List.replicate 0 (-1 : Int) ++ List.replicate (2 * m) 0 = List.replicate (2 * m) 0 from rfl] at g2
  have g2' := g2
  rw [show ((0 : Nat) : Int) = 0 from rfl] at g2'
  rw [g2']
  have s1 := Pst.first a b m (by omega)
  have s2 := Pst.first a.reverse b.reverse m (by omega)
  exact steps (K := K) (X := X) (by omega) (by omega) hm (odd_iff _) C D hC hD m 0 f' _ _ 0 0 0 0 0 0 0 0 (by omega) s1 s2 (by omega) (by omega)
end
end Go.Proofs.YtmlfecgppnffgaaDoor.E
