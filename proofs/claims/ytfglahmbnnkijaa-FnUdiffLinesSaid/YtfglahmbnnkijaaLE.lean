import Derived.Test.YtfglahmbnnkijaaSA
/- The edit graph in the heap: its fields, the labels. -/
set_option linter.unusedVariables false
set_option linter.unusedSimpArgs false
namespace Go.Ev
section
variable {t : HTy} (hz : t.sz = 1) (c : t.den → Cell) (hd : ∀ x, t.dec [c x] = some x) (hc : ∀ x, t.cc x = [c x]) {h : Hp} {n : Nat} {e : TypeId} {xs : List t.den}
include hz
theorem ld1 (hd : ∀ x, t.dec [c x] = some x) (ho : h.ob n = some (.cells e 1 (xs.map c))) {d : Nat} {x : t.den} (hx : xs[d]? = some x) : Hp.ld h t (.at n d) = some x := by
  obtain ⟨hl, hx⟩ := List.getElem?_eq_some_iff.1 hx
  unfold Hp.ld Hp.cl
  simp only [ho]
  rw [hz, List.length_map, show Nat.ble (d + 1) xs.length = true from Nat.ble_eq_true_of_le hl]
  simp only [cond_true]
  rw [← List.map_drop, List.drop_eq_getElem_cons hl, List.map_cons, List.take_succ_cons, List.take_zero, hd, hx]
theorem st1 (hc : ∀ x, t.cc x = [c x]) (ho : h.ob n = some (.cells e 1 (xs.map c))) {d : Nat} (hl : d < xs.length) (x : t.den) : Hp.st h t (.at n d) x = some (h.set n (some (.cells e 1 ((xs.set d x).map c)))) := by
  unfold Hp.st
  simp only [ho]
  rw [hz, List.length_map, show Nat.ble (d + 1) xs.length = true from Nat.ble_eq_true_of_le hl]
  simp only [cond_true]
  rw [hc, ← List.map_take, ← List.map_drop]
  have : xs.set d x = xs.take d ++ x :: xs.drop (d + 1) := List.set_eq_take_append_cons_drop.trans (if_pos hl)
  rw [this, List.map_append, List.map_cons]
  simp
end
def cI (x : Int) : Cell := .v (.int .i64 x)
theorem ldI {h : Hp} {n : Nat} {e : TypeId} {xs : List Int} (ho : h.ob n = some (.cells e 1 (xs.map cI))) {d : Nat} {x : Int} (hx : xs[d]? = some x) : Hp.ld h (.p (.int .i64)) (.at n d) = some x := ld1 (t := .p (.int .i64)) rfl cI (fun _ => rfl) ho hx
theorem stI {h : Hp} {n : Nat} {e : TypeId} {xs : List Int} (ho : h.ob n = some (.cells e 1 (xs.map cI))) {d : Nat} (hl : d < xs.length) (x : Int) : Hp.st h (.p (.int .i64)) (.at n d) x = some (h.set n (some (.cells e 1 ((xs.set d x).map cI)))) := st1 (t := .p (.int .i64)) rfl cI (fun _ => rfl) ho hl x
theorem ldS {h : Hp} {n : Nat} {e : TypeId} {xs : List Rf} (ho : h.ob n = some (.cells e 1 (xs.map .sr))) {d : Nat} {x : Rf} (hx : xs[d]? = some x) : Hp.ld h .sr (.at n d) = some x := ld1 (t := .sr) rfl Cell.sr (fun _ => rfl) ho hx
theorem stS {h : Hp} {n : Nat} {e : TypeId} {xs : List Rf} (ho : h.ob n = some (.cells e 1 (xs.map .sr))) {d : Nat} (hl : d < xs.length) (x : Rf) : Hp.st h .sr (.at n d) x = some (h.set n (some (.cells e 1 ((xs.set d x).map .sr)))) := st1 (t := .sr) rfl Cell.sr (fun _ => rfl) ho hl x
end Go.Ev
namespace Go.Proofs.Ytfglahmbnnkijaa.E
open Go.Ev Go.Lcs
theorem np (n o : Nat) : (!pnil (.at n o)) = true := rfl
theorem chk_t {R : Type} (a : Option R) : chk true a = a := rfl
/-- The graph's fields. -/
def gc (i : If) (vf vb : Rf) (lim ux uy dl : Int) : List Cell := [.ir i, .sr vf, .sr vb, cI lim, cI 0, cI 0, cI ux, cI uy, cI dl]
def GO (h : Hp) (g : Nat) (i : If) (vf vb : Rf) (lim ux uy dl : Int) : Prop := h.ob g = some (.cells 144 9 (gc i vf vb lim ux uy dl))
section
variable {h : Hp} {g : Nat} {i : If} {vf vb : Rf} {lim ux uy dl : Int} (ho : GO h g i vf vb lim ux uy dl)
include ho
theorem g_cl : h.cl g = some (gc i vf vb lim ux uy dl) := by
  unfold Hp.cl
  rw [show h.ob g = _ from ho]
theorem g0 : Hp.ld h .ir (.at g 0) = some i := by unfold Hp.ld; simp only [g_cl ho]; rfl
theorem g1 : Hp.ld h .sr (.at g 1) = some vf := by unfold Hp.ld; simp only [g_cl ho]; rfl
theorem g2 : Hp.ld h .sr (.at g 2) = some vb := by unfold Hp.ld; simp only [g_cl ho]; rfl
theorem g3 : Hp.ld h (.p (.int .i64)) (.at g 3) = some lim := by unfold Hp.ld; simp only [g_cl ho]; rfl
theorem g4 : Hp.ld h (.p (.int .i64)) (.at g 4) = some 0 := by unfold Hp.ld; simp only [g_cl ho]; rfl
theorem g5 : Hp.ld h (.p (.int .i64)) (.at g 5) = some 0 := by unfold Hp.ld; simp only [g_cl ho]; rfl
theorem g6 : Hp.ld h (.p (.int .i64)) (.at g 6) = some ux := by unfold Hp.ld; simp only [g_cl ho]; rfl
theorem g7 : Hp.ld h (.p (.int .i64)) (.at g 7) = some uy := by unfold Hp.ld; simp only [g_cl ho]; rfl
theorem g8 : Hp.ld h (.p (.int .i64)) (.at g 8) = some dl := by unfold Hp.ld; simp only [g_cl ho]; rfl
theorem sg6 (x : Int) : Hp.st h (.p (.int .i64)) (.at g 6) x = some (h.set g (some (.cells 144 9 (gc i vf vb lim x uy dl)))) := by unfold Hp.st; simp only [show h.ob g = _ from ho]; rfl
theorem sg7 (x : Int) : Hp.st h (.p (.int .i64)) (.at g 7) x = some (h.set g (some (.cells 144 9 (gc i vf vb lim ux x dl)))) := by unfold Hp.st; simp only [show h.ob g = _ from ho]; rfl
end
/-- Rows of labels in the heap; ρ tells what a name is for. -/
structure VO (h0 h : Hp) (ρ : Nat → Option Nat) (v : Rf) (A : Nat → Option (List Int)) (s t : Nat) (n : Nat) (rs : List Rf) : Prop where
  v : v = .at n 0 rs.length
  n0 : h0.nx ≤ n
  n1 : n < h.nx
  role : ρ n = some s
  ob : h.ob n = some (.cells 60 1 (rs.map .sr))
  big : ∀ d, rs.length ≤ d → A d = none
  row : ∀ d, d < rs.length → (A d = none ∧ rs[d]? = some .nil) ∨ ∃ m ws, A d = some ws ∧ ws.length = d + 1 ∧ rs[d]? = some (.at m 0 (d + 1)) ∧ h0.nx ≤ m ∧ m < h.nx ∧ ρ m = some (t + 2 * d) ∧ h.ob m = some (.cells 3 1 (ws.map cI))
/-- What changes are small: only named objects, or only others. -/
theorem VO.mono {h0 h h' : Hp} {ρ ρ' : Nat → Option Nat} {v : Rf} {A : Nat → Option (List Int)} {s t n : Nat} {rs : List Rf} (x : VO h0 h ρ v A s t n rs) (hn : h.nx ≤ h'.nx) (hr : ∀ m, m < h.nx → ρ m ≠ none → ρ' m = ρ m)
    (ho : ∀ m, m < h.nx → (ρ m = some s ∨ ∃ d, ρ m = some (t + 2 * d)) → h'.ob m = h.ob m) : VO h0 h' ρ' v A s t n rs := by
  refine ⟨x.v, x.n0, Nat.lt_of_lt_of_le x.n1 hn, ?_, ?_, x.big, fun d hd => ?_⟩
  · rw [hr n x.n1 (by rw [x.role]; simp)]
    exact x.role
  · rw [ho n x.n1 (.inl x.role)]
    exact x.ob
  · rcases x.row d hd with h1 | ⟨m, ws, h1, h2, h3, h4, h5, h6, h7⟩
    · exact .inl h1
    · refine .inr ⟨m, ws, h1, h2, h3, h4, Nat.lt_of_lt_of_le h5 hn, ?_, ?_⟩
      · rw [hr m h5 (by rw [h6]; simp)]
        exact h6
      · rw [ho m h5 (.inr ⟨d, h6⟩)]
        exact h7
/-- A label. -/
def lv (A : Nat → Option (List Int)) (d : Nat) (k : Int) : Int := match A d with
  | some ws => ws.getD (((d : Int) + k) / 2).toNat 0
  | none => 0
theorem tdiv2 (x : Int) (h : 0 ≤ x) : Int.tdiv x 2 = x / 2 := Int.tdiv_eq_ediv_of_nonneg h
theorem get_ok (K : Nat) {h0 h : Hp} {ρ : Nat → Option Nat} {v : Rf} {A : Nat → Option (List Int)} {s t n : Nat} {rs : List Rf} (x : VO h0 h ρ v A s t n rs) (g o : Nat) (hv : Hp.ld h .sr (.at g o) = some v) (D : Nat) (k : Int) (hD : A D ≠ none) (hD2 : D ≤ 1000) (h1 : -(D : Int) ≤ k) (h2 : k ≤ D) (hK : 2 ≤ K) :
    get K h (.at g o) (D : Int) k = some (h, lv A D k) := by
  obtain ⟨K, rfl⟩ : ∃ m, K = m + 1 := ⟨K - 1, by omega⟩
  obtain ⟨K, rfl⟩ : ∃ m, K = m + 1 := ⟨K - 1, by omega⟩
  have hv0 : Hp.ld h .sr (padd 0 (.at g o)) = some v := hv
  have hlt : D < rs.length := by
    by_cases hc : D < rs.length
    · exact hc
    · exact absurd (x.big D (by omega)) hD
  obtain ⟨m, ws, a1, a2, a3, a4, a5, a6, a7⟩ := (x.row D hlt).resolve_left fun h => hD h.1
  have hr : Hp.ld h .sr (radr 1 (Int.toNat (D : Int)) v) = some (.at m 0 (D + 1)) := by
    rw [x.v, radr0, Nat.mul_one]
    exact ldS x.ob a3
  have hw : ∀ j : Nat, j < ws.length → Hp.ld h (.p (.int .i64)) (radr 1 (Int.toNat (j : Int)) (.at m 0 (D + 1))) = some (ws.getD j 0) := by
    intro j hj
    rw [radr0, Nat.mul_one]
    refine ldI a7 ?_
    rw [List.getD_eq_getElem?_getD, List.getElem?_eq_getElem hj]
    rfl
  have e1 : IntKind.wrap IntKind.i64 (Int.tdiv (IntKind.wrap IntKind.i64 ((D : Int) + k)) 2) = (((((D : Int) + k) / 2).toNat : Nat) : Int) := by
    rw [wrap_id (x := (D : Int) + k) (by omega) (by omega), tdiv2 _ (by omega), wrap_id (by omega) (by omega)]
    omega
  have hj : (((D : Int) + k) / 2).toNat < ws.length := by rw [a2]; omega
  rw [get_eq, get_j0_eq]
  show chk true (chk true (Option.bind (Hp.ld h .sr (padd 0 (.at g o))) _)) = _
  rw [chk_t, chk_t, hv0, obs, x.v, rlen0, chk_le (by omega), chk_lt (by omega), ← x.v, hr, obs, chk_neq (by omega), e1, rlen0, chk_le (by omega), chk_lt (by rw [a2] at hj; omega), hw _ hj, obs]
  unfold lv
  rw [a1]
/-- A row of labels is put. -/
def put (A : Nat → Option (List Int)) (D : Nat) (ws : List Int) : Nat → Option (List Int) := fun d => if d = D then some ws else A d
def rowOf (A : Nat → Option (List Int)) (D : Nat) : List Int := (A D).getD (List.replicate (D + 1) 0)
theorem set_j2_ok (K k' : Nat) {h0 h : Hp} {ρ : Nat → Option Nat} {v : Rf} {A : Nat → Option (List Int)} {s t n : Nat} {rs : List Rf} (x : VO h0 h ρ v A s t n rs) (g o : Nat) (hv : Hp.ld h .sr (.at g o) = some v) (D : Nat) (k : Int) (y : Int) (ws : List Int) (hD : A D = some ws) (hD2 : D ≤ 1000) (h1 : -(D : Int) ≤ k) (h2 : k ≤ D) (hst : ∀ d, t + 2 * d ≠ s) :
    ∃ h', set_j2 K (k' + 1) (.at g o) (D : Int) k y h = some h' ∧ h'.nx = h.nx ∧ VO h0 h' ρ v (put A D (ws.set (((D : Int) + k) / 2).toNat y)) s t n rs ∧ (∀ m, ρ m ≠ some (t + 2 * D) → h'.ob m = h.ob m) ∧ (KeepH h0 h → KeepH h0 h') ∧ (FreeH h → FreeH h') := by
  have hv0 : Hp.ld h .sr (padd 0 (.at g o)) = some v := hv
  have hlt : D < rs.length := by
    by_cases hc : D < rs.length
    · exact hc
    · exact absurd (x.big D (by omega)) (by rw [hD]; simp)
  obtain ⟨m, ws', a1, a2, a3, a4, a5, a6, a7⟩ := (x.row D hlt).resolve_left fun h => by rw [hD] at h; cases h.1
  rw [hD] at a1
  cases a1
  have hr : Hp.ld h .sr (radr 1 (Int.toNat (D : Int)) v) = some (.at m 0 (D + 1)) := by
    rw [x.v, radr0, Nat.mul_one]
    exact ldS x.ob a3
  have e1 : IntKind.wrap IntKind.i64 (Int.tdiv (IntKind.wrap IntKind.i64 ((D : Int) + k)) 2) = (((((D : Int) + k) / 2).toNat : Nat) : Int) := by
    rw [wrap_id (x := (D : Int) + k) (by omega) (by omega), tdiv2 _ (by omega), wrap_id (by omega) (by omega)]
    omega
  have hj : (((D : Int) + k) / 2).toNat < ws.length := by rw [a2]; omega
  have hw : Hp.st h (.p (.int .i64)) (radr 1 (Int.toNat (((((D : Int) + k) / 2).toNat : Nat) : Int)) (.at m 0 (D + 1))) y = some (h.set m (some (.cells 3 1 ((ws.set (((D : Int) + k) / 2).toNat y).map cI)))) := by
    rw [radr0, Nat.mul_one]
    exact stI a7 hj y
  refine ⟨h.set m (some (.cells 3 1 ((ws.set (((D : Int) + k) / 2).toNat y).map cI))), ?_, rfl, ?_, fun q hq => ?_, fun hk => hk.set a4 _, fun hf => hf.set a5 _⟩
  · rw [set_j2_eq]
    show chk true (chk true (Option.bind (Hp.ld h .sr (padd 0 (.at g o))) _)) = _
    rw [chk_t, chk_t, hv0, obs, x.v, rlen0, chk_le (by omega), chk_lt (by omega), ← x.v, hr, obs, chk_neq (by omega), e1, rlen0, chk_le (by omega), chk_lt (by rw [a2] at hj; omega), hw, obs]
  · have hnm : n ≠ m := by
      intro e
      have := x.role
      rw [e, a6] at this
      exact hst D (Option.some.inj this)
    refine ⟨x.v, x.n0, x.n1, x.role, by rw [set_ob, if_neg hnm]; exact x.ob, fun d hd => ?_, fun d hd => ?_⟩
    · unfold put
      rw [if_neg (by omega)]
      exact x.big d hd
    · unfold put
      by_cases hdD : d = D
      · subst hdD
        rw [if_pos rfl]
        exact .inr ⟨m, _, rfl, by rw [List.length_set]; exact a2, a3, a4, a5, a6, by rw [set_ob, if_pos rfl]⟩
      · rw [if_neg hdD]
        rcases x.row d hd with h1 | ⟨m', ws', b1, b2, b3, b4, b5, b6, b7⟩
        · exact .inl h1
        · refine .inr ⟨m', ws', b1, b2, b3, b4, b5, b6, ?_⟩
          have : m' ≠ m := by
            intro e
            rw [e, a6] at b6
            have := Option.some.inj b6
            omega
          rw [set_ob, if_neg this]
          exact b7
  · have : q ≠ m := by
      intro e
      rw [e] at hq
      exact hq a6
    rw [set_ob, if_neg this]
end Go.Proofs.Ytfglahmbnnkijaa.E
