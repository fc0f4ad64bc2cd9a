import Derived.Test.YtfglahmbnnkijaaLE
/- The edit graph in the heap: labels put; the graph as a whole. -/
set_option linter.unusedVariables false
set_option linter.unusedSimpArgs false
namespace Go.Ev
theorem ldCell {t : HTy} (hz : t.sz = 1) {h : Hp} {n : Nat} {e : TypeId} {z : Nat} {cs : List Cell} {o : Nat} {x : Cell} {y : t.den} (ho : h.ob n = some (.cells e z cs)) (hx : cs[o]? = some x) (hd : t.dec [x] = some y) : Hp.ld h t (.at n o) = some y := by
  obtain ⟨hl, hx⟩ := List.getElem?_eq_some_iff.1 hx
  unfold Hp.ld Hp.cl
  simp only [ho]
  rw [hz, show Nat.ble (o + 1) cs.length = true from Nat.ble_eq_true_of_le hl]
  simp only [cond_true]
  rw [List.drop_eq_getElem_cons hl, List.take_succ_cons, List.take_zero, hx, hd]
theorem stCell {t : HTy} (hz : t.sz = 1) {h : Hp} {n : Nat} {e : TypeId} {z : Nat} {cs : List Cell} {o : Nat} {y : t.den} {x : Cell} (ho : h.ob n = some (.cells e z cs)) (hl : o < cs.length) (hc : t.cc y = [x]) : Hp.st h t (.at n o) y = some (h.set n (some (.cells e z (cs.set o x)))) := by
  unfold Hp.st
  simp only [ho]
  rw [hz, show Nat.ble (o + 1) cs.length = true from Nat.ble_eq_true_of_le hl]
  simp only [cond_true]
  rw [hc]
  have : cs.set o x = cs.take o ++ x :: cs.drop (o + 1) := List.set_eq_take_append_cons_drop.trans (if_pos hl)
  rw [this]
  simp
end Go.Ev
namespace Go.Proofs.Ytfglahmbnnkijaa.E
open Go.Ev Go.Lcs
/-- What putting a label leaves: the rows with it, all else as it was. -/
def SetRes (h0 h : Hp) (ρ : Nat → Option Nat) (g : Nat) (cs : List Cell) (o s t : Nat) (A : Nat → Option (List Int)) (h' : Hp) : Prop :=
  ∃ ρ' v' n' rs', VO h0 h' ρ' v' A s t n' rs' ∧ 50 ≤ rs'.length ∧ h'.ob g = some (.cells 144 9 (cs.set o (.sr v'))) ∧ h.nx ≤ h'.nx ∧ (∀ m, m < h.nx → ρ' m = ρ m) ∧ (∀ m, h'.nx ≤ m → ρ' m = none) ∧ (∀ m, m < h.nx → m ≠ g → ρ m ≠ some s → (∀ d, ρ m ≠ some (t + 2 * d)) → h'.ob m = h.ob m) ∧ KeepH h0 h' ∧ FreeH h'
section
variable (K : Nat) {h0 h : Hp} {ρ : Nat → Option Nat} {v : Rf} {A : Nat → Option (List Int)} {s t n : Nat} {rs : List Rf} (x : VO h0 h ρ v A s t n rs) (g o : Nat) (cs : List Cell) (hg : h.ob g = some (.cells 144 9 cs)) (ho : cs[o]? = some (.sr v)) (hgr : ρ g = some 0) (hg0 : h0.nx ≤ g) (hg1 : g < h.nx) (fr : ∀ m, h.nx ≤ m → ρ m = none) (keep : KeepH h0 h) (free : FreeH h) (hl : 50 ≤ rs.length) (hs0 : s ≠ 0) (ht0 : ∀ d, t + 2 * d ≠ 0) (hst : ∀ d, t + 2 * d ≠ s)
include x hg ho hgr hg0 hg1 fr keep free hl hs0 ht0 hst
theorem set_at (k' D : Nat) (k y : Int) (hD : D < rs.length) (hD2 : D ≤ 1000) (h1 : -(D : Int) ≤ k) (h2 : k ≤ D) :
    ∃ h', set_j1 K (k' + 2) (.at g o) (D : Int) k y h = some h' ∧ SetRes h0 h ρ g cs o s t (put A D ((rowOf A D).set (((D : Int) + k) / 2).toNat y)) h' := by
  have _u0 := hg0
  have hcs : cs.set o (.sr v) = cs := by
    obtain ⟨hlo, e⟩ := List.getElem?_eq_some_iff.1 ho
    rw [← e, List.set_getElem_self]
  have hv : Hp.ld h .sr (.at g o) = some v := ldCell rfl hg ho rfl
  have hv0 : Hp.ld h .sr (padd 0 (.at g o)) = some v := hv
  rw [set_j1_eq]
  rcases x.row D hD with ⟨a1, a2⟩ | ⟨m, ws, a1, a2, a3, a4, a5, a6, a7⟩
  · -- a new row
    have hr : Hp.ld h .sr (radr 1 (Int.toNat (D : Int)) v) = some .nil := by
      rw [x.v, radr0, Nat.mul_one]
      exact ldS x.ob a2
    have hrow : rowOf A D = List.replicate (D + 1) 0 := by unfold rowOf; rw [a1]; rfl
    obtain ⟨ρ', hρ⟩ : ∃ ρ' : Nat → Option Nat, ρ' = fun m => if m = h.nx then some (t + 2 * D) else ρ m := ⟨_, rfl⟩
    have hN : (Hp.new h 3 (.p (.int .i64)) (List.replicate (D + 1) (0 : Int))).ob h.nx = some (.cells 3 1 ((List.replicate (D + 1) (0 : Int)).map cI)) := by
      unfold Hp.new
      rw [push_ob, if_pos rfl]
      have : ∀ l : List Int, (l.map (HTy.cc (.p (.int .i64)))).flatten = l.map cI := by
        intro l
        induction l with
        | nil => rfl
        | cons a l ih => rw [List.map_cons, List.flatten_cons, ih]; rfl
      rw [this]
      rfl
    have hold : ∀ m, m < h.nx → (Hp.new h 3 (.p (.int .i64)) (List.replicate (D + 1) (0 : Int))).ob m = h.ob m := by
      intro m hm
      unfold Hp.new
      rw [push_ob, if_neg (by omega)]
    have hob := x.ob
    rw [← hold n x.n1] at hob
    have hst1 : Hp.st (Hp.new h 3 (.p (.int .i64)) (List.replicate (D + 1) (0 : Int))) .sr (radr 1 (Int.toNat (D : Int)) v) (.at h.nx 0 (D + 1)) = some ((Hp.new h 3 (.p (.int .i64)) (List.replicate (D + 1) (0 : Int))).set n (some (.cells 60 1 ((rs.set D (.at h.nx 0 (D + 1))).map .sr)))) := by
      rw [x.v, radr0, Nat.mul_one]
      exact stS hob hD _
    obtain ⟨h1', hh1⟩ : ∃ h1', h1' = (Hp.new h 3 (.p (.int .i64)) (List.replicate (D + 1) (0 : Int))).set n (some (.cells 60 1 ((rs.set D (.at h.nx 0 (D + 1))).map .sr))) := ⟨_, rfl⟩
    rw [← hh1] at hst1
    have hnx : h1'.nx = h.nx + 1 := by rw [hh1]; rfl
    have ob1 : ∀ m, m < h.nx → m ≠ n → h1'.ob m = h.ob m := by
      intro m hm hmn
      rw [hh1, set_ob, if_neg hmn]
      exact hold m hm
    have x1 : VO h0 h1' ρ' v (put A D (List.replicate (D + 1) 0)) s t n (rs.set D (.at h.nx 0 (D + 1))) := by
      refine ⟨by rw [List.length_set]; exact x.v, x.n0, by rw [hnx]; have := x.n1; omega, ?_, ?_, fun d hd => ?_, fun d hd => ?_⟩
      · rw [hρ]
        show (if n = h.nx then _ else _) = _
        rw [if_neg (by have := x.n1; omega)]
        exact x.role
      · rw [hh1, set_ob, if_pos rfl]
      · rw [List.length_set] at hd
        unfold put
        rw [if_neg (by omega)]
        exact x.big d hd
      · rw [List.length_set] at hd
        unfold put
        by_cases hdD : d = D
        · subst hdD
          rw [if_pos rfl]
          refine .inr ⟨h.nx, _, rfl, List.length_replicate .., by rw [List.getElem?_set_self hd], keep.nx, by rw [hnx]; omega, ?_, ?_⟩
          · rw [hρ]
            show (if h.nx = h.nx then _ else _) = _
            rw [if_pos rfl]
          · rw [hh1, set_ob, if_neg (by have := x.n1; omega)]
            exact hN
        · rw [if_neg hdD, List.getElem?_set_ne (by omega)]
          rcases x.row d hd with b | ⟨m, ws, b1, b2, b3, b4, b5, b6, b7⟩
          · exact .inl b
          · refine .inr ⟨m, ws, b1, b2, b3, b4, by rw [hnx]; omega, ?_, ?_⟩
            · rw [hρ]
              show (if m = h.nx then _ else _) = _
              rw [if_neg (by omega)]
              exact b6
            · have : m ≠ n := by
                intro e
                rw [e, x.role] at b6
                exact hst d (Option.some.inj b6).symm
              rw [ob1 m b5 this]
              exact b7
    have hgn : g ≠ n := by
      intro e
      have := x.role
      rw [← e, hgr] at this
      exact hs0 (Option.some.inj this).symm
    have hg' : h1'.ob g = some (.cells 144 9 cs) := by rw [ob1 g hg1 hgn]; exact hg
    have hv1 : Hp.ld h1' .sr (.at g o) = some v := ldCell rfl hg' ho rfl
    obtain ⟨h2', c1, c2, c3, c4, c5, c6⟩ := set_j2_ok K k' x1 g o hv1 D k y (List.replicate (D + 1) 0) (by unfold put; rw [if_pos rfl]) hD2 h1 h2 hst
    have hk1 : KeepH h0 h1' := by
      rw [hh1]
      exact KeepH.set (KeepH.push keep _) x.n0 _
    have hf1 : FreeH h1' := by
      rw [hh1]
      exact FreeH.set (FreeH.push free _) (Nat.lt_succ_of_lt x.n1) _
    refine ⟨h2', ?_, ρ', v, n, rs.set D (.at h.nx 0 (D + 1)), ?_, by rw [List.length_set]; exact hl, ?_, by rw [c2, hnx]; omega, fun m hm => ?_, fun m hm => ?_, fun m hm hmg hms hmt => ?_, c5 hk1, c6 hf1⟩
    · have w : IntKind.wrap IntKind.i64 ((D : Int) + 1) = ((D + 1 : Nat) : Int) := by rw [wrap_id (by omega) (by omega)]; omega
      simp only [np, chk_t]
      rw [hv0, obs, x.v, rlen0, chk_le (by omega), chk_lt (by omega), ← x.v, hr, obs, show rsure Rf.nil = true from rfl, show rnil Rf.nil = true from rfl, chk_t, br_true, obs, w, x.v, rlen0, chk_le (by omega), chk_le (by omega), chk_lt (by omega), chk_le (by omega), chk_lt (by omega), Int.toNat_natCast (D + 1), ← x.v]
      show Option.bind (Hp.st (Hp.new h 3 (.p (.int .i64)) (List.replicate (D + 1) (0 : Int))) .sr (radr 1 (Int.toNat (D : Int)) v) (.at h.nx 0 (D + 1))) _ = _
      rw [hst1, obs]
      exact c1
    · rw [hrow]
      have : put A D ((List.replicate (D + 1) 0).set (((D : Int) + k) / 2).toNat y) = put (put A D (List.replicate (D + 1) 0)) D ((List.replicate (D + 1) 0).set (((D : Int) + k) / 2).toNat y) := by
        funext d
        unfold put
        split <;> rfl
      rw [this]
      exact c3
    · rw [hcs, c4 g (by rw [hρ]; show (if g = h.nx then _ else _) ≠ _; rw [if_neg (by omega), hgr]; intro e; exact ht0 D (Option.some.inj e).symm)]
      exact hg'
    · rw [hρ]
      show (if m = h.nx then _ else _) = _
      rw [if_neg (by omega)]
    · rw [hρ]
      show (if m = h.nx then _ else _) = _
      rw [c2, hnx] at hm
      rw [if_neg (by omega)]
      exact fr m (by omega)
    · have hmn : m ≠ n := by
        intro e
        rw [e] at hms
        exact hms x.role
      rw [c4 m (by rw [hρ]; show (if m = h.nx then _ else _) ≠ _; rw [if_neg (by omega)]; exact hmt D)]
      exact ob1 m hm hmn
  · have hr : Hp.ld h .sr (radr 1 (Int.toNat (D : Int)) v) = some (.at m 0 (D + 1)) := by
      rw [x.v, radr0, Nat.mul_one]
      exact ldS x.ob a3
    have hrow : rowOf A D = ws := by unfold rowOf; rw [a1]; rfl
    obtain ⟨h2', c1, c2, c3, c4, c5, c6⟩ := set_j2_ok K k' x g o hv D k y ws a1 hD2 h1 h2 hst
    have hrs : rsure (.at m 0 (D + 1)) = true := rfl
    refine ⟨h2', ?_, ρ, v, n, rs, by rw [hrow]; exact c3, hl, ?_, by rw [c2]; exact Nat.le_refl _, fun m hm => rfl, fun m hm => fr m (by rw [← c2]; exact hm), fun m hm hmg hms hmt => c4 m (hmt D), c5 keep, c6 free⟩
    · simp only [np, chk_t]
      rw [hv0, obs, x.v, rlen0, chk_le (by omega), chk_lt (by omega), ← x.v, hr, obs, hrs, chk_t, show rnil (.at m 0 (D + 1)) = false from rfl, br_false]
      exact c1
    · rw [hcs, c4 g (by rw [hgr]; intro e; exact ht0 D (Option.some.inj e).symm)]
      exact hg
theorem set_ok (D : Nat) (k y : Int) (hD : D ≤ rs.length) (hD2 : D ≤ 1000) (h1 : -(D : Int) ≤ k) (h2 : k ≤ D) (hK : 10 ≤ K) :
    ∃ h', set K h (.at g o) (D : Int) k y = some h' ∧ SetRes h0 h ρ g cs o s t (put A D ((rowOf A D).set (((D : Int) + k) / 2).toNat y)) h' := by
  obtain ⟨q, rfl⟩ : ∃ q, K = q + 8 := ⟨K - 8, by omega⟩
  have hv : Hp.ld h .sr (.at g o) = some v := ldCell rfl hg ho rfl
  have hv0 : Hp.ld h .sr (padd 0 (.at g o)) = some v := hv
  rw [set_eq, set_l0_eq]
  simp only [np, chk_t]
  rw [hv0, obs, x.v, rlen0]
  by_cases hc : D < rs.length
  · rw [br_gt (by omega)]
    exact set_at (q + 7) x g o cs hg ho hgr hg0 hg1 fr keep free hl hs0 ht0 hst (q + 4) D k y hc hD2 h1 h2
  · have hDe : D = rs.length := by omega
    obtain ⟨hlo, hoe⟩ := List.getElem?_eq_some_iff.1 ho
    rw [br_le (by omega), set_j0_eq]
    simp only [np, chk_t]
    rw [hv0, obs]
    -- the row of rows grows
    have hN : (Hp.new h 60 .sr [Rf.nil]).ob h.nx = some (.cells 60 1 ([Rf.nil].map .sr)) := by
      unfold Hp.new
      rw [push_ob, if_pos rfl]
      rfl
    have hold : ∀ m, m < h.nx → (Hp.new h 60 .sr [Rf.nil]).ob m = h.ob m := by
      intro m hm
      unfold Hp.new
      rw [push_ob, if_neg (by omega)]
    have hcs1 : Hp.cs (Hp.new h 60 .sr [Rf.nil]) 1 (.at h.nx 0 1) = some ([Cell.sr .nil], 1) := by
      unfold Hp.cs Hp.cl
      simp only [hN]
      rfl
    have hob := x.ob
    rw [← hold n x.n1] at hob
    obtain ⟨h1', hh1⟩ : ∃ h1', h1' = ((Hp.new h 60 .sr [Rf.nil]).set n none).push (.cells 60 1 ((rs ++ [Rf.nil]).map .sr)) := ⟨_, rfl⟩
    have happ : Hp.app (Hp.new h 60 .sr [Rf.nil]) 60 1 [Cell.sr .nil] 1 v = some (.at (h.nx + 1) 0 (rs.length + 1), h1') := by
      rw [x.v]
      unfold Hp.app
      simp only [hob]
      rw [show (Nat.beq 60 60 && Nat.beq 1 1 && Nat.ble (0 + rs.length * 1) (rs.map Cell.sr).length) = true by
        rw [List.length_map]
        simp only [Nat.beq_refl, Bool.true_and]
        exact Nat.ble_eq_true_of_le (by omega)]
      have hno : (Nat.ble (0 + (rs.length + 1) * 1) (rs.map Cell.sr).length && (Nat.beq 0 0 || Nat.beq 1 1)) = false := by
        rw [List.length_map]
        cases hb : Nat.ble (0 + (rs.length + 1) * 1) rs.length with
        | false => rfl
        | true => have := Nat.le_of_ble_eq_true hb; omega
      rw [hno]
      simp only [cond_true, cond_false, Nat.beq_refl]
      rw [Nat.mul_one, List.take_of_length_le (by rw [List.length_map]; exact Nat.le_refl _), hh1, List.map_append]
      rfl
    have hnx : h1'.nx = h.nx + 2 := by rw [hh1]; rfl
    have hgn : g ≠ n := by
      intro e
      have := x.role
      rw [← e, hgr] at this
      exact hs0 (Option.some.inj this).symm
    have ob1 : ∀ m, m < h.nx → m ≠ n → h1'.ob m = h.ob m := by
      intro m hm hmn
      rw [hh1, push_ob, if_neg (show ¬ m = ((Hp.new h 60 .sr [Rf.nil]).set n none).nx by show ¬ m = h.nx + 1; omega), set_ob, if_neg hmn]
      exact hold m hm
    have hg1' : h1'.ob g = some (.cells 144 9 cs) := by rw [ob1 g hg1 hgn]; exact hg
    obtain ⟨h2', hh2⟩ : ∃ h2', h2' = h1'.set g (some (.cells 144 9 (cs.set o (.sr (.at (h.nx + 1) 0 (rs.length + 1)))))) := ⟨_, rfl⟩
    have hst2 : Hp.st h1' .sr (padd 0 (.at g o)) (.at (h.nx + 1) 0 (rs.length + 1)) = some h2' := by
      rw [hh2]
      exact stCell (t := .sr) (x := .sr (.at (h.nx + 1) 0 (rs.length + 1))) rfl hg1' hlo rfl
    obtain ⟨ρ', hρ⟩ : ∃ ρ' : Nat → Option Nat, ρ' = fun m => if m = h.nx + 1 then some s else ρ m := ⟨_, rfl⟩
    have ρold : ∀ m, m < h.nx → ρ' m = ρ m := by
      intro m hm
      rw [hρ]
      show (if m = h.nx + 1 then _ else _) = _
      rw [if_neg (by omega)]
    have ob2 : ∀ m, m < h.nx → m ≠ n → m ≠ g → h2'.ob m = h.ob m := by
      intro m hm hmn hmg
      rw [hh2, set_ob, if_neg hmg]
      exact ob1 m hm hmn
    have hnx2 : h2'.nx = h.nx + 2 := by rw [hh2]; exact hnx
    have x2 : VO h0 h2' ρ' (.at (h.nx + 1) 0 (rs.length + 1)) A s t (h.nx + 1) (rs ++ [Rf.nil]) := by
      refine ⟨by rw [List.length_append]; rfl, by have := keep.nx; omega, by rw [hnx2]; omega, ?_, ?_, fun d hd => ?_, fun d hd => ?_⟩
      · rw [hρ]
        show (if h.nx + 1 = h.nx + 1 then _ else _) = _
        rw [if_pos rfl]
      · rw [hh2, set_ob, if_neg (by omega), hh1, push_ob, if_pos (show h.nx + 1 = ((Hp.new h 60 .sr [Rf.nil]).set n none).nx from rfl)]
      · rw [List.length_append] at hd
        exact x.big d (by simp only [List.length_cons, List.length_nil] at hd; omega)
      · rw [List.length_append] at hd
        simp only [List.length_cons, List.length_nil] at hd
        by_cases hdl : d < rs.length
        · rw [List.getElem?_append_left hdl]
          rcases x.row d hdl with b | ⟨m, ws, b1, b2, b3, b4, b5, b6, b7⟩
          · exact .inl b
          · refine .inr ⟨m, ws, b1, b2, b3, b4, by rw [hnx2]; omega, by rw [ρold m b5]; exact b6, ?_⟩
            rw [ob2 m b5 (by
              intro e
              rw [e, x.role] at b6
              exact hst d (Option.some.inj b6).symm) (by
              intro e
              rw [e, hgr] at b6
              exact ht0 d (Option.some.inj b6).symm)]
            exact b7
        · have : d = rs.length := by omega
          subst this
          exact .inl ⟨x.big _ (Nat.le_refl _), by rw [List.getElem?_append_right (Nat.le_refl _), Nat.sub_self]; rfl⟩
    have keep2 : KeepH h0 h2' := by
      rw [hh2, hh1]
      exact KeepH.set (KeepH.push (KeepH.set (KeepH.push keep _) x.n0 none) _) hg0 _
    have free2 : FreeH h2' := by
      rw [hh2, hh1]
      exact FreeH.set (FreeH.push (FreeH.set (FreeH.push free _) (Nat.lt_succ_of_lt x.n1) none) _) (Nat.lt_succ_of_lt (Nat.lt_succ_of_lt hg1)) _
    have hgo2 : (cs.set o (.sr (.at (h.nx + 1) 0 (rs.length + 1))))[o]? = some (.sr (.at (h.nx + 1) 0 (rs.length + 1))) := by
      rw [List.getElem?_set_self hlo]
    obtain ⟨h3, e3, r3⟩ := set_at (q + 7) x2 g o _ (by rw [hh2, set_ob, if_pos rfl]) hgo2 (by rw [ρold g hg1]; exact hgr) hg0 (by rw [hnx2]; omega) (fun m hm => by
      rw [hnx2] at hm
      rw [hρ]
      show (if m = h.nx + 1 then _ else _) = _
      rw [if_neg (by omega)]
      exact fr m (by omega)) keep2 free2 (by rw [List.length_append]; omega) hs0 ht0 hst (q + 2) D k y (by rw [List.length_append]; simp only [List.length_cons, List.length_nil]; omega) hD2 h1 h2
    refine ⟨h3, ?_, ?_⟩
    · show Option.bind (Hp.cs (Hp.new h 60 .sr [Rf.nil]) 1 (.at h.nx 0 1)) _ = _
      rw [hcs1, obs]
      show chk _ (Option.bind (Hp.app (Hp.new h 60 .sr [Rf.nil]) 60 1 [Cell.sr .nil] 1 v) _) = _
      rw [happ, obs, hst2, obs, show rlen v = rs.length by rw [x.v]; rfl]
      have hrl : rs.length ≤ 1000 := by omega
      have hld2 : Hp.ld h2' .sr (padd 0 (.at g o)) = some (.at (h.nx + 1) 0 (rs.length + 1)) := ldCell (t := .sr) rfl (by rw [hh2, set_ob, if_pos rfl]) hgo2 rfl
      rw [chk_lt (by show (rs.length : Int) + ((1 : Nat) : Int) < _; omega), set_l0_eq]
      simp only [np, chk_t]
      rw [hld2, obs, rlen0, br_gt (by omega)]
      exact e3
    · obtain ⟨ρ3, v3, n3, rs3, y1, y2, y3, y4, y5, y6, y7, y8, y9⟩ := r3
      refine ⟨ρ3, v3, n3, rs3, y1, y2, ?_, by omega, fun m hm => ?_, y6, fun m hm hmg hms hmt => ?_, y8, y9⟩
      · rw [y3, List.set_set]
      · rw [y5 m (by omega), ρold m hm]
      · rw [y7 m (by omega) hmg (by rw [ρold m hm]; exact hms) (fun d => by rw [ρold m hm]; exact hmt d)]
        exact ob2 m hm (by intro e; rw [e] at hms; exact hms x.role) hmg
end
end Go.Proofs.Ytfglahmbnnkijaa.E
