import Derived.Test.YtfglahmbnnkijaaLG
import Derived.Test.YtfglahmbnnkijaaSB
/- Lists of diagonals in the heap: one put ahead, one put behind. -/
set_option linter.unusedVariables false
set_option linter.unusedSimpArgs false
namespace Go.Proofs.Ytfglahmbnnkijaa.E
open Go.Ev Go.Lcs
def fc (L : List Dg) : List Cell := (L.map (HTy.cc (.p TS2))).flatten
theorem fc_len (L : List Dg) : (fc L).length = L.length * 3 := flat_len TS2 L
theorem fc_mid (P R : List Dg) (d : Dg) : fc (P ++ d :: R) = fc P ++ cI d.1 :: cI d.2.1 :: cI d.2.2 :: fc R := by
  unfold fc
  rw [List.map_append, List.flatten_append, List.map_cons, List.flatten_cons]
  rfl
theorem set_app {α : Type} (A B : List α) (i j : Nat) (x : α) (h : i = A.length + j) : (A ++ B).set i x = A ++ B.set j x := by
  subst h
  simp
section
variable {h : Hp} {e : TypeId} {n : Nat} {P R : List Dg} {d : Dg} (ho : HO h e TS2 n (P ++ d :: R))
include ho
theorem d_ob : h.ob n = some (.cells e 3 (fc P ++ cI d.1 :: cI d.2.1 :: cI d.2.2 :: fc R)) := by
  have : h.ob n = some (.cells e 3 (fc (P ++ d :: R))) := ho
  rw [this, fc_mid]
theorem d_l0 : Hp.ld h (.p (.int .i64)) (.at n (P.length * 3)) = some d.1 := by
  refine ldCell rfl (x := cI d.1) (d_ob ho) ?_ rfl
  rw [List.getElem?_append_right (by rw [fc_len]; exact Nat.le_refl _), fc_len, Nat.sub_self]
  rfl
theorem d_l1 : Hp.ld h (.p (.int .i64)) (.at n (P.length * 3 + 1)) = some d.2.1 := by
  refine ldCell rfl (x := cI d.2.1) (d_ob ho) ?_ rfl
  rw [List.getElem?_append_right (by rw [fc_len]; omega), fc_len, Nat.add_sub_cancel_left]
  rfl
theorem d_l2 : Hp.ld h (.p (.int .i64)) (.at n (P.length * 3 + 2)) = some d.2.2 := by
  refine ldCell rfl (x := cI d.2.2) (d_ob ho) ?_ rfl
  rw [List.getElem?_append_right (by rw [fc_len]; omega), fc_len, Nat.add_sub_cancel_left]
  rfl
theorem d_s0 (x : Int) : ∃ h', Hp.st h (.p (.int .i64)) (.at n (P.length * 3)) x = some h' ∧ HO h' e TS2 n (P ++ (x, d.2) :: R) ∧ Only n h h' := by
  refine ⟨_, stCell rfl (x := cI x) (d_ob ho) (by rw [List.length_append, fc_len]; simp only [List.length_cons]; omega) rfl, ?_, rfl, fun m hm => by rw [set_ob, if_neg hm]⟩
  show _ = some (Ev.Obj.cells e 3 (fc (P ++ (x, d.2) :: R)))
  rw [set_ob, if_pos rfl, set_app (fc P) _ _ 0 _ (by rw [fc_len]; omega), fc_mid]
  rfl
theorem d_s1 (x : Int) : ∃ h', Hp.st h (.p (.int .i64)) (.at n (P.length * 3 + 1)) x = some h' ∧ HO h' e TS2 n (P ++ (d.1, x, d.2.2) :: R) ∧ Only n h h' := by
  refine ⟨_, stCell rfl (x := cI x) (d_ob ho) (by rw [List.length_append, fc_len]; simp only [List.length_cons]; omega) rfl, ?_, rfl, fun m hm => by rw [set_ob, if_neg hm]⟩
  show _ = some (Ev.Obj.cells e 3 (fc (P ++ (d.1, x, d.2.2) :: R)))
  rw [set_ob, if_pos rfl, set_app (fc P) _ _ 1 _ (by rw [fc_len]), fc_mid]
  rfl
theorem d_s2 (x : Int) : ∃ h', Hp.st h (.p (.int .i64)) (.at n (P.length * 3 + 2)) x = some h' ∧ HO h' e TS2 n (P ++ (d.1, d.2.1, x) :: R) ∧ Only n h h' := by
  refine ⟨_, stCell rfl (x := cI x) (d_ob ho) (by rw [List.length_append, fc_len]; simp only [List.length_cons]; omega) rfl, ?_, rfl, fun m hm => by rw [set_ob, if_neg hm]⟩
  show _ = some (Ev.Obj.cells e 3 (fc (P ++ (d.1, d.2.1, x) :: R)))
  rw [set_ob, if_pos rfl, set_app (fc P) _ _ 2 _ (by rw [fc_len]), fc_mid]
  rfl
end
def Tiny (L : List Dg) : Prop := L.length ≤ 100000 ∧ ∀ d ∈ L, -1000000 ≤ d.1 ∧ d.1 ≤ 1000000 ∧ -1000000 ≤ d.2.1 ∧ d.2.1 ≤ 1000000 ∧ -1000000 ≤ d.2.2 ∧ d.2.2 ≤ 1000000
theorem prepend_j1_ok (K k : Nat) {hs h : Hp} {r : Rf} {L : List Dg} (hb : Blt hs h 154 TS2 r L) (x y : Int) (ht : L.length ≤ 100000) : ∃ h' r', prepend_j1 K (k + 1) r x y h = some (h', r') ∧ Blt hs h' 154 TS2 r' ((x, y, 1) :: L) := by
  have hN : KeepH h (Hp.new h 154 (.p TS2) [((x, y, 1) : Dg)]) := (KeepH.refl h).push _
  have c0 : Hp.cs (Hp.new h 154 (.p TS2) [((x, y, 1) : Dg)]) 3 r = some ((L.map (HTy.cc (.p TS2))).flatten, L.length) := (hb.sl.keep hN).cs
  obtain ⟨s, a1, n, a2, a3, a4, a5, a6, a7⟩ := app_new (e := 154) (t := TS2) ((x, y, 1) : Dg) L hb.2.1
  have a1 : Hp.app (Hp.new h 154 (.p TS2) [((x, y, 1) : Dg)]) 154 3 (L.map (HTy.cc (.p TS2))).flatten L.length (.at h.nx 0 1) = some s := a1
  refine ⟨s.2, s.1, ?_, hb.1.trans a5, a6, .inr ⟨by simp, n, Nat.le_trans hb.1.nx a7, a3, a2, a4⟩⟩
  rw [prepend_j1_eq]
  show Option.bind (Hp.cs (Hp.new h 154 (.p TS2) [((x, y, 1) : Dg)]) 3 r) _ = _
  rw [c0, obs]
  show chk _ (Option.bind (Hp.app (Hp.new h 154 (.p TS2) [((x, y, 1) : Dg)]) 154 3 _ L.length (.at h.nx 0 1)) _) = _
  rw [a1, obs, chk_lt (by show ((1 : Nat) : Int) + (L.length : Int) < _; omega)]
theorem prepend_ok (K : Nat) {hs h : Hp} {r : Rf} {L : List Dg} (hb : Blt hs h 154 TS2 r L) (x y : Int) (ht : Tiny L) (hx : -100000 ≤ x) (hx2 : x ≤ 100000) (hy : -100000 ≤ y) (hy2 : y ≤ 100000) (hK : 4 ≤ K) : ∃ h' r', prepend K h r x y = some (h', r') ∧ Blt hs h' 154 TS2 r' (pre L x y) := by
  obtain ⟨K, rfl⟩ : ∃ q, K = q + 3 := ⟨K - 3, by omega⟩
  rw [prepend_eq, hb.sl.rlen]
  cases L with
  | nil =>
    rw [br_ge (by show ((0 : Nat) : Int) ≤ 0; omega)]
    exact prepend_j1_ok (K + 2) (K + 1) hb x y ht.1
  | cons d L =>
    have td := ht.2 d (List.mem_cons_self ..)
    obtain ⟨hk, hf, hL⟩ := hb
    rcases hL with ⟨h0, _⟩ | ⟨_, n, hn0, hn, rfl, ho⟩
    · cases h0
    have ho' : HO h 154 TS2 n ([] ++ d :: L) := ho
    have q0 : radr 3 (Int.toNat 0) (.at n 0 (d :: L).length) = .at n 0 := rfl
    have l0 : Hp.ld h (.p (.int .i64)) (padd 0 (.at n 0)) = some d.1 := d_l0 ho'
    have l1 : Hp.ld h (.p (.int .i64)) (padd 1 (.at n 0)) = some d.2.1 := d_l1 ho'
    have w1 : IntKind.wrap IntKind.i64 (x + 1) = x + 1 := wrap_id (by omega) (by omega)
    have w2 : IntKind.wrap IntKind.i64 (y + 1) = y + 1 := wrap_id (by omega) (by omega)
    have neg : ¬ (d.1 = x + 1 ∧ d.2.1 = y + 1) → ∀ k, ∃ h' r', prepend_j0 (K + 2) (k + 2) (.at n 0 (d :: L).length) x y (.at n 0) false h = some (h', r') ∧ Blt hs h' 154 TS2 r' (pre (d :: L) x y) := by
      intro hc k
      rw [prepend_j0_eq, br_false]
      have : pre (d :: L) x y = (x, y, 1) :: d :: L := by
        show (if d.1 = x + 1 ∧ d.2.1 = y + 1 then (x, y, d.2.2 + 1) :: L else (x, y, 1) :: d :: L) = _
        rw [if_neg hc]
      rw [this]
      exact prepend_j1_ok (K + 2) k ⟨hk, hf, .inr ⟨by simp, n, hn0, hn, rfl, ho⟩⟩ x y ht.1
    rw [br_lt (by simp only [List.length_cons]; omega), chk_le (by omega), chk_lt (by simp only [List.length_cons]; omega), q0]
    simp only [np, chk_t]
    rw [l0, obs, w1, l1, obs, w2]
    by_cases c1 : d.1 = x + 1
    · rw [br_eq c1, eqI_eq]
      by_cases c2 : d.2.1 = y + 1
      · rw [decide_eq_true c2, prepend_j0_eq, br_true]
        obtain ⟨h1, s1, o1, u1⟩ := d_s0 ho' x
        obtain ⟨h2, s2, o2, u2⟩ := d_s1 o1 y
        have l2 : Hp.ld h2 (.p (.int .i64)) (padd 2 (.at n 0)) = some d.2.2 := d_l2 o2
        obtain ⟨h3, s3, o3, u3⟩ := d_s2 o2 (d.2.2 + 1)
        have s1 : Hp.st h (.p (.int .i64)) (padd 0 (.at n 0)) x = some h1 := s1
        have s2 : Hp.st h1 (.p (.int .i64)) (padd 1 (.at n 0)) y = some h2 := s2
        have s3 : Hp.st h2 (.p (.int .i64)) (padd 2 (.at n 0)) (d.2.2 + 1) = some h3 := s3
        simp only [np, chk_t]
        rw [s1, obs, s2, obs, l2, obs, wrap_id (by omega) (by omega), s3, obs]
        have u := (u1.trans u2).trans u3
        refine ⟨h3, _, rfl, u.keep hk hn0, u.free hf hn, .inr ⟨?_, n, hn0, by rw [u.1]; exact hn, ?_, ?_⟩⟩
        · have : pre (d :: L) x y = (x, y, d.2.2 + 1) :: L := by
            show (if d.1 = x + 1 ∧ d.2.1 = y + 1 then (x, y, d.2.2 + 1) :: L else (x, y, 1) :: d :: L) = _
            rw [if_pos ⟨c1, c2⟩]
          rw [this]
          simp
        · have : pre (d :: L) x y = (x, y, d.2.2 + 1) :: L := by
            show (if d.1 = x + 1 ∧ d.2.1 = y + 1 then (x, y, d.2.2 + 1) :: L else (x, y, 1) :: d :: L) = _
            rw [if_pos ⟨c1, c2⟩]
          rw [this]
          rfl
        · have : pre (d :: L) x y = (x, y, d.2.2 + 1) :: L := by
            show (if d.1 = x + 1 ∧ d.2.1 = y + 1 then (x, y, d.2.2 + 1) :: L else (x, y, 1) :: d :: L) = _
            rw [if_pos ⟨c1, c2⟩]
          rw [this]
          exact o3
      · rw [decide_eq_false c2]
        exact neg (fun h => c2 h.2) K
    · rw [br_ne c1]
      exact neg (fun h => c1 h.1) K
theorem snoc_last : ∀ (P : List Dg) (d : Dg) (x y : Int), snoc (P ++ [d]) x y = if d.1 + d.2.2 = x ∧ d.2.1 + d.2.2 = y then P ++ [(d.1, d.2.1, d.2.2 + 1)] else P ++ [d, (x, y, 1)]
  | [], d, x, y => rfl
  | [p], d, x, y => by
    show p :: snoc [d] x y = _
    show p :: (if d.1 + d.2.2 = x ∧ d.2.1 + d.2.2 = y then [(d.1, d.2.1, d.2.2 + 1)] else [d, (x, y, 1)]) = _
    split <;> rfl
  | p :: q :: P, d, x, y => by
    show p :: snoc (q :: P ++ [d]) x y = _
    rw [snoc_last (q :: P) d x y]
    split <;> rfl
theorem append_j1_ok (K k : Nat) {hs h : Hp} {r : Rf} {L : List Dg} (hb : Blt hs h 154 TS2 r L) (x y : Int) (ht : L.length ≤ 100000) : ∃ h' r', append_j1 K (k + 1) r x y h = some (h', r') ∧ Blt hs h' 154 TS2 r' (L ++ [(x, y, 1)]) := by
  obtain ⟨c1, s, c2, c3⟩ := hb.app ((x, y, 1) : Dg)
  have c1 : Hp.cs (Hp.new h 154 (.p TS2) [((x, y, 1) : Dg)]) 3 (.at h.nx 0 1) = _ := c1
  have c2 : Hp.app (Hp.new h 154 (.p TS2) [((x, y, 1) : Dg)]) 154 3 _ 1 r = some s := c2
  refine ⟨s.2, s.1, ?_, c3⟩
  rw [append_j1_eq]
  show Option.bind (Hp.cs (Hp.new h 154 (.p TS2) [((x, y, 1) : Dg)]) 3 (.at h.nx 0 1)) _ = _
  rw [c1, obs]
  show chk _ (Option.bind (Hp.app (Hp.new h 154 (.p TS2) [((x, y, 1) : Dg)]) 154 3 _ 1 r) _) = _
  rw [c2, obs, hb.sl.rlen, chk_lt (by show (L.length : Int) + ((1 : Nat) : Int) < _; omega)]
theorem append_ok (K : Nat) {hs h : Hp} {r : Rf} {L : List Dg} (hb : Blt hs h 154 TS2 r L) (x y : Int) (ht : Tiny L) (hx : -100000 ≤ x) (hx2 : x ≤ 100000) (hy : -100000 ≤ y) (hy2 : y ≤ 100000) (hK : 4 ≤ K) : ∃ h' r', append K h r x y = some (h', r') ∧ Blt hs h' 154 TS2 r' (snoc L x y) := by
  obtain ⟨K, rfl⟩ : ∃ q, K = q + 3 := ⟨K - 3, by omega⟩
  rw [append_eq, hb.sl.rlen]
  rcases List.eq_nil_or_concat L with rfl | ⟨P, d, rfl⟩
  · rw [br_ge (by show ((0 : Nat) : Int) ≤ 0; omega)]
    exact append_j1_ok (K + 2) (K + 1) hb x y ht.1
  · rw [List.concat_eq_append] at *
    have td := ht.2 d (by simp)
    have tl := ht.1
    rw [List.length_append] at tl
    simp only [List.length_cons, List.length_nil] at tl
    obtain ⟨hk, hf, hL⟩ := hb
    rcases hL with ⟨h0, _⟩ | ⟨_, n, hn0, hn, rfl, ho⟩
    · exact absurd h0 (by simp)
    have hlen : (P ++ [d]).length = P.length + 1 := by simp
    have hw : IntKind.wrap IntKind.i64 (((P ++ [d]).length : Int) - 1) = (P.length : Int) := by rw [hlen, wrap_id (by omega) (by omega)]; omega
    have q0 : radr 3 (Int.toNat (P.length : Int)) (.at n 0 (P ++ [d]).length) = .at n (P.length * 3) := radr0 ..
    have l0 : Hp.ld h (.p (.int .i64)) (padd 0 (.at n (P.length * 3))) = some d.1 := d_l0 ho
    have l1 : Hp.ld h (.p (.int .i64)) (padd 1 (.at n (P.length * 3))) = some d.2.1 := d_l1 ho
    have l2 : Hp.ld h (.p (.int .i64)) (padd 2 (.at n (P.length * 3))) = some d.2.2 := d_l2 ho
    have neg : ¬ (d.1 + d.2.2 = x ∧ d.2.1 + d.2.2 = y) → ∀ k, ∃ h' r', append_j0 (K + 2) (k + 2) (.at n 0 (P ++ [d]).length) x y (.at n (P.length * 3)) false h = some (h', r') ∧ Blt hs h' 154 TS2 r' (snoc (P ++ [d]) x y) := by
      intro hc k
      rw [append_j0_eq, br_false, snoc_last, if_neg hc]
      have := append_j1_ok (K + 2) k (L := P ++ [d]) ⟨hk, hf, .inr ⟨by simp, n, hn0, hn, rfl, ho⟩⟩ x y (by rw [hlen]; omega)
      rw [List.append_assoc] at this
      exact this
    rw [br_lt (by rw [hlen]; omega), hw, chk_le (by omega), chk_lt (by rw [hlen]; omega), q0]
    simp only [np, chk_t]
    rw [l0, obs, l2, obs, wrap_id (x := d.1 + d.2.2) (by omega) (by omega), l1, obs, obs, wrap_id (x := d.2.1 + d.2.2) (by omega) (by omega)]
    by_cases c1 : d.1 + d.2.2 = x
    · rw [br_eq c1, eqI_eq]
      by_cases c2 : d.2.1 + d.2.2 = y
      · rw [decide_eq_true c2, append_j0_eq, br_true]
        obtain ⟨h3, s3, o3, u⟩ := d_s2 ho (d.2.2 + 1)
        have s3 : Hp.st h (.p (.int .i64)) (padd 2 (.at n (P.length * 3))) (d.2.2 + 1) = some h3 := s3
        simp only [np, chk_t]
        rw [l2, obs, wrap_id (by omega) (by omega), s3, obs, snoc_last, if_pos ⟨c1, c2⟩]
        refine ⟨h3, _, rfl, u.keep hk hn0, u.free hf hn, .inr ⟨by simp, n, hn0, by rw [u.1]; exact hn, ?_, o3⟩⟩
        simp
      · rw [decide_eq_false c2]
        exact neg (fun h => c2 h.2) K
    · rw [br_ne c1]
      exact neg (fun h => c1 h.1) K
end Go.Proofs.Ytfglahmbnnkijaa.E
