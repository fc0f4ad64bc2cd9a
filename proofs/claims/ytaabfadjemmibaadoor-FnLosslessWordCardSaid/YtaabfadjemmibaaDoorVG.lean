import Derived.Test.YtaabfadjemmibaaDoorVF
/- DiffCleanupSemanticLossless. -/
set_option linter.unusedVariables false
set_option linter.unusedSimpArgs false
namespace Go.Proofs.YtaabfadjemmibaaDoor.E
open Go.Ev
/-- A shift: what is equal, what stands at all, how long the edit is. -/
structure Shift (T U : List Int) (n : Nat) (p q r : List Int) : Prop where
  all : p ++ q ++ r = T
  eqs : p ++ r = U
  len : q.length = n
theorem Shift.asc {T U p q r : List Int} {n : Nat} (h : Shift T U n p q r) (hT : Asc T) : Asc p ∧ Asc q ∧ Asc r := by
  rw [← h.all] at hT
  exact ⟨hT.left.left, hT.left.right, hT.right⟩
theorem Shift.le {T U p q r : List Int} {n : Nat} (h : Shift T U n p q r) : p.length + q.length + r.length = T.length := by rw [← h.all]; simp; omega
theorem app_asc (a b : List Int) : ByteArray.append (strOfRunes a) (strOfRunes b) = strOfRunes (a ++ b) := app_str a b
theorem best_loop (K : Nat) (i0 : Int) (X : List TS1.den) (L : List TS2.den) (x5 : Int) (T U : List Int) (n : Nat) (hT : Asc T) (lT : T.length ≤ 100000) (hK : 20 ≤ K) : ∀ (c : List Int) (a e p q r : List Int) (s : Nat) (k : Nat), Shift T U n a e c → Shift T U n p q r → s ≤ 12 → 3 * c.length + 3 ≤ k →
    ∃ k' p' q' r', k ≤ k' + (3 * c.length + 3) ∧ Shift T U n p' q' r' ∧ DiffCleanupSemanticLossless_l1 K k i0 X L x5 (strOfRunes a) (strOfRunes e) (strOfRunes c) (strOfRunes p) (strOfRunes q) (strOfRunes r) (s : Int) = DiffCleanupSemanticLossless_j4 K k' i0 X L x5 (strOfRunes p') (strOfRunes q') (strOfRunes r')
  | [], a, e, p, q, r, s, k, h, hb, hs, hk => by
    obtain ⟨ha, he, hc⟩ := h.asc hT
    have se := size_asc he
    have hle := h.le
    have sc : (strOfRunes []).size = 0 := rfl
    obtain ⟨k, rfl⟩ : ∃ m, k = m + 3 := ⟨k - 3, by omega⟩
    rw [DiffCleanupSemanticLossless_l1_eq, se, sc, br_not, br_not, br_eq (show ((0 : Nat) : Int) = 0 from rfl)]
    refine ⟨k + 2, p, q, r, by omega, hb, ?_⟩
    by_cases he0 : e.length = 0
    · rw [br_eq (by omega)]
    · rw [br_ne (by omega)]
  | v :: c, a, [], p, q, r, s, k, h, hb, hs, hk => by
    obtain ⟨k, rfl⟩ : ∃ m, k = m + 3 := ⟨k - 3, by simp only [List.length_cons] at hk; omega⟩
    have se : (strOfRunes []).size = 0 := rfl
    rw [DiffCleanupSemanticLossless_l1_eq, se, br_not, br_eq (show ((0 : Nat) : Int) = 0 from rfl)]
    exact ⟨k + 2, p, q, r, by omega, hb, rfl⟩
  | v :: c, a, u :: e, p, q, r, s, k, h, hb, hs, hk => by
      obtain ⟨ha, he, hc⟩ := h.asc hT
      have hle := h.le
      have sa := size_asc ha
      have se := size_asc he
      have sc := size_asc hc
      obtain ⟨k, rfl⟩ : ∃ m, k = m + 3 := ⟨k - 3, by simp only [List.length_cons] at hk; omega⟩
      rw [DiffCleanupSemanticLossless_l1_eq, se, sc]
      simp only [List.length_cons] at hle se sc hk ⊢
      rw [br_not, br_ne (by omega), br_not, br_ne (by omega), DiffCleanupSemanticLossless_j3_eq, dec_asc _ he (by simp) (by simp; omega) (by omega)]
      simp only [Option.bind_some, List.getElem_cons_zero]
      rw [sc, se, br_ge (by omega), chk_le (by omega), chk_le (by omega), chk_le (by omega), chk_le (by omega), chk_le (by omega), chk_le (by omega), ext_asc he, ext_asc hc]
      have e1 : (List.drop (Int.toNat 0) (u :: e)).take (Int.toNat 1 - Int.toNat 0) = [u] := rfl
      have e2 : (List.drop (Int.toNat 0) (v :: c)).take (Int.toNat 1 - Int.toNat 0) = [v] := rfl
      have hu : Asc [u] := fun z hz => he z (by rw [List.mem_singleton.1 hz]; simp)
      have hv : Asc [v] := fun z hz => hc z (by rw [List.mem_singleton.1 hz]; simp)
      have he' : Asc e := fun z hz => he z (List.mem_cons_of_mem _ hz)
      have hc' : Asc c := fun z hz => hc z (List.mem_cons_of_mem _ hz)
      rw [e1, e2, eqS_asc hu hv]
      by_cases huv : u = v
      · subst huv
        rw [decide_eq_true rfl, Bool.not_true, br_false, DiffCleanupSemanticLossless_j5_eq, ext_asc he, ext_asc hc, ext_asc hc, ext_asc he, sc, se, sa, e1, e2]
        have e3 : (List.drop (Int.toNat 1) (u :: e)).take (Int.toNat ((e.length + 1 : Nat) : Int) - Int.toNat 1) = e := by
          show e.take (Int.toNat ((e.length + 1 : Nat) : Int) - Int.toNat 1) = e
          exact List.take_of_length_le (by omega)
        have e4 : (List.drop (Int.toNat 1) (u :: c)).take (Int.toNat ((c.length + 1 : Nat) : Int) - Int.toNat 1) = c := by
          show c.take (Int.toNat ((c.length + 1 : Nat) : Int) - Int.toNat 1) = c
          exact List.take_of_length_le (by omega)
        rw [e3, e4, app_asc, app_asc, size_asc hu, size_asc he']
        have hsh : Shift T U n (a ++ [u]) (e ++ [u]) c := ⟨by rw [← h.all]; simp, by rw [← h.eqs]; simp, by rw [← h.len]; simp⟩
        obtain ⟨s1, g1, hs1⟩ := score_some K (ha.app hu) (he'.app hu) (by simp; omega) (by simp; omega) hK
        obtain ⟨s2, g2, hs2⟩ := score_some K (he'.app hu) hc' (by simp; omega) (by omega) hK
        rw [hs1, hs2]
        simp only [Option.bind_some, List.length_singleton]
        have w : IntKind.i64.wrap ((s1 : Int) + (s2 : Int)) = ((s1 + s2 : Nat) : Int) := by rw [wrap_id (by omega) (by omega)]; omega
        rw [w, chk_le (by omega), chk_le (by omega), chk_le (by omega), chk_nle (by omega), chk_le (by omega), chk_le (by omega), chk_le (by omega), chk_le (by omega), chk_le (by omega), chk_le (by omega), chk_nle (by omega), chk_le (by omega), chk_le (by omega), chk_le (by omega)]
        by_cases hle2 : (s : Int) ≤ ((s1 + s2 : Nat) : Int)
        · rw [br_le hle2]
          obtain ⟨k', p', q', r', i1, i2, i3⟩ := best_loop K i0 X L x5 T U n hT lT hK c (a ++ [u]) (e ++ [u]) (a ++ [u]) (e ++ [u]) c (s1 + s2) k hsh hsh (by omega) (by omega)
          exact ⟨k', p', q', r', by omega, i2, i3⟩
        · rw [br_gt (by omega)]
          obtain ⟨k', p', q', r', i1, i2, i3⟩ := best_loop K i0 X L x5 T U n hT lT hK c (a ++ [u]) (e ++ [u]) p q r s k hsh hb hs (by omega)
          exact ⟨k', p', q', r', by omega, i2, i3⟩
      · rw [decide_eq_false (fun e => huv (by injection e)), Bool.not_false, br_true]
        exact ⟨_, p, q, r, by omega, hb, rfl⟩
/-- What shifting leaves. -/
def shp : List M → List (Int × Nat)
  | [] => []
  | m :: l => if m.1 = 0 then shp l else (m.1, m.2.length) :: shp l
theorem shp_app : ∀ a b : List M, shp (a ++ b) = shp a ++ shp b
  | [], b => rfl
  | m :: a, b => by
    simp only [List.cons_append, shp, shp_app a b]
    split <;> rfl
def Ascm (l : List M) : Prop := ∀ m ∈ l, Asc m.2
theorem Ascm.okm {l : List M} (h : Ascm l) : Okm l := fun m hm => (h m hm).okl
def Ne0 (l : List M) : Prop := ∀ m ∈ l, m.1 = 0 → m.2 ≠ []
structure Sim (a b : List M) : Prop where
  side : ∀ z, z ≠ 0 → side z b = side z a
  typed : Typed a → Typed b
  asc : Ascm a → Ascm b
  ne0 : Ne0 a → Ne0 b
  len : b.length ≤ a.length
  wt : wt b ≤ wt a
  shp : shp b = shp a
theorem Sim.refl (a : List M) : Sim a a := ⟨fun _ _ => rfl, id, id, id, Nat.le_refl _, Nat.le_refl _, rfl⟩
theorem Sim.trans {a b c : List M} (h : Sim a b) (g : Sim b c) : Sim a c :=
  ⟨fun z hz => (g.side z hz).trans (h.side z hz), fun x => g.typed (h.typed x), fun x => g.asc (h.asc x), fun x => g.ne0 (h.ne0 x), Nat.le_trans g.len h.len, Nat.le_trans g.wt h.wt, g.shp.trans h.shp⟩
theorem sim_step (A B : List M) (t : Int) (x y z p q r : List Int) (h : Shift (x ++ y ++ z) (x ++ z) y.length p q r) (W : List M) (hW : W = (if p = [] then [] else [((0 : Int), p)]) ++ (t, q) :: (if r = [] then [] else [((0 : Int), r)])) : Sim (A ++ (0, x) :: (t, y) :: (0, z) :: B) (A ++ W ++ B) := by
  have hl := h.le
  have e1 := congrArg List.length h.all
  have e2 := congrArg List.length h.eqs
  have e3 := h.len
  simp only [List.length_append] at e1 e2 hl
  have mem : ∀ m ∈ W, m = (t, q) ∨ (m = (0, p) ∧ p ≠ []) ∨ (m = (0, r) ∧ r ≠ []) := by
    intro m hm
    rw [hW] at hm
    rcases List.mem_append.1 hm with hm | hm
    · split at hm
      · cases hm
      · exact .inr (.inl ⟨List.mem_singleton.1 hm, by assumption⟩)
    · rcases List.mem_cons.1 hm with hm | hm
      · exact .inl hm
      · split at hm
        · cases hm
        · exact .inr (.inr ⟨List.mem_singleton.1 hm, by assumption⟩)
  have sW : ∀ z', z' ≠ 0 → side z' W = p ++ ((if t = z' then [] else q) ++ r) := by
    intro z' hz'
    rw [hW, side_app]
    by_cases hp : p = [] <;> by_cases hr : r = [] <;> by_cases ht : t = z' <;> simp [hp, hr, ht, side, Ne.symm hz']
  have wW : wt W ≤ x.length + y.length + z.length + 3 := by
    rw [hW, wt_app]
    by_cases hp : p = [] <;> by_cases hr : r = [] <;> simp [hp, hr, wt] at hl ⊢ <;> omega
  have lW : W.length ≤ 3 := by
    rw [hW]
    by_cases hp : p = [] <;> by_cases hr : r = [] <;> simp [hp, hr]
  have hW2 : shp W = shp [(t, y)] := by
    rw [hW]
    by_cases hp : p = [] <;> by_cases hr : r = [] <;> by_cases ht : t = 0 <;> simp [hp, hr, ht, shp, e3]
  refine ⟨fun z' hz' => ?_, fun ht => ?_, fun ha => ?_, fun hn => ?_, ?_, ?_, ?_⟩
  · rw [side_app, side_app, sW z' hz', side_app]
    have e4 := h.all
    have e5 := h.eqs
    by_cases ht : t = z'
    · have e6 : side z' ((0, x) :: (t, y) :: (0, z) :: B) = (p ++ r) ++ side z' B := by rw [e5]; simp [side, ht, Ne.symm hz']
      rw [e6, if_pos ht]
      simp
    · have e6 : side z' ((0, x) :: (t, y) :: (0, z) :: B) = (p ++ q ++ r) ++ side z' B := by rw [e4]; simp [side, ht, Ne.symm hz']
      rw [e6, if_neg ht]
      simp
  · intro m hm
    rcases List.mem_append.1 hm with hm | hm
    · rcases List.mem_append.1 hm with hm | hm
      · exact ht m (by simp [hm])
      · rcases mem m hm with rfl | ⟨rfl, _⟩ | ⟨rfl, _⟩
        · exact ht (t, y) (by simp)
        · exact .inl rfl
        · exact .inl rfl
    · exact ht m (by simp [hm])
  · have hx := ha (0, x) (by simp)
    have hy := ha (t, y) (by simp)
    have hz := ha (0, z) (by simp)
    obtain ⟨a1, a2, a3⟩ := h.asc ((hx.app hy).app hz)
    intro m hm
    rcases List.mem_append.1 hm with hm | hm
    · rcases List.mem_append.1 hm with hm | hm
      · exact ha m (by simp [hm])
      · rcases mem m hm with rfl | ⟨rfl, _⟩ | ⟨rfl, _⟩
        · exact a2
        · exact a1
        · exact a3
    · exact ha m (by simp [hm])
  · intro m hm h0
    rcases List.mem_append.1 hm with hm | hm
    · rcases List.mem_append.1 hm with hm | hm
      · exact hn m (by simp [hm]) h0
      · rcases mem m hm with rfl | ⟨rfl, h1⟩ | ⟨rfl, h1⟩
        · have := hn (t, y) (by simp) h0
          intro hq
          have hq : q = [] := hq
          rw [hq] at e3
          exact this (List.eq_nil_of_length_eq_zero e3.symm)
        · exact h1
        · exact h1
    · exact hn m (by simp [hm]) h0
  · simp; omega
  · rw [wt_app, wt_app, wt_app]
    simp only [wt]
    omega
  · rw [shp_app, shp_app, shp_app, hW2]
    simp only [shp]
    by_cases ht : t = 0 <;> simp [ht]
theorem j6L (K k : Nat) (i0 : Int) (X : List TS1.den) (A B : List M) (t : Int) (y z q r : List Int) (hr : Asc r) (hB : A.length + B.length ≤ 100000) (lr : r.length ≤ 100000) :
    DiffCleanupSemanticLossless_j6 K (k + 1) i0 X (enc (A ++ (t, y) :: (0, z) :: B)) (A.length : Int) (strOfRunes q) (strOfRunes r) =
      DiffCleanupSemanticLossless_l0 K k i0 X (enc (A ++ (t, q) :: ((if r = [] then [] else [((0 : Int), r)]) ++ B))) ((if r = [] then A.length else A.length + 1 : Nat) : Int) := by
  have hl : (enc (A ++ (t, y) :: (0, z) :: B)).length = A.length + B.length + 2 := by rw [enc_len]; simp; omega
  have e0 : nth TS2 (enc (A ++ (t, y) :: (0, z) :: B)) (A.length : Int) = (t, strOfRunes y) := nth_enc A _ (t, y) _ rfl
  have s0 : (enc (A ++ (t, y) :: (0, z) :: B)).set (Int.toNat (A.length : Int)) (t, strOfRunes q) = enc (A ++ (t, q) :: (0, z) :: B) := set_enc A ((0, z) :: B) t y q (A.length : Int) rfl
  have w1 : IntKind.i64.wrap ((A.length : Int) + 1) = ((A.length + 1 : Nat) : Int) := by rw [wrap_id (by omega) (by omega)]; omega
  have w2 : IntKind.i64.wrap ((A.length : Int) + 2) = ((A.length + 2 : Nat) : Int) := by rw [wrap_id (by omega) (by omega)]; omega
  have w3 : IntKind.i64.wrap (IntKind.i64.wrap ((A.length : Int) - 1) + 1) = (A.length : Int) := by rw [wrap_id (x := (A.length : Int) - 1) (by omega) (by omega), wrap_id (by omega) (by omega)]; omega
  have e1 : nth TS2 (enc (A ++ (t, q) :: (0, z) :: B)) ((A.length + 1 : Nat) : Int) = (0, strOfRunes z) := by
    rw [show A ++ (t, q) :: (0, z) :: B = (A ++ [(t, q)]) ++ (0, z) :: B by simp]
    exact nth_enc _ _ _ _ (by simp)
  have s1 : (enc (A ++ (t, q) :: (0, z) :: B)).set (Int.toNat ((A.length + 1 : Nat) : Int)) (0, strOfRunes r) = enc (A ++ (t, q) :: (0, r) :: B) := by
    have := set_enc (A ++ [(t, q)]) B 0 z r ((A.length + 1 : Nat) : Int) (by simp)
    simpa using this
  have hl1 : (enc (A ++ (t, q) :: (0, z) :: B)).length = A.length + B.length + 2 := by rw [enc_len]; simp; omega
  rw [DiffCleanupSemanticLossless_j6_eq, hl, e0, w1, w2, w3, size_asc hr]
  simp only []
  rw [s0, e1, hl1]
  simp only []
  rw [s1, chk_le (by omega), chk_lt (by omega)]
  by_cases h0 : r = []
  · rw [if_pos h0, if_pos h0, br_not, br_eq (by rw [h0]; rfl), chk_le (by omega), chk_le (by omega), chk_le (by omega), chk_le (by omega), chk_le (by omega), chk_le (by omega), chk_eq rfl]
    have t1 : List.take (Int.toNat ((A.length + 1 : Nat) : Int)) (enc (A ++ (t, q) :: (0, z) :: B)) = enc (A ++ [(t, q)]) := by
      rw [Int.toNat_natCast, show A ++ (t, q) :: (0, z) :: B = (A ++ [(t, q)]) ++ ((0, z) :: B) by simp, enc_app, List.take_left']
      rw [enc_len]; simp
    have t2 : List.take (Int.toNat ((A.length + B.length + 2 : Nat) : Int) - Int.toNat ((A.length + 2 : Nat) : Int)) (List.drop (Int.toNat ((A.length + 2 : Nat) : Int)) (enc (A ++ (t, q) :: (0, z) :: B))) = enc B := by
      rw [Int.toNat_natCast, Int.toNat_natCast, show A ++ (t, q) :: (0, z) :: B = (A ++ [(t, q), (0, z)]) ++ B by simp, enc_app, List.drop_left' (by rw [enc_len]; simp), List.take_of_length_le (by rw [enc_len]; omega)]
    rw [t1, t2, enc_len, chk_lt (by omega), ← enc_app]
    simp
  · have hp := List.length_pos_iff.2 h0
    rw [if_neg h0, if_neg h0, br_not, br_ne (by omega), chk_le (by omega), chk_lt (by omega)]
    rfl
/-- One round: an edit between two equalities. -/
theorem less_step (K : Nat) (i0 : Int) (X : TS1.den) (hi0 : nth TS1 [X] i0 = X) (A B : List M) (t : Int) (x y z : List Int) (hx : Asc x) (hy : Asc y) (hz : Asc z) (nx : x ≠ []) (hB : A.length + B.length ≤ 10000) (lT : x.length + y.length + z.length ≤ 10000) (hK : 200000 ≤ K) (k : Nat) (hk : 3 * (x.length + y.length + z.length) + 20 ≤ k) :
    ∃ k' W j, k ≤ k' + (3 * (x.length + y.length + z.length) + 20) ∧ Sim (A ++ (0, x) :: (t, y) :: (0, z) :: B) (A ++ W ++ B) ∧ A.length + W.length + B.length + 1 ≤ j + B.length + 2 ∧ 1 ≤ j ∧
      DiffCleanupSemanticLossless_j1 K k i0 [X] (enc (A ++ (0, x) :: (t, y) :: (0, z) :: B)) ((A.length + 1 : Nat) : Int) true = DiffCleanupSemanticLossless_l0 K k' i0 [X] (enc (A ++ W ++ B)) (j : Int) := by
  obtain ⟨k, rfl⟩ : ∃ m, k = m + 6 := ⟨k - 6, by omega⟩
  have w0 : IntKind.i64.wrap (((A.length + 1 : Nat) : Int) - 1) = (A.length : Int) := by rw [wrap_id (by omega) (by omega)]; omega
  have w2 : IntKind.i64.wrap (((A.length + 1 : Nat) : Int) + 1) = ((A.length + 2 : Nat) : Int) := by rw [wrap_id (by omega) (by omega)]; omega
  have hl : (enc (A ++ (0, x) :: (t, y) :: (0, z) :: B)).length = A.length + B.length + 3 := by rw [enc_len]; simp; omega
  have sx := size_asc hx
  have sy := size_asc hy
  have sz := size_asc hz
  have hT : Asc (x ++ y ++ z) := (hx.app hy).app hz
  have lT' : (x ++ y ++ z).length ≤ 100000 := by simp; omega
  -- what follows the search
  have fin : ∀ (k' : Nat) (p q r : List Int), Shift (x ++ y ++ z) (x ++ z) y.length p q r → ∃ k'' W j, k' ≤ k'' + 3 ∧ Sim (A ++ (0, x) :: (t, y) :: (0, z) :: B) (A ++ W ++ B) ∧ A.length + W.length + B.length + 1 ≤ j + B.length + 2 ∧ 1 ≤ j ∧
      (3 ≤ k' → DiffCleanupSemanticLossless_j4 K k' i0 [X] (enc (A ++ (0, x) :: (t, y) :: (0, z) :: B)) ((A.length + 1 : Nat) : Int) (strOfRunes p) (strOfRunes q) (strOfRunes r) = DiffCleanupSemanticLossless_l0 K k'' i0 [X] (enc (A ++ W ++ B)) (j : Int)) := by
    intro k' p q r h
    obtain ⟨ap, aq, ar⟩ := h.asc hT
    have hle := h.le
    simp only [List.length_append] at hle
    by_cases hp : x = p
    · refine ⟨k' - 1, [(0, x), (t, y), (0, z)], A.length + 2, by omega, ?_, by simp; omega, by omega, fun hk' => ?_⟩
      · rw [show A ++ [(0, x), (t, y), (0, z)] ++ B = A ++ (0, x) :: (t, y) :: (0, z) :: B by simp]
        exact Sim.refl _
      · obtain ⟨m, rfl⟩ : ∃ m, k' = m + 1 := ⟨k' - 1, by omega⟩
        rw [DiffCleanupSemanticLossless_j4_eq, w0, w2, hl, n0, chk_le (by omega), chk_lt (by omega), eqS_asc hx ap, decide_eq_true hp, Bool.not_true, br_false, Nat.add_sub_cancel]
        rw [show A ++ [(0, x), (t, y), (0, z)] ++ B = A ++ (0, x) :: (t, y) :: (0, z) :: B by simp]
    · by_cases hp0 : p = []
      · have hr0 : r ≠ [] := by
          rintro rfl
          have := h.eqs
          rw [hp0] at this
          exact nx (List.append_eq_nil_iff.1 this.symm).1
        refine ⟨k' - 2, [(t, q), (0, r)], A.length + 1, by omega, ?_, by simp; omega, by omega, fun hk' => ?_⟩
        · exact sim_step A B t x y z p q r h _ (by rw [if_pos hp0, if_neg hr0]; rfl)
        · obtain ⟨m, rfl⟩ : ∃ m, k' = m + 2 := ⟨k' - 2, by omega⟩
          have hsp := splice_enc K A [(0, x)] ((t, y) :: (0, z) :: B) [] (by simp) (by simp; omega) (by simp; omega) (A.length : Int) 1 rfl (by simp)
          rw [show enc ([] : List M) = [] from rfl] at hsp
          rw [DiffCleanupSemanticLossless_j4_eq, w0, hl, n0, chk_le (by omega), chk_lt (by omega), eqS_asc hx ap, decide_eq_false hp, Bool.not_false, br_true, size_asc ap, br_not, br_eq (by rw [hp0]; rfl)]
          rw [show A ++ (0, x) :: (t, y) :: (0, z) :: B = A ++ ([(0, x)] ++ (t, y) :: (0, z) :: B) by simp, hsp]
          simp only [Option.bind_some, List.nil_append]
          rw [j6L K m i0 [X] A B t y z q r ar (by omega) (by omega), if_neg hr0, if_neg hr0]
          simp
      · refine ⟨k' - 2, [(0, p), (t, q)] ++ (if r = [] then [] else [((0 : Int), r)]), if r = [] then A.length + 1 else A.length + 2, by omega, ?_, by split <;> simp <;> omega, by split <;> omega, fun hk' => ?_⟩
        · exact sim_step A B t x y z p q r h _ (by rw [if_neg hp0]; rfl)
        · obtain ⟨m, rfl⟩ : ∃ m, k' = m + 2 := ⟨k' - 2, by omega⟩
          have hpp := List.length_pos_iff.2 hp0
          rw [DiffCleanupSemanticLossless_j4_eq, w0, hl, n0, chk_le (by omega), chk_lt (by omega), eqS_asc hx ap, decide_eq_false hp, Bool.not_false, br_true, size_asc ap, br_not, br_ne (by omega), chk_le (by omega), chk_lt (by omega)]
          simp only [Int.toNat_natCast]
          rw [st0]
          have e6 := j6L K m i0 [X] (A ++ [(0, p)]) B t y z q r ar (by simp; omega) (by omega)
          rw [show A ++ [(0, p)] ++ (t, y) :: (0, z) :: B = A ++ (0, p) :: (t, y) :: (0, z) :: B by simp, show (((A ++ [((0 : Int), p)]).length : Nat) : Int) = ((A.length + 1 : Nat) : Int) by simp] at e6
          rw [e6, Nat.add_sub_cancel]
          congr 1
          · congr 1
            simp
          · split <;> simp
            omega
  have go : ∀ (a e c : List Int) (k' : Nat), Shift (x ++ y ++ z) (x ++ z) y.length a e c → 3 * (x.length + y.length + z.length) + 8 ≤ k' → ∃ k'' W j, k' ≤ k'' + (3 * (x.length + y.length + z.length) + 8) ∧ Sim (A ++ (0, x) :: (t, y) :: (0, z) :: B) (A ++ W ++ B) ∧ A.length + W.length + B.length + 1 ≤ j + B.length + 2 ∧ 1 ≤ j ∧
      DiffCleanupSemanticLossless_j2 K k' i0 [X] (enc (A ++ (0, x) :: (t, y) :: (0, z) :: B)) ((A.length + 1 : Nat) : Int) (strOfRunes a) (strOfRunes e) (strOfRunes c) = DiffCleanupSemanticLossless_l0 K k'' i0 [X] (enc (A ++ W ++ B)) (j : Int) := by
    intro a e c k' h hk'
    obtain ⟨aa, ae, ac⟩ := h.asc hT
    have hle := h.le
    simp only [List.length_append] at hle
    obtain ⟨m, rfl⟩ : ∃ m, k' = m + 1 := ⟨k' - 1, by omega⟩
    obtain ⟨s1, g1, hs1⟩ := score_some K aa ae (by omega) (by omega) (by omega)
    obtain ⟨s2, g2, hs2⟩ := score_some K ae ac (by omega) (by omega) (by omega)
    rw [DiffCleanupSemanticLossless_j2_eq, hs1, hs2]
    simp only [Option.bind_some]
    have w : IntKind.i64.wrap ((s1 : Int) + (s2 : Int)) = ((s1 + s2 : Nat) : Int) := by rw [wrap_id (by omega) (by omega)]; omega
    rw [w]
    obtain ⟨k1, p', q', r', i1, i2, i3⟩ := best_loop K i0 [X] (enc (A ++ (0, x) :: (t, y) :: (0, z) :: B)) ((A.length + 1 : Nat) : Int) _ _ _ hT lT' (by omega) c a e a e c (s1 + s2) m h h (by omega) (by omega)
    obtain ⟨k2, W, j, f1, f2, f3, f4, f5⟩ := fin k1 p' q' r' i2
    exact ⟨k2, W, j, by omega, f2, f3, f4, by rw [i3]; exact f5 (by omega)⟩
  rw [DiffCleanupSemanticLossless_j1_eq, br_true, w0, w2, hl, n0, n1, n2, hi0]
  simp only []
  have hcs : DiffCommonSuffix K X (strOfRunes x) (strOfRunes y) = some ((csl x y : Nat) : Int) := by
    obtain ⟨K', rfl⟩ : ∃ m, K = m + 1 := ⟨K - 1, by omega⟩
    rw [DiffCommonSuffix_eq, runesI_of hx.okl, runesI_of hy.okl, chk_nle (by omega), chk_nle (by omega), csl_ok K' x y (by omega) (by omega) (by omega)]
    rfl
  rw [hcs, chk_le (by omega), chk_lt (by omega), chk_le (by omega), chk_lt (by omega), chk_le (by omega), chk_lt (by omega)]
  simp only [Option.bind_some]
  have hcl := csl_le x y
  by_cases hm : csl x y = 0
  · rw [br_ge (by omega)]
    obtain ⟨k2, W, j, f1, f2, f3, f4, f5⟩ := go x y z (k + 5) ⟨rfl, rfl, rfl⟩ (by omega)
    exact ⟨k2, W, j, by omega, f2, f3, f4, f5⟩
  · rw [br_lt (by omega), sx, sy, sz]
    have v1 : IntKind.i64.wrap ((y.length : Int) - ((csl x y : Nat) : Int)) = ((y.length - csl x y : Nat) : Int) := by rw [wrap_id (by omega) (by omega)]; omega
    have v2 : IntKind.i64.wrap ((x.length : Int) - ((csl x y : Nat) : Int)) = ((x.length - csl x y : Nat) : Int) := by rw [wrap_id (by omega) (by omega)]; omega
    rw [v1, v2, ext_asc hy, ext_asc hy, ext_asc hx]
    simp only [Int.toNat_natCast, show Int.toNat 0 = 0 from rfl, List.drop_zero, Nat.sub_zero]
    rw [show (y.drop (y.length - csl x y)).take (y.length - (y.length - csl x y)) = y.drop (y.length - csl x y) from List.take_of_length_le (by rw [List.length_drop]; exact Nat.le_refl _)]
    rw [app_asc, app_asc, size_asc (hy.drop _), size_asc (hy.take _), List.length_drop, List.length_take]
    rw [chk_le (by omega), chk_le (by omega), chk_le (by omega), chk_le (by omega), chk_le (by omega), chk_le (by omega), chk_le (by omega), chk_le (by omega), chk_le (by omega), chk_nle (by omega), chk_nle (by omega)]
    have hd := csl_drop x y
    obtain ⟨k2, W, j, f1, f2, f3, f4, f5⟩ := go (x.take (x.length - csl x y)) (y.drop (y.length - csl x y) ++ y.take (y.length - csl x y)) (y.drop (y.length - csl x y) ++ z) (k + 5) ⟨by
      rw [← hd, ← List.append_assoc, ← List.append_assoc, List.take_append_drop, hd, List.append_assoc x, List.take_append_drop], by
      rw [← hd, ← List.append_assoc, List.take_append_drop], by rw [List.length_append, List.length_drop, List.length_take]; omega⟩ (by omega)
    exact ⟨k2, W, j, by omega, f2, f3, f4, f5⟩
theorem Ne0.at_ {A B : List M} {t : Int} {x : List Int} (h : Ne0 (A ++ (t, x) :: B)) (ht : t = 0) : x ≠ [] := h (t, x) (by simp) ht
theorem wt_le : ∀ {l : List M} {m : M}, m ∈ l → m.2.length ≤ wt l
  | a :: l, m, h => by
    rcases List.mem_cons.1 h with rfl | h
    · simp only [wt]; omega
    · have := wt_le h; simp only [wt]; omega
/-- The whole loop. -/
theorem less_loop (K : Nat) (i0 : Int) (X : TS1.den) (hi0 : nth TS1 [X] i0 = X) (hK : 200000 ≤ K) (W0 : Nat) (hW0 : W0 ≤ 5000) : ∀ (d : Nat) (L : List M) (p k : Nat), 1 ≤ p → L.length ≤ p + 1 + d → Typed L → Ascm L → Ne0 L → wt L ≤ W0 → (3 * W0 + 30) * (d + 1) ≤ k →
    ∃ L', Sim L L' ∧ DiffCleanupSemanticLossless_l0 K k i0 [X] (enc L) (p : Int) = some (enc L')
  | d, L, p, k, hp, hd, tT, aT, nT, hw, hk => by
    have hwl := wt_len L
    have hk1 : 3 * W0 + 30 ≤ k := Nat.le_trans (Nat.le_mul_of_pos_right _ (Nat.succ_pos d)) hk
    obtain ⟨k, rfl⟩ : ∃ m, k = m + 3 := ⟨k - 3, by omega⟩
    rw [DiffCleanupSemanticLossless_l0_eq, enc_len]
    by_cases he : p + 1 < L.length
    · have wl : IntKind.i64.wrap ((L.length : Int) - 1) = ((L.length - 1 : Nat) : Int) := by rw [wrap_id (by omega) (by omega)]; omega
      rw [wl, br_lt (by omega)]
      match d, hd, hk with
      | 0, hd, hk => omega
      | d + 1, hd, hk =>
      have hk3 : (3 * W0 + 30) * (d + 1) + (3 * W0 + 30) ≤ k + 3 := by rw [Nat.mul_add (3 * W0 + 30) (d + 1) 1] at hk; omega
      obtain ⟨a, b, c, B, hA⟩ := three (l := L.drop (p - 1)) (by rw [List.length_drop]; omega)
      have hL : L = L.take (p - 1) ++ a :: b :: c :: B := by rw [← hA, List.take_append_drop]
      have lA : (L.take (p - 1)).length + 1 = p := by rw [List.length_take]; omega
      generalize L.take (p - 1) = A at hL lA
      subst hL
      subst lA
      have w0 : IntKind.i64.wrap (((A.length + 1 : Nat) : Int) - 1) = (A.length : Int) := by rw [wrap_id (by omega) (by omega)]; omega
      have w2 : IntKind.i64.wrap (((A.length + 1 : Nat) : Int) + 1) = ((A.length + 2 : Nat) : Int) := by rw [wrap_id (by omega) (by omega)]; omega
      have hl : (enc (A ++ a :: b :: c :: B)).length = A.length + B.length + 3 := by rw [enc_len]; simp; omega
      have hlM : (A ++ a :: b :: c :: B).length = A.length + B.length + 3 := by simp; omega
      rw [hlM] at hwl hd
      rw [DiffCleanupSemanticLossless_j0_eq, w0, w2, hl, n0, n2, chk_le (by omega), chk_lt (by omega)]
      simp only []
      have skip : ∃ L', Sim (A ++ a :: b :: c :: B) L' ∧ DiffCleanupSemanticLossless_j1 K (k + 1) i0 [X] (enc (A ++ a :: b :: c :: B)) ((A.length + 1 : Nat) : Int) false = some (enc L') := by
        rw [DiffCleanupSemanticLossless_j1_eq, br_false, w2]
        exact less_loop K i0 X hi0 hK W0 hW0 d (A ++ a :: b :: c :: B) (A.length + 2) k (by omega) (by rw [hlM]; omega) tT aT nT hw (by omega)
      by_cases ha : a.1 = 0
      · rw [br_eq ha, chk_le (by omega), chk_lt (by omega)]
        by_cases hc : c.1 = 0
        · rw [eqI_t hc]
          obtain ⟨ta, x⟩ := a
          obtain ⟨tb, y⟩ := b
          obtain ⟨tc, z⟩ := c
          have ha : ta = 0 := ha
          have hc : tc = 0 := hc
          subst ha; subst hc
          have hwt : wt (A ++ (0, x) :: (tb, y) :: (0, z) :: B) = wt A + (x.length + 1 + (y.length + 1 + (z.length + 1 + wt B))) := by rw [wt_app]; rfl
          have hwA := wt_len A
          have hwB := wt_len B
          obtain ⟨k', W, j, f1, f2, f3, f4, f5⟩ := less_step K i0 X hi0 A B tb x y z (aT (0, x) (by simp)) (aT (tb, y) (by simp)) (aT (0, z) (by simp)) (nT (0, x) (by simp) rfl) (by omega) (by omega) hK (k + 1) (by omega)
          rw [f5]
          obtain ⟨L', g1, g2⟩ := less_loop K i0 X hi0 hK W0 hW0 d (A ++ W ++ B) j k' f4 (by simp only [List.length_append]; omega) (f2.typed tT) (f2.asc aT) (f2.ne0 nT) (Nat.le_trans f2.wt hw) (by omega)
          exact ⟨L', f2.trans g1, g2⟩
        · rw [eqI_f hc]; exact skip
      · rw [br_ne ha]; exact skip
    · have h0 : IntKind.i64.wrap ((L.length : Int) - 1) ≤ (p : Int) := by rw [wrap_id (by omega) (by omega)]; omega
      rw [br_ge h0]
      exact ⟨L, Sim.refl _, rfl⟩
theorem Lossless_ok (K : Nat) (X : TS1.den) (L : List M) (tT : Typed L) (aT : Ascm L) (nT : Ne0 L) (hw : wt L ≤ 5000) (hK : (3 * wt L + 30) * (wt L + 1) + 200001 ≤ K) : ∃ L', Sim L L' ∧ DiffCleanupSemanticLossless K X (enc L) = some (enc L') := by
  obtain ⟨K, rfl⟩ : ∃ m, K = m + 1 := ⟨K - 1, by omega⟩
  have hwl := wt_len L
  rw [DiffCleanupSemanticLossless_eq]
  exact less_loop K 0 X rfl (by omega) (wt L) hw (wt L) L 1 K (by omega) (by omega) tT aT nT (Nat.le_refl _) (by omega)
end Go.Proofs.YtaabfadjemmibaaDoor.E
