import Derived.Test.YtaabfadjemmibaaDoorVI
/- DiffCleanupSemantic: insertions into lists; the last loop. -/
set_option linter.unusedVariables false
set_option linter.unusedSimpArgs false
namespace Go.Proofs.YtaabfadjemmibaaDoor.E
open Go.Ev
theorem splice_ins0 (K : Nat) (A T : List TS2.den) (e : TS2.den) (hl : A.length + T.length ≤ 1000000) (hK : 8 ≤ K) (p : Int) (hp : p = (A.length : Int)) : splice K (A ++ T) p 0 [e] = some (A ++ e :: T) := by
  subst hp
  obtain ⟨K, rfl⟩ : ∃ m, K = m + 7 := ⟨K - 7, by omega⟩
  have l1 : (A ++ T).length = A.length + T.length := List.length_append
  have w1 : IntKind.i64.wrap (((A.length + T.length : Nat) : Int) - 0) = ((A.length + T.length : Nat) : Int) := by rw [wrap_id (by omega) (by omega)]; omega
  have w2 : IntKind.i64.wrap (((A.length + T.length : Nat) : Int) + ((1 : Nat) : Int)) = ((A.length + T.length + 1 : Nat) : Int) := by rw [wrap_id (by omega) (by omega)]; omega
  have w3 : IntKind.i64.wrap ((A.length : Int) + ((1 : Nat) : Int)) = ((A.length + 1 : Nat) : Int) := by rw [wrap_id (by omega) (by omega)]; omega
  have w4 : IntKind.i64.wrap ((A.length : Int) + 0) = (A.length : Int) := by rw [wrap_id (by omega) (by omega)]; omega
  have s1 : ([e] : List TS2.den).length = 1 := rfl
  rw [splice_eq, s1, br_ne (by omega), splice_j0_eq, s1, br_ge (by omega), splice_j1_eq, s1, l1, w1, w2, splice_l1_eq, l1, br_lt (by omega), splice_j3_eq, l1, chk_lt (by show ((A.length + T.length : Nat) : Int) + ((1 : Nat) : Int) < _; omega)]
  generalize hz : (((0 : Int), (⟨#[]⟩ : ByteArray)) : TS2.den) = z
  have l2 : (A ++ T ++ [z]).length = A.length + T.length + 1 := by simp; omega
  rw [splice_l1_eq, l2, br_ge (by omega), splice_j4_eq, s1, l2, w3, w4]
  simp only [Int.toNat_natCast]
  have n1 : Int.toNat (((A.length + T.length + 1 : Nat) : Int) - ((A.length + 1 : Nat) : Int)) = T.length := by omega
  have d1 : List.take (A.length + T.length + 1 - A.length) (List.drop A.length (A ++ T ++ [z])) = T ++ [z] := by
    rw [List.append_assoc, List.drop_left, List.take_of_length_le (by simp; omega)]
  rw [n1, d1]
  obtain ⟨u, T', hT⟩ : ∃ u T', T ++ [z] = u :: T' ∧ T'.length = T.length := by
    cases T with
    | nil => exact ⟨z, [], rfl, rfl⟩
    | cons a T => exact ⟨a, T ++ [z], rfl, by simp⟩
  have c1 : cpL (A ++ T ++ [z]) (T ++ [z]) (A.length + 1) T.length = A ++ u :: T := by
    unfold cpL
    have m1 : Nat.min (T ++ [z]).length T.length = T.length := by simp
    have x0 : A ++ T ++ [z] = (A ++ [u]) ++ T' := by rw [List.append_assoc, hT.1]; simp
    rw [m1, x0, List.take_left' (by simp), List.drop_eq_nil_of_le (by simp; omega), List.take_left]
    simp
  rw [c1]
  have l3 : (A ++ u :: T).length = A.length + T.length + 1 := by simp; omega
  rw [l3]
  have n2 : Int.toNat (((A.length + T.length + 1 : Nat) : Int) - (A.length : Int)) = T.length + 1 := by omega
  rw [n2]
  have c2 : cpL (A ++ u :: T) [e] A.length (T.length + 1) = A ++ e :: T := by
    unfold cpL
    have m1 : Nat.min [e].length (T.length + 1) = 1 := by show min 1 (T.length + 1) = 1; omega
    rw [m1, List.take_left, show A ++ u :: T = (A ++ [u]) ++ T by simp, List.drop_left' (by simp)]
    simp
  rw [c2]
  simp (disch := omega) only [chk_le, chk_lt, chk_eq, chk_nle, chk_neq, br_lt, br_ge, br_le, br_gt, br_eq, br_ne, br_not, br_true, br_false, br_and, wrap_id, Option.bind_some, List.length_set, List.length_append, List.length_cons, List.length_nil, List.length_take, List.length_drop]
theorem splice_ins (K : Nat) (A T : List M) (m : M) (hl : A.length + T.length ≤ 1000000) (hK : 8 ≤ K) (p : Int) (hp : p = (A.length : Int)) : splice K (enc (A ++ T)) p 0 [(m.1, strOfRunes m.2)] = some (enc (A ++ m :: T)) := by
  rw [enc_app, splice_ins0 K (enc A) (enc T) _ (by rw [enc_len, enc_len]; exact hl) hK p (by rw [enc_len]; exact hp), enc_app]
  rfl
/-- What the overlaps leave. -/
structure Sim2 (a b : List M) : Prop where
  side : ∀ z, z = 1 ∨ z = -1 → side z b = side z a
  typed : Typed a → Typed b
  asc : Ascm a → Ascm b
  cnt : cnt b = cnt a
  small : (∀ m ∈ a, m.2.length ≤ 10000) → ∀ m ∈ b, m.2.length ≤ 10000
theorem Sim2.refl (a : List M) : Sim2 a a := ⟨fun _ _ => rfl, id, id, rfl, id⟩
theorem Sim2.trans {a b c : List M} (h : Sim2 a b) (g : Sim2 b c) : Sim2 a c := ⟨fun z hz => (g.side z hz).trans (h.side z hz), fun x => g.typed (h.typed x), fun x => g.asc (h.asc x), g.cnt.trans h.cnt, fun x => g.small (h.small x)⟩
theorem cnt_app : ∀ a b : List M, cnt (a ++ b) = cnt a + cnt b
  | [], b => by simp [cnt]
  | m :: a, b => by simp only [List.cons_append, cnt, cnt_app a b]; omega
theorem sim2_of (A B : List M) (d i u v w : List Int) (t1 t2 : Int) (ht : (t1 = -1 ∧ t2 = 1 ∧ u ++ v = d ∧ v ++ w = i) ∨ (t1 = 1 ∧ t2 = -1 ∧ v ++ w = d ∧ u ++ v = i)) : Sim2 (A ++ (-1, d) :: (1, i) :: B) (A ++ (t1, u) :: (0, v) :: (t2, w) :: B) := by
  have parts : ∀ {P : List Int → Prop}, (∀ a b, P (a ++ b) → P a ∧ P b) → P d → P i → P u ∧ P v ∧ P w := by
    intro P hP hd hi
    rcases ht with ⟨_, _, h1, h2⟩ | ⟨_, _, h1, h2⟩
    · rw [← h1] at hd; rw [← h2] at hi
      exact ⟨(hP _ _ hd).1, (hP _ _ hd).2, (hP _ _ hi).2⟩
    · rw [← h1] at hd; rw [← h2] at hi
      exact ⟨(hP _ _ hi).1, (hP _ _ hi).2, (hP _ _ hd).2⟩
  refine ⟨fun z hz => ?_, fun h m hm => ?_, fun h m hm => ?_, ?_, fun h m hm => ?_⟩
  · rw [side_app, side_app]
    congr 1
    rcases ht with ⟨rfl, rfl, h1, h2⟩ | ⟨rfl, rfl, h1, h2⟩ <;> rcases hz with rfl | rfl <;> simp [side, ← h1, ← h2]
  · rcases List.mem_append.1 hm with hm | hm
    · exact h m (by simp [hm])
    · simp only [List.mem_cons] at hm
      rcases hm with rfl | rfl | rfl | hm
      · rcases ht with ⟨rfl, _⟩ | ⟨rfl, _⟩
        · exact .inr (.inr rfl)
        · exact .inr (.inl rfl)
      · exact .inl rfl
      · rcases ht with ⟨_, rfl, _⟩ | ⟨_, rfl, _⟩
        · exact .inr (.inl rfl)
        · exact .inr (.inr rfl)
      · exact h m (by simp [hm])
  · obtain ⟨p1, p2, p3⟩ := parts (P := Asc) (fun _ _ h => ⟨h.left, h.right⟩) (h (-1, d) (by simp)) (h (1, i) (by simp))
    rcases List.mem_append.1 hm with hm | hm
    · exact h m (by simp [hm])
    · simp only [List.mem_cons] at hm
      rcases hm with rfl | rfl | rfl | hm
      · exact p1
      · exact p2
      · exact p3
      · exact h m (by simp [hm])
  · rw [cnt_app, cnt_app]
    rcases ht with ⟨rfl, rfl, _⟩ | ⟨rfl, rfl, _⟩ <;> simp [cnt]
  · obtain ⟨p1, p2, p3⟩ := parts (P := fun x => x.length ≤ 10000) (fun a b h => by simp only [List.length_append] at h; exact ⟨by omega, by omega⟩) (h (-1, d) (by simp)) (h (1, i) (by simp))
    rcases List.mem_append.1 hm with hm | hm
    · exact h m (by simp [hm])
    · simp only [List.mem_cons] at hm
      rcases hm with rfl | rfl | rfl | hm
      · exact p1
      · exact p2
      · exact p3
      · exact h m (by simp [hm])
theorem nthA (A B : List M) (m : M) (i : Nat) (h : i = A.length) : nth TS2 (enc (A ++ m :: B)) (i : Int) = (m.1, strOfRunes m.2) := nth_enc A B m _ (by rw [h])
theorem setA (A B : List M) (m n : M) (i : Nat) (h : i = A.length) : (enc (A ++ m :: B)).set i (n.1, strOfRunes n.2) = enc (A ++ n :: B) := by
  subst h
  rw [enc_app, enc_app, enc_cons, enc_cons]
  have := set_mid (enc A) (m.1, strOfRunes m.2) (n.1, strOfRunes n.2) (enc B)
  rw [enc_len] at this
  exact this
theorem j8_true (K k : Nat) (i0 : Int) (X : List TS1.den) (A B : List M) (d i : List Int) (o : Nat) (hd : Asc d) (hi : Asc i) (h1 : o ≤ d.length) (h2 : o ≤ i.length) (ld : d.length ≤ 10000) (li : i.length ≤ 10000) (hB : A.length + B.length ≤ 10000) (hK : 20 ≤ K) :
    DiffCleanupSemantic_j8 K (k + 1) i0 X (enc (A ++ (-1, d) :: (1, i) :: B)) ((A.length + 1 : Nat) : Int) (strOfRunes d) (strOfRunes i) (o : Int) true =
      DiffCleanupSemantic_l1 K k i0 X (enc (A ++ (-1, d.take (d.length - o)) :: (0, i.take o) :: (1, i.drop o) :: B)) ((A.length + 4 : Nat) : Int) := by
  have w0 : IntKind.i64.wrap (((A.length + 1 : Nat) : Int) - 1) = (A.length : Int) := by rw [wrap_id (by omega) (by omega)]; omega
  have w1 : IntKind.i64.wrap (((A.length + 1 : Nat) : Int) + 1) = ((A.length + 2 : Nat) : Int) := by rw [wrap_id (by omega) (by omega)]; omega
  have w2 : IntKind.i64.wrap (((A.length + 2 : Nat) : Int) + 1) = ((A.length + 3 : Nat) : Int) := by rw [wrap_id (by omega) (by omega)]; omega
  have w3 : IntKind.i64.wrap (((A.length + 3 : Nat) : Int) + 1) = ((A.length + 4 : Nat) : Int) := by rw [wrap_id (by omega) (by omega)]; omega
  have w4 : IntKind.i64.wrap ((d.length : Int) - (o : Int)) = ((d.length - o : Nat) : Int) := by rw [wrap_id (by omega) (by omega)]; omega
  rw [DiffCleanupSemantic_j8_eq, br_true, size_asc hi, size_asc hd, w0, w1, w2, w3, w4, ext_asc hi, ext_asc hd, ext_asc hi]
  simp only [Int.toNat_natCast, show Int.toNat 0 = 0 from rfl, List.drop_zero, Nat.sub_zero]
  have hsp := splice_ins K (A ++ [(-1, d)]) ((1, i) :: B) (0, i.take o) (by simp; omega) (by omega) ((A.length + 1 : Nat) : Int) (by simp)
  rw [show A ++ [((-1 : Int), d)] ++ (1, i) :: B = A ++ (-1, d) :: (1, i) :: B by simp, show A ++ [((-1 : Int), d)] ++ (0, i.take o) :: (1, i) :: B = A ++ (-1, d) :: (0, i.take o) :: (1, i) :: B by simp] at hsp
  rw [hsp]
  simp only [Option.bind_some]
  have l3 : (enc (A ++ (-1, d) :: (0, i.take o) :: (1, i) :: B)).length = A.length + B.length + 3 := by rw [enc_len]; simp; omega
  have e0 : nth TS2 (enc (A ++ (-1, d) :: (0, i.take o) :: (1, i) :: B)) (A.length : Int) = (-1, strOfRunes d) := nthA A _ (-1, d) _ rfl
  rw [e0, l3]
  simp only []
  have s0 : (enc (A ++ (-1, d) :: (0, i.take o) :: (1, i) :: B)).set A.length (-1, strOfRunes (d.take (d.length - o))) = enc (A ++ (-1, d.take (d.length - o)) :: (0, i.take o) :: (1, i) :: B) := setA A _ (-1, d) (-1, d.take (d.length - o)) _ rfl
  rw [s0]
  have l4 : (enc (A ++ (-1, d.take (d.length - o)) :: (0, i.take o) :: (1, i) :: B)).length = A.length + B.length + 3 := by rw [enc_len]; simp; omega
  have e2 : nth TS2 (enc (A ++ (-1, d.take (d.length - o)) :: (0, i.take o) :: (1, i) :: B)) ((A.length + 2 : Nat) : Int) = (1, strOfRunes i) := by
    have := nthA (A ++ [(-1, d.take (d.length - o)), (0, i.take o)]) B (1, i) (A.length + 2) (by simp)
    simpa using this
  rw [e2, l4]
  simp only []
  have s2 : (enc (A ++ (-1, d.take (d.length - o)) :: (0, i.take o) :: (1, i) :: B)).set (A.length + 2) (1, strOfRunes ((i.drop o).take (i.length - o))) = enc (A ++ (-1, d.take (d.length - o)) :: (0, i.take o) :: (1, i.drop o) :: B) := by
    rw [List.take_of_length_le (l := i.drop o) (by rw [List.length_drop]; exact Nat.le_refl _)]
    have := setA (A ++ [(-1, d.take (d.length - o)), (0, i.take o)]) B (1, i) (1, i.drop o) (A.length + 2) (by simp)
    simpa using this
  rw [s2]
  simp (disch := omega) only [chk_le, chk_lt, chk_eq, chk_nle, chk_neq, br_lt, br_ge, br_le, br_gt, br_eq, br_ne, br_not, br_true, br_false, br_and, wrap_id, Option.bind_some, List.length_set, List.length_append, List.length_cons, List.length_nil, List.length_take, List.length_drop]
theorem j9_true (K k : Nat) (i0 : Int) (X : List TS1.den) (A B : List M) (d i : List Int) (o : Nat) (hd : Asc d) (hi : Asc i) (h1 : o ≤ d.length) (h2 : o ≤ i.length) (ld : d.length ≤ 10000) (li : i.length ≤ 10000) (hB : A.length + B.length ≤ 10000) (hK : 20 ≤ K) :
    DiffCleanupSemantic_j9 K (k + 1) i0 X (enc (A ++ (-1, d) :: (1, i) :: B)) ((A.length + 1 : Nat) : Int) (strOfRunes d) (strOfRunes i) (o : Int) true =
      DiffCleanupSemantic_l1 K k i0 X (enc (A ++ (1, i.take (i.length - o)) :: (0, d.take o) :: (-1, d.drop o) :: B)) ((A.length + 4 : Nat) : Int) := by
  have w0 : IntKind.i64.wrap (((A.length + 1 : Nat) : Int) - 1) = (A.length : Int) := by rw [wrap_id (by omega) (by omega)]; omega
  have w1 : IntKind.i64.wrap (((A.length + 1 : Nat) : Int) + 1) = ((A.length + 2 : Nat) : Int) := by rw [wrap_id (by omega) (by omega)]; omega
  have w2 : IntKind.i64.wrap (((A.length + 2 : Nat) : Int) + 1) = ((A.length + 3 : Nat) : Int) := by rw [wrap_id (by omega) (by omega)]; omega
  have w3 : IntKind.i64.wrap (((A.length + 3 : Nat) : Int) + 1) = ((A.length + 4 : Nat) : Int) := by rw [wrap_id (by omega) (by omega)]; omega
  have w4 : IntKind.i64.wrap ((i.length : Int) - (o : Int)) = ((i.length - o : Nat) : Int) := by rw [wrap_id (by omega) (by omega)]; omega
  rw [DiffCleanupSemantic_j9_eq, br_true, size_asc hi, size_asc hd, w0, w1, w2, w3, w4, ext_asc hi, ext_asc hd, ext_asc hd]
  simp only [Int.toNat_natCast, show Int.toNat 0 = 0 from rfl, List.drop_zero, Nat.sub_zero]
  have hsp := splice_ins K (A ++ [(-1, d)]) ((1, i) :: B) (0, d.take o) (by simp; omega) (by omega) ((A.length + 1 : Nat) : Int) (by simp)
  rw [show A ++ [((-1 : Int), d)] ++ (1, i) :: B = A ++ (-1, d) :: (1, i) :: B by simp, show A ++ [((-1 : Int), d)] ++ (0, d.take o) :: (1, i) :: B = A ++ (-1, d) :: (0, d.take o) :: (1, i) :: B by simp] at hsp
  rw [hsp]
  simp only [Option.bind_some]
  have len3 : ∀ (a b c : M), (enc (A ++ a :: b :: c :: B)).length = A.length + B.length + 3 := fun a b c => by rw [enc_len]; simp; omega
  have at0 : ∀ (a b c : M), nth TS2 (enc (A ++ a :: b :: c :: B)) (A.length : Int) = (a.1, strOfRunes a.2) := fun a b c => nthA A _ a _ rfl
  have at2 : ∀ (a b c : M), nth TS2 (enc (A ++ a :: b :: c :: B)) ((A.length + 2 : Nat) : Int) = (c.1, strOfRunes c.2) := fun a b c => by
    have := nthA (A ++ [a, b]) B c (A.length + 2) (by simp)
    simpa using this
  have set0 : ∀ (a b c n : M), (enc (A ++ a :: b :: c :: B)).set A.length (n.1, strOfRunes n.2) = enc (A ++ n :: b :: c :: B) := fun a b c n => setA A _ a n _ rfl
  have set2 : ∀ (a b c n : M), (enc (A ++ a :: b :: c :: B)).set (A.length + 2) (n.1, strOfRunes n.2) = enc (A ++ a :: b :: n :: B) := fun a b c n => by
    have := setA (A ++ [a, b]) B c n (A.length + 2) (by simp)
    simpa using this
  rw [at0, len3]
  simp only []
  rw [set0 (-1, d) (0, d.take o) (1, i) (1, d), at0, len3]
  simp only []
  rw [set0 (1, d) (0, d.take o) (1, i) (1, i.take (i.length - o)), at2, len3]
  simp only []
  rw [set2 (1, i.take (i.length - o)) (0, d.take o) (1, i) (-1, i), at2, len3]
  simp only []
  rw [List.take_of_length_le (l := d.drop o) (by rw [List.length_drop]; exact Nat.le_refl _), set2 (1, i.take (i.length - o)) (0, d.take o) (-1, i) (-1, d.drop o)]
  simp (disch := omega) only [chk_le, chk_lt, chk_eq, chk_nle, chk_neq, br_lt, br_ge, br_le, br_gt, br_eq, br_ne, br_not, br_true, br_false, br_and, wrap_id, Option.bind_some, List.length_set, List.length_append, List.length_cons, List.length_nil, List.length_take, List.length_drop]
end Go.Proofs.YtaabfadjemmibaaDoor.E
