import Derived.Test.YtaabfadjemmibaaDoorVK
/- DiffCleanupSemantic: the first loop, and the whole. -/
set_option linter.unusedVariables false
set_option linter.unusedSimpArgs false
namespace Go.Proofs.YtaabfadjemmibaaDoor.E
open Go.Ev
def Ed (m : M) : Prop := m.1 = 1 ∨ m.1 = -1
/-- What the equalities weigh; how many there are. -/
def weq : List M → Nat
  | [] => 0
  | m :: l => (if m.1 = 0 then m.2.length + 1 else 0) + weq l
def nz : List M → Nat
  | [] => 0
  | m :: l => (if m.1 = 0 then 1 else 0) + nz l
theorem weq_app : ∀ a b : List M, weq (a ++ b) = weq a + weq b
  | [], b => by simp [weq]
  | m :: a, b => by simp only [List.cons_append, weq, weq_app a b]; omega
theorem nz_app : ∀ a b : List M, nz (a ++ b) = nz a + nz b
  | [], b => by simp [nz]
  | m :: a, b => by simp only [List.cons_append, nz, nz_app a b]; omega
theorem weq_le : ∀ l : List M, weq l ≤ wt l
  | [] => Nat.le_refl _
  | m :: l => by have := weq_le l; simp only [weq, wt]; split <;> omega
structure Inv (P : List M) (S : List Nat) (q : List Int) (a1 b1 a2 b2 : Nat) : Prop where
  srt : S.Pairwise (· < ·)
  lt : ∀ e ∈ S, e < P.length
  last : q ≠ [] → ∃ A B S0, P = A ++ (0, q) :: B ∧ S = S0 ++ [A.length] ∧ Edits B ∧ (0 < max a1 b1 → ∃ A0 m, A = A0 ++ [m] ∧ Ed m)
  run : 0 < max a2 b2 → ∃ P0 m, P = P0 ++ [m] ∧ Ed m
  s2 : a2 + b2 ≤ wt P
/-- What the first loop leaves. -/
structure Sim3 (a b : List M) : Prop where
  side : ∀ z, z = 1 ∨ z = -1 → side z b = side z a
  typed : Typed a → Typed b
  asc : Ascm a → Ascm b
  ne0 : Ne0 a → Ne0 b
  pot : wt b + weq b = wt a + weq a
  runs : cR b ≤ cR a
theorem Sim3.refl (a : List M) : Sim3 a a := ⟨fun _ _ => rfl, id, id, id, rfl, Nat.le_refl _⟩
theorem Sim3.trans {a b c : List M} (h : Sim3 a b) (g : Sim3 b c) : Sim3 a c := ⟨fun z hz => (g.side z hz).trans (h.side z hz), fun x => g.typed (h.typed x), fun x => g.asc (h.asc x), fun x => g.ne0 (h.ne0 x), g.pot.trans h.pot, Nat.le_trans g.runs h.runs⟩
theorem sim3_elim (A C : List M) (q : List Int) (hA : ∃ A0 m, A = A0 ++ [m] ∧ Ed m) (hC : ∃ m C', C = m :: C' ∧ Ed m) : Sim3 (A ++ (0, q) :: C) (A ++ (-1, q) :: (1, q) :: C) ∧ 2 ≤ cR (A ++ (0, q) :: C) := by
  obtain ⟨r1, r2⟩ := cRg_elim q q C hC A false false (.inr hA)
  refine ⟨⟨fun z hz => ?_, fun h m hm => ?_, fun h m hm => ?_, fun h m hm => ?_, ?_, r1⟩, r2⟩
  · rw [side_app, side_app]
    rcases hz with rfl | rfl <;> simp [side]
  · rcases List.mem_append.1 hm with hm | hm
    · exact h m (by simp [hm])
    · simp only [List.mem_cons] at hm
      rcases hm with rfl | rfl | hm
      · exact .inr (.inr rfl)
      · exact .inr (.inl rfl)
      · exact h m (by simp [hm])
  · have hq := h (0, q) (by simp)
    rcases List.mem_append.1 hm with hm | hm
    · exact h m (by simp [hm])
    · simp only [List.mem_cons] at hm
      rcases hm with rfl | rfl | hm
      · exact hq
      · exact hq
      · exact h m (by simp [hm])
  · rcases List.mem_append.1 hm with hm | hm
    · exact h m (by simp [hm])
    · simp only [List.mem_cons] at hm
      rcases hm with rfl | rfl | hm
      · intro h0; exact absurd (show (-1 : Int) = 0 from h0) (by decide)
      · intro h0; exact absurd (show (1 : Int) = 0 from h0) (by decide)
      · exact h m (by simp [hm])
  · rw [wt_app, wt_app, weq_app, weq_app]
    simp [wt, weq]
    omega
def ints (S : List Nat) : List Int := S.map fun (n : Nat) => (n : Int)
theorem ints_app (a b : List Nat) : ints (a ++ b) = ints a ++ ints b := List.map_append
theorem ints_len (a : List Nat) : (ints a).length = a.length := List.length_map _
theorem nth_ints (S0 : List Nat) (e : Nat) : nth (.int .i64) (ints (S0 ++ [e])) (S0.length : Int) = (e : Int) := by
  rw [ints_app]
  have := nth_mid (.int .i64) (ints S0) (e : Int) []
  rw [ints_len] at this
  exact this
def nextp (S : List Nat) : Nat := match S.getLast? with
  | some e => e + 1
  | none => 0
theorem nextp_snoc (S : List Nat) (e : Nat) : nextp (S ++ [e]) = e + 1 := by simp [nextp]
theorem j5_ok (K k : Nat) (i0 : Int) (X : List TS1.den) (L : List TS2.den) (S : List Nat) (hS : ∀ e ∈ S, e ≤ 1000000) (hl : S.length ≤ 1000000) :
    DiffCleanupSemantic_j5 K (k + 1) i0 X L (ints S) = DiffCleanupSemantic_l0 K k i0 X L true (ints S) (⟨#[]⟩ : ByteArray) (nextp S : Int) 0 0 0 0 := by
  rw [DiffCleanupSemantic_j5_eq, ints_len]
  rcases List.eq_nil_or_concat S with rfl | ⟨S0, e, rfl⟩
  · rw [br_ge (by simp)]
    have : IntKind.i64.wrap (-1 + 1) = 0 := by rw [wrap_id (by omega) (by omega)]; rfl
    rw [this]
    rfl
  · have he := hS e (by simp)
    simp only [List.concat_eq_append, List.length_append, List.length_singleton] at hl ⊢
    have w : IntKind.i64.wrap (((S0.length + 1 : Nat) : Int) - 1) = (S0.length : Int) := by rw [wrap_id (by omega) (by omega)]; omega
    rw [br_lt (by omega), w, chk_le (by omega), chk_lt (by omega), nth_ints, wrap_id (by omega) (by omega), nextp_snoc]
    rfl
theorem nz_le (l : List M) : nz l ≤ l.length := by
  induction l with
  | nil => exact Nat.le_refl _
  | cons m l ih => simp only [nz, List.length_cons]; split <;> omega
theorem j4_true (K k : Nat) (i0 : Int) (X : List TS1.den) (A C : List M) (q : List Int) (S0 : List Nat) (f : Bool) (p a1 b1 a3 b3 : Int) (hl : A.length + C.length ≤ 100000) (hS0 : S0.length ≤ 100000) (hlt : ∀ e ∈ S0, e ≤ 100000) (hK : 20 ≤ K) :
    DiffCleanupSemantic_j4 K (k + 2) i0 X (enc (A ++ (0, q) :: C)) f (ints (S0 ++ [A.length])) (strOfRunes q) p a1 b1 a3 b3 true = DiffCleanupSemantic_l0 K k i0 X (enc (A ++ (-1, q) :: (1, q) :: C)) true (ints S0.dropLast) (⟨#[]⟩ : ByteArray) (nextp S0.dropLast : Int) 0 0 0 0 := by
  generalize hN : A ++ (-1, q) :: (1, q) :: C = N
  have lS : (S0 ++ [A.length]).length = S0.length + 1 := by simp
  have v1 : IntKind.i64.wrap (((S0.length + 1 : Nat) : Int) - 1) = (S0.length : Int) := by rw [wrap_id (by omega) (by omega)]; omega
  have v2 : IntKind.i64.wrap ((A.length : Int) + 1) = ((A.length + 1 : Nat) : Int) := by rw [wrap_id (by omega) (by omega)]; omega
  have hsp := splice_ins K A ((0, q) :: C) (-1, q) (by simp; omega) (by omega) (A.length : Int) rfl
  rw [DiffCleanupSemantic_j4_eq, br_true, ints_len, lS, v1, nth_ints, hsp]
  simp only [Option.bind_some]
  have e1 : nth TS2 (enc (A ++ (-1, q) :: (0, q) :: C)) ((A.length + 1 : Nat) : Int) = (0, strOfRunes q) := by
    have := nthA (A ++ [(-1, q)]) C (0, q) (A.length + 1) (by simp)
    simpa using this
  have st1 : (enc (A ++ (-1, q) :: (0, q) :: C)).set (A.length + 1) (1, strOfRunes q) = enc N := by
    have := setA (A ++ [(-1, q)]) C (0, q) (1, q) (A.length + 1) (by simp)
    rw [← hN]
    simpa using this
  have ln : (enc (A ++ (-1, q) :: (0, q) :: C)).length = A.length + C.length + 2 := by rw [enc_len]; simp; omega
  rw [v2, e1, ln]
  simp only [Int.toNat_natCast]
  rw [st1, chk_le (by omega), chk_lt (by omega), chk_le (by omega), chk_lt (by omega), chk_le (by omega), chk_le (by omega), chk_le (by omega)]
  have fin : DiffCleanupSemantic_j5 K (k + 1) i0 X (enc N) (ints S0.dropLast) = DiffCleanupSemantic_l0 K k i0 X (enc N) true (ints S0.dropLast) (⟨#[]⟩ : ByteArray) (nextp S0.dropLast : Int) 0 0 0 0 :=
    j5_ok K k i0 X (enc N) S0.dropLast (fun e he => by have := hlt e (List.dropLast_subset _ he); omega) (by rw [List.length_dropLast]; omega)
  rw [← fin]
  rcases List.eq_nil_or_concat S0 with rfl | ⟨S1, e, rfl⟩
  · rw [br_ge (by simp)]
    rfl
  · simp only [List.concat_eq_append, List.length_append, List.length_singleton] at hS0 ⊢
    have v3 : IntKind.i64.wrap ((((S1.length + 1 : Nat) : Int) - 0) - 1) = (S1.length : Int) := by rw [wrap_id (by omega) (by omega)]; omega
    rw [br_lt (by omega), v3, chk_le (by omega), chk_le (by omega), chk_le (by omega)]
    congr 1
    rw [List.dropLast_concat, show Int.toNat (0 + (S1.length : Int)) = S1.length by omega, List.append_assoc, ints_app, List.take_left' (ints_len _)]
/-- The place behind the elimination. -/
theorem after_elim {S0 : List Nat} {c : Nat} (srt : (S0 ++ [c]).Pairwise (· < ·)) : (S0.dropLast).Pairwise (· < ·) ∧ (∀ e ∈ S0, e < c) ∧ nextp S0.dropLast ≤ c ∧ ∀ e ∈ S0.dropLast, e < nextp S0.dropLast := by
  have srt1 : (S0.dropLast).Pairwise (· < ·) := (List.pairwise_append.1 srt).1.sublist (List.dropLast_sublist _)
  have lt1 : ∀ e ∈ S0, e < c := fun e he => (List.pairwise_append.1 srt).2.2 e he c (by simp)
  refine ⟨srt1, lt1, ?_⟩
  rcases List.eq_nil_or_concat S0.dropLast with h0 | ⟨S1, e, h0⟩
  · rw [h0]
    exact ⟨Nat.zero_le _, fun e he => by cases he⟩
  · rw [List.concat_eq_append] at h0
    have he : e ∈ S0.dropLast := by rw [h0]; simp
    have h1 := lt1 e (List.dropLast_subset _ he)
    rw [h0] at srt1
    rw [h0, nextp_snoc]
    refine ⟨h1, fun e' he' => ?_⟩
    rcases List.mem_append.1 he' with he' | he'
    · have := (List.pairwise_append.1 srt1).2.2 e' he' e (by simp)
      omega
    · rw [List.mem_singleton.1 he']; omega
theorem stack_len {S : List Nat} {c : Nat} (srt : S.Pairwise (· < ·)) (lt : ∀ e ∈ S, e < c) : S.length ≤ c := by
  have key : ∀ (S : List Nat) (b c : Nat), S.Pairwise (· < ·) → (∀ e ∈ S, b ≤ e ∧ e < c) → S.length ≤ c - b := by
    intro S
    induction S with
    | nil => intro b c _ _; simp
    | cons e S ih =>
      intro b c hp hb
      rw [List.pairwise_cons] at hp
      have h1 := ih (e + 1) c hp.2 (fun x hx => ⟨hp.1 x hx, (hb x (List.mem_cons_of_mem _ hx)).2⟩)
      have h2 := hb e (List.mem_cons_self ..)
      simp only [List.length_cons]
      omega
  have := key S 0 c srt (fun e he => ⟨Nat.zero_le _, lt e he⟩)
  omega
/-- The test of an equality. -/
theorem j2_ok (K k : Nat) (i0 : Int) (X : List TS1.den) (L : List TS2.den) (f : Bool) (S : List Int) (q : List Int) (p : Int) (a1 b1 a3 b3 : Nat) (oq : Okl q) (lq : q.length ≤ 1000000) (h1 : a1 + b1 ≤ 1000000) (h3 : a3 + b3 ≤ 1000000) (hK : 20 ≤ K) :
    DiffCleanupSemantic_j2 K (k + 1) i0 X L f S (strOfRunes q) p (a1 : Int) (b1 : Int) (a3 : Int) (b3 : Int) = DiffCleanupSemantic_j4 K k i0 X L f S (strOfRunes q) p (a1 : Int) (b1 : Int) (a3 : Int) (b3 : Int) (decide (0 < q.length ∧ q.length ≤ max a1 b1 ∧ q.length ≤ max a3 b3)) := by
  obtain ⟨f1, f2⟩ := f2i_ok (max a1 b1) (by omega)
  obtain ⟨f3, f4⟩ := f2i_ok (max a3 b3) (by omega)
  rw [DiffCleanupSemantic_j2_eq, max_ok K a1 b1 (by omega) (by omega) (by omega), max_ok K a3 b3 (by omega) (by omega) (by omega)]
  simp only [Option.bind_some]
  rw [f1, f2, f3, f4, count_ok K oq (by omega) (by omega)]
  simp only [Option.bind_some]
  have ct : ∀ {α : Type} (o : Option α), chk true o = o := fun _ => rfl
  rw [ct, ct]
  by_cases hq0 : q.length = 0
  · rw [br_ge (by omega), decide_eq_false (by omega)]
  · rw [br_lt (by omega)]
    by_cases c1 : q.length ≤ max a1 b1
    · rw [br_le (by omega), leI_eq]
      congr 1
      rw [decide_eq_decide]
      omega
    · rw [br_gt (by omega), decide_eq_false (by omega)]
/-- One round of the first loop. -/
theorem sem_round (K : Nat) (i0 : Int) (X : List TS1.den) (F : Nat) (hF : F ≤ 5000) (hK : 20 ≤ K) (P Q : List M) (m : M) (S : List Nat) (q : List Int) (a1 b1 a2 b2 : Nat) (f : Bool) (k : Nat) (I : Inv P S q a1 b1 a2 b2) (hab : a1 + b1 ≤ F) (tT : Typed (P ++ m :: Q)) (aT : Ascm (P ++ m :: Q)) (hw : wt (P ++ m :: Q) + weq (P ++ m :: Q) ≤ F) :
    ∃ N P' Q' S' q' a1' b1' a2' b2' f' k', k ≤ k' ∧ N = P' ++ Q' ∧ Inv P' S' q' a1' b1' a2' b2' ∧ a1' + b1' ≤ F ∧ ((N = P ++ m :: Q ∧ Q' = Q ∧ f' = f) ∨ (Sim3 (P ++ m :: Q) N ∧ 2 ≤ cR (P ++ m :: Q) ∧ f' = true ∧ nz N + 1 = nz (P ++ m :: Q))) ∧
      DiffCleanupSemantic_l0 K (k + 6) i0 X (enc (P ++ m :: Q)) f (ints S) (strOfRunes q) (P.length : Int) (a1 : Int) (b1 : Int) (a2 : Int) (b2 : Int) = DiffCleanupSemantic_l0 K k' i0 X (enc N) f' (ints S') (strOfRunes q') (P'.length : Int) (a1' : Int) (b1' : Int) (a2' : Int) (b2' : Int) := by
  have hwl := wt_len (P ++ m :: Q)
  have hlM : (P ++ m :: Q).length = P.length + Q.length + 1 := by simp; omega
  rw [hlM] at hwl
  have hl : (enc (P ++ m :: Q)).length = P.length + Q.length + 1 := by rw [enc_len]; exact hlM
  have e0 : nth TS2 (enc (P ++ m :: Q)) (P.length : Int) = (m.1, strOfRunes m.2) := nthA P Q m _ rfl
  have wP : wt (P ++ m :: Q) = wt P + (m.2.length + 1 + wt Q) := by rw [wt_app]; rfl
  have w1 : IntKind.i64.wrap ((P.length : Int) + 1) = ((P.length + 1 : Nat) : Int) := by rw [wrap_id (by omega) (by omega)]; omega
  have hSl := stack_len I.srt I.lt
  have hs2 := I.s2
  have hLP : (P ++ [m]).length = P.length + 1 := by simp
  have hPm : P ++ m :: Q = (P ++ [m]) ++ Q := by simp
  have wPm : wt (P ++ [m]) = wt P + (m.2.length + 1) := by rw [wt_app]; rfl
  rw [DiffCleanupSemantic_l0_eq, hl, br_lt (by omega), DiffCleanupSemantic_j0_eq, hl, e0, ints_len, chk_le (by omega), chk_lt (by omega)]
  simp only []
  by_cases hm : m.1 = 0
  · obtain ⟨t, x⟩ := m
    have hm : t = 0 := hm
    subst hm
    have I' : Inv (P ++ [(0, x)]) (S ++ [P.length]) x a2 b2 0 0 := by
      refine ⟨?_, fun e he => ?_, fun hx => ⟨P, [], S, rfl, rfl, Edits.nil, I.run⟩, fun h => absurd h (by simp), by omega⟩
      · rw [List.pairwise_append]
        refine ⟨I.srt, List.pairwise_singleton _ _, fun a ha b hb => ?_⟩
        rw [List.mem_singleton.1 hb]
        exact I.lt a ha
      · rw [hLP]
        rcases List.mem_append.1 he with he | he
        · have := I.lt e he; omega
        · rw [List.mem_singleton.1 he]; omega
    rw [br_eq rfl, chk_lt (by simp; omega), chk_le (by omega), chk_lt (by omega), w1]
    refine ⟨_, P ++ [(0, x)], Q, S ++ [P.length], x, a2, b2, 0, 0, f, k + 4, by omega, hPm, I', by omega, .inl ⟨rfl, rfl, rfl⟩, ?_⟩
    rw [hLP, ints_app]
    rfl
  · have hE : Ed m := (tT m (by simp)).resolve_left hm
    rw [br_ne hm, chk_le (by omega), chk_lt (by omega)]
    have am := aT m (by simp)
    have aq : Asc q := by
      by_cases hq : q = []
      · rw [hq]; exact Asc.nil
      · obtain ⟨A, B, S0, hP, _⟩ := I.last hq
        exact aT (0, q) (by rw [hP]; simp)
    have lq : q.length ≤ F := by
      by_cases hq : q = []
      · rw [hq]; simp
      · obtain ⟨A, B, S0, hP, _⟩ := I.last hq
        have := wt_le (l := P ++ m :: Q) (m := (0, q)) (by rw [hP]; simp)
        simp only [] at this
        omega
    have go : ∀ (a3 b3 : Nat), a3 + b3 ≤ wt (P ++ [m]) → ∃ N P' Q' S' q' a1' b1' a2' b2' f' k', k ≤ k' ∧ N = P' ++ Q' ∧ Inv P' S' q' a1' b1' a2' b2' ∧ a1' + b1' ≤ F ∧ ((N = P ++ m :: Q ∧ Q' = Q ∧ f' = f) ∨ (Sim3 (P ++ m :: Q) N ∧ 2 ≤ cR (P ++ m :: Q) ∧ f' = true ∧ nz N + 1 = nz (P ++ m :: Q))) ∧
        DiffCleanupSemantic_j2 K (k + 4) i0 X (enc (P ++ m :: Q)) f (ints S) (strOfRunes q) (P.length : Int) (a1 : Int) (b1 : Int) (a3 : Int) (b3 : Int) = DiffCleanupSemantic_l0 K k' i0 X (enc N) f' (ints S') (strOfRunes q') (P'.length : Int) (a1' : Int) (b1' : Int) (a2' : Int) (b2' : Int) := by
      intro a3 b3 h3
      rw [j2_ok K (k + 3) i0 X _ f _ q _ a1 b1 a3 b3 aq.okl (by omega) (by omega) (by omega) hK]
      by_cases hc : 0 < q.length ∧ q.length ≤ max a1 b1 ∧ q.length ≤ max a3 b3
      · rw [decide_eq_true hc]
        obtain ⟨c0, c1, c2⟩ := hc
        obtain ⟨A, B, S0, hP, hS, hB, hA⟩ := I.last (fun h => by rw [h] at c0; simp at c0)
        have hA' := hA (by omega)
        have hC : ∃ u C', B ++ m :: Q = u :: C' ∧ Ed u := by
          cases B with
          | nil => exact ⟨m, Q, rfl, hE⟩
          | cons u B => exact ⟨u, B ++ m :: Q, rfl, hB u (List.mem_cons_self ..)⟩
        have hL : P ++ m :: Q = A ++ (0, q) :: (B ++ m :: Q) := by rw [hP]; simp
        obtain ⟨s3, r2⟩ := sim3_elim A (B ++ m :: Q) q hA' hC
        have hlen := congrArg List.length hL
        rw [hlM] at hlen
        simp only [List.length_append, List.length_cons] at hlen
        have srt := I.srt
        rw [hS] at srt hSl
        obtain ⟨n1, n2, n3, n4⟩ := after_elim srt
        simp only [List.length_append, List.length_singleton] at hSl
        have e4 := j4_true K (k + 1) i0 X A (B ++ m :: Q) q S0 f (P.length : Int) (a1 : Int) (b1 : Int) (a3 : Int) (b3 : Int) (by simp only [List.length_append, List.length_cons]; omega) (by omega) (fun e he => by have := n2 e he; omega) hK
        rw [hL, hS, e4]
        have hnz : nz (A ++ (-1, q) :: (1, q) :: (B ++ m :: Q)) + 1 = nz (A ++ (0, q) :: (B ++ m :: Q)) := by
          rw [nz_app, nz_app]
          simp [nz]
          omega
        generalize hN : A ++ (-1, q) :: (1, q) :: (B ++ m :: Q) = N at s3 hnz e4
        have lenN : nextp S0.dropLast ≤ N.length := by rw [← hN]; simp; omega
        have lt2 : (N.take (nextp S0.dropLast)).length = nextp S0.dropLast := by rw [List.length_take]; omega
        refine ⟨N, N.take (nextp S0.dropLast), N.drop (nextp S0.dropLast), S0.dropLast, [], 0, 0, 0, 0, true, k + 1, by omega, (List.take_append_drop _ _).symm, ⟨n1, fun e he => by rw [lt2]; exact n4 e he, fun h => absurd rfl h, fun h => absurd h (by simp), by omega⟩, by omega, .inr ⟨s3, r2, rfl, hnz⟩, ?_⟩
        rw [lt2]
        rfl
      · rw [decide_eq_false hc, DiffCleanupSemantic_j4_eq, br_false, w1]
        have I' : Inv (P ++ [m]) S q a1 b1 a3 b3 := by
          refine ⟨I.srt, fun e he => by have := I.lt e he; rw [hLP]; omega, fun hq => ?_, fun _ => ⟨P, m, rfl, hE⟩, h3⟩
          obtain ⟨A, B, S0, hP, hS, hB, hA⟩ := I.last hq
          exact ⟨A, B ++ [m], S0, by rw [hP]; simp, hS, hB.snoc hE, hA⟩
        exact ⟨_, P ++ [m], Q, S, q, a1, b1, a3, b3, f, k + 2, by omega, hPm, I', hab, .inl ⟨rfl, rfl, rfl⟩, by rw [hLP]⟩
    have h0 : m.2.length ≤ 1000000 := by omega
    have h5 : RuneCountInString K (strOfRunes m.2) = some (m.2.length : Int) := count_ok K am.okl h0 (by omega)
    have h6 : IntKind.i64.wrap ((a2 : Int) + (m.2.length : Int)) = ((a2 + m.2.length : Nat) : Int) := by
      rw [wrap_id (x := (a2 : Int) + (m.2.length : Int)) (by omega) (by omega)]
      omega
    have h7 : IntKind.i64.wrap ((b2 : Int) + (m.2.length : Int)) = ((b2 + m.2.length : Nat) : Int) := by
      rw [wrap_id (x := (b2 : Int) + (m.2.length : Int)) (by omega) (by omega)]
      omega
    by_cases h1 : m.1 = 1
    · rw [br_eq h1, chk_le (by omega), chk_lt (by omega), h5, Option.bind_some, h6]
      exact go (a2 + m.2.length) b2 (by omega)
    · rw [br_ne h1, chk_le (by omega), chk_lt (by omega), h5, Option.bind_some, h7]
      exact go a2 (b2 + m.2.length) (by omega)
set_option maxHeartbeats 1000000 in
theorem sem_first (K : Nat) (i0 : Int) (X : List TS1.den) (F : Nat) (hF : F ≤ 5000) (hK : 20 ≤ K) : ∀ (n c : Nat) (P Q : List M) (S : List Nat) (q : List Int) (a1 b1 a2 b2 : Nat) (f : Bool) (k : Nat), nz (P ++ Q) ≤ n → Q.length ≤ c → Inv P S q a1 b1 a2 b2 → a1 + b1 ≤ F → Typed (P ++ Q) → Ascm (P ++ Q) → wt (P ++ Q) + weq (P ++ Q) ≤ F → (6 * F + 20) * n + 6 * c + 6 ≤ k →
    ∃ L' k' f', k ≤ k' + ((6 * F + 20) * n + 6 * c + 6) ∧ Sim3 (P ++ Q) L' ∧ ((f' = f ∧ L' = P ++ Q) ∨ (f' = true ∧ 2 ≤ cR (P ++ Q))) ∧
      DiffCleanupSemantic_l0 K k i0 X (enc (P ++ Q)) f (ints S) (strOfRunes q) (P.length : Int) (a1 : Int) (b1 : Int) (a2 : Int) (b2 : Int) = DiffCleanupSemantic_j1 K k' i0 X (enc L') f'
  | n, c, P, [], S, q, a1, b1, a2, b2, f, k, hn, hc, I, hab, tT, aT, hw, hk => by
    obtain ⟨k, rfl⟩ : ∃ m, k = m + 1 := ⟨k - 1, by omega⟩
    refine ⟨P ++ [], k, f, by omega, Sim3.refl _, .inl ⟨rfl, rfl⟩, ?_⟩
    rw [DiffCleanupSemantic_l0_eq, enc_len, List.append_nil, br_ge (by omega)]
  | n, c, P, m :: Q, S, q, a1, b1, a2, b2, f, k, hn, hc, I, hab, tT, aT, hw, hk => by
    simp only [List.length_cons] at hc
    obtain ⟨c, rfl⟩ : ∃ z, c = z + 1 := ⟨c - 1, by omega⟩
    generalize hG : (6 * F + 20) * n = G at hk
    obtain ⟨k, rfl⟩ : ∃ m, k = m + 6 := ⟨k - 6, by omega⟩
    obtain ⟨N, P', Q', S', q', a1', b1', a2', b2', f1, k1, r1, r2, r3, r4, r5, r6⟩ := sem_round K i0 X F hF hK P Q m S q a1 b1 a2 b2 f k I hab tT aT hw
    rcases r5 with ⟨s1, s2, s3⟩ | ⟨s1, s2, s3, s4⟩
    · have s1' := s1
      rw [r2] at s1'
      obtain ⟨L', k', f', g1, g2, g3, g4⟩ := sem_first K i0 X F hF hK n c P' Q' S' q' a1' b1' a2' b2' f1 k1 (by rw [s1']; exact hn) (by rw [s2]; omega) r3 r4 (by rw [s1']; exact tT) (by rw [s1']; exact aT) (by rw [s1']; exact hw) (by rw [hG]; omega)
      rw [s1', s3] at g3
      rw [s1'] at g2
      rw [hG] at g1
      refine ⟨L', k', f', by omega, g2, g3, ?_⟩
      rw [r6, r2]
      exact g4
    · obtain ⟨n, rfl⟩ : ∃ z, n = z + 1 := ⟨n - 1, by omega⟩
      have hpot := s1.pot
      have hwN := wt_len N
      have hQ : Q'.length ≤ N.length := by rw [r2]; simp
      rw [Nat.mul_add (6 * F + 20) n 1] at hG
      generalize hG2 : (6 * F + 20) * n = G2 at hG
      obtain ⟨L', k', f', g1, g2, g3, g4⟩ := sem_first K i0 X F hF hK n N.length P' Q' S' q' a1' b1' a2' b2' f1 k1 (by rw [← r2]; omega) hQ r3 r4 (by rw [← r2]; exact s1.typed tT) (by rw [← r2]; exact s1.asc aT) (by rw [← r2]; omega) (by rw [hG2]; omega)
      rw [← r2] at g2 g3 g4
      rw [hG2] at g1
      refine ⟨L', k', f', by omega, s1.trans g2, .inr ⟨?_, s2⟩, ?_⟩
      · rcases g3 with ⟨h, _⟩ | ⟨h, _⟩
        · rw [h, s3]
        · exact h
      · rw [r6]
        exact g4
termination_by n c => (n, c)
end Go.Proofs.YtaabfadjemmibaaDoor.E
