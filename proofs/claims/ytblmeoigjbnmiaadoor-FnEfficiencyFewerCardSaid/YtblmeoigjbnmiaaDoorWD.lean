import Derived.Test.YtblmeoigjbnmiaaDoorWC
/- DiffCleanupEfficiency: its loop over a stack that is a linked list. -/
set_option linter.unusedVariables false
set_option linter.unusedSimpArgs false
namespace Go.Proofs.YtblmeoigjbnmiaaDoor.E
open Go.Ev
theorem splice_ins0 (K : Nat) (A T : List TS1.den) (e : TS1.den) (hl : A.length + T.length ≤ 1000000) (hK : 8 ≤ K) (p : Int) (hp : p = (A.length : Int)) : splice K (A ++ T) p 0 [e] = some (A ++ e :: T) := by
  subst hp
  obtain ⟨K, rfl⟩ : ∃ m, K = m + 7 := ⟨K - 7, by omega⟩
  have l1 : (A ++ T).length = A.length + T.length := List.length_append
  have w1 : IntKind.i64.wrap (((A.length + T.length : Nat) : Int) - 0) = ((A.length + T.length : Nat) : Int) := by rw [wrap_id (by omega) (by omega)]; omega
  have w2 : IntKind.i64.wrap (((A.length + T.length : Nat) : Int) + ((1 : Nat) : Int)) = ((A.length + T.length + 1 : Nat) : Int) := by rw [wrap_id (by omega) (by omega)]; omega
  have w3 : IntKind.i64.wrap ((A.length : Int) + ((1 : Nat) : Int)) = ((A.length + 1 : Nat) : Int) := by rw [wrap_id (by omega) (by omega)]; omega
  have w4 : IntKind.i64.wrap ((A.length : Int) + 0) = (A.length : Int) := by rw [wrap_id (by omega) (by omega)]; omega
  have s1 : ([e] : List TS1.den).length = 1 := rfl
  rw [splice_eq, s1, br_ne (by omega), splice_j0_eq, s1, br_ge (by omega), splice_j1_eq, s1, l1, w1, w2, splice_l1_eq, l1, br_lt (by omega), splice_j3_eq, l1, chk_lt (by show ((A.length + T.length : Nat) : Int) + ((1 : Nat) : Int) < _; omega)]
  generalize hz : (((0 : Int), (⟨#[]⟩ : ByteArray)) : TS1.den) = z
  have l2 : (A ++ T ++ [z]).length = A.length + T.length + 1 := by simp; omega
  rw [splice_l1_eq, l2, br_ge (by omega), splice_j4_eq, s1, l2, w3, w4]
  simp only [Int.toNat_natCast]
  have n1 : Int.toNat (((A.length + T.length + 1 : Nat) : Int) - ((A.length + 1 : Nat) : Int)) = T.length := by omega
  have d1 : List.take (A.length + T.length + 1 - A.length) (List.drop A.length (A ++ T ++ [z])) = T ++ [z] := by
    rw [List.append_assoc, List.drop_left, List.take_of_length_le (by simp; omega)]
  rw [n1, d1]
  obtain ⟨u, T', hT⟩ : ∃ u T', T ++ [z] = u :: T' ∧ T'.length = T.length := by
    cases T with
    | nil => exact ⟨z, [], rfl, rfl⟩
    | cons a T => exact ⟨a, T ++ [z], rfl, by simp⟩
  have c1 : cpL (A ++ T ++ [z]) (T ++ [z]) (A.length + 1) T.length = A ++ u :: T := by
    unfold cpL
    have m1 : Nat.min (T ++ [z]).length T.length = T.length := by simp
    have x0 : A ++ T ++ [z] = (A ++ [u]) ++ T' := by rw [List.append_assoc, hT.1]; simp
    rw [m1, x0, List.take_left' (by simp), List.drop_eq_nil_of_le (by simp; omega), List.take_left]
    simp
  rw [c1]
  have l3 : (A ++ u :: T).length = A.length + T.length + 1 := by simp; omega
  rw [l3]
  have n2 : Int.toNat (((A.length + T.length + 1 : Nat) : Int) - (A.length : Int)) = T.length + 1 := by omega
  rw [n2]
  have c2 : cpL (A ++ u :: T) [e] A.length (T.length + 1) = A ++ e :: T := by
    unfold cpL
    have m1 : Nat.min [e].length (T.length + 1) = 1 := by show min 1 (T.length + 1) = 1; omega
    rw [m1, List.take_left, show A ++ u :: T = (A ++ [u]) ++ T by simp, List.drop_left' (by simp)]
    simp
  rw [c2]
  simp (disch := omega) only [chk_le, chk_lt, chk_eq, chk_nle, chk_neq, br_lt, br_ge, br_le, br_gt, br_eq, br_ne, br_not, br_true, br_false, br_and, wrap_id, obs, List.length_set, List.length_append, List.length_cons, List.length_nil, List.length_take, List.length_drop]
theorem splice_ins (K : Nat) (A T : List M) (m : M) (hl : A.length + T.length ≤ 1000000) (hK : 8 ≤ K) (p : Int) (hp : p = (A.length : Int)) : splice K (enc (A ++ T)) p 0 [(m.1, strOfRunes m.2)] = some (enc (A ++ m :: T)) := by
  rw [enc_app, splice_ins0 K (enc A) (enc T) _ (by rw [enc_len, enc_len]; exact hl) hK p (by rw [enc_len]; exact hp), enc_app]
  rfl
/-- A linked list of places. -/
def LL (h : Hp) : Pf → List Nat → Prop
  | .nil, [] => True
  | .at n o, d :: ds => o = 0 ∧ ∃ q, h.ob n = some (.cells 69 2 [.v (.int .i64 (d : Int)), .pr q]) ∧ LL h q ds
  | _, _ => False
def Free (h : Hp) : Prop := ∀ n, h.nx ≤ n → h.ob n = none
theorem push_at (h : Hp) (o : Ev.Obj) (n : Nat) : (h.push o).ob n = if n = h.nx then some o else h.ob n := push_ob
theorem LL.push {h : Hp} (hf : Free h) {o : Ev.Obj} : ∀ {ds : List Nat} {e : Pf}, LL h e ds → LL (h.push o) e ds
  | [], .nil, _ => trivial
  | [], .at _ _, hl => hl.elim
  | _ :: _, .nil, hl => hl.elim
  | d :: ds, .at n z, ⟨h1, q, h2, h3⟩ => by
    refine ⟨h1, q, ?_, LL.push hf h3⟩
    rw [push_at, if_neg]
    · exact h2
    · rintro rfl
      rw [hf h.nx (Nat.le_refl _)] at h2
      cases h2
theorem Free.push {h : Hp} (hf : Free h) (o : Ev.Obj) : Free (h.push o) := by
  intro n hn
  have hn : h.nx + 1 ≤ n := hn
  rw [push_at, if_neg (by omega)]
  exact hf n (by omega)
theorem LL.box {h : Hp} (hf : Free h) {ds : List Nat} {e : Pf} (hl : LL h e ds) (p : Nat) : LL (Hp.box h 69 (.pair (.p (.int (.i64))) (.one (.pr))) ((p : Int), e)) (Pf.at h.nx 0) (p :: ds) := by
  refine ⟨rfl, e, ?_, hl.push hf⟩
  unfold Hp.box
  rw [push_at, if_pos rfl]
  rfl
theorem LL.box_free {h : Hp} (hf : Free h) (x : Int × Pf) : Free (Hp.box h 69 (.pair (.p (.int (.i64))) (.one (.pr))) x) := hf.push _
theorem ll_data {h : Hp} {n d : Nat} {q : Pf} (ho : h.ob n = some (.cells 69 2 [.v (.int .i64 (d : Int)), .pr q])) : Hp.ld h (.p (.int (.i64))) (padd 0 (Pf.at n 0)) = some (d : Int) := by
  unfold Hp.ld padd Hp.cl
  simp only [ho]
  rfl
theorem ll_next {h : Hp} {n d : Nat} {q : Pf} (ho : h.ob n = some (.cells 69 2 [.v (.int .i64 (d : Int)), .pr q])) : Hp.ld h .pr (padd 1 (Pf.at n 0)) = some q := by
  unfold Hp.ld padd Hp.cl
  simp only [ho]
  rfl
theorem chk_nil {R : Type} (n : Nat) (o : Option R) : chk (Bool.not (pnil (Pf.at n 0))) o = o := rfl
theorem br_nil {R : Type} (n : Nat) (a b : R) : br (Bool.not (pnil (Pf.at n 0))) a b = a := rfl
/-- How much the equalities bear. -/
def wq : List M → Nat
  | [] => 0
  | m :: l => (if m.1 = 0 then m.2.length + 1 else 0) + wq l
theorem wq_app : ∀ a b : List M, wq (a ++ b) = wq a + wq b
  | [], b => by simp [wq]
  | m :: a, b => by simp only [List.cons_append, wq, wq_app a b]; omega
theorem wq_le : ∀ l : List M, wq l ≤ wt l
  | [] => Nat.le_refl _
  | m :: l => by
    have := wq_le l
    simp only [wq, wt]
    split <;> omega
theorem wq_split (A D : List M) (x : List Int) : wq (A ++ (-1, x) :: (1, x) :: D) + (x.length + 1) = wq (A ++ (0, x) :: D) := by
  rw [wq_app, wq_app]
  simp [wq]
  omega
/-- What the loop comes to. -/
def EffTo (K : Nat) (X : TS0.den) (l : List M) (ch : Bool) (last : List Int) (R : Option (List TS1.den)) : Prop :=
  ∃ l2 ch' k h, R = DiffCleanupEfficiency_j1 K (k + 1) 0 [X] (enc l2) ch' h ∧ Okm l2 ∧ Typed l2 ∧ (∀ z, z = 1 ∨ z = -1 → side z l2 = side z l) ∧ cf false false l2 ≤ cf false false l ∧ wt l2 + wq l2 ≤ wt l + wq l ∧ (ch = true → ch' = true) ∧ (ch' = false → l2 = l) ∧ (X.2.1 ≤ 0 → last = [] → ch' = ch)
theorem EffTo.split {K : Nat} {X : TS0.den} {l l2 : List M} {ch : Bool} {last : List Int} {R : Option (List TS1.den)} (h : EffTo K X l2 true [] R) (hs : ∀ z, z = 1 ∨ z = -1 → side z l2 = side z l) (hc : cf false false l2 ≤ cf false false l) (hw : wt l2 + wq l2 ≤ wt l + wq l) (hl : last ≠ []) : EffTo K X l ch last R := by
  obtain ⟨l3, ch', k, h', h1, h2, h3, h4, h5, h6, h7, h8, h9⟩ := h
  have ht := h7 rfl
  exact ⟨l3, ch', k, h', h1, h2, h3, fun z hz => (h4 z hz).trans (hs z hz), by omega, by omega, fun _ => ht, fun hf => (by rw [ht] at hf; cases hf), fun _ hn => absurd hn hl⟩
theorem EffTo.step {K : Nat} {X : TS0.den} {l : List M} {ch : Bool} {last last' : List Int} {R : Option (List TS1.den)} (h : EffTo K X l ch last' R) (hl : X.2.1 ≤ 0 → last = [] → last' = []) : EffTo K X l ch last R := by
  obtain ⟨l3, ch', k, h', h1, h2, h3, h4, h5, h6, h7, h8, h9⟩ := h
  exact ⟨l3, ch', k, h', h1, h2, h3, h4, h5, h6, h7, h8, fun hx hn => h9 hx (hl hx hn)⟩
theorem nth_mem_enc {l : List M} {p : Nat} {m : M} (h : l[p]? = some m) : nth TS1 (enc l) (p : Int) = (m.1, strOfRunes m.2) := by
  obtain ⟨h1, h2, _⟩ := at_split h
  have := nth_enc (l.take p) (l.drop (p + 1)) m (p : Int) (by rw [h2])
  rwa [← h1] at this
theorem sum_step {α : Type} (b : Bool) (n : Nat) (hn : n ≤ 10) (z : Int) (hz : z = (n : Int)) (f : Int → α) : br b (f (IntKind.wrap IntKind.i64 (z + (1 : Int)))) (f z) = f ((n + b.toNat : Nat) : Int) := by
  subst hz
  cases b with
  | false => rw [br_false]; rfl
  | true => rw [br_true, wrap_id (by omega) (by omega)]; rfl
section
variable (K : Nat) (X : TS0.den) (ch : Bool) (e : Pf) (h : Hp)
theorem eff_sum (k : Nat) (l : List TS1.den) (s : ByteArray) (p : Int) (pi pd qi qd : Bool) : DiffCleanupEfficiency_j3 K (k + 4) 0 [X] l ch e s p pi pd qi qd h = DiffCleanupEfficiency_j7 K k 0 [X] l ch e s p pi pd qi qd ((pi.toNat + pd.toNat + qi.toNat + qd.toNat : Nat) : Int) h := by
  have b1 : pi.toNat ≤ 1 := by cases pi <;> simp
  have b2 : pd.toNat ≤ 1 := by cases pd <;> simp
  have b3 : qi.toNat ≤ 1 := by cases qi <;> simp
  rw [DiffCleanupEfficiency_j3_eq, sum_step pi 0 (by omega) (0 : Int) rfl (fun z => DiffCleanupEfficiency_j4 K (k + 3) 0 [X] l ch e s p pi pd qi qd z h), Nat.zero_add,
    DiffCleanupEfficiency_j4_eq, sum_step pd pi.toNat (by omega) _ rfl (fun z => DiffCleanupEfficiency_j5 K (k + 2) 0 [X] l ch e s p pi pd qi qd z h),
    DiffCleanupEfficiency_j5_eq, sum_step qi (pi.toNat + pd.toNat) (by omega) _ rfl (fun z => DiffCleanupEfficiency_j6 K (k + 1) 0 [X] l ch e s p pi pd qi qd z h),
    DiffCleanupEfficiency_j6_eq, sum_step qd (pi.toNat + pd.toNat + qi.toNat) (by omega) _ rfl (fun z => DiffCleanupEfficiency_j7 K k 0 [X] l ch e s p pi pd qi qd z h)]
theorem eff_cond (k : Nat) (l : List TS1.den) (last : List Int) (p : Int) (pi pd qi qd : Bool) : ∃ B, DiffCleanupEfficiency_j7 K (k + 1) 0 [X] l ch e (strOfRunes last) p pi pd qi qd ((pi.toNat + pd.toNat + qi.toNat + qd.toNat : Nat) : Int) h = DiffCleanupEfficiency_j8 K k 0 [X] l ch e (strOfRunes last) p pi pd qi qd B h ∧ (B = true → last ≠ [] ∧ 3 ≤ pd.toNat + pi.toNat + qd.toNat + qi.toNat) := by
  generalize hn : pi.toNat + pd.toNat + qi.toNat + qd.toNat = n
  rw [DiffCleanupEfficiency_j7_eq]
  by_cases hl : last = []
  · subst hl
    rw [br_ge (by show ((ByteArray.size (strOfRunes ([] : List Int)) : Nat) : Int) ≤ 0; exact Int.le_refl 0)]
    exact ⟨false, rfl, fun h => by cases h⟩
  · have part : ∃ B, chk (Bool.not (eqI (2 : Int) (0 : Int))) (br (ltI ((ByteArray.size (strOfRunes last)) : Int) (IntKind.wrap IntKind.i64 (Int.tdiv (((nth TS0 [X] 0)).2).1 (2 : Int))))
        (DiffCleanupEfficiency_j8 K k 0 [X] l ch e (strOfRunes last) p pi pd qi qd (eqI (n : Int) (3 : Int)) h)
        (DiffCleanupEfficiency_j8 K k 0 [X] l ch e (strOfRunes last) p pi pd qi qd Bool.false h)) = DiffCleanupEfficiency_j8 K k 0 [X] l ch e (strOfRunes last) p pi pd qi qd B h ∧ (B = true → n = 3) := by
      rw [chk_neq (by omega)]
      by_cases hc : ((ByteArray.size (strOfRunes last)) : Int) < (IntKind.wrap IntKind.i64 (Int.tdiv (((nth TS0 [X] 0)).2).1 (2 : Int)))
      · rw [br_lt hc]
        refine ⟨_, rfl, fun h => ?_⟩
        rw [eqI_eq] at h
        have := of_decide_eq_true h
        omega
      · rw [br_ge (by omega)]
        exact ⟨false, rfl, fun h => by cases h⟩
    obtain ⟨B, hB, h3⟩ := part
    by_cases hz : (0 : Int) < ((ByteArray.size (strOfRunes last)) : Int)
    · rw [br_lt hz]
      cases pi with
      | false => rw [br_false]; exact ⟨B, hB, fun hb => ⟨hl, by have := h3 hb; simp at hn ⊢; omega⟩⟩
      | true =>
        rw [br_true]
        cases pd with
        | false => rw [br_false]; exact ⟨B, hB, fun hb => ⟨hl, by have := h3 hb; simp at hn ⊢; omega⟩⟩
        | true =>
          rw [br_true]
          cases qi with
          | false => rw [br_false]; exact ⟨B, hB, fun hb => ⟨hl, by have := h3 hb; simp at hn ⊢; omega⟩⟩
          | true =>
            rw [br_true]
            cases qd with
            | false => rw [br_false]; exact ⟨B, hB, fun hb => ⟨hl, by have := h3 hb; simp at hn ⊢⟩⟩
            | true => rw [br_true]; exact ⟨true, rfl, fun _ => ⟨hl, by simp⟩⟩
    · rw [br_ge (by omega)]
      exact ⟨false, rfl, fun h => by cases h⟩
end
end Go.Proofs.YtblmeoigjbnmiaaDoor.E
