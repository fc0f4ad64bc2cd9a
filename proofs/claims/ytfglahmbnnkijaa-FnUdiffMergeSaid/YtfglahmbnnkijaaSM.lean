import Derived.Test.YtfglahmbnnkijaaSE
/- Edits merged. -/
set_option linter.unusedVariables false
set_option linter.unusedSimpArgs false
namespace Go.Proofs.Ytfglahmbnnkijaa.E
open Go.Ev Go.Lcs
/-- A variable that holds a list that is built since h0. -/
def MG (h0 h : Hp) (m : Nat) (P : List Ed) : Prop := KeepH h0 h ∧ FreeH h ∧ h0.nx ≤ m ∧ m < h.nx ∧ ∃ r, h.ob m = some (.cells 57 1 [.sr r]) ∧ ((P = [] ∧ r = .nil) ∨ (P ≠ [] ∧ ∃ n, n ≠ m ∧ h0.nx ≤ n ∧ n < h.nx ∧ r = .at n 0 P.length ∧ HO h 74 TS1 n P))
theorem MG.start (h : Hp) (hf : FreeH h) : MG h (Hp.box h 57 .sr Rf.nil) h.nx [] := by
  refine ⟨(KeepH.refl h).push _, hf.push _, Nat.le_refl _, Nat.lt_succ_self _, .nil, ?_, .inl ⟨rfl, rfl⟩⟩
  unfold Hp.box
  rw [push_ob, if_pos rfl]
  rfl
theorem ld_sr {h : Hp} {m : Nat} {r : Rf} (ho : h.ob m = some (.cells 57 1 [.sr r])) : Hp.ld h .sr (.at m 0) = some r := by
  unfold Hp.ld Hp.cl
  simp only [ho]
  rfl
theorem st_sr {h : Hp} {m : Nat} {r : Rf} (ho : h.ob m = some (.cells 57 1 [.sr r])) (s : Rf) : Hp.st h .sr (.at m 0) s = some (h.set m (some (.cells 57 1 [.sr s]))) := by
  unfold Hp.st
  simp only [ho]
  rfl
theorem add_ok (K : Nat) {h0 h : Hp} {m : Nat} {P : List Ed} (hg : MG h0 h m P) (e : Ed) (hl : P.length ≤ 1000) (hK : 1 ≤ K) : ∃ h', Merge_1 K h e (.at m 0) = some h' ∧ MG h0 h' m (P ++ [e]) := by
  obtain ⟨K, rfl⟩ : ∃ m, K = m + 1 := ⟨K - 1, by omega⟩
  obtain ⟨hk, hf, h1, h2, r, hm, hr⟩ := hg
  have hN : HO (Hp.new h 74 (.p TS1) [e]) 74 TS1 h.nx [e] := HO.new h 74 TS1 [e]
  have hk1 : KeepH h0 (Hp.new h 74 (.p TS1) [e]) := hk.push _
  have hf1 : FreeH (Hp.new h 74 (.p TS1) [e]) := hf.push _
  have hnx : (Hp.new h 74 (.p TS1) [e]).nx = h.nx + 1 := rfl
  have hc : Hp.cs (Hp.new h 74 (.p TS1) [e]) 3 (.at h.nx 0 1) = some (([e].map (HTy.cc (.p TS1))).flatten, 1) := hN.cs
  have hm1 : (Hp.new h 74 (.p TS1) [e]).ob m = some (.cells 57 1 [.sr r]) := by
    unfold Hp.new
    rw [push_ob, if_neg (by omega)]
    exact hm
  have hrl : rlen r = P.length := by
    rcases hr with ⟨rfl, rfl⟩ | ⟨_, n, _, _, _, rfl, _⟩ <;> rfl
  have app : ∃ s : Rf × Hp, Hp.app (Hp.new h 74 (.p TS1) [e]) 74 3 ([e].map (HTy.cc (.p TS1))).flatten 1 r = some s ∧ KeepH h0 s.2 ∧ FreeH s.2 ∧ s.2.ob m = some (.cells 57 1 [.sr r]) ∧ m < s.2.nx ∧ ∃ n, n ≠ m ∧ h0.nx ≤ n ∧ n < s.2.nx ∧ s.1 = .at n 0 (P ++ [e]).length ∧ HO s.2 74 TS1 n (P ++ [e]) := by
    rcases hr with ⟨rfl, rfl⟩ | ⟨hne, n, g1, g2, g3, rfl, ho⟩
    · refine ⟨_, rfl, hk1.push _, hf1.push _, ?_, ?_, (Hp.new h 74 (.p TS1) [e]).nx, by omega, hk1.nx, Nat.lt_succ_self _, rfl, ?_⟩
      · rw [push_ob, if_neg (by omega)]
        exact hm1
      · show m < (Hp.new h 74 (.p TS1) [e]).nx + 1
        omega
      · unfold HO
        rw [push_ob, if_pos rfl]
        rfl
    · have ho1 : HO (Hp.new h 74 (.p TS1) [e]) 74 TS1 n P := ho.push (by omega) _
      have happ := ho1.app [e] (by simp)
      refine ⟨_, happ, (hk1.set g2 none).push _, (hf1.set (by omega) none).push _, ?_, ?_, (Hp.new h 74 (.p TS1) [e]).nx, by omega, hk1.nx, Nat.lt_succ_self _, ?_, ?_⟩
      · rw [push_ob, if_neg (show ¬ m = ((Hp.new h 74 (.p TS1) [e]).set n none).nx by show ¬ m = (Hp.new h 74 (.p TS1) [e]).nx; omega), set_ob, if_neg (by omega)]
        exact hm1
      · show m < (Hp.new h 74 (.p TS1) [e]).nx + 1
        omega
      · rw [List.length_append]
      · unfold HO
        rw [push_ob, if_pos (show (Hp.new h 74 (.p TS1) [e]).nx = ((Hp.new h 74 (.p TS1) [e]).set n none).nx from rfl)]
  obtain ⟨s, a1, a2, a3, a4, a5, n, b1, b2, b3, b4, b5⟩ := app
  refine ⟨s.2.set m (some (.cells 57 1 [.sr s.1])), ?_, a2.set h1 _, a3.set a5 _, h1, a5, s.1, ?_, .inr ⟨by simp, n, b1, b2, b3, b4, b5.set b1 _⟩⟩
  · rw [Merge_1_eq, ld_sr hm, obs]
    show Option.bind (Hp.cs (Hp.new h 74 (.p TS1) [e]) 3 (.at h.nx 0 1)) _ = _
    rw [hc, obs]
    show chk _ (Option.bind (Hp.app (Hp.new h 74 (.p TS1) [e]) 74 3 ([e].map (HTy.cc (.p TS1))).flatten 1 r) _) = _
    rw [a1, obs, st_sr a4, obs, hrl, chk_lt (by show (P.length : Int) + ((1 : Nat) : Int) < _; omega)]
  · rw [set_ob, if_pos rfl]
/-- Two lists, the one that ends first ahead. -/
def mg : List Ed → List Ed → List Ed
  | [], B => B
  | a :: A, [] => a :: A
  | a :: A, b :: B => if a.2.1 ≤ b.1 then a :: mg A (b :: B) else b :: mg (a :: A) B
termination_by A B => A.length + B.length
theorem mg_nil (A : List Ed) : mg A [] = A := by cases A <;> (unfold mg; rfl)
theorem nil_mg (B : List Ed) : mg [] B = B := by unfold mg; rfl
theorem mg_cons (a b : Ed) (A B : List Ed) : mg (a :: A) (b :: B) = if a.2.1 ≤ b.1 then a :: mg A (b :: B) else b :: mg (a :: A) B := by conv => lhs; unfold mg
theorem mg_perm : ∀ (n : Nat) (A B : List Ed), A.length + B.length ≤ n → (mg A B).Perm (A ++ B)
  | _, [], B, _ => by rw [nil_mg]; exact List.Perm.refl _
  | _, a :: A, [], _ => by rw [mg_nil, List.append_nil]
  | 0, a :: A, b :: B, h => by simp at h
  | n + 1, a :: A, b :: B, h => by
    simp only [List.length_cons] at h
    rw [mg_cons]
    split
    · exact (mg_perm n A (b :: B) (by simp only [List.length_cons]; omega)).cons a
    · exact ((mg_perm n (a :: A) B (by simp only [List.length_cons]; omega)).cons b).trans List.perm_middle.symm
/-- Ahead of, with a byte between. -/
def Far (a b : Ed) : Prop := a.2.1 < b.1
def Up (a : Ed) : Prop := a.1 ≤ a.2.1
theorem mg_far : ∀ (n : Nat) (A B : List Ed), A.length + B.length ≤ n → A.Pairwise Far → B.Pairwise Far → (∀ a ∈ A, Up a) → (∀ b ∈ B, Up b) → (∀ a ∈ A, ∀ b ∈ B, Far a b ∨ Far b a) → (mg A B).Pairwise Far
  | _, [], B, _, _, h, _, _, _ => by rw [nil_mg]; exact h
  | _, a :: A, [], _, h, _, _, _, _ => by rw [mg_nil]; exact h
  | 0, a :: A, b :: B, h, _, _, _, _, _ => by simp at h
  | n + 1, a :: A, b :: B, h, hA, hB, uA, uB, hx => by
    simp only [List.length_cons] at h
    have hA0 := hA
    have hB0 := hB
    rw [List.pairwise_cons] at hA hB
    have ua := uA a (List.mem_cons_self ..)
    have ub := uB b (List.mem_cons_self ..)
    have hab := hx a (List.mem_cons_self ..) b (List.mem_cons_self ..)
    unfold Up at ua ub
    rw [mg_cons]
    split
    · rename_i hc
      refine List.Pairwise.cons (fun e he => ?_) (mg_far n A (b :: B) (by simp only [List.length_cons]; omega) hA.2 hB0 (fun x hx => uA x (List.mem_cons_of_mem _ hx)) uB (fun x hx' y hy => hx x (List.mem_cons_of_mem _ hx') y hy))
      have hf : Far a b := by
        rcases hab with h1 | h1
        · exact h1
        · unfold Far at h1; omega
      rcases List.mem_append.1 ((mg_perm _ A (b :: B) (Nat.le_refl _)).mem_iff.1 he) with he | he
      · exact hA.1 e he
      · rcases List.mem_cons.1 he with rfl | he
        · exact hf
        · have := hB.1 e he
          unfold Far at *
          omega
    · rename_i hc
      refine List.Pairwise.cons (fun e he => ?_) (mg_far n (a :: A) B (by simp only [List.length_cons]; omega) hA0 hB.2 uA (fun x hx => uB x (List.mem_cons_of_mem _ hx)) (fun x hx' y hy => hx x hx' y (List.mem_cons_of_mem _ hy)))
      have hf : Far b a := by
        rcases hab with h1 | h1
        · unfold Far at h1; omega
        · exact h1
      rcases List.mem_append.1 ((mg_perm _ (a :: A) B (Nat.le_refl _)).mem_iff.1 he) with he | he
      · rcases List.mem_cons.1 he with rfl | he
        · exact hf
        · have := hA.1 e he
          unfold Far at *
          omega
      · exact hB.1 e he
section
variable (K : Nat) (h0 : Hp) (ra rb : Rf) (A B : List Ed) (hA : SlL h0 74 TS1 ra A) (hB : SlL h0 74 TS1 rb B) (lA : A.length ≤ 100) (lB : B.length ≤ 100) (x6 : Pf) (m : Nat) (hK : 10 ≤ K)
include hA hB lA lB hK
theorem at_mid {A P R : List Ed} {e : Ed} (h : P ++ e :: R = A) : ∃ hi : P.length < A.length, A[P.length] = e := by
  have _u := And.intro hA (And.intro hB (And.intro lA (And.intro lB hK)))
  subst h
  exact ⟨by simp, by simp⟩
theorem mg_l2 : ∀ (RB PB P : List Ed) (h : Hp) (k : Nat), PB ++ RB = B → MG h0 h m P → P.length + RB.length ≤ 500 → 2 * RB.length + 2 ≤ k →
    ∃ h' r', Merge_l2 K k rb (.at m 0) (.at m 0) (PB.length : Int) h = some (h', (r', true)) ∧ Blt h0 h' 74 TS1 r' (P ++ RB) := by
  intro RB
  induction RB with
  | nil =>
    intro PB P h k hP hg hl hk
    obtain ⟨k, rfl⟩ : ∃ m, k = m + 1 := ⟨k - 1, by omega⟩
    rw [List.append_nil] at hP
    subst hP
    obtain ⟨hk0, hf, h1, h2, r, hm, hr⟩ := hg
    refine ⟨h, r, ?_, hk0, hf, ?_⟩
    · rw [Merge_l2_eq, hB.rlen, br_ge (by omega), ld_sr hm, obs]
    · rw [List.append_nil]
      rcases hr with hr | ⟨g0, n, _, g1, g2, g3, g4⟩
      · exact .inl hr
      · exact .inr ⟨g0, n, g1, g2, g3, g4⟩
  | cons e RB ih =>
    intro PB P h k hP hg hl hk
    simp only [List.length_cons] at hk hl
    obtain ⟨k, rfl⟩ : ∃ q, k = q + 2 := ⟨k - 2, by omega⟩
    obtain ⟨hi, he⟩ := at_mid K h0 ra rb A B hA hB lA lB hK hP
    have hsx := hB.keep hg.1
    obtain ⟨h', a1, a2⟩ := add_ok K hg e (by omega) (by omega)
    rw [Merge_l2_eq, hB.rlen, br_lt (by omega), Merge_j2_eq, hB.rlen, chk_le (by omega), chk_lt (by omega), SlL.ld3 hsx PB.length hi, obs, he]
    show ∃ h' r', br true _ _ = _ ∧ _
    rw [br_true, a1, obs, wrap_id (by omega) (by omega)]
    obtain ⟨h2, r2, b1, b2⟩ := ih (PB ++ [e]) (P ++ [e]) h' k (by rw [List.append_assoc]; exact hP) a2 (by simp only [List.length_append, List.length_cons, List.length_nil]; omega) (by omega)
    rw [List.length_append] at b1
    rw [List.append_assoc] at b2
    exact ⟨h2, r2, b1, b2⟩
theorem mg_l1 : ∀ (RA PA RB PB P : List Ed) (h : Hp) (k : Nat), PA ++ RA = A → PB ++ RB = B → MG h0 h m P → P.length + RA.length + RB.length ≤ 500 → 2 * RA.length + 2 * RB.length + 4 ≤ k →
    ∃ h' r', Merge_l1 K k ra rb (.at m 0) (.at m 0) (PA.length : Int) (PB.length : Int) h = some (h', (r', true)) ∧ Blt h0 h' 74 TS1 r' (P ++ (RA ++ RB)) := by
  intro RA
  induction RA with
  | nil =>
    intro PA RB PB P h k hP hQ hg hl hk
    obtain ⟨k, rfl⟩ : ∃ m, k = m + 1 := ⟨k - 1, by omega⟩
    rw [List.append_nil] at hP
    rw [Merge_l1_eq, hA.rlen, br_ge (by rw [hP]; omega)]
    exact mg_l2 K h0 ra rb A B hA hB lA lB m hK RB PB P h k hQ hg (by simp only [List.length_nil] at hl; omega) (by simp only [List.length_nil] at hk; omega)
  | cons e RA ih =>
    intro PA RB PB P h k hP hQ hg hl hk
    simp only [List.length_cons] at hk hl
    obtain ⟨k, rfl⟩ : ∃ q, k = q + 2 := ⟨k - 2, by omega⟩
    obtain ⟨hi, he⟩ := at_mid K h0 ra rb A B hA hB lA lB hK hP
    have hsx := hA.keep hg.1
    obtain ⟨h', a1, a2⟩ := add_ok K hg e (by omega) (by omega)
    rw [Merge_l1_eq, hA.rlen, br_lt (by omega), Merge_j1_eq, hA.rlen, chk_le (by omega), chk_lt (by omega), SlL.ld3 hsx PA.length hi, obs, he]
    show ∃ h' r', br true _ _ = _ ∧ _
    rw [br_true, a1, obs, wrap_id (by omega) (by omega)]
    obtain ⟨h2, r2, b1, b2⟩ := ih (PA ++ [e]) RB PB (P ++ [e]) h' k (by rw [List.append_assoc]; exact hP) hQ a2 (by simp only [List.length_append, List.length_cons, List.length_nil]; omega) (by omega)
    rw [List.length_append] at b1
    rw [List.append_assoc] at b2
    exact ⟨h2, r2, b1, b2⟩
theorem mg_l0 : ∀ (n : Nat) (RA PA RB PB P : List Ed) (h : Hp) (k : Nat), RA.length + RB.length ≤ n → PA ++ RA = A → PB ++ RB = B → MG h0 h m P → P.length + RA.length + RB.length ≤ 500 → 2 * RA.length + 2 * RB.length + 5 ≤ k → (∀ a ∈ RA, Up a) → (∀ b ∈ RB, Up b) → (∀ a ∈ RA, ∀ b ∈ RB, Far a b ∨ Far b a) →
    ∃ h' r', Merge_l0 K k ra rb (.at m 0) (.at m 0) (PA.length : Int) (PB.length : Int) h = some (h', (r', true)) ∧ Blt h0 h' 74 TS1 r' (P ++ mg RA RB) := by
  intro n
  induction n with
  | zero =>
    intro RA PA RB PB P h k hn hP hQ hg hl hk uA uB hx
    have e1 : RA = [] := List.eq_nil_of_length_eq_zero (by omega)
    have e2 : RB = [] := List.eq_nil_of_length_eq_zero (by omega)
    subst e1
    subst e2
    obtain ⟨k, rfl⟩ : ∃ m, k = m + 1 := ⟨k - 1, by omega⟩
    have hP' := hP
    rw [List.append_nil] at hP'
    rw [Merge_l0_eq, hA.rlen, br_ge (by rw [hP']; omega), nil_mg]
    have := mg_l1 K h0 ra rb A B hA hB lA lB m hK [] PA [] PB P h k hP hQ hg hl (by simp only [List.length_nil] at hk ⊢; omega)
    exact this
  | succ n ih =>
    intro RA PA RB PB P h k hn hP hQ hg hl hk uA uB hx
    cases RA with
    | nil =>
      obtain ⟨k, rfl⟩ : ∃ m, k = m + 1 := ⟨k - 1, by omega⟩
      have hP' := hP
      rw [List.append_nil] at hP'
      rw [Merge_l0_eq, hA.rlen, br_ge (by rw [hP']; omega), nil_mg]
      exact mg_l1 K h0 ra rb A B hA hB lA lB m hK [] PA RB PB P h k hP hQ hg hl (by simp only [List.length_nil] at hk ⊢; omega)
    | cons a RA =>
      obtain ⟨hi, he⟩ := at_mid K h0 ra rb A B hA hB lA lB hK hP
      cases RB with
      | nil =>
        obtain ⟨k, rfl⟩ : ∃ m, k = m + 1 := ⟨k - 1, by omega⟩
        have hQ' := hQ
        rw [List.append_nil] at hQ'
        rw [Merge_l0_eq, hA.rlen, hB.rlen, br_lt (by omega), br_ge (by rw [hQ']; omega), mg_nil]
        have := mg_l1 K h0 ra rb A B hA hB lA lB m hK (a :: RA) PA [] PB P h k hP hQ hg hl (by simp only [List.length_nil] at hk ⊢; omega)
        rw [List.append_nil] at this
        exact this
      | cons b RB =>
        obtain ⟨hj, he'⟩ := at_mid K h0 ra rb A B hA hB lA lB hK hQ
        simp only [List.length_cons] at hk hl hn
        obtain ⟨k, rfl⟩ : ∃ q, k = q + 2 := ⟨k - 2, by omega⟩
        have sA := hA.keep hg.1
        have sB := hB.keep hg.1
        have fa := SlL.f0 sA PA.length hi
        have fa1 := SlL.f1 sA PA.length hi
        have fb := SlL.f0 sB PB.length hj
        have fb1 := SlL.f1 sB PB.length hj
        rw [he] at fa fa1
        rw [he'] at fb fb1
        have ua := uA a (List.mem_cons_self ..)
        have ub := uB b (List.mem_cons_self ..)
        have hab := hx a (List.mem_cons_self ..) b (List.mem_cons_self ..)
        unfold Up at ua ub
        unfold Far at hab
        rw [Merge_l0_eq, hA.rlen, hB.rlen, br_lt (by omega), br_lt (by omega), Merge_j0_eq, hA.rlen, hB.rlen, chk_le (by omega), chk_lt (by omega), chk_le (by omega), chk_lt (by omega)]
        simp only [fa.2, fb.2, chk_true]
        rw [SlL.ld3 sA PA.length hi, obs, SlL.ld3 sB PB.length hj, obs, he, he', mg_cons]
        have hne : Bool.and (eqI (a.1 : Int) (b.1 : Int)) (Bool.and (eqI (a.2.1 : Int) (b.2.1 : Int)) (eqS a.2.2 b.2.2)) = false := by
          rw [eqI_eq, eqI_eq]
          by_cases c1 : (a.1 : Int) = b.1
          · rw [decide_eq_true c1]
            by_cases c2 : (a.2.1 : Int) = b.2.1
            · exfalso
              omega
            · rw [decide_eq_false c2]
              rfl
          · rw [decide_eq_false c1]
            rfl
        rw [hne, br_false, fa1.1, obs, fb.1, obs]
        by_cases hc : a.2.1 ≤ b.1
        · obtain ⟨h', a1, a2⟩ := add_ok K hg a (by omega) (by omega)
          rw [br_le hc, if_pos hc, obs]
          show ∃ h' r', br true _ _ = _ ∧ _
          rw [br_true, a1, obs, wrap_id (by omega) (by omega)]
          obtain ⟨h2, r2, b1, b2⟩ := ih RA (PA ++ [a]) (b :: RB) PB (P ++ [a]) h' k (by simp only [List.length_cons]; omega) (by rw [List.append_assoc]; exact hP) hQ a2 (by simp only [List.length_append, List.length_cons, List.length_nil]; omega) (by simp only [List.length_cons]; omega) (fun x hx => uA x (List.mem_cons_of_mem _ hx)) uB (fun x hx' y hy => hx x (List.mem_cons_of_mem _ hx') y hy)
          rw [List.length_append] at b1
          rw [List.append_assoc] at b2
          exact ⟨h2, r2, b1, b2⟩
        · obtain ⟨h', a1, a2⟩ := add_ok K hg b (by omega) (by omega)
          rw [br_gt (by omega), if_neg hc, fb1.1, obs, fa.1, obs, br_le (by omega), obs]
          show ∃ h' r', br true _ _ = _ ∧ _
          rw [br_true, a1, obs, wrap_id (by omega) (by omega)]
          obtain ⟨h2, r2, b1, b2⟩ := ih (a :: RA) PA RB (PB ++ [b]) (P ++ [b]) h' k (by simp only [List.length_cons]; omega) hP (by rw [List.append_assoc]; exact hQ) a2 (by simp only [List.length_append, List.length_cons, List.length_nil]; omega) (by simp only [List.length_cons]; omega) uA (fun x hx => uB x (List.mem_cons_of_mem _ hx)) (fun x hx' y hy => hx x hx' y (List.mem_cons_of_mem _ hy))
          rw [List.length_append] at b1
          rw [List.append_assoc] at b2
          exact ⟨h2, r2, b1, b2⟩
end
theorem mg_same (K : Nat) (h0 : Hp) (ra rb : Rf) (A : List Ed) (hA : SlL h0 74 TS1 ra A) (hB : SlL h0 74 TS1 rb A) (lA : A.length ≤ 100) (m : Nat) (hK : 10 ≤ K) : ∀ (RA PA : List Ed) (h : Hp) (k : Nat), PA ++ RA = A → MG h0 h m PA → 2 * RA.length + 5 ≤ k →
    ∃ h' r', Merge_l0 K k ra rb (.at m 0) (.at m 0) (PA.length : Int) (PA.length : Int) h = some (h', (r', true)) ∧ Blt h0 h' 74 TS1 r' A := by
  intro RA
  induction RA with
  | nil =>
    intro PA h k hP hg hk
    obtain ⟨k, rfl⟩ : ∃ m, k = m + 1 := ⟨k - 1, by omega⟩
    have hP' := hP
    rw [List.append_nil] at hP'
    rw [Merge_l0_eq, hA.rlen, br_ge (by rw [hP']; omega)]
    have := mg_l1 K h0 ra rb A A hA hB lA lA m hK [] PA [] PA PA h k hP hP hg (by rw [← hP'] at lA; simp only [List.length_nil]; omega) (by simp only [List.length_nil] at hk ⊢; omega)
    rw [List.append_nil, List.append_nil] at this
    subst hP'
    exact this
  | cons a RA ih =>
    intro PA h k hP hg hk
    simp only [List.length_cons] at hk
    obtain ⟨k, rfl⟩ : ∃ q, k = q + 2 := ⟨k - 2, by omega⟩
    obtain ⟨hi, he⟩ := at_mid K h0 ra rb A A hA hB lA lA hK hP
    have sA := hA.keep hg.1
    have sB := hB.keep hg.1
    have fa := SlL.f0 sA PA.length hi
    have fb := SlL.f0 sB PA.length hi
    rw [Merge_l0_eq, hA.rlen, hB.rlen, br_lt (by omega), br_lt (by omega), Merge_j0_eq, hA.rlen, hB.rlen, chk_le (by omega), chk_lt (by omega), chk_le (by omega), chk_lt (by omega)]
    simp only [fa.2, fb.2, chk_true]
    rw [SlL.ld3 sA PA.length hi, obs, SlL.ld3 sB PA.length hi, obs, he]
    have hne : Bool.and (eqI (a.1 : Int) (a.1 : Int)) (Bool.and (eqI (a.2.1 : Int) (a.2.1 : Int)) (eqS a.2.2 a.2.2)) = true := by
      rw [eqI_eq, eqI_eq, eqS_iff, decide_eq_true rfl, decide_eq_true rfl, decide_eq_true rfl]
      rfl
    obtain ⟨h', a1, a2⟩ := add_ok K hg a (by omega) (by omega)
    rw [hne, br_true, obs]
    show ∃ h' r', br true _ _ = _ ∧ _
    rw [br_true, a1, obs, wrap_id (by omega) (by omega)]
    obtain ⟨h2, r2, b1, b2⟩ := ih (PA ++ [a]) h' k (by rw [List.append_assoc]; exact hP) a2 (by omega)
    rw [List.length_append] at b1
    exact ⟨h2, r2, b1, b2⟩
theorem clone2 (K : Nat) {h : Hp} {r : Rf} {L : List Ed} (hs : SlL h 74 TS1 r L) (hf : FreeH h) (hl : L.length ≤ 100) (hK : 3 ≤ K) : ∃ h' r', Edit_ K h r = some (h', r') ∧ Blt h h' 74 TS1 r' L := by
  obtain ⟨K, rfl⟩ : ∃ m, K = m + 1 := ⟨K - 1, by omega⟩
  obtain ⟨K, rfl⟩ : ∃ m, K = m + 1 := ⟨K - 1, by omega⟩
  rcases hs with ⟨rfl, rfl⟩ | ⟨hne, n, hn, rfl, ho⟩
  · exact ⟨h, .nil, by rw [Edit__eq]; rfl, KeepH.refl h, hf, .inl ⟨rfl, rfl⟩⟩
  · have h1 : 0 < L.length := by cases L with | nil => exact absurd rfl hne | cons => simp
    have hN : HO (Hp.new h 74 (.p TS1) ([] : List Ed)) 74 TS1 h.nx [] := HO.new h 74 TS1 []
    have ho1 : HO (Hp.new h 74 (.p TS1) ([] : List Ed)) 74 TS1 n L := ho.push (by omega) _
    have happ := hN.app L hne
    have hcs := ho1.cs
    have hrs : rsure (.at n 0 L.length) = true := by
      show Nat.blt 0 L.length = true
      exact Nat.ble_eq_true_of_le h1
    have hk1 : KeepH h (Hp.new h 74 (.p TS1) ([] : List Ed)) := (KeepH.refl h).push _
    have hf1 : FreeH (Hp.new h 74 (.p TS1) ([] : List Ed)) := hf.push _
    refine ⟨((Hp.new h 74 (.p TS1) ([] : List Ed)).set h.nx none).push (.cells 74 TS1.sz (([] ++ L).map (HTy.cc (.p TS1))).flatten), .at (Hp.new h 74 (.p TS1) ([] : List Ed)).nx 0 L.length, ?_, ((hk1.set (n := h.nx) (Nat.le_refl _) none).push _), ((hf1.set (n := h.nx) (Nat.lt_succ_self _) none).push _), .inr ⟨hne, (Hp.new h 74 (.p TS1) ([] : List Ed)).nx, Nat.le_succ _, Nat.lt_succ_self _, rfl, ?_⟩⟩
    rotate_left
    · unfold HO
      rw [push_ob, if_pos (show (Hp.new h 74 (.p TS1) ([] : List Ed)).nx = ((Hp.new h 74 (.p TS1) ([] : List Ed)).set h.nx none).nx from rfl), List.nil_append]
    · have hct : ∀ a : Option (Hp × Rf), chk true a = a := fun _ => rfl
      rw [Edit__eq, hrs, hct, show rnil (.at n 0 L.length) = false from rfl, br_false, Edit__j0_eq]
      show Option.bind (Hp.cs (Hp.new h 74 (.p TS1) ([] : List Ed)) 3 (.at n 0 L.length)) _ = _
      have hcs : Hp.cs (Hp.new h 74 (.p TS1) ([] : List Ed)) 3 (.at n 0 L.length) = some ((L.map (HTy.cc (.p TS1))).flatten, L.length) := hcs
      have happ : Hp.app (Hp.new h 74 (.p TS1) ([] : List Ed)) 74 3 (L.map (HTy.cc (.p TS1))).flatten L.length (.at h.nx 0 0) = some (.at (Hp.new h 74 (.p TS1) ([] : List Ed)).nx 0 (0 + L.length), _) := happ
      rw [hcs, obs]
      show chk _ (Option.bind (Hp.app (Hp.new h 74 (.p TS1) ([] : List Ed)) 74 3 (L.map (HTy.cc (.p TS1))).flatten L.length (.at h.nx 0 0)) _) = _
      rw [happ, obs, chk_lt (by show ((0 : Nat) : Int) + (L.length : Int) < _; omega)]
      simp only [Nat.zero_add]
theorem merge_frame (K : Nat) (A B C : List Ed) (lA : A.length ≤ 100) (lB : B.length ≤ 100) (lC : C.length ≤ 200) (hK : 1000 ≤ K)
    (main : ∀ (K : Nat) (h0 : Hp) (ra rb : Rf), 900 ≤ K → SlL h0 74 TS1 ra A → SlL h0 74 TS1 rb B → FreeH h0 → ∃ h' r', Merge_l0 K K ra rb (.at h0.nx 0) (.at h0.nx 0) (0 : Int) (0 : Int) (Hp.box h0 57 .sr Rf.nil) = some (h', (r', true)) ∧ SlL h' 74 TS1 r' C) : MergeEdits K A B = some (C, true) := by
  obtain ⟨K, rfl⟩ : ∃ m, K = m + 1 := ⟨K - 1, by omega⟩
  obtain ⟨K, rfl⟩ : ∃ m, K = m + 1 := ⟨K - 1, by omega⟩
  obtain ⟨h1, r1, e1, b1⟩ := edits_ok (K + 1) Hp.empty FreeH.empty A (by omega) (by omega)
  obtain ⟨h2, r2, e2, b2⟩ := edits_ok (K + 1) h1 b1.2.1 B (by omega) (by omega)
  obtain ⟨h3, r3, e3, b3⟩ := clone2 K (b1.sl.keep b2.1) b2.2.1 lA (by omega)
  obtain ⟨h4, r4, e4, b4⟩ := clone2 K (b2.sl.keep b3.1) b3.2.1 lB (by omega)
  obtain ⟨h5, r5, e5, b5⟩ := main K h4 r3 r4 (by omega) (b3.sl.keep b4.1) b4.sl b4.2.1
  rw [MergeEdits_eq, e1, obs, e2, obs]
  show Option.bind (Merge (K + 1) h2 r1 r2) _ = _
  rw [Merge_eq, e3, obs]
  show Option.bind (Option.bind (Edit_ K h3 r2) _) _ = _
  rw [e4, obs]
  show Option.bind (Merge_l0 K K r3 r4 (.at h4.nx 0) (.at h4.nx 0) (0 : Int) (0 : Int) (Hp.box h4 57 .sr Rf.nil)) _ = _
  rw [e5, obs]
  show Option.bind (backEdits (K + 1) h5 r5) _ = _
  rw [backEdits_ok (K + 1) h5 r5 C b5 (by omega) (by omega), obs]
/-- Edits of lists that are apart, merged. -/
theorem MergeEdits_apart (K : Nat) (A B : List Ed) (lA : A.length ≤ 100) (lB : B.length ≤ 100) (hK : 1000 ≤ K) (uA : ∀ a ∈ A, Up a) (uB : ∀ b ∈ B, Up b) (hx : ∀ a ∈ A, ∀ b ∈ B, Far a b ∨ Far b a) : MergeEdits K A B = some (mg A B, true) := by
  refine merge_frame K A B (mg A B) lA lB (by rw [(mg_perm _ A B (Nat.le_refl _)).length_eq, List.length_append]; omega) hK fun K h0 ra rb hK sA sB hf => ?_
  obtain ⟨h', r', e, b⟩ := mg_l0 K h0 ra rb A B sA sB lA lB h0.nx (by omega) (A.length + B.length) A [] B [] [] _ K (Nat.le_refl _) rfl rfl (MG.start h0 hf) (by simp only [List.length_nil]; omega) (by omega) uA uB hx
  exact ⟨h', r', e, b.sl⟩
theorem MergeEdits_same (K : Nat) (A : List Ed) (lA : A.length ≤ 100) (hK : 1000 ≤ K) : MergeEdits K A A = some (A, true) := by
  refine merge_frame K A A A lA lA (by omega) hK fun K h0 ra rb hK sA sB hf => ?_
  obtain ⟨h', r', e, b⟩ := mg_same K h0 ra rb A sA sB lA h0.nx (by omega) A [] _ K rfl (MG.start h0 hf) (by omega)
  exact ⟨h', r', e, b.sl⟩
/-- Far from each other, one behind the other. -/
def wideB : List Ed → Bool
  | [] => true
  | [_] => true
  | a :: b :: L => decide (a.2.1 < b.1) && wideB (b :: L)
theorem wide_pair : ∀ L : List Ed, wideB L = true → (∀ e ∈ L, Up e) → L.Pairwise Far
  | [], _, _ => List.Pairwise.nil
  | [a], _, _ => List.pairwise_singleton _ _
  | a :: b :: L, h, hu => by
    have h : (decide (a.2.1 < b.1) && wideB (b :: L)) = true := h
    rw [Bool.and_eq_true, decide_eq_true_eq] at h
    have ih := wide_pair (b :: L) h.2 fun e he => hu e (List.mem_cons_of_mem _ he)
    refine List.Pairwise.cons (fun e he => ?_) ih
    rcases List.mem_cons.1 he with rfl | he
    · exact h.1
    · rw [List.pairwise_cons] at ih
      have h1 := ih.1 e he
      have h2 := hu b (by simp)
      unfold Far Up at *
      omega
theorem editWide_ok (K : Nat) (L : List Ed) (hl : L.length ≤ 100) (hK : 5000 ≤ K) : editWide K L = some (inB 10000 L && wideB L) := by
  obtain ⟨K, rfl⟩ : ∃ m, K = m + 1 := ⟨K - 1, by omega⟩
  obtain ⟨h1, r1, e1, b1⟩ := editOf_ok K Hp.empty FreeH.empty L (by omega) (by omega)
  rw [editWide_eq, e1, obs]
  show Option.bind (EditsIn K h1 r1 10000) _ = _
  rw [EditsIn_ok K h1 r1 L 10000 b1.sl (by omega) (by omega), obs]
  show br (!inB 10000 L) _ (editWide_j0 K K L h1) = _
  cases hi : inB 10000 L with
  | false => rfl
  | true =>
    obtain ⟨k, hk⟩ : ∃ m, K = m + 1 := ⟨K - 1, by omega⟩
    have j0 : editWide_j0 K K L h1 = editWide_j0 K (k + 1) L h1 := by rw [← hk]
    rw [Bool.not_true, br_false, j0, editWide_j0_eq, Bool.true_and]
    have key : ∀ (R P : List Ed) (a : Ed) (k : Nat), P ++ a :: R = L → 2 * R.length + 1 ≤ k → editWide_l0 K k L ((P.length : Int) + 1) h1 = some (wideB (a :: R)) := by
      intro R
      induction R with
      | nil =>
        intro P a k hP hk
        obtain ⟨k, rfl⟩ : ∃ m, k = m + 1 := ⟨k - 1, by omega⟩
        have hll : L.length = P.length + 1 := by rw [← hP]; simp
        rw [editWide_l0_eq, br_ge (by omega)]
        rfl
      | cons b R ih =>
        intro P a k hP hk
        simp only [List.length_cons] at hk
        have hll : L.length = P.length + (R.length + 2) := by rw [← hP]; simp
        obtain ⟨k, rfl⟩ : ∃ m, k = m + 2 := ⟨k - 2, by omega⟩
        have g1 : nth TS1 L (P.length : Int) = a := by rw [← hP]; exact nth_mid TS1 P a _
        have g2 : nth TS1 L ((P.length : Int) + 1) = b := by
          rw [← hP, show P ++ a :: b :: R = (P ++ [a]) ++ b :: R by simp]
          exact nth_mid' TS1 (P ++ [a]) b R _ (by simp)
        have w : IntKind.wrap IntKind.i64 ((P.length : Int) + 1 - 1) = (P.length : Int) := by rw [wrap_id (by omega) (by omega)]; omega
        rw [editWide_l0_eq, br_lt (by omega), editWide_j1_eq, w, g1, g2, chk_le (by omega), chk_lt (by omega), chk_le (by omega), chk_lt (by omega)]
        have := ih (P ++ [a]) b k (by rw [List.append_assoc]; exact hP) (by omega)
        rw [List.length_append] at this
        show _ = some (decide (a.2.1 < b.1) && _)
        by_cases c : b.1 ≤ a.2.1
        · rw [br_le c, decide_eq_false (by omega)]
          rfl
        · rw [br_gt (by omega), wrap_id (by omega) (by omega), decide_eq_true (by omega), Bool.true_and]
          exact this
    cases hL : L with
    | nil =>
      obtain ⟨k, rfl⟩ : ∃ m, k = m + 1 := ⟨k - 1, by omega⟩
      rw [editWide_l0_eq, br_ge (by show ((0 : Nat) : Int) ≤ 1; omega)]
      rfl
    | cons a R =>
      have := key R [] a k hL.symm (by rw [hL] at hl; simp only [List.length_cons] at hl; omega)
      rw [← hL]
      rw [← hL] at this
      exact this
theorem in_up {n : Int} {L : List Ed} (h : inB n L = true) : ∀ e ∈ L, Up e := by
  intro e he
  unfold inB at h
  rw [List.all_eq_true] at h
  have := h e he
  rw [decide_eq_true_eq] at this
  exact this.2.1
theorem far_lt {a b : Ed} (h : Far a b) (u : Up a) : eLt a b = true := by
  unfold Far Up at *
  unfold eLt
  rw [decide_eq_true (by omega)]
  rfl
theorem far_asym {a b : Ed} (h : Far a b) (g : Far b a) (u : Up a) (v : Up b) : False := by
  unfold Far Up at *
  omega
theorem far_eq : ∀ (A C : List Ed), A.Perm C → A.Pairwise Far → C.Pairwise Far → (∀ e ∈ A, Up e) → A = C
  | [], C, h, _, _, _ => (List.nil_perm.1 h).symm
  | a :: A, [], h, _, _, _ => absurd h.length_eq (by simp)
  | a :: A, c :: C, h, hA, hC, u => by
    rw [List.pairwise_cons] at hA hC
    have hac : a = c := by
      have m1 : a ∈ c :: C := h.mem_iff.1 (List.mem_cons_self ..)
      have m2 : c ∈ a :: A := h.mem_iff.2 (List.mem_cons_self ..)
      have ua := u a (List.mem_cons_self ..)
      have uc := u c m2
      rcases List.mem_cons.1 m1 with e | m1
      · exact e
      · rcases List.mem_cons.1 m2 with e | m2
        · exact e.symm
        · exact (far_asym (hC.1 a m1) (hA.1 c m2) uc ua).elim
    subst hac
    rw [far_eq A C (List.Perm.cons_inv h) hA.2 hC.2 fun e he => u e (List.mem_cons_of_mem _ he)]
theorem mg_sorted (A B S : List Ed) (hS : S.Perm (A ++ B)) (hw : S.Pairwise Far) (uA : ∀ a ∈ A, Up a) (uB : ∀ b ∈ B, Up b) (fA : A.Pairwise Far) (fB : B.Pairwise Far) : (∀ a ∈ A, ∀ b ∈ B, Far a b ∨ Far b a) ∧ mg A B = S := by
  have hc : (A ++ B).Pairwise fun a b => Far a b ∨ Far b a := (hS.pairwise_iff (fun h => h.symm)).1 (hw.imp Or.inl)
  have hx : ∀ a ∈ A, ∀ b ∈ B, Far a b ∨ Far b a := fun a ha b hb => (List.pairwise_append.1 hc).2.2 a ha b hb
  have hp := mg_perm _ A B (Nat.le_refl _)
  refine ⟨hx, far_eq _ _ (hp.trans hS.symm) (mg_far _ A B (Nat.le_refl _) fA fB uA uB hx) hw fun e he => ?_⟩
  rcases List.mem_append.1 (hp.mem_iff.1 he) with h | h
  · exact uA e h
  · exact uB e h
end Go.Proofs.Ytfglahmbnnkijaa.E
