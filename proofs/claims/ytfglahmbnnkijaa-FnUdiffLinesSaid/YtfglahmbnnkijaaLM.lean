import Derived.Test.YtfglahmbnnkijaaLJ
import Derived.Test.YtfglahmbnnkijaaLK
/- One round of labels, forward and backward. -/
set_option linter.unusedVariables false
set_option linter.unusedSimpArgs false
namespace Go.Lcs
theorem FR.bd {E : Int → Int → Prop} {N M : Int} (hE : Box E N M) {d : Nat} {k x : Int} (h : FR E d k x) : 0 ≤ x ∧ 0 ≤ x - k ∧ x ≤ N + d ∧ x - k ≤ M + d := by
  obtain ⟨c, r, l, h1, h2, h3⟩ := h.1.form
  obtain ⟨d', _, h4⟩ := h.1.clip hE
  have := hE.1
  have := hE.2.1
  omega
theorem Look.stay {E : Int → Int → Prop} {k s t u : Int} (h : Look E k s t) (g : Look E k t u) : u = t := by
  by_cases hc : u = t
  · exact hc
  · exact absurd (g.2.1 t (Int.le_refl _) (by have := g.1; omega)) h.2.2
end Go.Lcs
namespace Go.Proofs.Ytfglahmbnnkijaa.E
open Go.Ev Go.Lcs
theorem getD_set (ws : List Int) (i j : Nat) (x : Int) (hi : i < ws.length) : (ws.set i x).getD j 0 = if i = j then x else ws.getD j 0 := by
  rw [List.getD_eq_getElem?_getD, List.getD_eq_getElem?_getD, List.getElem?_set]
  by_cases h : i = j
  · rw [if_pos h, if_pos h, if_pos hi]
    rfl
  · rw [if_neg h, if_neg h]
theorem lv_row (A : Nat → Option (List Int)) (D : Nat) (k : Int) : lv A D k = (rowOf A D).getD (((D : Int) + k) / 2).toNat 0 := by
  unfold lv rowOf
  cases A D with
  | some ws => rfl
  | none =>
    show (0 : Int) = (List.replicate (D + 1) 0).getD _ 0
    rw [List.getD_eq_getElem?_getD, List.getElem?_replicate]
    split <;> rfl
theorem put_ne (A : Nat → Option (List Int)) (D : Nat) (ws : List Int) {d : Nat} (h : d ≠ D) : put A D ws d = A d := by
  unfold put
  rw [if_neg h]
theorem lv_ne {A A' : Nat → Option (List Int)} {d : Nat} (h : A' d = A d) (k : Int) : lv A' d k = lv A d k := by
  unfold lv
  rw [h]
theorem lv_put (A : Nat → Option (List Int)) (D : Nat) (k k' x : Int) (hl : (rowOf A D).length = D + 1) (h1 : -(D : Int) ≤ k) (h2 : k ≤ D) (h3 : ∃ c : Int, k = D - 2 * c) (h1' : -(D : Int) ≤ k') (h2' : k' ≤ D) (h3' : ∃ c : Int, k' = D - 2 * c) :
    lv (put A D ((rowOf A D).set (((D : Int) + k) / 2).toNat x)) D k' = if k' = k then x else lv A D k' := by
  obtain ⟨c, hc⟩ := h3
  obtain ⟨c', hc'⟩ := h3'
  rw [lv_row A D k']
  have : put A D ((rowOf A D).set (((D : Int) + k) / 2).toNat x) D = some ((rowOf A D).set (((D : Int) + k) / 2).toNat x) := by unfold put; rw [if_pos rfl]
  unfold lv
  rw [this]
  show ((rowOf A D).set _ x).getD _ 0 = _
  rw [getD_set _ _ _ _ (by rw [hl]; omega)]
  by_cases h : k' = k
  · rw [if_pos h, if_pos (by rw [h])]
  · rw [if_neg h, if_neg (by omega)]
/-- Labels of all rounds up to one. -/
def FL (E : Int → Int → Prop) (A : Nat → Option (List Int)) (D : Nat) : Prop := Labs E (lv A) D ∧ ∀ d, d ≤ D → A d ≠ none
theorem FL.lower {E : Int → Int → Prop} {A : Nat → Option (List Int)} {D d : Nat} (h : FL E A D) (hd : d ≤ D) : FL E A d := ⟨fun e he => h.1 e (by omega), fun e he => h.2 e (by omega)⟩
theorem FL.same {E : Int → Int → Prop} {A A' : Nat → Option (List Int)} {D : Nat} (h : FL E A D) (hs : ∀ d, d ≤ D → A' d = A d) : FL E A' D := by
  refine ⟨fun d hd k h1 h2 h3 => ?_, fun d hd => by rw [hs d hd]; exact h.2 d hd⟩
  rw [lv_ne (hs d hd)]
  exact h.1 d hd k h1 h2 h3
theorem FL.next {E : Int → Int → Prop} {A : Nat → Option (List Int)} {D : Nat} (h : FL E A D) (hn : A (D + 1) ≠ none) (hl : ∀ k : Int, -((D + 1 : Nat) : Int) ≤ k → k ≤ ((D + 1 : Nat) : Int) → (∃ c : Int, k = ((D + 1 : Nat) : Int) - 2 * c) → FR E (D + 1) k (lv A (D + 1) k)) : FL E A (D + 1) := by
  refine ⟨fun d hd k h1 h2 h3 => ?_, fun d hd => ?_⟩
  · by_cases e : d = D + 1
    · subst e
      exact hl k h1 h2 h3
    · exact h.1 d (by omega) k h1 h2 h3
  · by_cases e : d = D + 1
    · rw [e]; exact hn
    · exact h.2 d (by omega)
/-- Which labels of a round are there. -/
def Part (E : Int → Int → Prop) (A : Nat → Option (List Int)) (D : Nat) (S : Int → Prop) : Prop := ∀ k : Int, -(D : Int) ≤ k → k ≤ D → (∃ c : Int, k = D - 2 * c) → S k → FR E D k (lv A D k)
section
variable (K : Nat) {ρ : Nat → Option Nat} {h0 h : Hp} {g : Nat} {i : If} {A B : Nat → Option (List Int)} {lim ux uy dl : Int} (e : EG ρ h0 h g i A B lim ux uy dl)
include e
theorem EG.rowA (D : Nat) : (rowOf A D).length = D + 1 := by
  obtain ⟨vf, vb, nf, rf, nb, rb, x⟩ := e
  unfold rowOf
  by_cases hD : D < rf.length
  · rcases x.f.row D hD with ⟨h1, _⟩ | ⟨m, ws, h1, h2, _⟩
    · rw [h1]; exact List.length_replicate ..
    · rw [h1]; exact h2
  · rw [x.f.big D (by omega)]; exact List.length_replicate ..
theorem EG.rowB (D : Nat) : (rowOf B D).length = D + 1 := by
  obtain ⟨vf, vb, nf, rf, nb, rb, x⟩ := e
  unfold rowOf
  by_cases hD : D < rb.length
  · rcases x.b.row D hD with ⟨h1, _⟩ | ⟨m, ws, h1, h2, _⟩
    · rw [h1]; exact List.length_replicate ..
    · rw [h1]; exact h2
  · rw [x.b.big D (by omega)]; exact List.length_replicate ..
variable {N M : Int} {Q : Int → Int → Prop} (sq : SeqOk h0 i N M Q) (hN : ux ≤ N) (hM : uy ≤ M) (hx0 : 0 ≤ ux) (hy0 : 0 ≤ uy) (hN2 : N ≤ 1000) (hM2 : M ≤ 1000) (hK : 100000 ≤ K)
include sq hN hM hx0 hy0 hN2 hM2 hK
/-- A label is put. -/
theorem setF_lab (D : Nat) (k r : Int) (hD2 : D ≤ 50) (h1 : -(D : Int) ≤ k) (h2 : k ≤ D) (h3 : ∃ c : Int, k = D - 2 * c) (hr : 0 ≤ r) (hr2 : r ≤ 5000) (hk : 0 ≤ r - k) (hk2 : r - k ≤ 5000) (hFR : ∀ x, Look (EM Q ux uy) k r x → FR (EM Q ux uy) D k x) :
    ∃ h' ρ' A', setForward K h (.at g 0) (D : Int) k r = some h' ∧ Step ρ h ρ' h' ∧ EG ρ' h0 h' g i A' B lim ux uy dl ∧ (∀ d, d ≠ D → A' d = A d) ∧ A' D ≠ none ∧ ∀ S, Part (EM Q ux uy) A D S → Part (EM Q ux uy) A' D (fun q => S q ∨ q = k) := by
  obtain ⟨h', ρ', x, a1, a2, a3, a4⟩ := setF_ok K e sq hN hM hx0 hy0 (by omega) (by omega) D k r hD2 h1 h2 hr (by omega) hk (by omega) (by omega)
  refine ⟨h', ρ', _, a1, a2, a3, fun d hd => put_ne A D _ hd, by unfold put; rw [if_pos rfl]; simp, fun S hS q q1 q2 q3 hq => ?_⟩
  rw [lv_put A D k q x (EG.rowA e D) h1 h2 h3 q1 q2 q3]
  by_cases hc : q = k
  · rw [if_pos hc, hc]
    exact hFR x a4
  · rw [if_neg hc]
    exact hS q q1 q2 q3 (hq.resolve_right hc)
/-- The label of a diagonal inside. -/
theorem bodyF (D : Nat) (k : Int) (hD : D + 1 ≤ 50) (h1 : -(D : Int) < k) (h2 : k < D) (h3 : ∃ c : Int, k = ((D + 1 : Nat) : Int) - 2 * c) (fl : FL (EM Q ux uy) A D) :
    ∃ h' ρ' A', (∀ {α : Type} (kont : Hp → Option α), (Option.bind (getForward K h (.at g 0) (D : Int) (k - 1)) fun r0 => Option.bind (lookForward K (r0).1 (.at g 0) k (IntKind.wrap IntKind.i64 ((r0).2 + (1 : Int)))) fun r1 => Option.bind (getForward K (r1).1 (.at g 0) (D : Int) (k + 1)) fun r2 => Option.bind (lookForward K (r2).1 (.at g 0) k (r2).2) fun r3 =>
        br (ltI (r3).2 (r1).2) (Option.bind (setForward K (r3).1 (.at g 0) ((D + 1 : Nat) : Int) k (r1).2) kont) (Option.bind (setForward K (r3).1 (.at g 0) ((D + 1 : Nat) : Int) k (r3).2) kont)) = kont h') ∧
      Step ρ h ρ' h' ∧ EG ρ' h0 h' g i A' B lim ux uy dl ∧ (∀ d, d ≠ D + 1 → A' d = A d) ∧ A' (D + 1) ≠ none ∧ ∀ S, Part (EM Q ux uy) A (D + 1) S → Part (EM Q ux uy) A' (D + 1) (fun q => S q ∨ q = k) := by
  obtain ⟨c, hc⟩ := h3
  have hB : Box (EM Q ux uy) ux uy := EM.box hx0 hy0
  have fp := fl.1 D (Nat.le_refl _) (k - 1) (by omega) (by omega) ⟨c, by omega⟩
  have fq := fl.1 D (Nat.le_refl _) (k + 1) (by omega) (by omega) ⟨c - 1, by omega⟩
  have bp := FR.bd hB fp
  have bq := FR.bd hB fq
  obtain ⟨h1', t1, a1, a2, a3, a4⟩ := lookF_ok K e sq hN hM hx0 hy0 (by omega) (by omega) k (lv A D (k - 1) + 1) (by omega) (by omega) (by omega) (by omega) (by omega)
  have e1 := e.grow a2 a3
  obtain ⟨h2', t2, b1, b2, b3, b4⟩ := lookF_ok K e1 sq hN hM hx0 hy0 (by omega) (by omega) k (lv A D (k + 1)) (by omega) (by omega) (by omega) (by omega) (by omega)
  have e2 := e1.grow b2 b3
  have hst := FR.step fp fq a4 b4
  have bt := FR.bd hB hst
  have la := a4.1
  have lb := b4.1
  have hm : ∀ t, t = t1 ∨ t = t2 → t = max t1 t2 → ∀ x, Look (EM Q ux uy) k t x → FR (EM Q ux uy) (D + 1) k x := by
    intro t ht hmx x hx
    have : x = t := by
      rcases ht with rfl | rfl
      · exact a4.stay hx
      · exact b4.stay hx
    rw [this, hmx]
    exact hst
  have g1 := getF_ok K e D (k - 1) (fl.2 D (Nat.le_refl _)) (by omega) (by omega) (by omega) (by omega)
  have g2 := getF_ok K e1 D (k + 1) (fl.2 D (Nat.le_refl _)) (by omega) (by omega) (by omega) (by omega)
  have w1 : IntKind.wrap IntKind.i64 (lv A D (k - 1) + 1) = lv A D (k - 1) + 1 := wrap_id (by omega) (by omega)
  by_cases hcm : t2 < t1
  · obtain ⟨h3', ρ', A', s1, s2, s3, s4, s5, s6⟩ := setF_lab K e2 sq hN hM hx0 hy0 hN2 hM2 hK (D + 1) k t1 hD (by omega) (by omega) ⟨c, hc⟩ (by omega) (by omega) (by omega) (by omega) (hm t1 (.inl rfl) (by omega))
    refine ⟨h3', ρ', A', fun kont => ?_, ((Step.of_keep a2).trans (Step.of_keep b2)).trans s2, s3, s4, s5, s6⟩
    rw [g1, obs, w1, a1, obs, g2, obs, b1, obs, br_lt hcm, s1, obs]
  · obtain ⟨h3', ρ', A', s1, s2, s3, s4, s5, s6⟩ := setF_lab K e2 sq hN hM hx0 hy0 hN2 hM2 hK (D + 1) k t2 hD (by omega) (by omega) ⟨c, hc⟩ (by omega) (by omega) (by omega) (by omega) (hm t2 (.inr rfl) (by omega))
    refine ⟨h3', ρ', A', fun kont => ?_, ((Step.of_keep a2).trans (Step.of_keep b2)).trans s2, s3, s4, s5, s6⟩
    rw [g1, obs, w1, a1, obs, g2, obs, b1, obs, br_ge (by omega), s1, obs]
/-- The first label of all. -/
theorem zeroF : ∃ h' ρ' A', setForward K h (.at g 0) (0 : Int) (0 : Int) (0 : Int) = some h' ∧ Step ρ h ρ' h' ∧ EG ρ' h0 h' g i A' B lim ux uy dl ∧ FL (EM Q ux uy) A' 0 := by
  obtain ⟨h', ρ', A', s1, s2, s3, s4, s5, s6⟩ := setF_lab K e sq hN hM hx0 hy0 hN2 hM2 hK 0 0 0 (by omega) (by omega) (by omega) ⟨0, by omega⟩ (by omega) (by omega) (by omega) (by omega) (fun x hx => FR.zero hx)
  refine ⟨h', ρ', A', s1, s2, s3, fun d hd k h1 h2 h3 => ?_, fun d hd => ?_⟩
  · have : d = 0 := by omega
    subst this
    exact s6 (fun _ => False) (fun _ _ _ _ h => h.elim) k h1 h2 h3 (.inr (by omega))
  · have : d = 0 := by omega
    rw [this]
    exact s5
/-- The label of the lowest diagonal. -/
theorem lowF (D : Nat) (hD : D + 1 ≤ 50) (fl : FL (EM Q ux uy) A D) :
    ∃ h' ρ' A', getForward K h (.at g 0) (D : Int) (-(D : Int)) = some (h, lv A D (-(D : Int))) ∧ setForward K h (.at g 0) ((D + 1 : Nat) : Int) (-((D + 1 : Nat) : Int)) (lv A D (-(D : Int))) = some h' ∧ Step ρ h ρ' h' ∧ EG ρ' h0 h' g i A' B lim ux uy dl ∧ (∀ d, d ≠ D + 1 → A' d = A d) ∧ A' (D + 1) ≠ none ∧ Part (EM Q ux uy) A' (D + 1) (fun q => q = -((D + 1 : Nat) : Int)) := by
  have hB : Box (EM Q ux uy) ux uy := EM.box hx0 hy0
  have fq := fl.1 D (Nat.le_refl _) (-(D : Int)) (by omega) (by omega) ⟨D, by omega⟩
  have bq := FR.bd hB fq
  have g1 := getF_ok K e D (-(D : Int)) (fl.2 D (Nat.le_refl _)) (by omega) (by omega) (by omega) (by omega)
  obtain ⟨h', ρ', A', s1, s2, s3, s4, s5, s6⟩ := setF_lab K e sq hN hM hx0 hy0 hN2 hM2 hK (D + 1) (-((D + 1 : Nat) : Int)) (lv A D (-(D : Int))) hD (by omega) (by omega) ⟨(D + 1 : Nat), by omega⟩ (by omega) (by omega) (by omega) (by omega) (fun x hx => by
    rw [show -((D + 1 : Nat) : Int) = -((D : Int) + 1) by omega] at hx ⊢
    exact FR.low fq hx)
  refine ⟨h', ρ', A', g1, s1, s2, s3, s4, s5, fun k h1 h2 h3 hk => s6 (fun _ => False) (fun _ _ _ _ h => h.elim) k h1 h2 h3 (.inr hk)⟩
/-- The label of the highest diagonal. -/
theorem highF (D : Nat) (hD : D + 1 ≤ 50) (fl : FL (EM Q ux uy) A D) :
    ∃ h' ρ' A', getForward K h (.at g 0) (D : Int) (D : Int) = some (h, lv A D (D : Int)) ∧ setForward K h (.at g 0) ((D + 1 : Nat) : Int) ((D + 1 : Nat) : Int) (IntKind.wrap IntKind.i64 (lv A D (D : Int) + 1)) = some h' ∧ Step ρ h ρ' h' ∧ EG ρ' h0 h' g i A' B lim ux uy dl ∧ (∀ d, d ≠ D + 1 → A' d = A d) ∧ A' (D + 1) ≠ none ∧ ∀ S, Part (EM Q ux uy) A (D + 1) S → Part (EM Q ux uy) A' (D + 1) (fun q => S q ∨ q = ((D + 1 : Nat) : Int)) := by
  have hB : Box (EM Q ux uy) ux uy := EM.box hx0 hy0
  have fq := fl.1 D (Nat.le_refl _) (D : Int) (by omega) (by omega) ⟨0, by omega⟩
  have bq := FR.bd hB fq
  have g1 := getF_ok K e D (D : Int) (fl.2 D (Nat.le_refl _)) (by omega) (by omega) (by omega) (by omega)
  obtain ⟨h', ρ', A', s1, s2, s3, s4, s5, s6⟩ := setF_lab K e sq hN hM hx0 hy0 hN2 hM2 hK (D + 1) ((D + 1 : Nat) : Int) (lv A D (D : Int) + 1) hD (by omega) (by omega) ⟨0, by omega⟩ (by omega) (by omega) (by omega) (by omega) (fun x hx => by
    rw [show ((D + 1 : Nat) : Int) = (D : Int) + 1 by omega] at hx ⊢
    exact FR.high fq hx)
  refine ⟨h', ρ', A', g1, ?_, s2, s3, s4, s5, s6⟩
  rw [wrap_id (by omega) (by omega)]
  exact s1
end
/-! ### backward -/
/-- Backward labels of all rounds up to one. -/
def BL (Q : Int → Int → Prop) (N M : Int) (B : Nat → Option (List Int)) (D : Nat) : Prop := Labs (Rev (EM Q N M) N M) (bV B N) D ∧ ∀ d, d ≤ D → B d ≠ none
def PartB (Q : Int → Int → Prop) (N M : Int) (B : Nat → Option (List Int)) (D : Nat) (S : Int → Prop) : Prop := ∀ k : Int, -(D : Int) ≤ k → k ≤ D → (∃ c : Int, k = D - 2 * c) → S k → FR (Rev (EM Q N M) N M) D (-k) (N - lv B D k)
theorem BL.at {Q : Int → Int → Prop} {N M : Int} {B : Nat → Option (List Int)} {D : Nat} (h : BL Q N M B D) (k : Int) (h1 : -(D : Int) ≤ k) (h2 : k ≤ D) (h3 : ∃ c : Int, k = D - 2 * c) : FR (Rev (EM Q N M) N M) D (-k) (N - lv B D k) := by
  obtain ⟨c, hc⟩ := h3
  have := h.1 D (Nat.le_refl _) (-k) (by omega) (by omega) ⟨D - c, by omega⟩
  unfold bV at this
  rw [Int.neg_neg] at this
  exact this
theorem BL.same {Q : Int → Int → Prop} {N M : Int} {B B' : Nat → Option (List Int)} {D : Nat} (h : BL Q N M B D) (hs : ∀ d, d ≤ D → B' d = B d) : BL Q N M B' D := by
  refine ⟨fun d hd k h1 h2 h3 => ?_, fun d hd => by rw [hs d hd]; exact h.2 d hd⟩
  have := h.1 d hd k h1 h2 h3
  unfold bV at *
  rw [lv_ne (hs d hd)]
  exact this
theorem BL.next {Q : Int → Int → Prop} {N M : Int} {B : Nat → Option (List Int)} {D : Nat} (h : BL Q N M B D) (hn : B (D + 1) ≠ none) (hl : PartB Q N M B (D + 1) (fun _ => True)) : BL Q N M B (D + 1) := by
  refine ⟨fun d hd k h1 h2 h3 => ?_, fun d hd => ?_⟩
  · by_cases e : d = D + 1
    · subst e
      obtain ⟨c, hc⟩ := h3
      have := hl (-k) (by omega) (by omega) ⟨((D + 1 : Nat) : Int) - c, by omega⟩ trivial
      rw [Int.neg_neg] at this
      exact this
    · exact h.1 d (by omega) k h1 h2 h3
  · by_cases e : d = D + 1
    · rw [e]; exact hn
    · exact h.2 d (by omega)
section
variable (K : Nat) {ρ : Nat → Option Nat} {h0 h : Hp} {g : Nat} {i : If} {A B : Nat → Option (List Int)} {lim N M : Int} (e : EG ρ h0 h g i A B lim N M (N - M)) {Q : Int → Int → Prop} (sq : SeqOk h0 i N M Q) (hN : 0 ≤ N) (hM : 0 ≤ M) (hN2 : N ≤ 1000) (hM2 : M ≤ 1000) (hK : 100000 ≤ K)
include e sq hN hM hN2 hM2 hK
theorem setB_lab (D : Nat) (k r : Int) (hD2 : D ≤ 50) (h1 : -(D : Int) ≤ k) (h2 : k ≤ D) (h3 : ∃ c : Int, k = D - 2 * c) (hr : r ≤ N) (hr2 : -5000 ≤ r) (hk : r - (k + (N - M)) ≤ M) (hk2 : -5000 ≤ r - (k + (N - M))) (hFR : ∀ x, Look (Rev (EM Q N M) N M) (-k) (N - r) x → FR (Rev (EM Q N M) N M) D (-k) x) :
    ∃ h' ρ' B', setBackward K h (.at g 0) (D : Int) k r = some h' ∧ Step ρ h ρ' h' ∧ EG ρ' h0 h' g i A B' lim N M (N - M) ∧ (∀ d, d ≠ D → B' d = B d) ∧ B' D ≠ none ∧ ∀ S, PartB Q N M B D S → PartB Q N M B' D (fun q => S q ∨ q = k) := by
  obtain ⟨h', ρ', x, a1, a2, a3, a4⟩ := setB_ok K e sq hN hM (by omega) (by omega) D k r hD2 h1 h2 hr (by omega) hk (by omega) (by omega)
  refine ⟨h', ρ', _, a1, a2, a3, fun d hd => put_ne B D _ hd, by unfold put; rw [if_pos rfl]; simp, fun S hS q q1 q2 q3 hq => ?_⟩
  rw [lv_put B D k q x (EG.rowB e D) h1 h2 h3 q1 q2 q3]
  by_cases hc : q = k
  · rw [if_pos hc, hc]
    exact hFR _ a4
  · rw [if_neg hc]
    exact hS q q1 q2 q3 (hq.resolve_right hc)
theorem bodyB (D : Nat) (k : Int) (hD : D + 1 ≤ 50) (h1 : -(D : Int) < k) (h2 : k < D) (h3 : ∃ c : Int, k = ((D + 1 : Nat) : Int) - 2 * c) (bl : BL Q N M B D) :
    ∃ h' ρ' B', (∀ {α : Type} (kont : Hp → Option α), (Option.bind (getBackward K h (.at g 0) (D : Int) (k - 1)) fun r0 => Option.bind (lookBackward K (r0).1 (.at g 0) k (r0).2) fun r1 => Option.bind (getBackward K (r1).1 (.at g 0) (D : Int) (k + 1)) fun r2 => Option.bind (lookBackward K (r2).1 (.at g 0) k (IntKind.wrap IntKind.i64 ((r2).2 - (1 : Int)))) fun r3 =>
        br (ltI (r1).2 (r3).2) (Option.bind (setBackward K (r3).1 (.at g 0) ((D + 1 : Nat) : Int) k (r1).2) kont) (Option.bind (setBackward K (r3).1 (.at g 0) ((D + 1 : Nat) : Int) k (r3).2) kont)) = kont h') ∧
      Step ρ h ρ' h' ∧ EG ρ' h0 h' g i A B' lim N M (N - M) ∧ (∀ d, d ≠ D + 1 → B' d = B d) ∧ B' (D + 1) ≠ none ∧ ∀ S, PartB Q N M B (D + 1) S → PartB Q N M B' (D + 1) (fun q => S q ∨ q = k) := by
  obtain ⟨c, hc⟩ := h3
  have hB : Box (Rev (EM Q N M) N M) N M := (EM.box hN hM).rev
  -- seen from the end: k - 1 lies above, k + 1 below
  have fq := bl.at (k - 1) (by omega) (by omega) ⟨c, by omega⟩
  have fp := bl.at (k + 1) (by omega) (by omega) ⟨c - 1, by omega⟩
  rw [show -(k - 1) = -k + 1 by omega] at fq
  rw [show -(k + 1) = -k - 1 by omega] at fp
  have bp := FR.bd hB fp
  have bq := FR.bd hB fq
  obtain ⟨h1', t1, a1, a2, a3, a4⟩ := lookB_ok K e sq hN hM (by omega) (by omega) k (lv B D (k - 1)) (by omega) (by omega) (by omega) (by omega) (by omega) (by omega) (by omega)
  have e1 := e.grow a2 a3
  obtain ⟨h2', t2, b1, b2, b3, b4⟩ := lookB_ok K e1 sq hN hM (by omega) (by omega) k (lv B D (k + 1) - 1) (by omega) (by omega) (by omega) (by omega) (by omega) (by omega) (by omega)
  have e2 := e1.grow b2 b3
  have b4' := b4
  rw [show N - (lv B D (k + 1) - 1) = N - lv B D (k + 1) + 1 by omega] at b4'
  have hst := FR.step fp fq b4' a4
  have bt := FR.bd hB hst
  have la := a4.1
  have lb := b4.1
  have hm : ∀ t, t = t1 ∨ t = t2 → N - t = max (N - t2) (N - t1) → ∀ x, Look (Rev (EM Q N M) N M) (-k) (N - t) x → FR (Rev (EM Q N M) N M) (D + 1) (-k) x := by
    intro t ht hmx x hx
    have : x = N - t := by
      rcases ht with rfl | rfl
      · exact a4.stay hx
      · exact b4.stay hx
    rw [this, hmx]
    exact hst
  have g1 := getB_ok K e D (k - 1) (bl.2 D (Nat.le_refl _)) (by omega) (by omega) (by omega) (by omega)
  have g2 := getB_ok K e1 D (k + 1) (bl.2 D (Nat.le_refl _)) (by omega) (by omega) (by omega) (by omega)
  have w1 : IntKind.wrap IntKind.i64 (lv B D (k + 1) - 1) = lv B D (k + 1) - 1 := wrap_id (by omega) (by omega)
  by_cases hcm : t1 < t2
  · obtain ⟨h3', ρ', B', s1, s2, s3, s4, s5, s6⟩ := setB_lab K e2 sq hN hM hN2 hM2 hK (D + 1) k t1 hD (by omega) (by omega) ⟨c, hc⟩ (by omega) (by omega) (by omega) (by omega) (hm t1 (.inl rfl) (by omega))
    refine ⟨h3', ρ', B', fun kont => ?_, ((Step.of_keep a2).trans (Step.of_keep b2)).trans s2, s3, s4, s5, s6⟩
    rw [g1, obs, a1, obs, g2, obs, w1, b1, obs, br_lt hcm, s1, obs]
  · obtain ⟨h3', ρ', B', s1, s2, s3, s4, s5, s6⟩ := setB_lab K e2 sq hN hM hN2 hM2 hK (D + 1) k t2 hD (by omega) (by omega) ⟨c, hc⟩ (by omega) (by omega) (by omega) (by omega) (hm t2 (.inr rfl) (by omega))
    refine ⟨h3', ρ', B', fun kont => ?_, ((Step.of_keep a2).trans (Step.of_keep b2)).trans s2, s3, s4, s5, s6⟩
    rw [g1, obs, a1, obs, g2, obs, w1, b1, obs, br_ge (by omega), s1, obs]
theorem zeroB : ∃ h' ρ' B', setBackward K h (.at g 0) (0 : Int) (0 : Int) N = some h' ∧ Step ρ h ρ' h' ∧ EG ρ' h0 h' g i A B' lim N M (N - M) ∧ BL Q N M B' 0 := by
  obtain ⟨h', ρ', B', s1, s2, s3, s4, s5, s6⟩ := setB_lab K e sq hN hM hN2 hM2 hK 0 0 N (by omega) (by omega) (by omega) ⟨0, by omega⟩ (by omega) (by omega) (by omega) (by omega) (fun x hx => by
    rw [Int.sub_self] at hx
    exact FR.zero hx)
  refine ⟨h', ρ', B', s1, s2, s3, fun d hd k h1 h2 h3 => ?_, fun d hd => ?_⟩
  · have : d = 0 := by omega
    subst this
    have hk : k = 0 := by omega
    subst hk
    exact s6 (fun _ => False) (fun _ _ _ _ h => h.elim) 0 h1 h2 h3 (.inr rfl)
  · have : d = 0 := by omega
    rw [this]
    exact s5
theorem lowB (D : Nat) (hD : D + 1 ≤ 50) (bl : BL Q N M B D) :
    ∃ h' ρ' B', getBackward K h (.at g 0) (D : Int) (-(D : Int)) = some (h, lv B D (-(D : Int))) ∧ setBackward K h (.at g 0) ((D + 1 : Nat) : Int) (-((D + 1 : Nat) : Int)) (IntKind.wrap IntKind.i64 (lv B D (-(D : Int)) - 1)) = some h' ∧ Step ρ h ρ' h' ∧ EG ρ' h0 h' g i A B' lim N M (N - M) ∧ (∀ d, d ≠ D + 1 → B' d = B d) ∧ B' (D + 1) ≠ none ∧ PartB Q N M B' (D + 1) (fun q => q = -((D + 1 : Nat) : Int)) := by
  have hB : Box (Rev (EM Q N M) N M) N M := (EM.box hN hM).rev
  have fq := bl.at (-(D : Int)) (by omega) (by omega) ⟨D, by omega⟩
  rw [Int.neg_neg] at fq
  have bq := FR.bd hB fq
  have g1 := getB_ok K e D (-(D : Int)) (bl.2 D (Nat.le_refl _)) (by omega) (by omega) (by omega) (by omega)
  obtain ⟨h', ρ', B', s1, s2, s3, s4, s5, s6⟩ := setB_lab K e sq hN hM hN2 hM2 hK (D + 1) (-((D + 1 : Nat) : Int)) (lv B D (-(D : Int)) - 1) hD (by omega) (by omega) ⟨(D + 1 : Nat), by omega⟩ (by omega) (by omega) (by omega) (by omega) (fun x hx => by
    rw [show -(-((D + 1 : Nat) : Int)) = (D : Int) + 1 by omega] at hx ⊢
    rw [show N - (lv B D (-(D : Int)) - 1) = N - lv B D (-(D : Int)) + 1 by omega] at hx
    exact FR.high fq hx)
  refine ⟨h', ρ', B', g1, ?_, s2, s3, s4, s5, fun k h1 h2 h3 hk => s6 (fun _ => False) (fun _ _ _ _ h => h.elim) k h1 h2 h3 (.inr hk)⟩
  rw [wrap_id (by omega) (by omega)]
  exact s1
theorem highB (D : Nat) (hD : D + 1 ≤ 50) (bl : BL Q N M B D) :
    ∃ h' ρ' B', getBackward K h (.at g 0) (D : Int) (D : Int) = some (h, lv B D (D : Int)) ∧ setBackward K h (.at g 0) ((D + 1 : Nat) : Int) ((D + 1 : Nat) : Int) (lv B D (D : Int)) = some h' ∧ Step ρ h ρ' h' ∧ EG ρ' h0 h' g i A B' lim N M (N - M) ∧ (∀ d, d ≠ D + 1 → B' d = B d) ∧ B' (D + 1) ≠ none ∧ ∀ S, PartB Q N M B (D + 1) S → PartB Q N M B' (D + 1) (fun q => S q ∨ q = ((D + 1 : Nat) : Int)) := by
  have hB : Box (Rev (EM Q N M) N M) N M := (EM.box hN hM).rev
  have fq := bl.at (D : Int) (by omega) (by omega) ⟨0, by omega⟩
  have bq := FR.bd hB fq
  have g1 := getB_ok K e D (D : Int) (bl.2 D (Nat.le_refl _)) (by omega) (by omega) (by omega) (by omega)
  obtain ⟨h', ρ', B', s1, s2, s3, s4, s5, s6⟩ := setB_lab K e sq hN hM hN2 hM2 hK (D + 1) ((D + 1 : Nat) : Int) (lv B D (D : Int)) hD (by omega) (by omega) ⟨0, by omega⟩ (by omega) (by omega) (by omega) (by omega) (fun x hx => by
    rw [show -((D + 1 : Nat) : Int) = -((D : Int) + 1) by omega] at hx ⊢
    exact FR.low fq hx)
  exact ⟨h', ρ', B', g1, s1, s2, s3, s4, s5, s6⟩
end
end Go.Proofs.Ytfglahmbnnkijaa.E
