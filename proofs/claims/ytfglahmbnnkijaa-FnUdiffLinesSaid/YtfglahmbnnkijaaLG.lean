import Derived.Test.YtfglahmbnnkijaaLF
/- The edit graph: how far diagonals lead, and labels put. -/
set_option linter.unusedVariables false
set_option linter.unusedSimpArgs false
namespace Go.Proofs.Ytfglahmbnnkijaa.E
open Go.Ev Go.Lcs
theorem cases2 (t : TypeId) (a b : Rf) : itag t (.two t a b) = true ∧ if2 t (.two t a b) = some (a, b) := by
  refine ⟨Nat.beq_refl t, ?_⟩
  show (bif Nat.beq t t then some (a, b) else none) = _
  rw [Nat.beq_refl]
  rfl
abbrev SeqF := Nat → Hp → (Rf × Rf) → Int → Int → Int → Int → Option (Hp × Int)
def PfxOk (f : SeqF) (h0 : Hp) (N M : Int) (Q : Int → Int → Prop) (ra rb : Rf) : Prop := ∀ K h, 3000 ≤ K → KeepH h0 h → FreeH h → ∀ ai aj bi bj : Int, 0 ≤ ai → ai ≤ aj → aj ≤ N → 0 ≤ bi → bi ≤ bj → bj ≤ M →
  ∃ h' c, f K h (ra, rb) ai aj bi bj = some (h', c) ∧ KeepH h h' ∧ FreeH h' ∧ 0 ≤ c ∧ c ≤ aj - ai ∧ c ≤ bj - bi ∧ (∀ j, 0 ≤ j → j < c → Q (ai + j) (bi + j)) ∧ (c < aj - ai → c < bj - bi → ¬ Q (ai + c) (bi + c))
def SfxOk (f : SeqF) (h0 : Hp) (N M : Int) (Q : Int → Int → Prop) (ra rb : Rf) : Prop := ∀ K h, 3000 ≤ K → KeepH h0 h → FreeH h → ∀ ai aj bi bj : Int, 0 ≤ ai → ai ≤ aj → aj ≤ N → 0 ≤ bi → bi ≤ bj → bj ≤ M →
  ∃ h' c, f K h (ra, rb) ai aj bi bj = some (h', c) ∧ KeepH h h' ∧ FreeH h' ∧ 0 ≤ c ∧ c ≤ aj - ai ∧ c ≤ bj - bi ∧ (∀ j, 0 ≤ j → j < c → Q (aj - 1 - j) (bj - 1 - j)) ∧ (c < aj - ai → c < bj - bi → ¬ Q (aj - 1 - c) (bj - 1 - c))
/-- Two lists that are compared. -/
def SeqOk (h0 : Hp) (i : If) (N M : Int) (Q : Int → Int → Prop) : Prop := ∃ ra rb, (i = .two 111 ra rb ∧ PfxOk lcs_linesSeqs_commonPrefixLen h0 N M Q ra rb ∧ SfxOk lcs_linesSeqs_commonSuffixLen h0 N M Q ra rb) ∨
  (i = .two 118 ra rb ∧ PfxOk lcs_bytesSeqs_commonPrefixLen h0 N M Q ra rb ∧ SfxOk lcs_bytesSeqs_commonSuffixLen h0 N M Q ra rb) ∨ (i = .two 120 ra rb ∧ PfxOk lcs_runesSeqs_commonPrefixLen h0 N M Q ra rb ∧ SfxOk lcs_runesSeqs_commonSuffixLen h0 N M Q ra rb)
/-- The diagonals of a rectangle. -/
def EM (Q : Int → Int → Prop) (ux uy : Int) (x y : Int) : Prop := 0 ≤ x ∧ x < ux ∧ 0 ≤ y ∧ y < uy ∧ Q x y
theorem EM.box {Q : Int → Int → Prop} {ux uy : Int} (h1 : 0 ≤ ux) (h2 : 0 ≤ uy) : Box (EM Q ux uy) ux uy := ⟨h1, h2, fun _ _ e => ⟨e.1, e.2.1, e.2.2.1, e.2.2.2.1⟩⟩
structure EGx (ρ : Nat → Option Nat) (h0 h : Hp) (g : Nat) (i : If) (A B : Nat → Option (List Int)) (lim ux uy dl : Int) (vf vb : Rf) (nf : Nat) (rf : List Rf) (nb : Nat) (rb : List Rf) : Prop where
  keep : KeepH h0 h
  free : FreeH h
  gn0 : h0.nx ≤ g
  gn1 : g < h.nx
  gr : ρ g = some 0
  go : GO h g i vf vb lim ux uy dl
  f : VO h0 h ρ vf A 1 3 nf rf
  b : VO h0 h ρ vb B 2 4 nb rb
  lf : 50 ≤ rf.length
  lb : 50 ≤ rb.length
  fr : ∀ m, h.nx ≤ m → ρ m = none
/-- The graph lies in the heap. -/
def EG (ρ : Nat → Option Nat) (h0 h : Hp) (g : Nat) (i : If) (A B : Nat → Option (List Int)) (lim ux uy dl : Int) : Prop := ∃ vf vb nf rf nb rb, EGx ρ h0 h g i A B lim ux uy dl vf vb nf rf nb rb
/-- From one state of the heap to another one, what is not the graph's is as it was. -/
def Step (ρ : Nat → Option Nat) (h : Hp) (ρ' : Nat → Option Nat) (h' : Hp) : Prop := h.nx ≤ h'.nx ∧ (∀ m, m < h.nx → ρ m = none → h'.ob m = h.ob m) ∧ ∀ m, m < h.nx → ρ' m = ρ m
theorem Step.refl (ρ : Nat → Option Nat) (h : Hp) : Step ρ h ρ h := ⟨Nat.le_refl _, fun _ _ _ => rfl, fun _ _ => rfl⟩
theorem Step.trans {a b c : Nat → Option Nat} {x y z : Hp} (h : Step a x b y) (g : Step b y c z) : Step a x c z :=
  ⟨Nat.le_trans h.1 g.1, fun m hm hn => (g.2.1 m (Nat.lt_of_lt_of_le hm h.1) (by rw [h.2.2 m hm]; exact hn)).trans (h.2.1 m hm hn), fun m hm => (g.2.2 m (Nat.lt_of_lt_of_le hm h.1)).trans (h.2.2 m hm)⟩
theorem Step.of_keep {ρ : Nat → Option Nat} {h h' : Hp} (k : KeepH h h') : Step ρ h ρ h' := ⟨k.nx, fun m hm _ => k.ob m hm, fun _ _ => rfl⟩
section
variable {ρ : Nat → Option Nat} {h0 h h' : Hp} {g : Nat} {i : If} {A B : Nat → Option (List Int)} {lim ux uy dl : Int}
theorem EG.frame (e : EG ρ h0 h g i A B lim ux uy dl) (hn : h.nx ≤ h'.nx) (ho : ∀ m, m < h.nx → ρ m ≠ none → h'.ob m = h.ob m) (hk : KeepH h0 h') (hf : FreeH h') : EG ρ h0 h' g i A B lim ux uy dl := by
  obtain ⟨vf, vb, nf, rf, nb, rb, x⟩ := e
  refine ⟨vf, vb, nf, rf, nb, rb, hk, hf, x.gn0, Nat.lt_of_lt_of_le x.gn1 hn, x.gr, ?_, ?_, ?_, x.lf, x.lb, fun m hm => x.fr m (Nat.le_trans hn hm)⟩
  · unfold GO
    rw [ho g x.gn1 (by rw [x.gr]; simp)]
    exact x.go
  · exact x.f.mono hn (fun m hm _ => rfl) fun m hm hr => ho m hm (by rcases hr with h | ⟨d, h⟩ <;> rw [h] <;> simp)
  · exact x.b.mono hn (fun m hm _ => rfl) fun m hm hr => ho m hm (by rcases hr with h | ⟨d, h⟩ <;> rw [h] <;> simp)
theorem EG.grow (e : EG ρ h0 h g i A B lim ux uy dl) (k : KeepH h h') (hf : FreeH h') : EG ρ h0 h' g i A B lim ux uy dl := by
  have hk : KeepH h0 h := by obtain ⟨_, _, _, _, _, _, x⟩ := e; exact x.keep
  exact e.frame k.nx (fun m hm _ => k.ob m hm) (hk.trans k) hf
theorem EG.keep (e : EG ρ h0 h g i A B lim ux uy dl) : KeepH h0 h := by obtain ⟨_, _, _, _, _, _, x⟩ := e; exact x.keep
theorem EG.free (e : EG ρ h0 h g i A B lim ux uy dl) : FreeH h := by obtain ⟨_, _, _, _, _, _, x⟩ := e; exact x.free
theorem EG.fr (e : EG ρ h0 h g i A B lim ux uy dl) : ∀ m, h.nx ≤ m → ρ m = none := by obtain ⟨_, _, _, _, _, _, x⟩ := e; exact x.fr
end
section
variable (K : Nat) {ρ : Nat → Option Nat} {h0 h : Hp} {g : Nat} {i : If} {A B : Nat → Option (List Int)} {lim ux uy dl : Int} (e : EG ρ h0 h g i A B lim ux uy dl)
include e
theorem getF_ok (D : Nat) (k : Int) (hD : A D ≠ none) (hD2 : D ≤ 1000) (h1 : -(D : Int) ≤ k) (h2 : k ≤ D) (hK : 3 ≤ K) : getForward K h (.at g 0) (D : Int) k = some (h, lv A D k) := by
  obtain ⟨K, rfl⟩ : ∃ m, K = m + 1 := ⟨K - 1, by omega⟩
  obtain ⟨vf, vb, nf, rf, nb, rb, x⟩ := e
  have := get_ok K x.f g 1 (g1 x.go) D k hD hD2 h1 h2 (by omega)
  rw [getForward_eq]
  simp only [np, chk_t]
  show Option.bind (get K h (.at g 1) (D : Int) k) _ = _
  rw [this, obs]
theorem getB_ok (D : Nat) (k : Int) (hD : B D ≠ none) (hD2 : D ≤ 1000) (h1 : -(D : Int) ≤ k) (h2 : k ≤ D) (hK : 3 ≤ K) : getBackward K h (.at g 0) (D : Int) k = some (h, lv B D k) := by
  obtain ⟨K, rfl⟩ : ∃ m, K = m + 1 := ⟨K - 1, by omega⟩
  obtain ⟨vf, vb, nf, rf, nb, rb, x⟩ := e
  have := get_ok K x.b g 2 (g2 x.go) D k hD hD2 h1 h2 (by omega)
  rw [getBackward_eq]
  simp only [np, chk_t]
  show Option.bind (get K h (.at g 2) (D : Int) k) _ = _
  rw [this, obs]
theorem get1_ok (D : Nat) (k : Int) (hD : A D ≠ none) (hD2 : D ≤ 1000) (h1 : -(D : Int) ≤ k) (h2 : k ≤ D) (hK : 2 ≤ K) : get K h (padd 1 (.at g 0)) (D : Int) k = some (h, lv A D k) := by
  obtain ⟨vf, vb, nf, rf, nb, rb, x⟩ := e
  exact get_ok K x.f g 1 (g1 x.go) D k hD hD2 h1 h2 (by omega)
theorem get2_ok (D : Nat) (k : Int) (hD : B D ≠ none) (hD2 : D ≤ 1000) (h1 : -(D : Int) ≤ k) (h2 : k ≤ D) (hK : 2 ≤ K) : get K h (padd 2 (.at g 0)) (D : Int) k = some (h, lv B D k) := by
  obtain ⟨vf, vb, nf, rf, nb, rb, x⟩ := e
  exact get_ok K x.b g 2 (g2 x.go) D k hD hD2 h1 h2 (by omega)
theorem EG.ld (j : Nat) : (j = 3 → Hp.ld h (.p (.int .i64)) (padd j (.at g 0)) = some lim) ∧ (j = 4 → Hp.ld h (.p (.int .i64)) (padd j (.at g 0)) = some 0) ∧ (j = 5 → Hp.ld h (.p (.int .i64)) (padd j (.at g 0)) = some 0) ∧ (j = 6 → Hp.ld h (.p (.int .i64)) (padd j (.at g 0)) = some ux) ∧ (j = 7 → Hp.ld h (.p (.int .i64)) (padd j (.at g 0)) = some uy) ∧ (j = 8 → Hp.ld h (.p (.int .i64)) (padd j (.at g 0)) = some dl) ∧ (j = 0 → Hp.ld h .ir (padd j (.at g 0)) = some i) := by
  obtain ⟨vf, vb, nf, rf, nb, rb, x⟩ := e
  refine ⟨?_, ?_, ?_, ?_, ?_, ?_, ?_⟩
  · rintro rfl; exact g3 x.go
  · rintro rfl; exact g4 x.go
  · rintro rfl; exact g5 x.go
  · rintro rfl; exact g6 x.go
  · rintro rfl; exact g7 x.go
  · rintro rfl; exact g8 x.go
  · rintro rfl; exact g0 x.go
theorem set1_ok (D : Nat) (k y : Int) (hD2 : D ≤ 50) (h1 : -(D : Int) ≤ k) (h2 : k ≤ D) (hK : 10 ≤ K) :
    ∃ h' ρ', set K h (padd 1 (.at g 0)) (D : Int) k y = some h' ∧ Step ρ h ρ' h' ∧ EG ρ' h0 h' g i (put A D ((rowOf A D).set (((D : Int) + k) / 2).toNat y)) B lim ux uy dl := by
  obtain ⟨vf, vb, nf, rf, nb, rb, x⟩ := e
  obtain ⟨h', s1, ρ', v', n', rs', y1, y2, y3, y4, y5, y6, y7, y8, y9⟩ := set_ok K x.f g 1 (gc i vf vb lim ux uy dl) x.go rfl x.gr x.gn0 x.gn1 x.fr x.keep x.free x.lf (by omega) (fun d => by omega) (fun d => by omega) D k y (by have := x.lf; omega) (by omega) h1 h2 hK
  refine ⟨h', ρ', s1, ⟨y4, fun m hm hr => ?_, y5⟩, v', vb, n', rs', nb, rb, y8, y9, x.gn0, Nat.lt_of_lt_of_le x.gn1 y4, ?_, y3, y1, ?_, y2, x.lb, y6⟩
  · refine y7 m hm ?_ ?_ fun d => ?_
    · intro e; rw [e, x.gr] at hr; cases hr
    · rw [hr]; simp
    · rw [hr]; simp
  · rw [y5 g x.gn1]; exact x.gr
  · refine x.b.mono y4 (fun m hm _ => y5 m hm) fun m hm hr => y7 m hm ?_ ?_ fun d => ?_
    · intro e; rw [e, x.gr] at hr
      rcases hr with hr | ⟨d, hr⟩
      · cases hr
      · have := Option.some.inj hr; omega
    · rcases hr with hr | ⟨d, hr⟩ <;> rw [hr] <;> intro e <;> have := Option.some.inj e <;> omega
    · rcases hr with hr | ⟨d', hr⟩ <;> rw [hr] <;> intro e <;> have := Option.some.inj e <;> omega
theorem set2_ok (D : Nat) (k y : Int) (hD2 : D ≤ 50) (h1 : -(D : Int) ≤ k) (h2 : k ≤ D) (hK : 10 ≤ K) :
    ∃ h' ρ', set K h (padd 2 (.at g 0)) (D : Int) k y = some h' ∧ Step ρ h ρ' h' ∧ EG ρ' h0 h' g i A (put B D ((rowOf B D).set (((D : Int) + k) / 2).toNat y)) lim ux uy dl := by
  obtain ⟨vf, vb, nf, rf, nb, rb, x⟩ := e
  obtain ⟨h', s1, ρ', v', n', rs', y1, y2, y3, y4, y5, y6, y7, y8, y9⟩ := set_ok K x.b g 2 (gc i vf vb lim ux uy dl) x.go rfl x.gr x.gn0 x.gn1 x.fr x.keep x.free x.lb (by omega) (fun d => by omega) (fun d => by omega) D k y (by have := x.lb; omega) (by omega) h1 h2 hK
  refine ⟨h', ρ', s1, ⟨y4, fun m hm hr => ?_, y5⟩, vf, v', nf, rf, n', rs', y8, y9, x.gn0, Nat.lt_of_lt_of_le x.gn1 y4, ?_, y3, ?_, y1, x.lf, y2, y6⟩
  · refine y7 m hm ?_ ?_ fun d => ?_
    · intro e; rw [e, x.gr] at hr; cases hr
    · rw [hr]; simp
    · rw [hr]; simp
  · rw [y5 g x.gn1]; exact x.gr
  · refine x.f.mono y4 (fun m hm _ => y5 m hm) fun m hm hr => y7 m hm ?_ ?_ fun d => ?_
    · intro e; rw [e, x.gr] at hr
      rcases hr with hr | ⟨d, hr⟩
      · cases hr
      · have := Option.some.inj hr; omega
    · rcases hr with hr | ⟨d, hr⟩ <;> rw [hr] <;> intro e <;> have := Option.some.inj e <;> omega
    · rcases hr with hr | ⟨d', hr⟩ <;> rw [hr] <;> intro e <;> have := Option.some.inj e <;> omega
variable {N M : Int} {Q : Int → Int → Prop} (sq : SeqOk h0 i N M Q) (hN : ux ≤ N) (hM : uy ≤ M) (hx0 : 0 ≤ ux) (hy0 : 0 ≤ uy) (hN2 : N ≤ 100000) (hM2 : M ≤ 100000)
include sq hN hM hx0 hy0 hN2 hM2
theorem lookF_ok (k r : Int) (hr : 0 ≤ r) (hr2 : r ≤ 1000000) (hk : 0 ≤ r - k) (hk2 : r - k ≤ 1000000) (hK : 4000 ≤ K) : ∃ h' x, lookForward K h (.at g 0) k r = some (h', x) ∧ KeepH h h' ∧ FreeH h' ∧ Look (EM Q ux uy) k r x := by
  obtain ⟨K, rfl⟩ : ∃ m, K = m + 1 := ⟨K - 1, by omega⟩
  obtain ⟨q, hq⟩ : ∃ q, K = q + 1 := ⟨K - 1, by omega⟩
  have l4 := (EG.ld e 4).2.1 rfl
  have l5 := (EG.ld e 5).2.2.1 rfl
  have l6 := (EG.ld e 6).2.2.2.1 rfl
  have l7 := (EG.ld e 7).2.2.2.2.1 rfl
  have l0 := (EG.ld e 0).2.2.2.2.2.2 rfl
  have j0 : ∀ b, lookForward_j0 K K (.at g 0) r (r - k) b h = lookForward_j0 K (q + 1) (.at g 0) r (r - k) b h := fun b => by rw [← hq]
  have out : (¬ (r < ux ∧ r - k < uy)) → ∃ h' x, lookForward_j0 K K (.at g 0) r (r - k) false h = some (h', x) ∧ KeepH h h' ∧ FreeH h' ∧ Look (EM Q ux uy) k r x := by
    intro hc
    rw [j0, lookForward_j0_eq, br_false]
    exact ⟨h, r, rfl, KeepH.refl h, e.free, Int.le_refl _, fun x h1 h2 => by omega, fun he => hc ⟨he.2.1, he.2.2.2.1⟩⟩
  rw [lookForward_eq]
  simp only [np, chk_t]
  rw [l4, obs, l5, obs, l6, obs, Int.add_zero, wrap_id (x := r) (by omega) (by omega), wrap_id (x := r - k) (by omega) (by omega), Int.add_zero, wrap_id (x := r - k) (by omega) (by omega)]
  by_cases c1 : r < ux
  · rw [br_lt c1, l7, obs, ltI_eq]
    by_cases c2 : r - k < uy
    · rw [decide_eq_true c2, j0, lookForward_j0_eq, br_true]
      simp only [np, chk_t]
      rw [l0, obs, l6, obs, l7, obs]
      have fin : ∀ (f : SeqF) (ra rb : Rf), PfxOk f h0 N M Q ra rb → ∃ h' x, Option.bind (f K h (ra, rb) r ux (r - k) uy) (fun r4 => some (r4.1, IntKind.wrap IntKind.i64 (r + r4.2))) = some (h', x) ∧ KeepH h h' ∧ FreeH h' ∧ Look (EM Q ux uy) k r x := by
        intro f ra rb hp
        obtain ⟨h', c, p1, p2, p3, p4, p5, p6, p7, p8⟩ := hp K h (by omega) e.keep e.free r ux (r - k) uy hr (by omega) hN hk (by omega) hM
        refine ⟨h', r + c, ?_, p2, p3, by omega, fun x h1 h2 => ?_, fun he => ?_⟩
        · rw [p1, obs, wrap_id (by omega) (by omega)]
        · refine ⟨by omega, by omega, by omega, by omega, ?_⟩
          have := p7 (x - r) (by omega) (by omega)
          rw [show r + (x - r) = x by omega, show r - k + (x - r) = x - k by omega] at this
          exact this
        · refine p8 (by have := he.2.1; omega) (by have := he.2.2.2.1; omega) ?_
          rw [show r - k + c = r + c - k by omega]
          exact he.2.2.2.2
      obtain ⟨ra, rb, sq⟩ := sq
      rcases sq with ⟨rfl, s1, _⟩ | ⟨rfl, s1, _⟩ | ⟨rfl, s1, _⟩
      · rw [show (!inil (If.two 111 ra rb)) = true from rfl, chk_t, (cases2 111 ra rb).1, br_true, (cases2 111 ra rb).2, obs]
        exact fin _ ra rb s1
      · rw [show (!inil (If.two 118 ra rb)) = true from rfl, chk_t, show itag 111 (If.two 118 ra rb) = false from rfl, br_false, (cases2 118 ra rb).1, br_true, (cases2 118 ra rb).2, obs]
        exact fin _ ra rb s1
      · rw [show (!inil (If.two 120 ra rb)) = true from rfl, chk_t, show itag 111 (If.two 120 ra rb) = false from rfl, br_false, show itag 118 (If.two 120 ra rb) = false from rfl, br_false, (cases2 120 ra rb).1, br_true, (cases2 120 ra rb).2, obs]
        exact fin _ ra rb s1
    · rw [decide_eq_false c2]
      exact out fun h => c2 h.2
  · rw [br_ge (by omega)]
    exact out fun h => c1 h.1
theorem setF_ok (D : Nat) (k r : Int) (hD2 : D ≤ 50) (h1 : -(D : Int) ≤ k) (h2 : k ≤ D) (hr : 0 ≤ r) (hr2 : r ≤ 100000) (hk : 0 ≤ r - k) (hk2 : r - k ≤ 1000000) (hK : 5000 ≤ K) :
    ∃ h' ρ' x, setForward K h (.at g 0) (D : Int) k r = some h' ∧ Step ρ h ρ' h' ∧ EG ρ' h0 h' g i (put A D ((rowOf A D).set (((D : Int) + k) / 2).toNat x)) B lim ux uy dl ∧ Look (EM Q ux uy) k r x := by
  obtain ⟨K, rfl⟩ : ∃ m, K = m + 1 := ⟨K - 1, by omega⟩
  obtain ⟨h1', x, a1, a2, a3, a4⟩ := lookF_ok K e sq hN hM hx0 hy0 hN2 hM2 k r hr (by omega) hk hk2 (by omega)
  have e1 := e.grow a2 a3
  have l4 := (EG.ld e1 4).2.1 rfl
  obtain ⟨h2', ρ', b1, b2, b3⟩ := set1_ok K e1 D k x hD2 h1 h2 (by omega)
  have hxu : x ≤ max r ux := by
    by_cases hc : x ≤ r
    · omega
    · have := (a4.2.1 (x - 1) (by omega) (by omega)).2.1
      omega
  have hx0 := a4.1
  refine ⟨h2', ρ', x, ?_, (Step.of_keep a2).trans b2, b3, a4⟩
  rw [setForward_eq, a1, obs]
  simp only [np, chk_t]
  rw [l4, obs, Int.sub_zero, wrap_id (by omega) (by omega), b1, obs]
end
end Go.Proofs.Ytfglahmbnnkijaa.E
