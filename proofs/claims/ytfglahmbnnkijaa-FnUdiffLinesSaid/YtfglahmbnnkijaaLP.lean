import Derived.Test.YtfglahmbnnkijaaLO
/- Where forward and backward ways have met: the diagonals of a whole way. -/
set_option linter.unusedVariables false
set_option linter.unusedSimpArgs false
namespace Go.Lcs
theorem Ch.mono {E F : Int → Int → Prop} (hm : ∀ x y, E x y → F x y) : ∀ {L : List Dg} {x y X Y : Int}, Ch E L x y X Y → Ch F L x y X Y
  | [], _, _, _, _, h => h
  | d :: L, _, _, _, _, h => ⟨h.1, h.2.1, ⟨h.2.2.1.1, fun i h1 h2 => hm _ _ (h.2.2.1.2 i h1 h2)⟩, Ch.mono hm h.2.2.2⟩
theorem FP.mono {E F : Int → Int → Prop} (hm : ∀ x y, E x y → F x y) {d : Nat} {x y : Int} (p : FP E d x y) : FP F d x y := by
  induction p with
  | zero => exact FP.zero
  | right _ ih => exact ih.right
  | down _ ih => exact ih.down
  | diag _ e ih => exact ih.diag (hm _ _ e)
end Go.Lcs
namespace Go.Proofs.Ytfglahmbnnkijaa.E
open Go.Ev Go.Lcs
theorem FP.inner {Q : Int → Int → Prop} {N M X Y : Int} {d : Nat} {x y : Int} (p : FP (EM Q N M) d x y) : x ≤ X → y ≤ Y → FP (EM Q X Y) d x y := by
  induction p with
  | zero => intro _ _; exact FP.zero
  | right _ ih => intro h1 h2; exact (ih (by omega) h2).right
  | down _ ih => intro h1 h2; exact (ih h1 (by omega)).down
  | diag _ e ih => intro h1 h2; exact (ih (by omega) (by omega)).diag ⟨e.1, by omega, e.2.2.1, by omega, e.2.2.2.2⟩
theorem EM.sub {Q : Int → Int → Prop} {N M X Y : Int} (h1 : X ≤ N) (h2 : Y ≤ M) (x y : Int) (h : EM Q X Y x y) : EM Q N M x y := ⟨h.1, by have := h.2.1; omega, h.2.2.1, by have := h.2.2.2.1; omega, h.2.2.2.2⟩
theorem Blt.base {h0 hs h : Hp} {e : TypeId} {t : Ty} {r : Rf} {L : List t.den} (k : KeepH h0 hs) (b : Blt hs h e t r L) : Blt h0 h e t r L := by
  refine ⟨k.trans b.1, b.2.1, ?_⟩
  rcases b.2.2 with h1 | ⟨h1, n, h2, h3, h4, h5⟩
  · exact .inl h1
  · exact .inr ⟨h1, n, Nat.le_trans k.nx h2, h3, h4, h5⟩
theorem Blt.more {hs h h' : Hp} {e : TypeId} {t : Ty} {r : Rf} {L : List t.den} (b : Blt hs h e t r L) (k : KeepH h h') (f : FreeH h') : Blt hs h' e t r L := by
  refine ⟨b.1.trans k, f, ?_⟩
  rcases b.2.2 with h1 | ⟨h1, n, h2, h3, h4, h5⟩
  · exact .inl h1
  · exact .inr ⟨h1, n, h2, Nat.lt_of_lt_of_le h3 k.nx, h4, h5.keep k h3⟩
/-- A whole way's diagonals, of s steps. -/
def TRes (h0 : Hp) (N M : Int) (Q : Int → Int → Prop) (s : Nat) (o : Option (Hp × Rf)) : Prop := ∃ h' r R, o = some (h', r) ∧ Blt h0 h' 154 TS2 r R ∧ Ch (EM Q N M) R 0 0 N M ∧ 2 * dsum R = N + M - s
theorem fin_join (K : Nat) {h0 h : Hp} {r1 r2 : Rf} {L1 L2 C : List Dg} {N M : Int} {Q : Int → Int → Prop} {s : Nat} (b1 : Blt h0 h 154 TS2 r1 L1) (s2 : SlL h 154 TS2 r2 L2) (hp : (L1 ++ L2).Perm C) (hc : Ch (EM Q N M) C 0 0 N M) (hd : 2 * dsum C = N + M - s) (hN : N ≤ 1000) (hK : 20000000 ≤ K) :
    TRes h0 N M Q s (Option.bind (Hp.cs h 3 r2) fun r5 => chk (ltI (((rlen r1) : Int) + ((r5).2 : Int)) (1000000000000 : Int)) (Option.bind (Hp.app h (154 : TypeId) 3 (r5).1 (r5).2 r1) fun r6 => Option.bind (sort K (r6).2 (r6).1) fun r7 => some ((r7).1, (r7).2))) := by
  obtain ⟨c1, s, c2, c3, _⟩ := join_ok b1 s2
  have hlen : ((L1 ++ L2).length : Int) ≤ N := by rw [hp.length_eq]; have := Ch.len hc; omega
  rw [List.length_append] at hlen
  obtain ⟨h', R, e1, e2, e3, e4⟩ := sort_ok K c3 hp hc (by omega) (by omega)
  refine ⟨h', s.1, R, ?_, e2, e3, by rw [e4]; exact hd⟩
  rw [c1, obs, b1.sl.rlen]
  show chk _ (Option.bind (Hp.app h 154 3 ((L2.map (HTy.cc (.p TS2))).flatten) L2.length r1) _) = _
  rw [c2, obs, e1, obs, chk_lt (by show (L1.length : Int) + (L2.length : Int) < _; omega)]
section
variable (K : Nat) {ρ : Nat → Option Nat} {h0 h : Hp} {g : Nat} {i : If} {A B : Nat → Option (List Int)} {lim N M : Int} (e : EG ρ h0 h g i A B lim N M (N - M)) {Q : Int → Int → Prop} (sq : SeqOk h0 i N M Q) (hN : 0 ≤ N) (hM : 0 ≤ M) (hN2 : N ≤ 1000) (hM2 : M ≤ 1000) (hK : 30000000 ≤ K) (hlim : lim = 50)
  (df db : Nat) (hdf : df ≤ 50) (hdb : db ≤ 50) (fl : FL (EM Q N M) A df) (bl : BL Q N M B db) (hmin : ∀ d, FP (EM Q N M) d N M → df + db ≤ d)
  (kf kb x y u v : Int) (hkb : kb = kf - (N - M)) (hin : InR df db (N - M) kf) (hx : x = lv A df kf) (hy : y = x - kf) (hu : u = lv B db kb) (hv : v = u - kf)
  (bd : 0 ≤ u ∧ 0 ≤ v ∧ x ≤ N ∧ y ≤ M ∧ FP (EM Q N M) df u v ∧ FP (Rev (EM Q N M) N M) db (N - x) (M - y) ∧ 0 ≤ x ∧ 0 ≤ y ∧ u ≤ x)
include e sq hN hM hN2 hM2 hK hlim hdf hdb fl bl hmin hkb hin hx hy hu hv bd
theorem tl_F : ∃ h' r L, forwardlcs K h (.at g 0) (df : Int) kf = some (h', r) ∧ Blt h h' 154 TS2 r L ∧ Ch (EM Q N M) L 0 0 x y ∧ 2 * dsum L = x + y - df := by
  have _u0 := sq
  have _u1 := hM
  have _u2 := hM2
  have _u3 := hlim
  have _u4 := hdb
  have _u5 := bl
  have _u6 := hmin
  obtain ⟨i1, i2, i3, i4, i5, i6⟩ := hin
  have := forwardlcs_ok K e (by omega) df kf (by omega) i1 i2 i5 fl.2 fl.1 (by omega) (by omega) (by omega)
  rw [← hx, ← hy] at this
  exact this
theorem tl_B {h1 : Hp} (k1 : KeepH h h1) (f1 : FreeH h1) : ∃ h' r L, backwardlcs K h1 (.at g 0) (db : Int) kb = some (h', r) ∧ Blt h1 h' 154 TS2 r L ∧ Ch (EM Q N M) L u v N M ∧ 2 * dsum L = N - u + (M - v) - db := by
  have _u0 := sq
  have _u1 := hlim
  have _u2 := hdf
  have _u3 := fl
  have _u4 := hmin
  obtain ⟨i1, i2, i3, i4, i5, i6⟩ := hin
  have e1 := e.grow k1 f1
  have := backwardlcs_ok K e1 (E := EM Q N M) (by omega) hN hM (by omega) (by omega) db kb (by omega) (by omega) (by omega) (by rw [hkb]; exact i6) bl.2 bl.1 (by omega) (by omega) (by omega)
  rw [← hu, show u - (kb + (N - M)) = v by omega] at this
  exact this
theorem tl_j12 (k' : Nat) : TRes h0 N M Q (df + db) (twolcs_j12 K (k' + 1) (.at g 0) (db : Int) kb u v h) := by
  obtain ⟨h1, r1, L1, a1, a2, a3, a4⟩ := tl_B K e sq hN hM hN2 hM2 hK hlim df db hdf hdb fl bl hmin kf kb x y u v hkb hin hx hy hu hv bd (KeepH.refl h) e.free
  have e1 := e.grow a2.1 a2.2.1
  have l6 := (EG.ld e1 6).2.2.2.1 rfl
  have l7 := (EG.ld e1 7).2.2.2.2.1 rfl
  obtain ⟨vf, vb, nf, rf, nb, rb, X⟩ := e1
  -- the smaller rectangle
  obtain ⟨h2, hh2⟩ : ∃ h2, h2 = (h1.set g (some (.cells 144 9 (gc i vf vb lim u M (N - M))))).set g (some (.cells 144 9 (gc i vf vb lim u v (N - M)))) := ⟨_, rfl⟩
  have go1 : GO (h1.set g (some (.cells 144 9 (gc i vf vb lim u M (N - M))))) g i vf vb lim u M (N - M) := by unfold GO; rw [set_ob, if_pos rfl]
  have st1 : Hp.st h1 (.p (.int .i64)) (padd 6 (.at g 0)) u = some (h1.set g (some (.cells 144 9 (gc i vf vb lim u M (N - M))))) := sg6 X.go u
  have st2 : Hp.st (h1.set g (some (.cells 144 9 (gc i vf vb lim u M (N - M))))) (.p (.int .i64)) (padd 7 (.at g 0)) v = some h2 := by rw [hh2]; exact sg7 go1 v
  have ob2 : ∀ m, m ≠ g → h2.ob m = h1.ob m := by
    intro m hm
    rw [hh2, set_ob, if_neg hm, set_ob, if_neg hm]
  have nx2 : h2.nx = h1.nx := by rw [hh2]; rfl
  have keep2 : KeepH h0 h2 := by rw [hh2]; exact (X.keep.set X.gn0 _).set X.gn0 _
  have free2 : FreeH h2 := by rw [hh2]; exact FreeH.set (X.free.set X.gn1 _) X.gn1 _
  have e2 : EG ρ h0 h2 g i A B lim u v (N - M) := by
    refine ⟨vf, vb, nf, rf, nb, rb, keep2, free2, X.gn0, by rw [nx2]; exact X.gn1, X.gr, ?_, ?_, ?_, X.lf, X.lb, fun m hm => X.fr m (by rw [← nx2]; exact hm)⟩
    · unfold GO
      rw [hh2, set_ob, if_pos rfl]
    · refine X.f.mono (by rw [nx2]; exact Nat.le_refl _) (fun m _ _ => rfl) fun m hm hr => ob2 m ?_
      intro he
      rw [he, X.gr] at hr
      rcases hr with hr | ⟨d, hr⟩ <;> have := Option.some.inj hr <;> omega
    · refine X.b.mono (by rw [nx2]; exact Nat.le_refl _) (fun m _ _ => rfl) fun m hm hr => ob2 m ?_
      intro he
      rw [he, X.gr] at hr
      rcases hr with hr | ⟨d, hr⟩ <;> have := Option.some.inj hr <;> omega
  obtain ⟨b1, b2, b3, b4, b5, b6, b7, b8, b9⟩ := bd
  have hubk : FP (Rev (EM Q N M) N M) db (N - u) (M - v) := by
    have := (bl.at kb (by have := hin.2.2.1; omega) (by have := hin.2.2.2.1; omega) (by rw [hkb]; exact hin.2.2.2.2.2)).1
    rw [← hu] at this
    exact this.cast rfl rfl (by omega)
  have dist : Dist (EM Q u v) u v df := by
    refine ⟨FP.inner b5 (Int.le_refl _) (Int.le_refl _), fun d p => ?_⟩
    have p' : FP (EM Q N M) d u v := p.mono (EM.sub (by omega) (by omega))
    have := hmin _ (hubk.join (p'.cast rfl (by omega) (by omega)))
    omega
  obtain ⟨h3, r3, L3, ρ3, A3, f1, f2, f3, f4, f5, f6⟩ := forward_ok K sq (by omega) (by omega) b1 b2 hN2 hM2 (by omega) hlim df hdf dist e2 (by omega)
  -- the backward list is still there
  have role : ∀ n, h.nx ≤ n → ρ n = none := e.fr
  have hb1 : ∀ n, h.nx ≤ n → n < h1.nx → h3.ob n = h1.ob n := by
    intro n hn hn1
    rw [f2.2.1 n (by rw [nx2]; exact hn1) (role n hn), ob2 n (by intro he; have := role n hn; rw [he, X.gr] at this; cases this)]
  have bl3 : Blt h0 h3 154 TS2 r1 L1 := by
    refine ⟨f3.keep, f3.free, ?_⟩
    rcases a2.2.2 with hh | ⟨q0, n, q1, q2, q3, q4⟩
    · exact .inl hh
    · refine .inr ⟨q0, n, Nat.le_trans e.keep.nx q1, ?_, q3, ?_⟩
      · have := f2.1
        rw [nx2] at this
        omega
      · show h3.ob n = _
        rw [hb1 n q1 q2]
        exact q4
  have sl3 : SlL h3 154 TS2 r3 L3 := by
    rcases f4 with hh | ⟨q0, n, q1, q2, q3, q4, q5⟩
    · exact .inl hh
    · exact .inr ⟨q0, n, q2, q4, q5⟩
  obtain ⟨c1, s, c2, c3, c4⟩ := join_ok bl3 sl3
  -- the rectangle is put back
  have f3' := f3
  obtain ⟨vf3, vb3, nf3, rf3, nb3, rb3, X3⟩ := f3
  have hgr1 : ∀ l, r1 ≠ .at g 0 l := by
    intro l he
    rcases a2.2.2 with ⟨_, hh⟩ | ⟨q0, n, q1, q2, q3, q4⟩
    · rw [hh] at he; cases he
    · rw [q3] at he
      have : n = g := by injection he
      have hr := role n q1
      rw [this, X.gr] at hr
      cases hr
  have gos : GO s.2 g i vf3 vb3 lim u v (N - M) := by
    unfold GO
    rw [c4 g X3.gn1 hgr1]
    exact X3.go
  have gos1 : GO (s.2.set g (some (.cells 144 9 (gc i vf3 vb3 lim N v (N - M))))) g i vf3 vb3 lim N v (N - M) := by unfold GO; rw [set_ob, if_pos rfl]
  obtain ⟨h5, hh5⟩ : ∃ h5, h5 = (s.2.set g (some (.cells 144 9 (gc i vf3 vb3 lim N v (N - M))))).set g (some (.cells 144 9 (gc i vf3 vb3 lim N M (N - M)))) := ⟨_, rfl⟩
  have st3 : Hp.st s.2 (.p (.int .i64)) (padd 6 (.at g 0)) N = some (s.2.set g (some (.cells 144 9 (gc i vf3 vb3 lim N v (N - M))))) := sg6 gos N
  have st4 : Hp.st (s.2.set g (some (.cells 144 9 (gc i vf3 vb3 lim N v (N - M))))) (.p (.int .i64)) (padd 7 (.at g 0)) M = some h5 := by rw [hh5]; exact sg7 gos1 M
  have gns : g < s.2.nx := by
    by_cases hg : g < s.2.nx
    · exact hg
    · have := c3.2.1 g (by omega)
      rw [show s.2.ob g = _ from gos] at this
      cases this
  have bl5 : Blt h0 h5 154 TS2 s.1 (L1 ++ L3) := by
    refine ⟨by rw [hh5]; exact (c3.1.set X3.gn0 _).set X3.gn0 _, by rw [hh5]; exact FreeH.set (c3.2.1.set gns _) gns _, ?_⟩
    rcases c3.2.2 with hh | ⟨q0, n, q1, q2, q3, q4⟩
    · exact .inl hh
    · have hng : n ≠ g := by
        intro he
        rw [he] at q4
        have q4 : s.2.ob g = some (.cells 154 TS2.sz ((L1 ++ L3).map (HTy.cc (.p TS2))).flatten) := q4
        rw [show s.2.ob g = _ from gos] at q4
        cases q4
      refine .inr ⟨q0, n, q1, by rw [hh5]; exact q2, q3, ?_⟩
      show h5.ob n = _
      rw [hh5, set_ob, if_neg hng, set_ob, if_neg hng]
      exact q4
  have hch : Ch (EM Q N M) (L3 ++ L1) 0 0 N M := (f5.mono (EM.sub (by omega) (by omega))).append a3
  have hlen : ((L3 ++ L1).length : Int) ≤ N := by have := Ch.len hch; omega
  rw [List.length_append] at hlen
  obtain ⟨h6, R, g1, g2, g3, g4⟩ := sort_ok K bl5 List.perm_append_comm hch (by omega) (by omega)
  refine ⟨h6, s.1, R, ?_, g2, g3, ?_⟩
  · rw [twolcs_j12_eq, a1, obs]
    simp only [np, chk_t]
    rw [l6, obs, l7, obs, st1, obs, st2, obs, f1, obs]
    show Option.bind (Hp.cs h3 3 r3) _ = _
    rw [c1, obs]
    show chk (ltI (((rlen r1 : Nat) : Int) + ((L3.length : Nat) : Int)) (1000000000000 : Int)) (Option.bind (Hp.app h3 154 3 ((L3.map (HTy.cc (.p TS2))).flatten) L3.length r1) _) = _
    rw [c2, obs, a2.sl.rlen, chk_lt (by omega), st3, obs, st4, obs, g1, obs]
  · rw [g4, dsum_append]
    omega
end
end Go.Proofs.Ytfglahmbnnkijaa.E
