import Derived.Test.YtfglahmbnnkijaaLS
/- Lists that are compared; the differences between them. -/
set_option linter.unusedVariables false
set_option linter.unusedSimpArgs false
namespace Go.Proofs.Ytfglahmbnnkijaa.E
open Go.Ev Go.Lcs
/-- A slice that tells a list, wherever the heap has grown to. -/
def RdOk (h0 : Hp) (T : Ty) (r : Rf) (a : List T.den) : Prop := rlen r = a.length ∧ ∀ h, KeepH h0 h → ∀ lo hi : Nat, lo ≤ hi → hi ≤ a.length → Hp.rd h T (rcut 1 lo hi r) = some ((a.drop lo).take (hi - lo))
theorem RdOk.mono {h0 h1 : Hp} {T : Ty} {r : Rf} {a : List T.den} (x : RdOk h0 T r a) (k : KeepH h0 h1) : RdOk h1 T r a := ⟨x.1, fun h hk => x.2 h (k.trans hk)⟩
def Eqs {α : Type} (a b : List α) (i j : Int) : Prop := a[i.toNat]? = b[j.toNat]?

theorem SeqOk.mono {h0 h1 : Hp} {i : If} {N M : Int} {Q : Int → Int → Prop} (s : SeqOk h0 i N M Q) (k : KeepH h0 h1) : SeqOk h1 i N M Q := by
  have pm : ∀ {f : SeqF} {ra rb : Rf}, PfxOk f h0 N M Q ra rb → PfxOk f h1 N M Q ra rb := fun p K h hK hk => p K h hK (k.trans hk)
  have sm : ∀ {f : SeqF} {ra rb : Rf}, SfxOk f h0 N M Q ra rb → SfxOk f h1 N M Q ra rb := fun p K h hK hk => p K h hK (k.trans hk)
  obtain ⟨ra, rb, s⟩ := s
  rcases s with ⟨e, a, b⟩ | ⟨e, a, b⟩ | ⟨e, a, b⟩
  · exact ⟨ra, rb, .inl ⟨e, pm a, sm b⟩⟩
  · exact ⟨ra, rb, .inr (.inl ⟨e, pm a, sm b⟩)⟩
  · exact ⟨ra, rb, .inr (.inr ⟨e, pm a, sm b⟩)⟩
theorem newtriang_ok (K : Nat) (h : Hp) (hf : FreeH h) (hK : 1 ≤ K) : ∃ h', newtriang K h 50 = some (h', .at (h.nx + 1) 0 50) ∧ KeepH h h' ∧ FreeH h' ∧ h'.nx = h.nx + 2 ∧ h'.ob (h.nx + 1) = some (.cells 60 1 ((List.replicate 50 Rf.nil).map .sr)) := by
  obtain ⟨K, rfl⟩ : ∃ m, K = m + 1 := ⟨K - 1, by omega⟩
  obtain ⟨h1, hh1⟩ : ∃ h1, h1 = Hp.new (Hp.box h 141 (.one .sr) Rf.nil) 60 .sr (List.replicate 50 Rf.nil) := ⟨_, rfl⟩
  have ob0 : h1.ob h.nx = some (.cells 141 1 [.sr .nil]) := by
    rw [hh1]
    unfold Hp.new Hp.box
    rw [push_ob, if_neg (show ¬ h.nx = (h.push _).nx by show ¬ h.nx = h.nx + 1; omega), push_ob, if_pos rfl]
    rfl
  have ob1 : h1.ob (h.nx + 1) = some (.cells 60 1 ((List.replicate 50 Rf.nil).map .sr)) := by
    rw [hh1]
    unfold Hp.new Hp.box
    rw [push_ob, if_pos (show h.nx + 1 = (h.push _).nx from rfl)]
    rfl
  have st : Hp.st h1 (.one .sr) (.at h.nx 0) (.at (Nat.succ h.nx) 0 50) = some (h1.set h.nx (some (.cells 141 1 ([Cell.sr .nil].set 0 (.sr (.at (h.nx + 1) 0 50)))))) := stCell (t := .one .sr) (x := .sr (.at (h.nx + 1) 0 50)) rfl ob0 (by decide) rfl
  have ld : Hp.ld (h1.set h.nx (some (.cells 141 1 ([Cell.sr .nil].set 0 (.sr (.at (h.nx + 1) 0 50)))))) (.one .sr) (.at h.nx 0) = some (.at (h.nx + 1) 0 50) := ldCell (t := .one .sr) (x := .sr (.at (h.nx + 1) 0 50)) rfl (by rw [set_ob, if_pos rfl]) rfl rfl
  have k1 : KeepH h h1 := by rw [hh1]; exact ((KeepH.refl h).push _).push _
  have f1 : FreeH h1 := by rw [hh1]; exact (hf.push _).push _
  have nx1 : h1.nx = h.nx + 2 := by rw [hh1]; rfl
  refine ⟨h1.set h.nx (some (.cells 141 1 ([Cell.sr .nil].set 0 (.sr (.at (h.nx + 1) 0 50))))), ?_, k1.set (Nat.le_refl _) _, f1.set (by omega) _, nx1, by rw [set_ob, if_neg (by omega)]; exact ob1⟩
  rw [newtriang_eq, br_lt (by omega), chk_le (by omega), chk_le (by omega), chk_lt (by omega)]
  show Option.bind (Hp.st (Hp.new (Hp.box h 141 (.one .sr) Rf.nil) 60 .sr (List.replicate 50 Rf.nil)) (.one .sr) (.at h.nx 0) (.at (Nat.succ h.nx) 0 50)) _ = _
  rw [← hh1, st, obs]
  show Option.bind (Hp.ld _ (.one .sr) (.at h.nx 0)) _ = _
  rw [ld, obs]
/-- The differences of two lists. -/
def DRes (h : Hp) (N M : Int) (Q : Int → Int → Prop) (o : Option (Hp × (List Sp × Rf))) : Prop := ∃ h' D r, o = some (h', (D, r)) ∧ KeepH h h' ∧ FreeH h' ∧ Ld (EM Q N M) D 0 0 N M ∧ ∀ s, Dist (EM Q N M) N M s → s ≤ 99 → ssum D = s
theorem comp_tail (K : Nat) (h : Hp) (i : If) (N M : Int) (Q : Int → Int → Prop) (sq : SeqOk h i N M Q) (hf : FreeH h) (hN : 0 ≤ N) (hM : 0 ≤ M) (hN2 : N ≤ 1000) (hM2 : M ≤ 1000) (hK : 70000000 ≤ K) :
    DRes h N M Q (Option.bind (newtriang K h (50 : Int)) fun r2 => Option.bind (newtriang K (r2).1 (50 : Int)) fun r3 => br (Nat.beq 79 (79 : Go.FuncId))
     (chk (nilC []) (Option.bind (twosided K (Hp.box (r3).1 144 (.pair (.ir) (.pair (.one (.sr)) (.pair (.one (.sr)) (.pair (.p (.int (.i64))) (.pair (.p (.int (.i64))) (.pair (.p (.int (.i64))) (.pair (.p (.int (.i64))) (.pair (.p (.int (.i64))) (.one (.p (.int (.i64)))))))))))) (i, ((r2).2, ((r3).2, ((50 : Int), ((0 : Int), ((0 : Int), (N, (M, (IntKind.wrap IntKind.i64 (N - M))))))))))) (Pf.at ((r3).1).1 0)) fun r4 =>
      Option.bind (toDiffs K (r4).1 (r4).2 N M) fun r5 => some ((r5).1, ((r5).2, (r4).2)))) (none)) := by
  obtain ⟨h1, a1, a2, a3, a4, a5⟩ := newtriang_ok K h hf (by omega)
  obtain ⟨h2, b1, b2, b3, b4, b5⟩ := newtriang_ok K h1 a3 (by omega)
  rw [a1, obs]
  show DRes _ _ _ _ (Option.bind (newtriang K h1 50) _)
  rw [b1, obs]
  show DRes _ _ _ _ (br true (chk true (Option.bind (twosided K (Hp.box h2 144 (.pair (.ir) (.pair (.one (.sr)) (.pair (.one (.sr)) (.pair (.p (.int (.i64))) (.pair (.p (.int (.i64))) (.pair (.p (.int (.i64))) (.pair (.p (.int (.i64))) (.pair (.p (.int (.i64))) (.one (.p (.int (.i64)))))))))))) (i, (Rf.at (h.nx + 1) 0 50, (Rf.at (h1.nx + 1) 0 50, ((50 : Int), ((0 : Int), ((0 : Int), (N, (M, (IntKind.wrap IntKind.i64 (N - M)))))))))) ) (Pf.at h2.nx 0)) _)) _)
  rw [br_true, chk_t, w1 (N - M) (by omega) (by omega)]
  obtain ⟨h3, hh3⟩ : ∃ h3, h3 = Hp.box h2 144 (.pair (.ir) (.pair (.one (.sr)) (.pair (.one (.sr)) (.pair (.p (.int (.i64))) (.pair (.p (.int (.i64))) (.pair (.p (.int (.i64))) (.pair (.p (.int (.i64))) (.pair (.p (.int (.i64))) (.one (.p (.int (.i64)))))))))))) (i, (Rf.at (h.nx + 1) 0 50, (Rf.at (h1.nx + 1) 0 50, ((50 : Int), ((0 : Int), ((0 : Int), (N, (M, N - M)))))))) := ⟨_, rfl⟩
  rw [← hh3]
  have k3 : KeepH h h3 := by rw [hh3]; exact (a2.trans b2).push _
  have f3 : FreeH h3 := by rw [hh3]; exact b3.push _
  have nx3 : h3.nx = h.nx + 5 := by
    rw [hh3]
    show h2.nx + 1 = _
    omega
  have og : h3.ob h2.nx = some (.cells 144 9 (gc i (.at (h.nx + 1) 0 50) (.at (h1.nx + 1) 0 50) 50 N M (N - M))) := by
    rw [hh3]
    unfold Hp.box
    rw [push_ob, if_pos rfl]
    rfl
  have o1 : h3.ob (h.nx + 1) = some (.cells 60 1 ((List.replicate 50 Rf.nil).map .sr)) := by
    rw [hh3]
    unfold Hp.box
    rw [push_ob, if_neg (by omega), b2.ob _ (by omega)]
    exact a5
  have o2 : h3.ob (h1.nx + 1) = some (.cells 60 1 ((List.replicate 50 Rf.nil).map .sr)) := by
    rw [hh3]
    unfold Hp.box
    rw [push_ob, if_neg (by omega)]
    exact b5
  obtain ⟨ρ, hρ⟩ : ∃ ρ : Nat → Option Nat, ρ = fun m => if m = h2.nx then some 0 else if m = h.nx + 1 then some 1 else if m = h1.nx + 1 then some 2 else none := ⟨_, rfl⟩
  have vo : ∀ (n s t : Nat), ρ n = some s → h.nx ≤ n → n < h3.nx → h3.ob n = some (.cells 60 1 ((List.replicate 50 Rf.nil).map .sr)) → VO h h3 ρ (.at n 0 50) (fun _ => none) s t n (List.replicate 50 Rf.nil) := by
    intro n s t r1 r2 r3 r4
    refine ⟨by rw [List.length_replicate], r2, r3, r1, r4, fun _ _ => rfl, fun d hd => .inl ⟨rfl, ?_⟩⟩
    rw [List.length_replicate] at hd
    rw [List.getElem?_replicate, if_pos hd]
  have eg : EG ρ h h3 h2.nx i (fun _ => none) (fun _ => none) 50 N M (N - M) := by
    refine ⟨_, _, _, _, _, _, k3, f3, by omega, by omega, by rw [hρ]; exact if_pos rfl, og, vo (h.nx + 1) 1 3 ?_ (by omega) (by omega) o1, vo (h1.nx + 1) 2 4 ?_ (by omega) (by omega) o2, by rw [List.length_replicate]; exact Nat.le_refl _, by rw [List.length_replicate]; exact Nat.le_refl _, fun m hm => ?_⟩
    · rw [hρ]
      show (if h.nx + 1 = h2.nx then _ else if h.nx + 1 = h.nx + 1 then _ else _) = _
      rw [if_neg (by omega), if_pos rfl]
    · rw [hρ]
      show (if h1.nx + 1 = h2.nx then _ else if h1.nx + 1 = h.nx + 1 then _ else if h1.nx + 1 = h1.nx + 1 then _ else _) = _
      rw [if_neg (by omega), if_neg (by omega), if_pos rfl]
    · rw [hρ]
      show (if m = h2.nx then _ else if m = h.nx + 1 then _ else if m = h1.nx + 1 then _ else _) = _
      rw [if_neg (by omega), if_neg (by omega), if_neg (by omega)]
  obtain ⟨h4, r, R, c1, c2, c3, c4, c5, c6⟩ := twosided_ok K sq hN hM hN2 hM2 (by omega) rfl eg (by omega)
  have td := toDiffs_ok K c2 c3 (by omega) (by omega) (by omega)
  obtain ⟨t1, t2⟩ := tod_all c3
  refine ⟨h4, tod R 0 0 N M, r, ?_, c4, c5, t1, fun s hd hs => ?_⟩
  · rw [c1, obs]
    show Option.bind (toDiffs K h4 r N M) _ = _
    rw [td, obs]
  · rw [t2, c6 s hd hs]
    omega
/-- The differences of two lists, as they are handed out. -/
def FRes2 (h : Hp) (N M : Int) (Q : Int → Int → Prop) (o : Option (Hp × List Sp)) : Prop := ∃ h' D, o = some (h', D) ∧ KeepH h h' ∧ FreeH h' ∧ Ld (EM Q N M) D 0 0 N M ∧ ∀ s, Dist (EM Q N M) N M s → s ≤ 99 → ssum D = s
theorem DRes.keep {h h1 : Hp} {N M : Int} {Q : Int → Int → Prop} {o : Option (Hp × (List Sp × Rf))} (d : DRes h1 N M Q o) (k : KeepH h h1) : DRes h N M Q o := by
  obtain ⟨h', D, r, a1, a2, a3⟩ := d
  exact ⟨h', D, r, a1, k.trans a2, a3⟩
theorem diff_of (K : Nat) {h : Hp} {i : If} {N M : Int} {Q : Int → Int → Prop} (hK : 2 ≤ K) (d : DRes h N M Q (compute_j0 (K - 2) (K - 2) i 79 [] 50 h)) : FRes2 h N M Q (diff K h i) := by
  obtain ⟨K, rfl⟩ : ∃ q, K = q + 2 := ⟨K - 2, by omega⟩
  obtain ⟨h', D, r, a1, a2⟩ := d
  rw [Nat.add_sub_cancel] at a1
  refine ⟨h', D, ?_, a2⟩
  rw [diff_eq, compute_eq, br_gt (by omega)]
  show Option.bind (compute_j0 K K i 79 [] 50 h) _ = _
  rw [a1, obs]
end Go.Proofs.Ytfglahmbnnkijaa.E
