import Derived.Test.YtfglahmbnnkijaaEv1
import Derived.ArgAppend
import Derived.Laws.RangeString
/- An evaluator of the model that knows a heap, and that it is sound: part 2 of 4. -/
set_option linter.unusedVariables false
set_option linter.unusedSimpArgs false
/- Calls, put together. -/
namespace Go.Ev
open Go.RowKit
section
variable {C : Ctx} {rw : RW} {ε : Env} {w w' : World} {g : Nat → Option AV} {a : Act} {o : Oper} {R : Type}
theorem toArgs_sound (hM : Mem C rw ε w) (hS : Slots rw ε g a) : ∀ {ps : List Par} {l : List Operand} {ys : argL ps} {us : Upd} {rs : List Nat}, toArgs C.T g rw ps l = some (ys, us, rs) →
    (∀ m x, (m, x) ∈ us → x = none ∧ m ∈ rs ∧ ∃ z, row rw m = some z ∧ z.own = true) ∧
    (∀ S : Nat → Prop, (∀ r ∈ given us, ∀ b, (ε.sv r).ownBlock = some b → S b) → (∀ r ∈ rs, r ∉ given us → ∀ z, row rw r = some z → z.xs ≠ [] → ∀ b, (ε.sv r).ownBlock = some b → ¬ S b) → ∀ η, ArgsOk η w S ps ys (l.map a.eval)) ∧
    (∀ V ∈ ownVals ps (l.map a.eval), ∀ b, V.ownBlock = some b → ∃ r ∈ given us, (ε.sv r).ownBlock = some b) ∧
    (ownVals ps (l.map a.eval)).Pairwise apart2 := by
  intro ps
  induction ps with
  | nil =>
    intro l ys us rs h
    cases l with
    | nil =>
      cases h
      exact ⟨fun m x hm => (by cases hm), fun S _ _ _ => trivial, fun V hV => (by cases hV), List.Pairwise.nil⟩
    | cons x l => cases h
  | cons p ps ih =>
    intro l ys us rs h
    cases l with
    | nil => cases h
    | cons x l =>
      simp only [toArgs] at h
      split at h
      · rename_i y us1 ys1 vs rs1 h1 h2
        obtain ⟨hd, h⟩ := bif_some h
        cases h
        rw [Bool.and_eq_true] at hd
        have hd1 := disj_spec hd.1
        have hd2 := disj_spec hd.2
        obtain ⟨k1, k2, k3⟩ := toArg_sound hM hS h1
        obtain ⟨i1, i2, i3, i4⟩ := ih h2
        have hgv : ∀ r ∈ given vs, r ∈ rs1 := fun r hr => by
          obtain ⟨x', hx'⟩ := mem_given.1 hr
          exact (i1 r x' hx').2.1
        refine ⟨?_, ?_, ?_, ?_⟩
        · intro m x' hm
          rcases List.mem_append.1 hm with hm | hm
          · rcases k1 with rfl | ⟨r, z, rfl, hz, hzo, hr⟩
            · cases hm
            · rcases List.mem_singleton.1 hm with hm
              cases hm
              exact ⟨rfl, by rw [hr]; simp, z, hz, hzo⟩
          · obtain ⟨j1, j2, j3⟩ := i1 m x' hm
            exact ⟨j1, List.mem_append_right _ j2, j3⟩
        · intro S hS1 hS2 η
          rw [given_append] at hS1 hS2
          refine ⟨k2 S (fun r hr => hS1 r (List.mem_append_left _ hr)) (fun r hr hn z hz hx => ?_) η, i2 S (fun r hr => hS1 r (List.mem_append_right _ hr)) (fun r hr hn z hz hx => ?_) η⟩
          · refine hS2 r (List.mem_append_left _ hr) ?_ z hz hx
            intro hm
            rcases List.mem_append.1 hm with hm | hm
            · exact hn hm
            · exact hd2 r hr hm
          · refine hS2 r (List.mem_append_right _ hr) ?_ z hz hx
            intro hm
            rcases List.mem_append.1 hm with hm | hm
            · exact hd1 r hm hr
            · exact hn hm
        · intro V hV b hb
          rw [given_append]
          rw [List.map_cons] at hV
          have hV : V = a.eval x ∧ (∃ t e, p = .own t e) ∨ V ∈ ownVals ps (l.map a.eval) := by
            cases p <;> simp only [ownVals] at hV <;> first | exact .inr hV | skip
            rcases List.mem_cons.1 hV with h | h
            · exact .inl ⟨h, _, _, rfl⟩
            · exact .inr h
          rcases hV with ⟨rfl, t, e, rfl⟩ | hV
          · obtain ⟨r, hr, hb'⟩ := k3 t e rfl b hb
            exact ⟨r, List.mem_append_left _ hr, hb'⟩
          · obtain ⟨r, hr, hb'⟩ := i3 V hV b hb
            exact ⟨r, List.mem_append_right _ hr, hb'⟩
        · rw [List.map_cons]
          have key : ∀ t e, p = .own t e → (a.eval x :: ownVals ps (l.map a.eval)).Pairwise apart2 := by
            intro t e hp
            refine List.Pairwise.cons (fun V' hV' b hb hb' => ?_) i4
            obtain ⟨r, hr, hrb⟩ := k3 t e hp b hb
            obtain ⟨r', hr', hrb'⟩ := i3 V' hV' b hb'
            have hne : r ≠ r' := by
              rintro rfl
              exact hd1 r hr (hgv r hr')
            obtain ⟨x1, hx1⟩ := mem_given.1 hr
            obtain ⟨x2, hx2⟩ := mem_given.1 hr'
            obtain ⟨_, _, z2, hz2, ho2⟩ := i1 r' x2 hx2
            rcases k1 with rfl | ⟨r0, z, rfl, hz, hzo, _⟩
            · cases hr
            · have : r = r0 := by simpa [given] using hr
              subst this
              exact hM.sep r z r' z2 hz hzo hz2 hne (.inl ho2) b hrb hrb'
          cases p <;> simp only [ownVals] <;> first | exact i4 | exact key _ _ rfl
      · cases h
theorem All2.mono_mem {α β : Type} {R S : α → β → Prop} : ∀ {l : List α} {m : List β}, (∀ a ∈ l, ∀ b, R a b → S a b) → All2 R l m → All2 S l m
  | [], [], _, _ => trivial
  | a :: _, b :: _, h, hl => ⟨h a (by simp) b hl.1, hl.2.mono_mem fun a' ha => h a' (List.mem_cons_of_mem _ ha)⟩
  | [], _ :: _, _, hl => hl.elim
  | _ :: _, [], _, hl => hl.elim
def PRel (η : HEnv) (ε : Env) : AC → Value → Prop
  | .v t x, V => V = t.val x
  | .sl r, V => V = ε.sv r
  | .pt r, V => V = toPt (ε.sv r)
  | .h t x, V => HRel η t x V
/-- The parts of a result. -/
theorem parts_sound {η : HEnv} {S : Nat → Prop} : ∀ {rs : List RTy} {r : retL rs} {Rs : List Value} {n : Nat} {cs : List AC} {vs : Upd}, parts n rs r = (cs, vs) → RetsOk η w w' S rs r Rs → (rowVals rs Rs).Pairwise apart2 → ∀ ε : Env,
    ∃ ε' : Env, (∀ m, m ∉ given vs → ε'.sv m = ε.sv m ∧ ε'.ty m = ε.ty m) ∧ ε'.hh = ε.hh ∧ All2 (PRel η ε') cs Rs ∧ (given vs).Nodup ∧ (∀ m ∈ given vs, n ≤ m ∧ ∃ V ∈ rowVals rs Rs, (ε'.sv m).ownBlock = V.ownBlock) ∧
      (∀ c ∈ cs, (match c with | .v _ _ => True | .h _ _ => True | .sl m => m ∈ given vs | .pt m => m ∈ given vs ∧ ∃ ad n c, ε'.sv m = .slice (some ad) n c ∧ 0 < n)) ∧
      (∀ m x, (m, x) ∈ vs → ∃ z, x = some z ∧ z.own = true ∧ ε'.ty m = z.t ∧ OwnV w' z.t z.e z.xs (ε'.sv m) ∧ ∀ b, (ε'.sv m).ownBlock = some b → S b ∨ w.heap.size ≤ b) ∧
      (∀ m ∈ given vs, ∀ m' ∈ given vs, m ≠ m' → apart2 (ε'.sv m) (ε'.sv m'))
  | [], r, Rs, n, cs, vs, h, hr, _, ε => by
    cases h
    cases Rs with
    | nil => exact ⟨ε, fun _ _ => ⟨rfl, rfl⟩, rfl, trivial, List.nodup_nil, fun m hm => (by cases hm), fun c hc => (by cases hc), fun m x hm => (by cases hm), fun m hm => (by cases hm)⟩
    | cons V Vs => exact hr.elim
  | [.v t], r, Rs, n, cs, vs, h, hr, _, ε => by
    cases h
    match Rs, hr with
    | [V], hr =>
      have hr : V = t.val r := hr
      subst hr
      exact ⟨ε, fun _ _ => ⟨rfl, rfl⟩, rfl, ⟨rfl, trivial⟩, List.nodup_nil, fun m hm => (by cases hm), fun c hc => (by rw [List.mem_singleton.1 hc]; trivial), fun m x hm => (by cases hm), fun m hm => (by cases hm)⟩
  | [.h t], r, Rs, n, cs, vs, h, hr, _, ε => by
    cases h
    match Rs, hr with
    | [V], hr => exact ⟨ε, fun _ _ => ⟨rfl, rfl⟩, rfl, ⟨hr, trivial⟩, List.nodup_nil, fun m hm => (by cases hm), fun c hc => (by rw [List.mem_singleton.1 hc]; trivial), fun m x hm => (by cases hm), fun m hm => (by cases hm)⟩
  | [.hp], r, Rs, n, cs, vs, h, hr, _, ε => by
    match Rs, hr with
    | [V], hr => exact hr.elim
  | .hp :: r0 :: l, r, Rs, n, cs, vs, h, hr, hp, ε => by
    match Rs, hr with
    | V :: Vs, hr => exact hr.1.elim
  | [.sl t e], r, Rs, n, cs, vs, h, hr, _, ε => by
    cases h
    match Rs, hr with
    | [V], hr =>
      obtain ⟨h1, h3⟩ := hr
      refine ⟨ε.put n V t, fun m hm => ?_, rfl, ?_, ?_, fun m hm => ?_, fun c hc => ?_, fun m x hm => ?_, fun m hm m' hm' hne => ?_⟩
      · have : m ≠ n := by simpa [given] using hm
        exact ⟨Env.put_sv_ne _ _ _ this, Env.put_ty_ne _ _ _ this⟩
      · exact ⟨(Env.put_sv_same _ _ _ _).symm, trivial⟩
      · simp [given]
      · have : m = n := by simpa [given] using hm
        subst this
        exact ⟨Nat.le_refl _, V, by simp [rowVals], by rw [Env.put_sv_same]⟩
      · rw [List.mem_singleton.1 hc]
        simp [given]
      · rcases List.mem_singleton.1 hm with hm
        cases hm
        exact ⟨_, rfl, rfl, Env.put_ty_same _ _ _ _, by rw [Env.put_sv_same]; exact h1, by rw [Env.put_sv_same]; exact h3⟩
      · have e1 : m = n := by simpa [given] using hm
        have e2 : m' = n := by simpa [given] using hm'
        exact absurd (e1.trans e2.symm) hne
  | [.pt t e], r, Rs, n, cs, vs, h, hr, _, ε => by
    cases h
    match Rs, hr with
    | [V], hr =>
      obtain ⟨ad, c0, rfl, h1, h3⟩ := hr
      refine ⟨ε.put n (.slice (some ad) 1 c0) t, fun m hm => ?_, rfl, ?_, ?_, fun m hm => ?_, fun c hc => ?_, fun m x hm => ?_, fun m hm m' hm' hne => ?_⟩
      · have : m ≠ n := by simpa [given] using hm
        exact ⟨Env.put_sv_ne _ _ _ this, Env.put_ty_ne _ _ _ this⟩
      · refine ⟨?_, trivial⟩
        show _ = toPt _
        rw [Env.put_sv_same]
        rfl
      · simp [given]
      · have : m = n := by simpa [given] using hm
        subst this
        exact ⟨Nat.le_refl _, .slice (some ad) 1 1, by simp [rowVals, toSl], by rw [Env.put_sv_same]; rfl⟩
      · rw [List.mem_singleton.1 hc]
        exact ⟨by simp [given], ad, 1, c0, Env.put_sv_same _ _ _ _, Nat.one_pos⟩
      · rcases List.mem_singleton.1 hm with hm
        cases hm
        refine ⟨_, rfl, rfl, Env.put_ty_same _ _ _ _, by rw [Env.put_sv_same]; exact h1, ?_⟩
        rw [Env.put_sv_same]
        intro b hb
        have : ad.block = b := by simpa [Value.ownBlock] using hb
        subst this
        exact h3
      · have e1 : m = n := by simpa [given] using hm
        have e2 : m' = n := by simpa [given] using hm'
        exact absurd (e1.trans e2.symm) hne
  | .v t :: r0 :: l, r, Rs, n, cs, vs, h, hr, hp, ε => by
    match Rs, hr with
    | V :: Vs, hr =>
      obtain ⟨h1, h2⟩ := hr
      have h1 : V = t.val r.1 := h1
      subst h1
      unfold parts at h
      cases hq : parts n (r0 :: l) r.2 with
      | mk cs1 vs1 =>
        rw [hq] at h
        cases h
        obtain ⟨ε', g1, g2, g3, g4, g5, g6, g7, g8⟩ := parts_sound hq h2 hp ε
        refine ⟨ε', g1, g2, ⟨rfl, g3⟩, g4, g5, fun c hc => ?_, g7, g8⟩
        rcases List.mem_cons.1 hc with rfl | hc
        · trivial
        · exact g6 c hc
  | .h t :: r0 :: l, r, Rs, n, cs, vs, h, hr, hp, ε => by
    match Rs, hr with
    | V :: Vs, hr =>
      obtain ⟨h1, h2⟩ := hr
      unfold parts at h
      cases hq : parts n (r0 :: l) r.2 with
      | mk cs1 vs1 =>
        rw [hq] at h
        cases h
        obtain ⟨ε', g1, g2, g3, g4, g5, g6, g7, g8⟩ := parts_sound hq h2 hp ε
        refine ⟨ε', g1, g2, ⟨h1, g3⟩, g4, g5, fun c hc => ?_, g7, g8⟩
        rcases List.mem_cons.1 hc with rfl | hc
        · trivial
        · exact g6 c hc
  | .sl t e :: r0 :: l, r, Rs, n, cs, vs, h, hr, hp, ε => by
    match Rs, hr with
    | V :: Vs, hr =>
      obtain ⟨⟨h1, h3⟩, h4⟩ := hr
      unfold parts at h
      cases hq : parts (n + 100000) (r0 :: l) r.2 with
      | mk cs1 vs1 =>
        rw [hq] at h
        cases h
        have hp : (V :: rowVals (r0 :: l) Vs).Pairwise apart2 := hp
        rw [List.pairwise_cons] at hp
        obtain ⟨ε', g1, g2, g3, g4, g5, g6, g7, g8⟩ := parts_sound hq h4 hp.2 ε
        have hn : n ∉ given vs1 := fun hm => by have := (g5 n hm).1; omega
        have hne : ∀ m ∈ given vs1, m ≠ n := fun m hm e => hn (e ▸ hm)
        refine ⟨ε'.put n V t, fun m hm => ?_, g2, ?_, ?_, fun m hm => ?_, fun c hc => ?_, fun m x hm => ?_, fun m hm m' hm' hne' => ?_⟩
        · simp only [given, List.mem_cons, not_or] at hm
          rw [Env.put_sv_ne _ _ _ hm.1, Env.put_ty_ne _ _ _ hm.1]
          exact g1 m hm.2
        · refine ⟨?_, ?_⟩
          · exact (Env.put_sv_same _ _ _ _).symm
          · refine g3.mono_mem fun c hc V hV => ?_
            cases c with
            | v t x => exact hV
            | h t x => exact hV
            | sl m => exact hV.trans (Env.put_sv_ne _ _ _ (hne m (g6 (.sl m) hc))).symm
            | pt m => exact hV.trans (congrArg toPt (Env.put_sv_ne _ _ _ (hne m (g6 (.pt m) hc).1))).symm
        · simp only [given, List.nodup_cons]
          exact ⟨hn, g4⟩
        · simp only [given, List.mem_cons] at hm
          rcases hm with rfl | hm
          · exact ⟨Nat.le_refl _, V, by simp [rowVals], by rw [Env.put_sv_same]⟩
          · refine ⟨by have := (g5 m hm).1; omega, ?_⟩
            rw [Env.put_sv_ne _ _ _ (hne m hm)]
            obtain ⟨V', hV', he'⟩ := (g5 m hm).2
            exact ⟨V', List.mem_cons_of_mem _ hV', he'⟩
        · rcases List.mem_cons.1 hc with rfl | hc
          · simp [given]
          · have := g6 c hc
            cases c with
            | v t x => trivial
            | h t x => trivial
            | sl m => exact List.mem_cons_of_mem _ this
            | pt m =>
              refine ⟨List.mem_cons_of_mem _ this.1, ?_⟩
              rw [Env.put_sv_ne _ _ _ (hne m this.1)]
              exact this.2
        · rcases List.mem_cons.1 hm with hm | hm
          · cases hm
            exact ⟨_, rfl, rfl, Env.put_ty_same _ _ _ _, by rw [Env.put_sv_same]; exact h1, by rw [Env.put_sv_same]; exact h3⟩
          · have hin : m ∈ given vs1 := mem_given.2 ⟨x, hm⟩
            obtain ⟨z, j1, j2, j3, j4, j6⟩ := g7 m x hm
            rw [Env.put_sv_ne _ _ _ (hne m hin), Env.put_ty_ne _ _ _ (hne m hin)]
            exact ⟨z, j1, j2, j3, j4, j6⟩
        · simp only [given, List.mem_cons] at hm hm'
          rcases hm with rfl | hm
          · rcases hm' with rfl | hm'
            · exact absurd rfl hne'
            · rw [Env.put_sv_same, Env.put_sv_ne _ _ _ (hne m' hm')]
              obtain ⟨V', hV', he'⟩ := (g5 m' hm').2
              intro b hb
              rw [he']
              exact hp.1 _ hV' b hb
          · rcases hm' with rfl | hm'
            · rw [Env.put_sv_same, Env.put_sv_ne _ _ _ (hne m hm)]
              intro b hb hb'
              obtain ⟨V', hV', he'⟩ := (g5 m hm).2
              rw [he'] at hb
              exact hp.1 _ hV' b hb' hb
            · rw [Env.put_sv_ne _ _ _ (hne m hm), Env.put_sv_ne _ _ _ (hne m' hm')]
              exact g8 m hm m' hm' hne'
  | .pt t e :: r0 :: l, r, Rs, n, cs, vs, h, hr, hp, ε => by
    match Rs, hr with
    | V :: Vs, hr =>
      obtain ⟨⟨ad, c0, rfl, h1, h3⟩, h4⟩ := hr
      unfold parts at h
      cases hq : parts (n + 100000) (r0 :: l) r.2 with
      | mk cs1 vs1 =>
        rw [hq] at h
        cases h
        have hp : (Value.slice (some ad) 1 1 :: rowVals (r0 :: l) Vs).Pairwise apart2 := hp
        rw [List.pairwise_cons] at hp
        obtain ⟨ε', g1, g2, g3, g4, g5, g6, g7, g8⟩ := parts_sound hq h4 hp.2 ε
        have hn : n ∉ given vs1 := fun hm => by have := (g5 n hm).1; omega
        have hne : ∀ m ∈ given vs1, m ≠ n := fun m hm e => hn (e ▸ hm)
        refine ⟨ε'.put n (.slice (some ad) 1 c0) t, fun m hm => ?_, g2, ?_, ?_, fun m hm => ?_, fun c hc => ?_, fun m x hm => ?_, fun m hm m' hm' hne' => ?_⟩
        · simp only [given, List.mem_cons, not_or] at hm
          rw [Env.put_sv_ne _ _ _ hm.1, Env.put_ty_ne _ _ _ hm.1]
          exact g1 m hm.2
        · refine ⟨?_, ?_⟩
          · show _ = toPt _
            rw [Env.put_sv_same]
            rfl
          · refine g3.mono_mem fun c hc V hV => ?_
            cases c with
            | v t x => exact hV
            | h t x => exact hV
            | sl m => exact hV.trans (Env.put_sv_ne _ _ _ (hne m (g6 (.sl m) hc))).symm
            | pt m => exact hV.trans (congrArg toPt (Env.put_sv_ne _ _ _ (hne m (g6 (.pt m) hc).1))).symm
        · simp only [given, List.nodup_cons]
          exact ⟨hn, g4⟩
        · simp only [given, List.mem_cons] at hm
          rcases hm with rfl | hm
          · exact ⟨Nat.le_refl _, .slice (some ad) 1 1, by simp [rowVals, toSl], by rw [Env.put_sv_same]; rfl⟩
          · refine ⟨by have := (g5 m hm).1; omega, ?_⟩
            rw [Env.put_sv_ne _ _ _ (hne m hm)]
            obtain ⟨V', hV', he'⟩ := (g5 m hm).2
            exact ⟨V', List.mem_cons_of_mem _ hV', he'⟩
        · rcases List.mem_cons.1 hc with rfl | hc
          · exact ⟨by simp [given], ad, 1, c0, Env.put_sv_same _ _ _ _, Nat.one_pos⟩
          · have := g6 c hc
            cases c with
            | v t x => trivial
            | h t x => trivial
            | sl m => exact List.mem_cons_of_mem _ this
            | pt m =>
              refine ⟨List.mem_cons_of_mem _ this.1, ?_⟩
              rw [Env.put_sv_ne _ _ _ (hne m this.1)]
              exact this.2
        · rcases List.mem_cons.1 hm with hm | hm
          · cases hm
            refine ⟨_, rfl, rfl, Env.put_ty_same _ _ _ _, by rw [Env.put_sv_same]; exact h1, ?_⟩
            rw [Env.put_sv_same]
            intro b hb
            have : ad.block = b := by simpa [Value.ownBlock] using hb
            subst this
            exact h3
          · have hin : m ∈ given vs1 := mem_given.2 ⟨x, hm⟩
            obtain ⟨z, j1, j2, j3, j4, j6⟩ := g7 m x hm
            rw [Env.put_sv_ne _ _ _ (hne m hin), Env.put_ty_ne _ _ _ (hne m hin)]
            exact ⟨z, j1, j2, j3, j4, j6⟩
        · simp only [given, List.mem_cons] at hm hm'
          rcases hm with rfl | hm
          · rcases hm' with rfl | hm'
            · exact absurd rfl hne'
            · rw [Env.put_sv_same, Env.put_sv_ne _ _ _ (hne m' hm')]
              obtain ⟨V', hV', he'⟩ := (g5 m' hm').2
              intro b hb
              rw [he']
              exact hp.1 _ hV' b hb
          · rcases hm' with rfl | hm'
            · rw [Env.put_sv_same, Env.put_sv_ne _ _ _ (hne m hm)]
              intro b hb hb'
              obtain ⟨V', hV', he'⟩ := (g5 m hm).2
              rw [he'] at hb
              exact hp.1 _ hV' b hb' hb
            · rw [Env.put_sv_ne _ _ _ (hne m hm), Env.put_sv_ne _ _ _ (hne m' hm')]
              exact g8 m hm m' hm' hne'
theorem allNew_spec {vs : Upd} (h : allNew rw vs = true) : ∀ m ∈ given vs, rw m = none := by
  induction vs with
  | nil => intro m hm; cases hm
  | cons p vs ih =>
    obtain ⟨n, x⟩ := p
    unfold allNew at h
    rw [Bool.and_eq_true] at h
    intro m hm
    simp only [given, List.mem_cons] at hm
    rcases hm with rfl | hm
    · exact isNew_eq h.1
    · exact ih h.2 m hm
theorem resOf_rel {rw' : RW} {ε' : Env} {cs : List AC} {Rs : List Value} (hu' : ∀ c ∈ cs, ACUsed rw' ε' c) (h : cs.map (encC ε') = Rs) : VRel rw' ε' (resOf cs) (retV Rs) := by
  subst h
  cases cs with
  | nil => exact ⟨hu', rfl⟩
  | cons c l =>
    cases l with
    | nil =>
      cases c with
      | v t x => rfl
      | h t x => exact (hu' (.h t x) (by simp)).elim
      | sl r => exact ⟨hu' (.sl r) (by simp), rfl⟩
      | pt r =>
        obtain ⟨h1, ad, n, c, hsv, hn⟩ := hu' (.pt r) (by simp)
        refine ⟨h1, ad, n, c, hsv, Int.le_refl _, by omega, ?_⟩
        show toPt (ε'.sv r) = _
        rw [hsv]
        simp [toPt, Addr.add]
    | cons c' l =>
      have h1 : resOf (c :: c' :: l) = .tup (c :: c' :: l) := by cases c <;> rfl
      rw [h1]
      exact ⟨hu', rfl⟩
def noH : AC → Bool
  | .h _ _ => false
  | _ => true
theorem parts_pure : ∀ {rs : List RTy} {r : retL rs} {n : Nat}, pureR rs = true → ∀ c ∈ (parts n rs r).1, noH c = true
  | [], _, _, _, c, hc => by cases hc
  | [.v t], _, _, _, c, hc => by rw [List.mem_singleton.1 hc]; rfl
  | [.sl t e], _, _, _, c, hc => by rw [List.mem_singleton.1 hc]; rfl
  | [.pt t e], _, _, _, c, hc => by rw [List.mem_singleton.1 hc]; rfl
  | [.hp], _, _, h, _, _ => by cases h
  | [.h t], _, _, h, _, _ => by cases h
  | .hp :: _ :: _, _, _, h, _, _ => by cases h
  | .h t :: _ :: _, _, _, h, _, _ => by cases h
  | .v t :: r0 :: l, r, n, h, c, hc => by
    rcases List.mem_cons.1 hc with rfl | hc
    · rfl
    · exact parts_pure (rs := r0 :: l) (r := r.2) (n := n) h c hc
  | .sl t e :: r0 :: l, r, n, h, c, hc => by
    rcases List.mem_cons.1 hc with rfl | hc
    · rfl
    · exact parts_pure (rs := r0 :: l) (r := r.2) (n := n + 100000) h c hc
  | .pt t e :: r0 :: l, r, n, h, c, hc => by
    rcases List.mem_cons.1 hc with rfl | hc
    · rfl
    · exact parts_pure (rs := r0 :: l) (r := r.2) (n := n + 100000) h c hc
theorem prel_map {η : HEnv} {ε : Env} : ∀ {cs : List AC} {Rs : List Value}, (∀ c ∈ cs, noH c = true) → All2 (PRel η ε) cs Rs → cs.map (encC ε) = Rs
  | [], [], _, _ => rfl
  | c :: cs, V :: Vs, h, hl => by
    rw [List.map_cons, prel_map (fun c hc => h c (List.mem_cons_of_mem _ hc)) hl.2]
    congr 1
    have h1 := h c (by simp)
    have h2 := hl.1
    cases c <;> first | exact h2.symm | cases h1
  | [], _ :: _, _, hl => hl.elim
  | _ :: _, [], _, hl => hl.elim
theorem stripT_pure {rs : List RTy} (h : pureR rs = true) : stripT rs = rs := by
  cases rs with
  | nil => rfl
  | cons t l => cases t <;> first | rfl | cases h
theorem strip_args {T : Tab} {ps : List Par} {l : List Operand} {x : argL ps × Upd × List Nat} (h : toArgs T g rw ps l = some x) : hasHp ps = false := by
  cases ps with
  | nil => rfl
  | cons p ps =>
    cases p <;> first | rfl | skip
    cases l with
    | nil => cases h
    | cons y l => cases h
theorem strip_ok {η : HEnv} {S : Nat → Prop} {ps : List Par} {xs : argL ps} {Vs : List Value} (h : hasHp ps = false) : (ArgsOk η w S ps xs Vs → ArgsOk η w S (strip ps) (stripA ps xs) Vs) ∧ strip ps = ps ∧ hpA ps xs = Hp.empty := by
  cases ps with
  | nil => exact ⟨id, rfl, rfl⟩
  | cons p ps => cases p <;> first | exact ⟨id, rfl, rfl⟩ | cases h
theorem stripR_ok {η : HEnv} {S : Nat → Prop} {rs : List RTy} {r : retL rs} {Rs : List Value} (h : pureR rs = true) : (RetsOk η w w' S (stripT rs) (stripR rs r) Rs → RetsOk η w w' S rs r Rs) ∧ stripT rs = rs := by
  cases rs with
  | nil => exact ⟨id, rfl⟩
  | cons t l => cases t <;> first | (cases h; done) | (cases l <;> exact ⟨id, rfl⟩)
theorem exec_func {f : FuncId} {args : Array Operand} {ts : Array TypeId} {P : Program} (ho : o.op = .call { callee := .value (.func f), args, argTypes := ts }) (w : World) : (execOp a.eval o).run P w = (callFunc f (args.map a.eval)).run P w := by
  simp [execOp, ho, resolve, Deferred.ofValue, invoke, Act.eval]
theorem good_call (hC : CtxOk C) (hM : Mem C rw ε w) (hS : Slots rw ε g a) {sg : FuncId → Sig} {callF : (f : FuncId) → argL (sg f).ps → Option (retL (sg f).rs)} {f : FuncId} (hf : CallOk C.P C.W0 sg callF f) {args : Array Operand}
    (ho : (execOp a.eval o).run C.P w = (callFunc f (args.map a.eval)).run C.P w) {ys : argL (sg f).ps} {us : Upd} {rs : List Nat} (ha : toArgs C.T g rw (sg f).ps args.toList = some (ys, us, rs)) {r : retL (sg f).rs} (hr : callF f ys = some r) {d : Nat} {cs : List AC} {vs : Upd} (hp : parts d (sg f).rs r = (cs, vs)) (hpure : pureR (sg f).rs = true) (hnew : allNew rw vs = true) :
    Good C rw ε a w o (resOf cs) (us ++ vs) := by
  obtain ⟨k1, k2, k3, k4⟩ := toArgs_sound hM hS ha
  have hnewS := allNew_spec hnew
  have hus : ∀ m x, (m, x) ∈ us → x = none := fun m x hm => (k1 m x hm).1
  have hgu : ∀ m ∈ given us, ∃ z, row rw m = some z ∧ z.own = true := fun m hm => by
    obtain ⟨x, hx⟩ := mem_given.1 hm
    exact (k1 m x hx).2.2
  let S : Nat → Prop := fun b => ∃ r ∈ given us, (ε.sv r).ownBlock = some b
  have hSm : ∀ b, S b → C.mine b := by
    rintro b ⟨r, hr, hb⟩
    obtain ⟨z, hz, hzo⟩ := hgu r hr
    exact ((hM.ok r z hz).own hzo).2 b hb
  have hfar : ∀ r z, row rw r = some z → r ∉ given us → (z.own = true ∨ z.xs ≠ []) → ∀ b, (ε.sv r).ownBlock = some b → ¬ S b := by
    rintro r z hz hn hx b hb ⟨r', hr', hb'⟩
    obtain ⟨z', hz', hzo'⟩ := hgu r' hr'
    exact hM.sep r' z' r z hz' hzo' hz (fun e => hn (e ▸ hr')) hx b hb' hb
  have hargs := k2 S (fun r hr b hb => ⟨r, hr, hb⟩) (fun r _ hn z hz hx b hb => hfar r z hz hn (.inr hx) b hb)
  have hbelow : Below C.W0.heap.size C.W0 w := hC.below.trans (hM.pres.below hC.base hC.below.size)
  obtain ⟨henters, hcalls⟩ := hf ys r hr
  have hnoH := strip_args ha
  have hcall : Calls C.P f (args.toList.map a.eval).toArray w fun e w' => ∃ Rs, e = .returned (retV Rs) ∧ (∃ η', RetsOk η' w w' S (sg f).rs r Rs) ∧ (rowVals (sg f).rs Rs).Pairwise apart2 ∧ Pres S w w' := by
    have hcalls' := hcalls HEnv.zero w S (args.toList.map a.eval) hbelow (fun b hb => hC.base b (hSm b hb))
    obtain ⟨e1, e2, e3⟩ := strip_ok (η := HEnv.zero) (w := w) (S := S) (xs := ys) (Vs := args.toList.map a.eval) hnoH
    refine (hcalls' (e1 (hargs HEnv.zero)) (by rw [e2]; exact k4) (by rw [e3]; exact HpOk.empty w rfl) (by rw [e3]; exact fun n hn => absurd rfl hn)).mono ?_
    rintro e w' ⟨Rs, η', h1, h2, h3, h4, _⟩
    obtain ⟨e4, e5⟩ := stripR_ok (η := η') (w := w) (w' := w') (S := S) (r := r) (Rs := Rs) hpure
    exact ⟨Rs, h1, ⟨η', e4 h2⟩, by rw [e5] at h3; exact h3, h4⟩
  intro next Q hn
  have hexec : (execOp a.eval o).run C.P w = .ok (.enter f (args.toList.map a.eval).toArray) w := by
    rw [ho, henters (args.map a.eval) w]
    congr 2
    apply Array.ext'
    simp
  unfold Oper.wp
  rw [hexec, Oper.upon_enter]
  refine hcall.mono ?_
  rintro e w' ⟨Rs, rfl, ⟨η', h1⟩, h2, h3⟩
  obtain ⟨ε', g1, g2, g3, g4, g5, g6, g7, g8⟩ := parts_sound hp h1 h2 ε
  have hcsn : ∀ c ∈ cs, noH c = true := fun c hc => parts_pure (n := d) (r := r) hpure c (by rw [hp]; exact hc)
  replace g3 := prel_map hcsn g3
  have hupd : updF rw (us ++ vs) = updF (updF rw us) vs := updF_append _ _ _
  have hdis : ∀ m ∈ given vs, m ∉ given us := fun m hm hm' => by
    obtain ⟨z, hz, _⟩ := hgu m hm'
    exact row_used hz (hnewS m hm)
  have husedU : ∀ m, rw m ≠ none → m ∉ given vs := fun m hm hm' => hm (hnewS m hm')
  refine hn (retV Rs) ε' w' (resOf_rel (fun c hc => ?_) g3) ⟨fun m hm => updF_used _ _ (.inl hm), fun m hm => (g1 m (husedU m hm)).1, fun m hm => (g1 m (husedU m hm)).2, g2⟩ ?_
  · have hin : ∀ m, m ∈ given vs → updF rw (us ++ vs) m ≠ none := fun m hm => updF_used _ _ (.inr (by rw [given_append]; exact List.mem_append_right _ hm))
    have := g6 c hc
    have hcn := hcsn c hc
    cases c with
    | v t x => trivial
    | h t x => cases hcn
    | sl m => exact hin m this
    | pt m => exact ⟨hin m this.1, this.2⟩
  · rw [hupd]
    have rowOld : ∀ m, m ∉ given vs → row (updF (updF rw us) vs) m = row (updF rw us) m := fun m hm => by unfold row; rw [updF_notin _ _ hm]
    have rowNew : ∀ m x, (m, x) ∈ vs → row (updF (updF rw us) vs) m = x := fun m x hm => by
      unfold row
      rw [updF_in _ _ hm g4]
      cases x <;> rfl
    refine mem_step hC hM (N := fun m => m ∈ given vs) h3 (fun k _ h => hSm k h) (fun m x hrow hN => ?_) (fun m x hrow hN => ?_) (fun m x m' x' _ _ hN hN' hne => g8 m hN m' hN' hne)
    · rw [rowOld m hN] at hrow
      have hnu : m ∉ given us := fun hm => by
        unfold row at hrow
        rw [updF_kill _ _ hus hm] at hrow
        cases hrow
      have hrow' : row rw m = some x := by
        unfold row at hrow ⊢
        rw [updF_notin _ _ hnu] at hrow
        exact hrow
      exact ⟨hrow', (g1 m hN).1, (g1 m hN).2, hfar m x hrow' hnu⟩
    · obtain ⟨x', hx'⟩ := mem_given.1 hN
      rw [rowNew m x' hx'] at hrow
      subst hrow
      obtain ⟨z, j1, j2, j3, j4, j6⟩ := g7 m _ hx'
      cases j1
      refine ⟨⟨j3, fun _ => ⟨j4, fun b hb => ?_⟩, own_read j4⟩, j6⟩
      rcases j6 b hb with h | h
      · exact hSm b h
      · exact hC.new b (Nat.le_trans hM.pres.size h)
end
end Go.Ev

/- One operation of the evaluator, put together. -/
namespace Go.Ev
open Go.RowKit
section
variable {C : Ctx} {rw : RW} {ε : Env} {w w' : World} {g : Nat → Option AV} {a : Act} {o : Oper} {R : Type} {sg : FuncId → Sig} {callF : (f : FuncId) → argL (sg f).ps → Option (retL (sg f).rs)}
theorem loOf_rel {T : Tab} (hS : Slots rw ε g a) {L : Option Operand} {lo : Int} (hlo : loOf T g L = some lo) : (∃ k, L.map a.eval = some (.int k lo)) ∨ (L.map a.eval = none ∧ lo = 0) := by
  cases L with
  | none => cases hlo; exact .inr ⟨rfl, rfl⟩
  | some l =>
    obtain ⟨k, hk⟩ := opdInt_rel hS (show opdInt T g l = some lo from hlo)
    exact .inl ⟨k, by rw [Option.map_some, hk]⟩
theorem hiOf_rel {T : Tab} (hS : Slots rw ε g a) {H : Option Operand} {n hi : Int} (hlo : hiOf T g H n = some hi) : (∃ k, H.map a.eval = some (.int k hi)) ∨ (H.map a.eval = none ∧ hi = n) := by
  cases H with
  | none => cases hlo; exact .inr ⟨rfl, rfl⟩
  | some l =>
    obtain ⟨k, hk⟩ := opdInt_rel hS (show opdInt T g l = some hi from hlo)
    exact .inl ⟨k, by rw [Option.map_some, hk]⟩
theorem list1 {α : Type} {l : Array α} {x : α} (h : l.toList = [x]) : l = #[x] := by apply Array.ext'; simpa using h
theorem list2 {α : Type} {l : Array α} {x y : α} (h : l.toList = [x, y]) : l = #[x, y] := by apply Array.ext'; simpa using h
theorem oper_sound (hC : CtxOk C) (hF : ∀ f, CallOk C.P C.W0 sg callF f) (hM : Mem C rw ε w) (hS : Slots rw ε g a) {d : Nat} {K : AV → Upd → Option R} {r : R} (h : oper C.T sg callF g rw d o K = some r) :
    ∃ v us, K v us = some r ∧ Good C rw ε a w o v us := by
  unfold oper at h
  split at h
  · rename_i x hop
    split at h
    · rename_i av hx
      exact ⟨_, _, h, good_pure hM (V := a.eval x) (by simp [execOp, hop]) (opd_rel hS hx)⟩
    · cases h
  · rename_i x hop
    split at h
    · rename_i av hx
      exact ⟨_, _, h, good_pure hM (V := a.eval x) (by simp [execOp, hop]) (opd_rel hS hx)⟩
    · cases h
  · rename_i c x y hop
    split at h
    · rename_i c' xv yv hc hx hy
      have hc' : a.eval c = .bool c' := opd_rel hS hc
      cases c' with
      | true => exact ⟨_, _, h, good_pure hM (V := a.eval x) (by simp [execOp, hop, hc', asBool, Result.andThen]) (opd_rel hS hx)⟩
      | false => exact ⟨_, _, h, good_pure hM (V := a.eval y) (by simp [execOp, hop, hc', asBool, Result.andThen]) (opd_rel hS hy)⟩
    · cases h
  · rename_i op xt x y yt hop
    split at h
    · rename_i av bv hx hy
      obtain ⟨v, V, hk, hv, hr⟩ := binV_sound hC (x := x) (y := y) (w := w) (opd_rel hS hx) (opd_rel hS hy) h
      refine ⟨_, _, hk, good_pure hM (V := V) ?_ hv⟩
      have he : execOp a.eval o = (do pure (Next.value (← (do eqGuard op xt x y (a.eval x) (a.eval y); binOp op xt (a.eval x) (a.eval y)))) : Sem Next) := by
        unfold execOp
        rw [hop]
      rw [he, Sem.run_bind, hr]
      rfl
    · cases h
  · rename_i op t x hop
    split at h
    · rename_i b hx
      have hx' : a.eval x = .bool b := opd_rel hS hx
      exact ⟨_, _, h, good_pure hM (V := .bool (!b)) (by simp [execOp, hop, hx', Op.unary, Result.andThen]) rfl⟩
    · rename_i k n hx
      have hx' : a.eval x = .int k n := opd_rel hS hx
      exact ⟨_, _, h, good_pure hM (V := .int k (k.wrap (0 - n))) (by simp [execOp, hop, hx', Op.unary, Op.intArith, Result.andThen]) rfl⟩
    · cases h
  · rename_i t ps hop
    split at h
    · rename_i ty ht
      split at h
      · rename_i z hz
        obtain ⟨hst, hz⟩ := bif_some hz
        exact ⟨_, _, h, good_build hC hM hS hop ht hst hz⟩
      · cases h
    · cases h
  · rename_i t n ps hop
    split at h
    · rename_i ty e ht
      split at h
      · rename_i xs hxs
        obtain ⟨hb, h⟩ := bif_some h
        rw [Bool.and_eq_true, Bool.and_eq_true] at hb
        exact ⟨_, _, h, good_buildSlice hC hM hS hop ht hxs (Nat.eq_of_beq_eq_true hb.1.1) (Nat.le_of_ble_eq_true hb.2) (isNew_eq hb.1.2)⟩
      · cases h
    · cases h
  · rename_i e x hop
    split at h
    · rename_i ty t y ht hx
      obtain ⟨hb, h⟩ := bif_some h
      rw [Bool.and_eq_true] at hb
      have hb1 := Ty.beq_eq hb.1
      have hx' : a.eval x = t.val y := opd_rel hS hx
      rw [hb1] at ht
      exact ⟨_, _, h, good_box hC hM hop ht hx' (isNew_eq hb.2)⟩
    · cases h
  · rename_i e hop
    split at h
    · rename_i ty ht
      obtain ⟨hn, h⟩ := bif_some h
      exact ⟨_, _, h, good_alloc hC hM hop ht (isNew_eq hn)⟩
    · cases h
  · rename_i x hop
    split at h
    · rename_i q i hx
      exact ⟨_, _, h, (good_nilCheck hM hop).1 q i (opd_rel hS hx)⟩
    · rename_i q i j hx
      exact ⟨_, _, h, (good_nilCheck hM hop).2 q i j (opd_rel hS hx)⟩
    · cases h
  · rename_i t x i hop
    split at h
    · rename_i ty e av n ht hx hi
      obtain ⟨k, hi'⟩ := opdInt_rel hS hi
      split at h
      · rename_i q
        split at h
        · rename_i y hy
          obtain ⟨hb, h⟩ := bif_some h
          obtain ⟨h0, h⟩ := chk_some h
          obtain ⟨h1, h⟩ := chk_some h
          exact ⟨_, _, h, (good_indexAddr hC hM hop ht (opd_rel hS hx) hi' ((by simpa [hC.tab.lt, hC.tab.le, hC.tab.eqI, hC.tab.nle] using h0))).1 q y rfl hy (ty_eq hb) ((by simpa [hC.tab.lt, hC.tab.le, hC.tab.eqI, hC.tab.nle] using h1))⟩
        · cases h
      · rename_i q p lo hi''
        split at h
        · rename_i y hy
          obtain ⟨hb, h⟩ := bif_some h
          obtain ⟨h0, h⟩ := chk_some h
          obtain ⟨h1, h⟩ := chk_some h
          exact ⟨_, _, h, (good_indexAddr hC hM hop ht (opd_rel hS hx) hi' ((by simpa [hC.tab.lt, hC.tab.le, hC.tab.eqI, hC.tab.nle] using h0))).2 q p lo hi'' y rfl hy (ty_eq hb) ((by simpa [hC.tab.lt, hC.tab.le, hC.tab.eqI, hC.tab.nle] using h1))⟩
        · cases h
      · cases h
    · cases h
  · rename_i t x i hop
    split at h
    · rename_i s n ht hx hi
      obtain ⟨k, hi'⟩ := opdInt_rel hS hi
      obtain ⟨h0, h⟩ := chk_some h
      obtain ⟨h1, h⟩ := chk_some h
      exact ⟨_, _, h, good_index hC hM hop ht (opd_rel hS hx) hi' ((by simpa [hC.tab.lt, hC.tab.le, hC.tab.eqI, hC.tab.nle] using h0)) ((by simpa [hC.tab.lt, hC.tab.le, hC.tab.eqI, hC.tab.nle] using h1))⟩
    · cases h
  · rename_i s x j hop
    split at h
    · rename_i ty q i ht hx
      split at h
      · rename_i y hy
        obtain ⟨hb, h⟩ := bif_some h
        split at h
        · rename_i f hf
          exact ⟨_, _, h, good_fieldAddr hC hM hop ht hf (opd_rel hS hx) hy (ty_eq hb)⟩
        · cases h
      · cases h
    · cases h
  · rename_i s x j hop
    split at h
    · rename_i ty t y ht hx
      obtain ⟨hb, h⟩ := bif_some h
      have hb := Ty.beq_eq hb
      subst hb
      split at h
      · rename_i f hf
        have hx' : a.eval x = ty.val y := opd_rel hS hx
        refine ⟨_, _, h, good_pure hM (V := (ty.get j y).1.val (ty.get j y).2) ?_ rfl⟩
        simp [execOp, hop, hx', run_field hC ht hf y w, Result.andThen]
      · cases h
    · cases h
  · rename_i s x hop
    split at h
    · rename_i ty q i ht hx
      split at h
      · rename_i y hy
        obtain ⟨hb, h⟩ := bif_some h
        exact ⟨_, _, h, good_load hC hM hop ht (opd_rel hS hx) hy (ty_eq hb)⟩
      · cases h
    · rename_i ty q i j ht hx
      split at h
      · rename_i y hy
        obtain ⟨hb, h⟩ := bif_some h
        exact ⟨_, _, h, good_fload hC hM hop ht (opd_rel hS hx) hy (Ty.beq_eq hb)⟩
      · cases h
    · cases h
  · rename_i s x y hop
    split at h
    · rename_i ty q i t v ht hx hy
      split at h
      · rename_i z hz
        obtain ⟨hb, h⟩ := bif_some h
        rw [Bool.and_eq_true] at hb
        split at h
        · rename_i v' hv'
          obtain ⟨hc, hv'⟩ := cast?_eq (F := Ty.den) hv'
          have hv : a.eval y = t.val v := opd_rel hS hy
          subst hc
          subst hv'
          exact ⟨_, _, h, good_store hC hM hop ht (opd_rel hS hx) hz hb.1 (ty_eq hb.2) hv⟩
        · cases h
      · cases h
    · rename_i ty q i j t v ht hx hy
      split at h
      · rename_i z hz
        obtain ⟨hb, h⟩ := bif_some h
        rw [Bool.and_eq_true] at hb
        have hb2 := Ty.beq_eq hb.2
        subst hb2
        split at h
        · rename_i v' hv'
          exact ⟨_, _, h, good_fstore hC hM hop ht (opd_rel hS hx) hz hb.1 (opd_rel hS hy) hv'⟩
        · cases h
      · cases h
    · cases h
  · rename_i t x L H hop
    split at h
    · rename_i s lo hx hlo
      split at h
      · rename_i hi ht hhi
        obtain ⟨h0, h⟩ := chk_some h
        obtain ⟨h1, h⟩ := chk_some h
        obtain ⟨h2, h⟩ := chk_some h
        exact ⟨_, _, h, good_substr hC hM hop ht (opd_rel hS hx) ((by simpa [hC.tab.lt, hC.tab.le, hC.tab.eqI, hC.tab.nle] using h0)) ((by simpa [hC.tab.lt, hC.tab.le, hC.tab.eqI, hC.tab.nle] using h1)) ((by simpa [hC.tab.lt, hC.tab.le, hC.tab.eqI, hC.tab.nle] using h2)) (loOf_rel hS hlo) (hiOf_rel hS hhi)⟩
      · cases h
    · rename_i q lo hx hlo
      split at h
      · rename_i ty e y ht hy
        split at h
        · rename_i hi hhi
          obtain ⟨hb, h⟩ := bif_some h
          obtain ⟨h0, h⟩ := chk_some h
          obtain ⟨h1, h⟩ := chk_some h
          obtain ⟨h2, h⟩ := chk_some h
          exact ⟨_, _, h, (good_cut hC hM hop ht (opd_rel hS hx) ((by simpa [hC.tab.lt, hC.tab.le, hC.tab.eqI, hC.tab.nle] using h0)) ((by simpa [hC.tab.lt, hC.tab.le, hC.tab.eqI, hC.tab.nle] using h1)) (loOf_rel hS hlo)).1 q y rfl hy (ty_eq hb) ((by simpa [hC.tab.lt, hC.tab.le, hC.tab.eqI, hC.tab.nle] using h2)) (hiOf_rel hS hhi)⟩
        · cases h
      · cases h
    · rename_i q p l0 h0' lo hx hlo
      split at h
      · rename_i ty e y ht hy
        split at h
        · rename_i hi hhi
          obtain ⟨hb, h⟩ := bif_some h
          obtain ⟨h0, h⟩ := chk_some h
          obtain ⟨h1, h⟩ := chk_some h
          obtain ⟨h2, h⟩ := chk_some h
          exact ⟨_, _, h, (good_cut hC hM hop ht (opd_rel hS hx) ((by simpa [hC.tab.lt, hC.tab.le, hC.tab.eqI, hC.tab.nle] using h0)) ((by simpa [hC.tab.lt, hC.tab.le, hC.tab.eqI, hC.tab.nle] using h1)) (loOf_rel hS hlo)).2 q p l0 h0' y rfl hy (ty_eq hb) ((by simpa [hC.tab.lt, hC.tab.le, hC.tab.eqI, hC.tab.nle] using h2)) (hiOf_rel hS hhi)⟩
        · cases h
      · cases h
    · cases h
  · rename_i src dst x hop
    split at h
    · rename_i s hx
      split at h
      · rename_i e hs hd
        obtain ⟨hn, h⟩ := bif_some h
        obtain ⟨hl, h⟩ := chk_some h
        exact ⟨_, _, h, good_runes hC hM hop (opd_rel hS hx) hs hd ((by simpa [hC.tab.lt, hC.tab.le, hC.tab.eqI, hC.tab.nle] using hl)) (isNew_eq hn)⟩
      · rename_i e hs hd
        obtain ⟨hn, h⟩ := bif_some h
        exact ⟨_, _, h, good_toBytes hC hM hop (opd_rel hS hx) hs hd (isNew_eq hn)⟩
      · cases h
    · rename_i j n hx
      split at h
      · rename_i t k hs hd
        exact ⟨_, _, h, good_convInt hC hM hop hs hd (opd_rel hS hx)⟩
      · rename_i t hs hd
        exact ⟨_, _, h, good_i2f hC hM hop hs hd (opd_rel hS hx)⟩
      · rename_i t hs hd
        exact ⟨_, _, h, good_i2s hC hM hop hs hd (opd_rel hS hx)⟩
      · cases h
    · rename_i n hx
      split at h
      · rename_i k hs hd
        obtain ⟨hk, h⟩ := chk_some h
        exact ⟨_, _, h, good_f2i hC hM hop hs hd (opd_rel hS hx) hk⟩
      · cases h
    · rename_i av _ _ _ hx
      split at h
      · rename_i e e' o' xs hn hs hd hl
        exact ⟨_, _, h, good_ofRunes hC hM hop hs hd (listOf_read hM (opd_rel hS hx) hl).1⟩
      · rename_i e e' o' xs hn hs hd hl
        exact ⟨_, _, h, good_ofBytes hC hM hop hs hd (listOf_read hM (opd_rel hS hx) hl).1⟩
      · rename_i e e' y xs hn hs hd hl
        split at h
        · rename_i q
          obtain ⟨hb, h2⟩ := bif_some h
          clear h
          have hsd := Nat.eq_of_beq_eq_true hb
          subst hsd
          exact ⟨_, _, h2, good_mark hC hM hop hs hl (opd_rel hS hx).2⟩
        · cases h
      · cases h
    · cases h
  · rename_i x j hop
    split at h
    · rename_i l hx
      split at h
      · rename_i t y hj
        exact ⟨_, _, h, (good_extract hM hop (opd_rel hS hx)).1 t y hj⟩
      · rename_i q hj
        exact ⟨_, _, h, (good_extract hM hop (opd_rel hS hx)).2.1 q hj⟩
      · rename_i q hj
        exact ⟨_, _, h, (good_extract hM hop (opd_rel hS hx)).2.2 q hj⟩
      · cases h
    · cases h
  · rename_i args ts hop
    split at h
    · rename_i x t ha ht'
      obtain rfl := list1 ha
      obtain rfl := list1 ht'
      split at h
      · rename_i s hx
        split at h
        · rename_i ht
          exact ⟨_, _, h, good_slen hC hM hop ht (opd_rel hS hx)⟩
        · cases h
      · rename_i av _ hx
        split at h
        · rename_i p n ht hn
          exact ⟨_, _, h, good_len hC hM hop ht (opd_rel hS hx) hn⟩
        · cases h
      · cases h
    · cases h
  · rename_i args ts hop
    split at h
    · rename_i x y t t' ha ht'
      obtain rfl := list2 ha
      obtain rfl := list2 ht'
      split at h
      · rename_i av bv ty e hx hy ht
        replace h := bif_some h
        obtain ⟨hb, h⟩ := h
        have hd := isNew_eq hb
        split at h
        · rename_i z hz
          split at h
          · rename_i ys hys
            have hys' : ∀ (xs : List ty.den) (V : Value), OwnV w ty e xs V → xs.length + ys.length < 1000000000000 → ∃ V' w', (Builtin.append_ #[t, t'] o.type #[V, a.eval y]).run C.P w = .ok V' w' ∧ OwnV w' ty e (xs ++ ys) V' ∧ Pres (fun k => some k = V.ownBlock) w w' ∧ ∀ g, V'.ownBlock = some g → some g = V.ownBlock ∨ w.heap.size ≤ g := by
              obtain ⟨hc, hys⟩ := cast?_eq (F := fun t => List t.den) hys
              unfold appOf at hz
              split at hz
              · rename_i s
                split at hz
                · rename_i hst
                  cases hz
                  have hc : Ty.int .u8 = ty := hc
                  subst hc
                  have hys : bytesI s = ys := hys
                  subst hys
                  intro xs V ho hb'
                  rw [show a.eval y = .string s from opd_rel hS hy]
                  exact run_apps hC ht hst ho (by rw [bytesI_length] at hb'; exact hb')
                · cases hz
              · obtain ⟨htt, hz2⟩ := bif_some hz
                clear hz
                have hrd := (listOf_read hM (opd_rel hS hy) hz2).1
                obtain ⟨zt, ze, zo, zx⟩ := z
                have hc : zt = ty := hc
                subst hc
                have hys : zx = ys := hys
                subst hys
                intro xs V ho hb'
                rw [appTy_run hC (hC.tab.sl _ _ _ ht).1 (some_info (hC.tab.sl _ _ _ ht).2.1.info) htt]
                exact run_app hC ht ho hrd hb'
            have hg := good_append hC hM hop ht hys' hd (opd_rel hS hx)
            split at h
            · rename_i q
              split at h
              · rename_i u hu
                replace h := bif_some h
                obtain ⟨hb', h⟩ := h
                rw [Bool.and_eq_true] at hb'
                split at h
                · rename_i xs hxs
                  replace h := chk_some h
                  obtain ⟨hl, h⟩ := h
                  simp only [hC.tab.lt, hC.tab.le, hC.tab.eqI, hC.tab.nle] at hl
                  have hl := of_decide_eq_true hl
                  exact ⟨_, _, h, hg.1 q u rfl hu hb'.1 (Nat.eq_of_beq_eq_true hb'.2) xs (cast?_eq (F := fun t => List t.den) hxs) (by omega)⟩
                · cases h
              · cases h
            · rename_i q p lo hi
              split at h
              · rename_i u hu
                replace h := bif_some h
                obtain ⟨hb', h⟩ := h
                rw [Bool.and_eq_true] at hb'
                replace h := chk_some h
                obtain ⟨hlo, h⟩ := h
                simp only [hC.tab.lt, hC.tab.le, hC.tab.eqI, hC.tab.nle] at hlo
                have hlo := of_decide_eq_true hlo
                subst hlo
                split at h
                · rename_i xs hxs
                  replace h := chk_some h
                  obtain ⟨hl, h⟩ := h
                  simp only [hC.tab.lt, hC.tab.le, hC.tab.eqI, hC.tab.nle] at hl
                  have hl := of_decide_eq_true hl
                  exact ⟨_, _, h, hg.2.1 q p hi u rfl hu hb'.1 (Nat.eq_of_beq_eq_true hb'.2) xs (cast?_eq (F := fun t => List t.den) hxs) (by omega)⟩
                · cases h
              · cases h
            · obtain ⟨hl, h⟩ := chk_some h
              simp only [hC.tab.lt, hC.tab.le, hC.tab.eqI, hC.tab.nle] at hl
              have hl := of_decide_eq_true hl
              exact ⟨_, _, h, hg.2.2 _ _ rfl (by omega)⟩
            · cases h
          · cases h
        · cases h
      · cases h
    · cases h
  · rename_i args ts hop
    split at h
    · rename_i x y t t' ha ht'
      obtain rfl := list2 ha
      obtain rfl := list2 ht'
      split at h
      · rename_i av bv ty e hx hy ht
        split at h
        · rename_i z hz
          have hrd := (listOf_read hM (opd_rel hS hy) hz).1
          split at h
          · rename_i ys hys
            have hys' : ReadV w ty ys (a.eval y) := by
              obtain ⟨hc, hys⟩ := cast?_eq (F := fun t => List t.den) hys
              obtain ⟨zt, ze, zo, zx⟩ := z
              have hc : zt = ty := hc
              subst hc
              have hys : zx = ys := hys
              subst hys
              exact hrd
            have hg := good_copy hC hM hop ht hys' (opd_rel hS hx)
            split at h
            · rename_i q
              split at h
              · rename_i u hu
                replace h := bif_some h
                obtain ⟨hb', h⟩ := h
                rw [Bool.and_eq_true] at hb'
                split at h
                · rename_i xs hxs
                  exact ⟨_, _, h, hg.1 q u rfl hu hb'.1 (Nat.eq_of_beq_eq_true hb'.2) xs (cast?_eq (F := fun t => List t.den) hxs)⟩
                · cases h
              · cases h
            · rename_i q p lo hi
              split at h
              · rename_i u hu
                replace h := bif_some h
                obtain ⟨hb', h⟩ := h
                rw [Bool.and_eq_true] at hb'
                split at h
                · rename_i xs hxs
                  exact ⟨_, _, h, hg.2 q p lo hi u rfl hu hb'.1 (Nat.eq_of_beq_eq_true hb'.2) xs (cast?_eq (F := fun t => List t.den) hxs)⟩
                · cases h
              · cases h
            · cases h
          · cases h
        · cases h
      · cases h
    · cases h
  · rename_i f args ts hop
    obtain ⟨hb, h⟩ := bif_some h
    rw [Bool.and_eq_true] at hb
    split at h
    · rename_i ys us rs ha
      cases hr : callF f ys with
      | none => rw [hr] at h; cases h
      | some rr =>
        rw [hr] at h
        simp only [Option.bind_some] at h
        replace h := bif_some h
        obtain ⟨hn, h⟩ := h
        exact ⟨_, _, h, good_call hC hM hS (hF f) (exec_func hop w) ha hr rfl hb.2 hn⟩
    · cases h
  · rename_i t x y hop
    split at h
    · rename_i ty e l c ht hl hc
      obtain ⟨hn, h⟩ := bif_some h
      obtain ⟨h0, h⟩ := chk_some h
      obtain ⟨h1, h⟩ := chk_some h
      obtain ⟨h2, h⟩ := chk_some h
      obtain ⟨kl, hl'⟩ := opdInt_rel hS hl
      obtain ⟨kc, hc'⟩ := opdInt_rel hS hc
      exact ⟨_, _, h, good_make hC hM hop ht hl' hc' ((by simpa [hC.tab.lt, hC.tab.le, hC.tab.eqI, hC.tab.nle] using h0)) ((by simpa [hC.tab.lt, hC.tab.le, hC.tab.eqI, hC.tab.nle] using h1)) (by rw [hC.tab.lt] at h2; exact of_decide_eq_true h2) (isNew_eq hn)⟩
    · cases h
  · rename_i args ts hop
    split at h
    · rename_i x l ha
      split at h
      · rename_i k n hx
        split at h
        · rename_i m hm
          exact ⟨_, _, h, good_max hC hM hS hop ha (opd_rel hS hx) hm⟩
        · cases h
      · cases h
    · cases h
  · rename_i args ts hop
    split at h
    · rename_i x l ha
      split at h
      · rename_i k n hx
        split at h
        · rename_i m hm
          exact ⟨_, _, h, good_min hC hM hS hop ha (opd_rel hS hx) hm⟩
        · cases h
      · cases h
    · cases h
  · cases h
end
end Go.Ev

/- The heap: what its objects are in a world, and that operations that do not know it leave it. -/
namespace Go.Ev
open Go.RowKit
theorem All2.drop {α β : Type} {R : α → β → Prop} : ∀ {l : List α} {m : List β} (k : Nat), All2 R l m → All2 R (l.drop k) (m.drop k)
  | l, m, 0, h => by simpa using h
  | [], [], k + 1, _ => by simp [All2]
  | _ :: _, _ :: _, k + 1, h => by simpa using h.2.drop k
  | [], _ :: _, _, h => h.elim
  | _ :: _, [], _, h => h.elim
theorem All2.take {α β : Type} {R : α → β → Prop} : ∀ {l : List α} {m : List β} (k : Nat), All2 R l m → All2 R (l.take k) (m.take k)
  | l, m, 0, h => by simp [All2]
  | [], [], k + 1, _ => by simp [All2]
  | _ :: _, _ :: _, k + 1, h => by simpa using ⟨h.1, h.2.take k⟩
  | [], _ :: _, _, h => h.elim
  | _ :: _, [], _, h => h.elim
theorem All2.append {α β : Type} {R : α → β → Prop} : ∀ {l l' : List α} {m m' : List β}, All2 R l m → All2 R l' m' → All2 R (l ++ l') (m ++ m')
  | [], _, [], _, _, k => k
  | _ :: _, _, _ :: _, _, h, k => ⟨h.1, h.2.append k⟩
  | [], _, _ :: _, _, h, _ => h.elim
  | _ :: _, _, [], _, h, _ => h.elim
theorem All2.right {α β : Type} {R : α → β → Prop} {Q : β → Prop} (h : ∀ a b, R a b → Q b) : ∀ {l : List α} {m : List β}, All2 R l m → ∀ b ∈ m, Q b
  | _ :: _, _ :: _, hl, b, hb => by
    rcases List.mem_cons.1 hb with rfl | hb
    · exact h _ _ hl.1
    · exact hl.2.right h b hb
  | [], [], _, b, hb => by cases hb
  | [], _ :: _, hl, _, _ => hl.elim
  | _ :: _, [], hl, _, _ => hl.elim
/-! ### decoding -/
theorem vals_eq : ∀ {l : List Cell} {m : List Value}, vals l = some m → l = m.map .v
  | [], m, h => by cases h; rfl
  | .v u :: l, m, h => by
    unfold vals at h
    split at h
    · rename_i m' hm
      cases h
      rw [List.map_cons, ← vals_eq hm]
    · cases h
  | .sr _ :: _, _, h => by cases h
  | .pr _ :: _, _, h => by cases h
  | .ir _ :: _, _, h => by cases h
theorem Ty.dec_eq : ∀ {t : Ty} {l : List Value} {x : t.den}, t.dec l = some x → t.cells x = l
  | .int k, l, x, h => by
    have h : decInt k l = some x := h
    unfold decInt at h
    split at h
    · rename_i j n
      obtain ⟨hk, h⟩ := bif_some h
      cases h
      rw [kbeq_eq hk]
      rfl
    · cases h
  | .bool, l, x, h => by
    have h : decBool l = some x := h
    unfold decBool at h
    split at h <;> first | (cases h; done) | (cases h; rfl)
  | .str, l, x, h => by
    have h : decStr l = some x := h
    unfold decStr at h
    split at h <;> first | (cases h; done) | (cases h; rfl)
  | .flt, l, x, h => by
    have h : decFlt l = some x := h
    unfold decFlt at h
    split at h <;> first | (cases h; done) | (cases h; rfl)
  | .nils, l, x, h => by
    have h : decNils l = some x := h
    unfold decNils at h
    split at h <;> first | (cases h; done) | (cases h; rfl)
  | .nile, l, x, h => by
    have h : decNile l = some x := h
    unfold decNile at h
    split at h <;> first | (cases h; done) | (cases h; rfl)
  | .one a, l, x, h => Ty.dec_eq (t := a) h
  | .pair a b, l, x, h => by
    unfold Ty.dec at h
    split at h
    · rename_i y z hy hz
      cases h
      show a.cells y ++ b.cells z = l
      rw [Ty.dec_eq hy, Ty.dec_eq hz, List.take_append_drop]
    · cases h
theorem HTy.dec_eq : ∀ {t : HTy} {l : List Cell} {x : t.den}, t.dec l = some x → t.cc x = l
  | .p t, l, x, h => by
    unfold HTy.dec at h
    split at h
    · rename_i m hm
      show (t.cells x).map .v = l
      rw [Ty.dec_eq h, vals_eq hm]
    · cases h
  | .sr, l, x, h => by
    have h : decSr l = some x := h
    unfold decSr at h
    split at h <;> first | (cases h; done) | (cases h; rfl)
  | .pr, l, x, h => by
    have h : decPr l = some x := h
    unfold decPr at h
    split at h <;> first | (cases h; done) | (cases h; rfl)
  | .ir, l, x, h => by
    have h : decIr l = some x := h
    unfold decIr at h
    split at h <;> first | (cases h; done) | (cases h; rfl)
  | .one a, l, x, h => HTy.dec_eq (t := a) h
  | .pair a b, l, x, h => by
    unfold HTy.dec at h
    split at h
    · rename_i y z hy hz
      cases h
      show a.cc y ++ b.cc z = l
      rw [HTy.dec_eq hy, HTy.dec_eq hz, List.take_append_drop]
    · cases h
theorem HTy.cc_length : ∀ (t : HTy) (x : t.den), (t.cc x).length = t.sz
  | .p t, x => by show ((t.cells x).map Cell.v).length = t.sz; rw [List.length_map, t.cells_length]
  | .sr, _ => rfl
  | .pr, _ => rfl
  | .ir, _ => rfl
  | .one a, x => a.cc_length x
  | .pair a b, x => by
    show (a.cc x.1 ++ b.cc x.2).length = a.sz + b.sz
    rw [List.length_append, a.cc_length, b.cc_length]
theorem HTy.sz_pos : ∀ (t : HTy), 0 < t.sz
  | .p t => t.sz_pos
  | .sr => Nat.one_pos
  | .pr => Nat.one_pos
  | .ir => Nat.one_pos
  | .one a => a.sz_pos
  | .pair a b => Nat.lt_of_lt_of_le a.sz_pos (Nat.le_add_right _ _)
theorem Ty.sz_basic : ∀ (t : Ty), t.isStruct = false → t.sz = 1
  | .int _, _ => rfl
  | .bool, _ => rfl
  | .str, _ => rfl
  | .flt, _ => rfl
  | .nils, _ => rfl
  | .nile, _ => rfl
  | .one _, h => by cases h
  | .pair _ _, h => by cases h
theorem HTy.sz_basic : ∀ (t : HTy), t.isStruct = false → t.sz = 1
  | .p t, h => t.sz_basic h
  | .sr, _ => rfl
  | .pr, _ => rfl
  | .ir, _ => rfl
  | .one _, h => by cases h
  | .pair _ _, h => by cases h
theorem decL_eq {t : HTy} : ∀ {n : Nat} {l : List Cell} {xs : List t.den}, decL t n l = some xs → n * t.sz ≤ l.length → l.take (n * t.sz) = (xs.map t.cc).flatten ∧ xs.length = n
  | 0, l, xs, h, _ => by cases h; simp
  | n + 1, l, xs, h, hl => by
    unfold decL at h
    split at h
    · rename_i x ys hx hys
      cases h
      rw [Nat.add_mul, Nat.one_mul] at hl ⊢
      obtain ⟨h1, h2⟩ := decL_eq hys (by rw [List.length_drop]; omega)
      refine ⟨?_, by simp [h2]⟩
      rw [List.map_cons, List.flatten_cons, ← h1, HTy.dec_eq hx, Nat.add_comm (n * t.sz), List.take_add]
    · cases h
/-! ### values -/
theorem pure_rel {η : HEnv} : ∀ {l : List Value} {m : List Value}, All2 (CellRel η) (l.map .v) m → m = l
  | [], [], _ => rfl
  | u :: l, v :: m, h => by
    rw [pure_rel (l := l) (m := m) h.2, show v = u from h.1.1]
  | [], _ :: _, h => h.elim
  | _ :: _, [], h => h.elim
theorem rel_pure {η : HEnv} : ∀ {l : List Value}, (∀ u ∈ l, u.oneCell' = true) → All2 (CellRel η) (l.map .v) l
  | [], _ => trivial
  | u :: l, h => ⟨⟨rfl, h u (by simp)⟩, rel_pure fun v hv => h v (List.mem_cons_of_mem _ hv)⟩
theorem mkv_pure (t : Ty) (x : t.den) : (HTy.p t).mkv (t.cells x) = t.val x := by
  unfold HTy.mkv
  cases h : t.isStruct with
  | true => rw [if_pos (show (HTy.p t).isStruct = true from h), t.val_struct x h]
  | false => rw [if_neg (by show ¬ t.isStruct = true; rw [h]; simp), t.cells_basic x h]; rfl
theorem hrel_p {η : HEnv} {t : Ty} {x : t.den} {V : Value} (h : HRel η (.p t) x V) : V = t.val x := by
  obtain ⟨vs, h1, rfl⟩ := h
  rw [pure_rel h1]
  exact mkv_pure t x
theorem hrel_of {η : HEnv} {t : Ty} (x : t.den) : HRel η (.p t) x (t.val x) := ⟨t.cells x, rel_pure (t.cells_one x), (mkv_pure t x).symm⟩
theorem hrel_sr {η : HEnv} {r : Rf} {V : Value} : HRel η .sr r V ↔ EncS η true r V := by
  constructor
  · rintro ⟨vs, h1, rfl⟩
    match vs, h1 with
    | [v], h1 => exact h1.1
  · intro h
    exact ⟨[V], ⟨h, trivial⟩, rfl⟩
theorem hrel_pr {η : HEnv} {p : Pf} {V : Value} : HRel η .pr p V ↔ EncP η p V := by
  constructor
  · rintro ⟨vs, h1, rfl⟩
    match vs, h1 with
    | [v], h1 => exact h1.1
  · intro h
    exact ⟨[V], ⟨h, trivial⟩, rfl⟩
theorem hrel_ir {η : HEnv} {i : If} {V : Value} : HRel η .ir i V ↔ EncI η i V := by
  constructor
  · rintro ⟨vs, h1, rfl⟩
    match vs, h1 with
    | [v], h1 => exact h1.1
  · intro h
    exact ⟨[V], ⟨h, trivial⟩, rfl⟩
theorem avOf_rel {rw : RW} {ε : Env} {t : HTy} {x : t.den} {V : Value} (h : HRel ε.hh t x V) : VRel rw ε (avOf t x) V := by
  cases t with
  | p t => exact hrel_p h
  | _ => exact h
theorem encS_one {η : HEnv} {ex : Bool} : ∀ {r : Rf} {V : Value}, EncS η ex r V → V.oneCell' = true
  | .nil, V, h => by rw [show V = _ from h]; rfl
  | .at _ _ _, V, ⟨_, _, _, _, _, _, _, h, _⟩ => by rw [h]; rfl
theorem encP_one {η : HEnv} : ∀ {p : Pf} {V : Value}, EncP η p V → V.oneCell' = true
  | .nil, V, h => by rw [show V = _ from h]; rfl
  | .at _ _, V, ⟨_, _, _, _, _, h⟩ => by rw [h]; rfl
theorem encI_one {η : HEnv} : ∀ {i : If} {V : Value}, EncI η i V → V.oneCell' = true
  | .nil, V, h => by rw [show V = _ from h]; rfl
  | .sl _ _, V, ⟨_, h, _⟩ => by rw [h]; rfl
  | .pt _ _, V, ⟨_, h, _⟩ => by rw [h]; rfl
  | .two _ _ _, V, ⟨_, _, h, _⟩ => by rw [h]; rfl
theorem cellRel_one {η : HEnv} : ∀ {c : Cell} {V : Value}, CellRel η c V → V.oneCell' = true
  | .v u, V, h => by rw [h.1]; exact h.2
  | .sr _, _, h => encS_one h
  | .pr _, _, h => encP_one h
  | .ir _, _, h => encI_one h
/-! ### the heap in a world -/
theorem own_moveX {w w' : World} {e : TypeId} {sz n : Nat} {XS : List Value} {v : Value} (h : w.ownsRow 0 e sz v n XS) (hm : ∀ g, v.ownBlock = some g → w'.heap[g]? = w.heap[g]?) : w'.ownsRow 0 e sz v n XS := by
  obtain ⟨h1, h2⟩ := h
  refine ⟨h1, ?_⟩
  rcases h2 with h2 | ⟨g, cap, cur, rfl, hg, hh, r⟩
  · exact .inl h2
  · exact .inr ⟨g, cap, cur, rfl, hg, (hm g rfl).trans hh, r⟩
theorem ObjOk.move {η : HEnv} {w w' : World} {n : Nat} {o : Obj} (h : ObjOk η w n o) (hm : ∀ b, (η.hv n).ownBlock = some b → w'.heap[b]? = w.heap[b]?) : ObjOk η w' n o := by
  cases o with
  | cells e sz cs =>
    obtain ⟨h0, m, XS, h1, h2⟩ := h
    exact ⟨h0, m, XS, own_moveX h1 hm, h2⟩
  | iter s pos =>
    obtain ⟨b, h1, h2⟩ := h
    exact ⟨b, h1, (hm b (by rw [h1]; rfl)).trans h2⟩
  | ro cs =>
    obtain ⟨h0, ⟨h1, h2⟩ | ⟨b, m, c, XS, h1, h2, h3, h4⟩⟩ := h
    · exact ⟨h0, .inl ⟨h1, h2⟩⟩
    have hb := hm b (by rw [h1]; rfl)
    refine ⟨h0, .inr ⟨b, m, c, XS, h1, ?_, h3, fun j u hu => ?_⟩⟩
    · have := hb.trans (Array.getElem?_eq_getElem h2)
      exact (Array.getElem?_eq_some_iff.1 this).1
    · rw [World.cell?_of_block (w := w) (by exact hb)]
      exact h4 j u hu
theorem ObjOk.le {η η' : HEnv} (h : η.le η') {w : World} {n : Nat} (hn : n < η.nx) {o : Obj} (k : ObjOk η w n o) : ObjOk η' w n o := by
  cases o with
  | cells e sz cs =>
    obtain ⟨h0, m, XS, h1, h2⟩ := k
    exact ⟨⟨h0.1, (h.zs n hn).trans h0.2⟩, m, XS, by rw [h.hv n hn]; exact h1, h2.mono fun _ _ => CellRel.le h⟩
  | iter s pos =>
    obtain ⟨b, h1, h2⟩ := k
    exact ⟨b, (h.hv n hn).trans h1, h2⟩
  | ro cs =>
    obtain ⟨h0, ⟨h1, h2⟩ | ⟨b, m, c, XS, h1, h2, h3, h4⟩⟩ := k
    · exact ⟨(h.zs n hn).trans h0, .inl ⟨h1, (h.hv n hn).trans h2⟩⟩
    exact ⟨(h.zs n hn).trans h0, .inr ⟨b, m, c, XS, (h.hv n hn).trans h1, h2, h3.mono fun _ _ => CellRel.le h, h4⟩⟩
theorem ObjOk.lt {η : HEnv} {w : World} {n : Nat} {o : Obj} (h : ObjOk η w n o) (b : Nat) (hb : (η.hv n).ownBlock = some b) : b < w.heap.size := by
  cases o with
  | cells e sz cs =>
    obtain ⟨_, m, XS, h1, _⟩ := h
    exact (World.ownsRow.lt h1 b hb).2
  | iter s pos =>
    obtain ⟨b', h1, h2⟩ := h
    rw [h1] at hb
    cases hb
    exact (Array.getElem?_eq_some_iff.1 h2).1
  | ro cs =>
    obtain ⟨_, ⟨_, h1⟩ | ⟨b', m, c, XS, h1, h2, _⟩⟩ := h
    · rw [h1] at hb
      cases hb
    rw [h1] at hb
    cases hb
    exact h2
theorem live_some {h : Hp} {n : Nat} (hn : h.ob n ≠ none) : ∃ o, h.ob n = some o := by
  cases e : h.ob n with
  | none => exact absurd e hn
  | some o => exact ⟨o, rfl⟩
theorem HpOk.move {η : HEnv} {w w' : World} {h : Hp} (k : HpOk η w h) (hm : ∀ n, h.ob n ≠ none → ∀ b, (η.hv n).ownBlock = some b → w'.heap[b]? = w.heap[b]?) : HpOk η w' h :=
  ⟨k.nx, fun n o ho => ⟨(k.ob n o ho).1, (k.ob n o ho).2.move (hm n (by rw [ho]; simp))⟩, k.sep⟩
/-- The heap, in a state. -/
structure HM (C : Ctx) (h : Hp) (rw : RW) (ε : Env) (w : World) : Prop where
  ok : HpOk ε.hh w h
  mine : ∀ n, h.ob n ≠ none → ∀ b, (ε.hh.hv n).ownBlock = some b → C.mine b
  rows : ∀ n, h.ob n ≠ none → ∀ b, (ε.hh.hv n).ownBlock = some b → ∀ r x, row rw r = some x → (x.own = true ∨ x.xs ≠ []) → (ε.sv r).ownBlock ≠ some b
  ge : C.h0.le ε.hh
theorem HM.lt {C : Ctx} {h : Hp} {rw : RW} {ε : Env} {w : World} (k : HM C h rw ε w) {n : Nat} (hn : h.ob n ≠ none) (b : Nat) (hb : (ε.hh.hv n).ownBlock = some b) : b < w.heap.size := by
  obtain ⟨o, ho⟩ := live_some hn
  exact (k.ok.ob n o ho).2.lt b hb
section
variable {C : Ctx} {rw rw' : RW} {ε ε' : Env} {w w' : World} {g : Nat → Option AV} {a : Act} {o : Oper} {h h' : Hp}
def Good2 (C : Ctx) (rw : RW) (ε : Env) (a : Act) (w : World) (o : Oper) (v : AV) (us : Upd) (h' : Hp) : Prop :=
  ∀ (next : Act → World → Prop) (Q : Exit → Act → World → Prop), (∀ V ε' w', VRel (updF rw us) ε' v V → Ext2 rw ε (updF rw us) ε' → Mem C (updF rw us) ε' w' → HM C h' (updF rw us) ε' w' → next (a.put o.dst V) w') → o.wp C.P a w next Q
theorem good2_pure (hM : Mem C rw ε w) (hH : HM C h rw ε w) {v : AV} {V : Value} (hr : (execOp a.eval o).run C.P w = .ok (.value V) w) (hv : VRel rw ε v V) : Good2 C rw ε a w o v [] h :=
  fun _ _ hn => wp_value hr (hn V ε w hv (Ext2.refl _ _) hM hH)
/-- The context in which the heap is out of reach. -/
def farOf (C : Ctx) (h : Hp) (ε : Env) (w : World) (V : Nat → Prop) : Ctx :=
  { C with we := w, mine := fun k => C.mine k ∧ ¬ (∃ n, h.ob n ≠ none ∧ (ε.hh.hv n).ownBlock = some k), far := fun k => C.far k ∨ ∃ n, h.ob n ≠ none ∧ (ε.hh.hv n).ownBlock = some k, vw := V }
theorem below_now (hC : CtxOk C) (hM : Mem C rw ε w) : Below C.W0.heap.size C.W0 w := hC.below.trans (hM.pres.below hC.base hC.below.size)
theorem far_ok (hC : CtxOk C) (hM : Mem C rw ε w) (hH : HM C h rw ε w) (Vw : Nat → Prop) : CtxOk (farOf C h ε w Vw) := by
  have hbl := below_now hC hM
  refine ⟨hC.tab, fun k hk => ⟨hC.new k (Nat.le_trans hM.pres.size hk), ?_⟩, fun k hk => hC.base k hk.1, hbl, fun k hk => ?_⟩
  · rintro ⟨n, hn, hb⟩
    exact absurd (hH.lt hn k hb) (Nat.not_lt.2 hk)
  · rcases hk with hk | ⟨n, hn, hb⟩
    · exact ⟨Nat.lt_of_lt_of_le (hC.far k hk).1 hM.pres.size, fun h => (hC.far k hk).2 h.1⟩
    · exact ⟨hH.lt hn k hb, fun h => h.2 ⟨n, hn, hb⟩⟩
theorem far_mem (hv : ∀ r, ¬ C.vw r) (hM : Mem C rw ε w) (hH : HM C h rw ε w) (Vw : Nat → Prop) : Mem (farOf C h ε w Vw) rw ε w := by
  refine ⟨fun r x hr => ?_, hM.sep, Pres.refl _ _, fun r x hr _ hx b hb hf => ?_⟩
  · obtain ⟨h1, h2, h3⟩ := hM.ok r x hr
    refine ⟨h1, fun ho => ⟨(h2 ho).1, fun b hb => ⟨(h2 ho).2 b hb, ?_⟩⟩, h3⟩
    rintro ⟨n, hn, hb'⟩
    exact hH.rows n hn b hb' r x hr (.inl ho) hb
  · rcases hf with hf | ⟨n, hn, hb'⟩
    · exact hM.far r x hr (hv r) hx b hb hf
    · exact hH.rows n hn b hb' r x hr hx hb
theorem far_back {Vw : Nat → Prop} (hM : Mem C rw ε w) (hH : HM C h rw ε w) (hM' : Mem (farOf C h ε w Vw) rw' ε' w') (hV : ∀ r x, row rw' r = some x → ¬ Vw r) (he : ε'.hh = ε.hh) : Mem C rw' ε' w' ∧ HM C h rw' ε' w' := by
  have hp : Pres C.mine w w' := hM'.pres.mono fun k _ hk => hk.1
  refine ⟨⟨fun r x hr => ?_, hM'.sep, hM.pres.trans hp, fun r x hr _ hx b hb hf => hM'.far r x hr (hV r x hr) hx b hb (.inl hf)⟩, ?_⟩
  · obtain ⟨h1, h2, h3⟩ := hM'.ok r x hr
    exact ⟨h1, fun ho => ⟨(h2 ho).1, fun b hb => ((h2 ho).2 b hb).1⟩, h3⟩
  · refine ⟨?_, fun n hn b hb => ?_, fun n hn b hb r x hr hx hb' => ?_, he ▸ hH.ge⟩
    · rw [he]
      refine hH.ok.move fun n hn b hb => ?_
      exact hM'.pres.block b (hH.lt hn b hb) fun hm => hm.2 ⟨n, hn, hb⟩
    · rw [he] at hb
      exact hH.mine n hn b hb
    · rw [he] at hb
      exact hM'.far r x hr (hV r x hr) hx b hb' (.inr ⟨n, hn, hb⟩)
/-- An operation that does not know the heap. -/
theorem good_lift (hM : Mem C rw ε w) (hH : HM C h rw ε w) {v : AV} {us : Upd} (hg : Good (farOf C h ε w fun _ => False) rw ε a w o v us) : Good2 C rw ε a w o v us h := by
  intro next Q hn
  refine hg next Q fun V ε' w' hV he hM' => ?_
  obtain ⟨m1, m2⟩ := far_back hM hH hM' (fun _ _ _ h => h) he.hh
  exact hn V ε' w' hV he.to2 m1 m2
end
end Go.Ev

/- Operations that know the heap: those that change nothing. -/
namespace Go.Ev
open Go.RowKit
theorem info_ofH {P : Program} {n : TypeId} {t : HTy} (h : SzH P n t) : ∃ i, P.info? n = some i ∧ i.zero = some (t.mkv t.zcells) ∧ i.size = t.sz ∧ i.bytes ≤ 140 := by
  obtain ⟨i, hi, hzz⟩ := Option.map_eq_some_iff.1 h.info
  simp only [Prod.mk.injEq] at hzz
  obtain ⟨hz, hs, _⟩ := hzz
  have hb := h.bytes
  rw [hi] at hb
  exact ⟨i, hi, hz, hs, hb⟩
theorem run_sizeOfH {P : Program} {n : TypeId} {t : HTy} (h : SzH P n t) (w : World) : (sizeOf n).run P w = .ok t.sz w := by
  obtain ⟨i, hi, _, hs, _⟩ := info_ofH h
  simp [sizeOf, typeInfo, hi, hs]
theorem run_isAggH {P : Program} {n : TypeId} {t : HTy} (h : SzH P n t) (w : World) : (isAgg n).run P w = .ok t.isStruct w := by
  obtain ⟨d, hd, ha⟩ := h.agg
  rw [← ha]
  unfold isAgg
  rw [Sem.run_bind, run_underlying hd w]
  cases d <;> rfl
theorem mkv_struct {t : HTy} {vs : List Value} (h : t.isStruct = true) : t.mkv vs = .agg vs.toArray := if_pos h
theorem mkv_one {t : HTy} {vs : List Value} (h : t.isStruct = false) (hl : vs.length = t.sz) : ∃ v, vs = [v] ∧ t.mkv vs = v := by
  rw [t.sz_basic h] at hl
  match vs, hl with
  | [v], _ => exact ⟨v, rfl, by unfold HTy.mkv; rw [if_neg (by rw [h]; simp)]; rfl⟩
theorem run_loadVarH {P : Program} {n : TypeId} {t : HTy} (h : SzH P n t) (w : World) (ad : Addr) (vs : List Value) (hl : vs.length = t.sz) (hc : ∀ j u, vs[j]? = some u → w.cell? (ad.add j) = some u) :
    (loadVar n ad).run P w = .ok (t.mkv vs) w := by
  unfold loadVar
  rw [Sem.run_bind, run_isAggH h w]
  cases hs : t.isStruct with
  | true =>
    have hld := run_loadCells_list (P := P) w ad vs hc
    rw [hl] at hld
    simp [Result.andThen, run_sizeOfH h, hld, mkv_struct hs]
  | false =>
    obtain ⟨v, rfl, hv⟩ := mkv_one hs hl
    have h0 := hc 0 v rfl
    simp only [Addr.add_zero'] at h0
    simp [Result.andThen, h0, hv]
theorem own_at {w : World} {e : TypeId} {sz m : Nat} {XS : List Value} {ad : Addr} {n c : Nat} (h : w.ownsRow 0 e sz (.slice (some ad) n c) m XS) : ∃ g', ad = ⟨g', 0, none⟩ ∧ n = m ∧ ∀ j u, XS[j]? = some u → w.cell? (ad.add j) = some u := by
  rcases h.2 with ⟨h', _⟩ | ⟨g'', cap', cur, h', _⟩
  · simp at h'
  · injection h' with h1 h2 h3
    cases h1
    exact ⟨g'', rfl, h2, fun j u hu => World.ownsRow.cells h (g := g'') rfl j u hu⟩
section
variable {C : Ctx} {rw rw' : RW} {ε ε' : Env} {w w' : World} {g : Nat → Option AV} {a : Act} {o : Oper} {h h' : Hp}
/-- An object's cells can be read. -/
theorem cl_read (hH : HM C h rw ε w) {n : Nat} {cs : List Cell} (hc : h.cl n = some cs) : ∃ A m c XS, ε.hh.hv n = .slice A m c ∧ All2 (CellRel ε.hh) cs XS ∧ (∀ j u, XS[j]? = some u → ∀ ad, A = some ad → w.cell? (ad.add j) = some u) ∧ h.ob n ≠ none := by
  unfold Hp.cl at hc
  split at hc
  · rename_i e z cs' hob
    cases hc
    obtain ⟨_, _, m', XS, hown, hrel⟩ := hH.ok.ob n _ hob
    have h2 := hown.2
    rcases h2 with ⟨h1, h0⟩ | ⟨g', cap, cur, h1, _⟩
    · refine ⟨none, 0, 0, XS, h1, hrel, fun j u hu ad hA => (by cases hA), by rw [hob]; simp⟩
    · rw [h1] at hown
      obtain ⟨g'', _, hm, hcell⟩ := own_at hown
      exact ⟨_, _, _, XS, h1, hrel, fun j u hu ad hA => by cases hA; exact hcell j u hu, by rw [hob]; simp⟩
  · rename_i cs' hob
    cases hc
    obtain ⟨_, _, ⟨rfl, h1⟩ | ⟨b, m, c, XS, h1, h2, h3, h4⟩⟩ := hH.ok.ob n _ hob
    · exact ⟨_, _, _, [], h1, trivial, fun j u hu => by simp at hu, by rw [hob]; simp⟩
    exact ⟨_, m, c, XS, h1, h3, fun j u hu ad hA => by cases hA; rw [Addr.add_lit, Nat.zero_add]; exact h4 j u hu, by rw [hob]; simp⟩
  · cases hc
/-- What is read at an address. -/
theorem ld_cells (hH : HM C h rw ε w) {t : HTy} {p : Pf} {y : t.den} (hl : h.ld t p = some y) {V : Value} (hp : EncP ε.hh p V) :
    ∃ ad vs, V = .pointer (some ad) ∧ All2 (CellRel ε.hh) (t.cc y) vs ∧ ∀ j u, vs[j]? = some u → w.cell? (ad.add j) = some u := by
  cases p with
  | nil => cases hl
  | «at» n off =>
    unfold Hp.ld at hl
    dsimp only at hl
    split at hl
    · rename_i cs hob
      obtain ⟨hle, hl⟩ := bif_some hl
      have hle := Nat.le_of_ble_eq_true hle
      obtain ⟨_, ad, m, c, hv, rfl⟩ := hp
      obtain ⟨A0, m0, c0, XS, hv0, hrel, hcell, _⟩ := cl_read hH hob
      rw [hv] at hv0
      cases hv0
      refine ⟨_, (XS.drop off).take t.sz, rfl, ?_, fun j u hu => ?_⟩
      · rw [HTy.dec_eq hl]
        exact (hrel.drop off).take t.sz
      · rw [List.getElem?_take] at hu
        split at hu
        · rw [List.getElem?_drop] at hu
          rw [Addr.add_add]
          exact hcell _ _ hu _ rfl
        · cases hu
    · cases hl
theorem good2_load (hC : CtxOk C) (hM : Mem C rw ε w) (hH : HM C h rw ε w) {s : TypeId} {x : Operand} (ho : o.op = .load s x) {t : HTy} (ht : C.T.hty s = some t) {p : Pf} (hx : HRel ε.hh .pr p (a.eval x)) {y : t.den} (hl : h.ld t p = some y) :
    Good2 C rw ε a w o (avOf t y) [] h := by
  obtain ⟨ad, vs, hV, hrel, hcell⟩ := ld_cells hH hl (hrel_pr.1 hx)
  have hlen := hrel.length
  rw [t.cc_length] at hlen
  have hr := run_loadVarH (P := C.P) (hC.tab.hty _ _ ht).1 w ad vs hlen.symm hcell
  exact good2_pure hM hH (V := t.mkv vs) (by simp [execOp, ho, hV, Instr.loadAt, Instr.sureAddr, hr, Result.andThen]) (avOf_rel ⟨vs, hrel, rfl⟩)
theorem good2_nilCheck (hM : Mem C rw ε w) (hH : HM C h rw ε w) {x : Operand} (ho : o.op = .nilCheck x) {p : Pf} (hx : HRel ε.hh .pr p (a.eval x)) (hp : pnil p = false) : Good2 C rw ε a w o (.h .pr p) [] h := by
  have hv := hrel_pr.1 hx
  cases p with
  | nil => cases hp
  | «at» n off =>
    obtain ⟨_, ad, m, c, _, hV⟩ := id hv
    exact good2_pure hM hH (V := a.eval x) (by simp [execOp, ho, hV]) hx
theorem good2_nilCheckI (hM : Mem C rw ε w) (hH : HM C h rw ε w) {x : Operand} (ho : o.op = .nilCheck x) {i : If} (hx : HRel ε.hh .ir i (a.eval x)) (hp : inil i = false) : Good2 C rw ε a w o (.h .ir i) [] h := by
  have hv := hrel_ir.1 hx
  cases i with
  | nil => cases hp
  | sl t r =>
    obtain ⟨u, hV, _⟩ := id hv
    exact good2_pure hM hH (V := a.eval x) (by simp [execOp, ho, hV]) hx
  | pt t p =>
    obtain ⟨u, hV, _⟩ := id hv
    exact good2_pure hM hH (V := a.eval x) (by simp [execOp, ho, hV]) hx
  | two t r s =>
    obtain ⟨u, v, hV, _⟩ := id hv
    exact good2_pure hM hH (V := a.eval x) (by simp [execOp, ho, hV]) hx
theorem good2_fieldAddr (hC : CtxOk C) (hM : Mem C rw ε w) (hH : HM C h rw ε w) {s : TypeId} {x : Operand} {j : Nat} (ho : o.op = .fieldAddr s x j) {t : HTy} (ht : C.T.hty s = some t) {f : HTy} (hf : t.fld j = some f) (hst : t.isStruct = true) {p : Pf} (hx : HRel ε.hh .pr p (a.eval x)) (hp : pnil p = false) :
    Good2 C rw ε a w o (.h .pr (padd (t.off j) p)) [] h := by
  have hv := hrel_pr.1 hx
  cases p with
  | nil => cases hp
  | «at» n off =>
    obtain ⟨hn, ad, m, c, hsv, hV⟩ := hv
    obtain ⟨fs, hu, hff⟩ := (hC.tab.hty _ _ ht).2.1 hst
    obtain ⟨fd, hfd, hoff, hsz⟩ := hff.1 j f hf
    have h0 := f.sz_pos
    refine good2_pure hM hH (V := .pointer (some (ad.add (off + t.off j)))) ?_ (hrel_pr.2 ⟨hn, ad, m, c, hsv, rfl⟩)
    simp [execOp, ho, hV, Instr.fieldAt, run_underlying hu, hfd, Instr.sureAddr, Result.andThen, fieldPlace, run_sizeOfH hsz, Nat.ne_of_gt h0, hoff, Addr.add_add]
theorem good2_indexAddr (hC : CtxOk C) (hM : Mem C rw ε w) (hH : HM C h rw ε w) {t : TypeId} {x i : Operand} (ho : o.op = .indexAddr t x i) {ty : HTy} {e : TypeId} (ht : C.T.hsl t = some (ty, e)) {r : Rf} (hx : HRel ε.hh .sr r (a.eval x)) {k : IntKind} {n : Int} (hi : a.eval i = .int k n) (h0 : 0 ≤ n) (h1 : n < (rlen r : Int)) :
    Good2 C rw ε a w o (.h .pr (radr ty.sz n.toNat r)) [] h := by
  have hv := hrel_sr.1 hx
  cases r with
  | nil => simp only [rlen] at h1; omega
  | «at» nm kk len =>
    obtain ⟨hn, A, m, c, A', c', hsv, hV, hlc, hne, _⟩ := hv
    have h1 : n < (len : Int) := h1
    obtain ⟨ad, rfl, rfl⟩ := hne (by omega)
    obtain ⟨hu, hs⟩ := hC.tab.hsl _ _ _ ht
    have hel := elem_eq hu
    refine good2_pure hM hH (V := .pointer (some ((ad.add kk).add (n.toNat * ty.sz)))) ?_ (hrel_pr.2 ⟨hn, ad, m, c, hsv, by rw [Addr.add_add]⟩)
    have hr := run_indexAt_slice (P := C.P) w t (ad.add kk) len c' k n (by rw [hel]; exact hu)
    rw [if_pos ⟨h0, h1⟩, hel, run_sizeOfH hs] at hr
    simp [execOp, ho, hV, hi, hr, Result.andThen]
theorem good2_len (hC : CtxOk C) (hM : Mem C rw ε w) (hH : HM C h rw ε w) {t : TypeId} {x : Operand} (ho : o.op = .call { callee := .builtin .len, args := #[x], argTypes := #[t] }) {p : HTy × TypeId} (ht : C.T.hsl t = some p) {r : Rf} {ex : Bool} (hx : EncS ε.hh ex r (a.eval x)) :
    Good2 C rw ε a w o (.v (.int .i64) (rlen r : Int)) [] h := by
  obtain ⟨hu, _⟩ := hC.tab.hsl _ p.1 p.2 ht
  have hV : ∃ A c, a.eval x = .slice A (rlen r) c := by
    cases r with
    | nil => exact ⟨none, 0, hx⟩
    | «at» n k len =>
      obtain ⟨_, A, m, c, A', c', _, hV, _⟩ := hx
      exact ⟨A', c', hV⟩
  obtain ⟨A, c, hV⟩ := hV
  have hr := run_len_slice (P := C.P) w t o.type A (rlen r) c (by rw [elem_eq hu]; exact hu)
  refine good2_pure hM hH (V := .int .i64 (rlen r)) ?_ rfl
  simp [execOp, ho, resolve, invoke, builtin, hV, hr, Result.andThen, goInt]
/-- A slice of a slice; mx: with three indices. -/
theorem run_cutH {P : Program} {t e : TypeId} {ty : HTy} (hu : P.underlying t = some (.slice e)) (hs : SzH P e ty) (A : Option Addr) (n c : Nat) (lo hi : Int) (h0 : 0 ≤ lo) (h1 : lo ≤ hi) (h2 : hi ≤ n) (hnc : n ≤ c) (L H : Option Value)
    (hL : (∃ k, L = some (.int k lo)) ∨ (L = none ∧ lo = 0)) (hH : (∃ k, H = some (.int k hi)) ∨ (H = none ∧ hi = n)) (w : World) :
    (Instr.sliceAt t (.slice A n c) L H none).run P w = .ok (.slice (if c = lo.toNat then A else A.map (·.add (lo.toNat * ty.sz))) (hi - lo).toNat (c - lo.toNat)) w := by
  have hel := elem_eq hu
  have hu' : P.underlying t = some (.slice (P.elem t)) := by rw [hel]; exact hu
  rw [run_sliceAt_slice w t _ _ _ _ hu']
  have hsz := run_sizeOfH hs w
  rw [← hel] at hsz
  have e1 : (hi - lo).toNat = hi.toNat - lo.toNat := by omega
  rcases hL with ⟨kl, rfl⟩ | ⟨rfl, rfl⟩
  · rcases hH with ⟨kh, rfl⟩ | ⟨rfl, rfl⟩
    · rw [run_slice_lh w t A n c hu' kl kh lo hi h0 h1 (by omega), hsz, e1]; rfl
    · rw [run_slice_l w t A n c hu' kl lo h0 h1, hsz, e1]; rfl
  · rcases hH with ⟨kh, rfl⟩ | ⟨rfl, rfl⟩
    · rw [run_slice_h w t A n c hu' kh hi (by omega) (by omega), hsz, e1]; rfl
    · rw [run_slice_all w t A n c hu', hsz, e1]; rfl
theorem good2_slice (hC : CtxOk C) (hM : Mem C rw ε w) (hH : HM C h rw ε w) {t : TypeId} {x : Operand} {L H : Option Operand} (ho : o.op = .slice t x L H none) {ty : HTy} {e : TypeId} (ht : C.T.hsl t = some (ty, e)) {r : Rf} (hx : HRel ε.hh .sr r (a.eval x)) {lo hi : Int} (h0 : 0 ≤ lo) (h1 : lo ≤ hi) (h2 : hi ≤ (rlen r : Int))
    (hL : (∃ k, L.map a.eval = some (.int k lo)) ∨ (L.map a.eval = none ∧ lo = 0)) (hHi : (∃ k, H.map a.eval = some (.int k hi)) ∨ (H.map a.eval = none ∧ hi = (rlen r : Int))) :
    Good2 C rw ε a w o (.h .sr (rcut ty.sz lo.toNat hi.toNat r)) [] h := by
  obtain ⟨hu, hs⟩ := hC.tab.hsl _ _ _ ht
  have hv := hrel_sr.1 hx
  cases r with
  | nil =>
    have hV : a.eval x = .slice none 0 0 := hv
    have h2 : hi ≤ 0 := h2
    have hr := run_cutH hu hs none 0 0 lo hi h0 h1 h2 (Nat.le_refl _) _ _ hL hHi w
    obtain rfl : lo = 0 := by omega
    obtain rfl : hi = 0 := by omega
    exact good2_pure hM hH (V := .slice none 0 0) (by simp [execOp, ho, hV, hr, Result.andThen]) (hrel_sr.2 rfl)
  | «at» n k len =>
    obtain ⟨hn, A, m, c, A', c', hsv, hV, hlc, hne, hex⟩ := hv
    have h2 : hi ≤ (len : Int) := h2
    have hr := run_cutH hu hs A' len c' lo hi h0 h1 h2 hlc _ _ hL hHi w
    refine good2_pure hM hH (V := .slice (if c' = lo.toNat then A' else A'.map (·.add (lo.toNat * ty.sz))) (hi - lo).toNat (c' - lo.toNat)) (by simp [execOp, ho, hV, hr, Result.andThen]) (hrel_sr.2 ?_)
    have e1 : (hi - lo).toNat = hi.toNat - lo.toNat := by omega
    refine ⟨hn, A, m, c, _, _, hsv, by rw [e1], by omega, fun hlt => ?_, fun he => ⟨fun hz0 hz => ?_, fun hz1 => ?_⟩⟩
    · obtain ⟨ad, hA, hA'⟩ := hne (by omega)
      refine ⟨ad, hA, ?_⟩
      rw [if_neg (by omega), hA']
      simp only [Option.map_some]
      rw [Addr.add_add]
    · have hsz := ty.sz_pos
      have hz1 : k = 0 ∧ lo.toNat * ty.sz = 0 := by omega
      have hz2 : lo.toNat = 0 := by
        rcases Nat.mul_eq_zero.1 hz1.2 with h | h
        · exact h
        · omega
      obtain ⟨e2, e3⟩ := (hex rfl).1 hz0 hz1.1
      rw [hz2]
      subst e2; subst e3
      simp only [Nat.zero_mul, Nat.sub_zero, and_true]
      split
      · rfl
      · cases A' <;> simp [Addr.add]
    · obtain ⟨q, hq, hqc, had⟩ := (hex rfl).2 hz1
      have hsz := ty.sz_pos
      have hmul : lo.toNat * 1 ≤ lo.toNat * ty.sz := Nat.mul_le_mul_left _ hsz
      refine ⟨q + lo.toNat, by omega, by omega, fun ad hA hc => ?_⟩
      rw [if_neg (by omega), had ad hA (by omega)]
      simp only [Option.map_some]
      rw [Addr.add_add]
theorem good2_field (hC : CtxOk C) (hM : Mem C rw ε w) (hH : HM C h rw ε w) {s : TypeId} {x : Operand} {j : Nat} (ho : o.op = .field s x j) {t : HTy} (ht : C.T.hty s = some t) (hst : t.isStruct = true) {f : HTy} (hf : t.fld j = some f) {v : t.den} (hx : HRel ε.hh t v (a.eval x)) (hg : ∃ y : f.den, t.get j v = ⟨f, y⟩ ∧ f.cc y = ((t.cc v).drop (t.off j)).take f.sz) :
    Good2 C rw ε a w o (avOf (t.get j v).1 (t.get j v).2) [] h := by
  obtain ⟨fs, hu, hff⟩ := (hC.tab.hty _ _ ht).2.1 hst
  obtain ⟨fd, hfd, hoff, hsz⟩ := hff.1 j f hf
  obtain ⟨y, hy, hcc⟩ := hg
  obtain ⟨vs, hrel, hV⟩ := hx
  rw [mkv_struct hst] at hV
  have hrel' : All2 (CellRel ε.hh) (f.cc y) ((vs.drop (t.off j)).take f.sz) := by
    rw [hcc]
    exact (hrel.drop _).take _
  have hl : ((vs.drop (t.off j)).take f.sz).length = f.sz := by rw [← hrel'.length, f.cc_length]
  rw [hy]
  refine good2_pure hM hH (V := f.mkv ((vs.drop (t.off j)).take f.sz)) ?_ (avOf_rel ⟨_, hrel', rfl⟩)
  have hpart : (part fd.type vs.toArray fd.offset).run C.P w = .ok (f.mkv ((vs.drop (t.off j)).take f.sz)) w := by
    unfold part
    rw [Sem.run_bind, run_isAggH hsz w]
    cases hs : f.isStruct with
    | true =>
      simp [Result.andThen, run_sizeOfH hsz, mkv_struct hs, hoff]
    | false =>
      obtain ⟨v, hv, hv'⟩ := mkv_one hs hl
      rw [hv']
      have : vs[t.off j]? = some v := by
        have := congrArg (fun l => l[0]?) hv
        simp only [List.getElem?_take, List.getElem?_drop] at this
        rw [if_pos (by have := f.sz_pos; omega)] at this
        simpa using this
      simp [Result.andThen, hoff, this]
  simp [execOp, ho, hV, Instr.field, run_underlying hu, hfd, asAgg, Result.andThen, hpart]
theorem HTy.get_cc : ∀ (t : HTy) (j : Nat) (x : t.den) (f : HTy), t.fld j = some f → ∃ y : f.den, t.get j x = ⟨f, y⟩ ∧ f.cc y = ((t.cc x).drop (t.off j)).take f.sz
  | .p t, j, x, f, h => by
    have h : (match t.fld j with | some s => some (HTy.p s) | none => none) = some f := h
    split at h
    · rename_i s hs
      cases h
      have e := t.fld_get j x s hs
      have hc := t.get_cells j x s hs
      show ∃ y : s.den, (⟨.p (t.get j x).1, (t.get j x).2⟩ : (s : HTy) × s.den) = _ ∧ _
      generalize t.get j x = q at e hc
      obtain ⟨q1, q2⟩ := q
      obtain rfl : q1 = s := e
      refine ⟨q2, rfl, ?_⟩
      show (q1.cells q2).map Cell.v = (((t.cells x).map Cell.v).drop (t.off j)).take q1.sz
      rw [← List.map_drop, ← List.map_take, ← hc]
    · cases h
  | .sr, _, _, _, h => by cases h
  | .pr, _, _, _, h => by cases h
  | .ir, _, _, _, h => by cases h
  | .one a, 0, x, f, h => by
    cases h
    refine ⟨x, rfl, ?_⟩
    show a.cc x = ((a.cc x).drop 0).take a.sz
    rw [List.drop_zero, ← a.cc_length x, List.take_length]
  | .one a, j + 1, x, f, h => by cases h
  | .pair a b, 0, x, f, h => by
    cases h
    refine ⟨x.1, rfl, ?_⟩
    show a.cc x.1 = ((a.cc x.1 ++ b.cc x.2).drop 0).take a.sz
    rw [List.drop_zero, ← a.cc_length x.1, List.take_left']
    rfl
  | .pair a b, j + 1, x, f, h => by
    obtain ⟨y, h1, h2⟩ := b.get_cc j x.2 f h
    refine ⟨y, h1, ?_⟩
    show f.cc y = ((a.cc x.1 ++ b.cc x.2).drop (a.sz + b.off j)).take f.sz
    rw [h2, ← a.cc_length x.1, ← List.drop_drop, List.drop_left']
    rfl
theorem HTy.fld_struct : ∀ {t : HTy} {j : Nat} {f : HTy}, t.fld j = some f → t.isStruct = true
  | .p t, j, f, h => by
    have h : (match t.fld j with | some s => some (HTy.p s) | none => none) = some f := h
    split at h
    · rename_i s hs
      show t.isStruct = true
      cases t <;> first | (cases hs; done) | rfl
    · cases h
  | .sr, _, _, h => by cases h
  | .pr, _, _, h => by cases h
  | .ir, _, _, h => by cases h
  | .one _, _, _, _ => rfl
  | .pair _ _, _, _, _ => rfl
theorem HTy.off_sz : ∀ (t : HTy) (j : Nat) (f : HTy), t.fld j = some f → t.off j + f.sz ≤ t.sz
  | .p t, j, f, h => by
    have h : (match t.fld j with | some s => some (HTy.p s) | none => none) = some f := h
    split at h
    · rename_i s hs
      cases h
      exact t.off_sz j s hs
    · cases h
  | .sr, _, _, h => by cases h
  | .pr, _, _, h => by cases h
  | .ir, _, _, h => by cases h
  | .one a, 0, f, h => by cases h; show 0 + a.sz ≤ a.sz; omega
  | .one a, j + 1, f, h => by cases h
  | .pair a b, 0, f, h => by cases h; show 0 + a.sz ≤ a.sz + b.sz; omega
  | .pair a b, j + 1, f, h => by
    have := b.off_sz j f h
    show a.sz + b.off j + f.sz ≤ a.sz + b.sz
    omega
/-! ### nil -/
theorem exec_eql {xt : TypeId} {x y : Operand} {t : TypeId} {op : BinOp} (ho : o.op = .binOp op xt x y t) (P : Program) (w : World) {V : Value} (hr : (do eqGuard op xt x y (a.eval x) (a.eval y); binOp op xt (a.eval x) (a.eval y)).run P w = .ok V w) : (execOp a.eval o).run P w = .ok (.value V) w := by
  have he : execOp a.eval o = (do pure (Next.value (← (do eqGuard op xt x y (a.eval x) (a.eval y); binOp op xt (a.eval x) (a.eval y)))) : Sem Next) := by
    unfold execOp
    rw [ho]
  rw [he, Sem.run_bind, hr]
  rfl
def nilV : Value → Value → Option Bool
  | .slice none _ _, .slice b _ _ => some b.isNone
  | .slice _ _ _, .slice none _ _ => some false
  | .pointer none, .pointer b => some b.isNone
  | .pointer _, .pointer none => some false
  | .iface _ _, .nilIface => some false
  | .nilIface, .iface _ _ => some false
  | _, _ => none
theorem run_nilV {P : Program} {n : TypeId} {u v : Value} {c : Bool} (h : nilV u v = some c) (hu : (∃ A n c, u = .slice A n c) → ∃ e, P.underlying n = some (.slice e)) (hp : (∃ A, u = .pointer A) → ∃ e, P.underlying n = some (.pointer e)) (hi : (u = .nilIface ∨ ∃ t x, u = .iface t x) → ∃ ms, P.underlying n = some (.interface ms)) (d : Nat) (w : World) :
    (Op.equalIn (d + 1) n u v).run P w = .ok c w := by
  unfold nilV at h
  split at h
  · obtain ⟨e, he⟩ := hu ⟨_, _, _, rfl⟩
    cases h
    simp [Op.equalIn, run_underlying he, Result.andThen]
  · rename_i A _ _ _ _
    obtain ⟨e, he⟩ := hu ⟨_, _, _, rfl⟩
    cases h
    cases A <;> simp_all [Op.equalIn, run_underlying he, Result.andThen]
  · obtain ⟨e, he⟩ := hp ⟨_, rfl⟩
    cases h
    simp [Op.equalIn, run_underlying he, Result.andThen]
  · rename_i A _
    obtain ⟨e, he⟩ := hp ⟨_, rfl⟩
    cases h
    cases A <;> simp_all [Op.equalIn, run_underlying he, Result.andThen]
  · obtain ⟨e, he⟩ := hi (.inr ⟨_, _, rfl⟩)
    cases h
    simp [Op.equalIn, run_underlying he, Result.andThen]
  · obtain ⟨e, he⟩ := hi (.inl rfl)
    cases h
    simp [Op.equalIn, run_underlying he, Result.andThen]
  · cases h
def nilOf : Value → Bool
  | .slice none _ _ => true
  | .pointer none => true
  | .nilIface => true
  | _ => false
def nilKind : Value → Bool
  | .slice _ _ _ => true
  | .pointer _ => true
  | .nilIface => true
  | .iface _ _ => true
  | _ => false
/-- nil held against a value: what the comparison says. -/
theorem run_nilEq {P : Program} {xt : TypeId} {x y : Operand} {u v : Value} {c : Bool} (hc : nilV u v = some c) (hcon : isC x = true ∨ isC y = true) (hun : (∃ A n c, u = .slice A n c) → ∃ e, P.underlying xt = some (.slice e)) (hp : (∃ A, u = .pointer A) → ∃ e, P.underlying xt = some (.pointer e)) (hi : (u = .nilIface ∨ ∃ t x, u = .iface t x) → ∃ ms, P.underlying xt = some (.interface ms)) (w : World) :
    (do eqGuard .eql xt x y u v; binOp .eql xt u v).run P w = .ok (.bool c) w ∧ (do eqGuard .neq xt x y u v; binOp .neq xt u v).run P w = .ok (.bool (!c)) w := by
  have hr := run_nilV hc hun hp hi 9999 w
  have hr : (Op.equal xt u v).run P w = .ok c w := hr
  unfold nilV at hc
  constructor
  all_goals
    split at hc <;> first
      | (cases hc; done)
      | (simp [eqGuard, binOp, hr, Result.andThen])
end
end Go.Ev

/- How the heap changes. -/
namespace Go.Ev
open Go.RowKit
def HEnv.push (η : HEnv) (V : Value) (z : Nat) : HEnv := ⟨η.nx + 1, fun n => if n = η.nx then V else η.hv n, fun n => if n = η.nx then z else η.zs n⟩
theorem HEnv.push_le (η : HEnv) (V : Value) (z : Nat) : η.le (η.push V z) := ⟨Nat.le_succ _, fun n hn => if_neg (by omega), fun n hn => if_neg (by omega)⟩
theorem HEnv.push_new (η : HEnv) (V : Value) (z : Nat) : (η.push V z).hv η.nx = V := if_pos rfl
theorem HEnv.push_zs (η : HEnv) (V : Value) (z : Nat) : (η.push V z).zs η.nx = z := if_pos rfl
def Env.withH (ε : Env) (η : HEnv) : Env := ⟨ε.sv, ε.ty, η⟩
section
variable {C : Ctx} {rw rw' : RW} {ε ε' : Env} {w w' : World} {g : Nat → Option AV} {a : Act} {o : Oper} {h h' : Hp}
theorem Mem.withH (hM : Mem C rw ε w) (η : HEnv) : Mem C rw (ε.withH η) w := ⟨fun r x hr => ⟨(hM.ok r x hr).ty, (hM.ok r x hr).own, (hM.ok r x hr).read⟩, hM.sep, hM.pres, hM.far⟩
theorem ext_withH {η : HEnv} (h : ε.hh.le η) : Ext2 rw ε rw (ε.withH η) := ⟨fun _ h => h, fun _ _ => rfl, fun _ _ => rfl, h⟩
theorem hm_step (hC : CtxOk C) (hM : Mem C rw ε w) (hH : HM C h rw ε w) {η : HEnv} (hle : ε.hh.le η) {may : Nat → Prop} (hp : Pres may w w') (hmine : ∀ k, k < w.heap.size → may k → C.mine k)
    (hrow : ∀ r x, row rw r = some x → (x.own = true ∨ x.xs ≠ []) → ∀ b, (ε.sv r).ownBlock = some b → ¬ may b) (nx : h'.nx = η.nx) {N : Nat → Prop}
    (hold : ∀ n o, h'.ob n = some o → ¬ N n → h.ob n = some o ∧ ∀ b, (ε.hh.hv n).ownBlock = some b → ¬ may b)
    (hnew : ∀ n o, h'.ob n = some o → N n → n < η.nx ∧ ObjOk η w' n o ∧ ∀ b, (η.hv n).ownBlock = some b → may b ∨ w.heap.size ≤ b)
    (hsep : ∀ n m, N n → N m → n = m) : Mem C rw (ε.withH η) w' ∧ HM C h' rw (ε.withH η) w' := by
  have rlt : ∀ r x, row rw r = some x → (x.own = true ∨ x.xs ≠ []) → ∀ b, (ε.sv r).ownBlock = some b → b < w.heap.size := by
    intro r x hr hx b hb
    have hok := hM.ok r x hr
    rcases hx with hx | hx
    · exact own_ltG (hok.own hx).1 b hb
    · exact hok.read.lt hx b hb
  have hM' : Mem C rw ε w' := mem_step hC hM (N := fun _ => False) hp hmine (fun r x hr _ => ⟨hr, rfl, rfl, fun hx b hb => hrow r x hr hx b hb⟩) (fun _ _ _ h => h.elim) (fun _ _ _ _ _ _ h => h.elim)
  have hvo : ∀ n o, h'.ob n = some o → ¬ N n → η.hv n = ε.hh.hv n := fun n o ho hn => hle.hv n (hH.ok.ob n o (hold n o ho hn).1).1
  refine ⟨hM'.withH η, ⟨⟨nx, fun n o ho => ?_, fun n m hn hm hne b hb => ?_⟩, fun n hn b hb => ?_, fun n hn b hb r x hr hx hb' => ?_, hH.ge.trans hle⟩⟩
  · by_cases hN : N n
    · exact ⟨(hnew n o ho hN).1, (hnew n o ho hN).2.1⟩
    · obtain ⟨k1, k2⟩ := hold n o ho hN
      obtain ⟨k3, k4⟩ := hH.ok.ob n o k1
      refine ⟨Nat.lt_of_lt_of_le k3 hle.nx, ObjOk.le hle k3 (k4.move fun b hb => hp.block b (k4.lt b hb) (k2 b hb))⟩
  · obtain ⟨on, hon⟩ := live_some hn
    obtain ⟨om, hom⟩ := live_some hm
    show (η.hv m).ownBlock ≠ some b
    have hb : (η.hv n).ownBlock = some b := hb
    by_cases hN : N n <;> by_cases hN' : N m
    · exact absurd (hsep n m hN hN') hne
    · obtain ⟨k1, k2⟩ := hold m om hom hN'
      rw [hvo m om hom hN']
      intro hb'
      rcases (hnew n on hon hN).2.2 b hb with h1 | h1
      · exact k2 b hb' h1
      · have := (hH.ok.ob m om k1).2.lt b hb'
        omega
    · obtain ⟨k1, k2⟩ := hold n on hon hN
      rw [hvo n on hon hN] at hb
      intro hb'
      rcases (hnew m om hom hN').2.2 b hb' with h1 | h1
      · exact k2 b hb h1
      · have := (hH.ok.ob n on k1).2.lt b hb
        omega
    · obtain ⟨k1, k2⟩ := hold n on hon hN
      obtain ⟨l1, l2⟩ := hold m om hom hN'
      rw [hvo n on hon hN] at hb
      rw [hvo m om hom hN']
      exact hH.ok.sep n m (by rw [k1]; simp) (by rw [l1]; simp) hne b hb
  · obtain ⟨on, hon⟩ := live_some hn
    have hb : (η.hv n).ownBlock = some b := hb
    by_cases hN : N n
    · rcases (hnew n on hon hN).2.2 b hb with h1 | h1
      · by_cases hlt : b < w.heap.size
        · exact hmine b hlt h1
        · exact hC.new b (Nat.le_trans hM.pres.size (Nat.not_lt.1 hlt))
      · exact hC.new b (Nat.le_trans hM.pres.size h1)
    · obtain ⟨k1, k2⟩ := hold n on hon hN
      rw [hvo n on hon hN] at hb
      exact hH.mine n (by rw [k1]; simp) b hb
  · obtain ⟨on, hon⟩ := live_some hn
    have hb : (η.hv n).ownBlock = some b := hb
    have hb' : (ε.sv r).ownBlock = some b := hb'
    by_cases hN : N n
    · rcases (hnew n on hon hN).2.2 b hb with h1 | h1
      · exact hrow r x hr hx b hb' h1
      · have := rlt r x hr hx b hb'
        omega
    · obtain ⟨k1, k2⟩ := hold n on hon hN
      rw [hvo n on hon hN] at hb
      exact hH.rows n (by rw [k1]; simp) b hb r x hr hx hb'
theorem push_ob {o : Obj} {n : Nat} : (h.push o).ob n = if n = h.nx then some o else h.ob n := by
  show (bif Nat.beq n h.nx then some o else h.ob n) = _
  by_cases e : n = h.nx
  · rw [if_pos e, e, Nat.beq_refl]; rfl
  · rw [if_neg e]
    cases hb : Nat.beq n h.nx with
    | true => exact absurd (Nat.eq_of_beq_eq_true hb) e
    | false => rfl
theorem set_ob {o : Option Obj} {n m : Nat} : (h.set n o).ob m = if m = n then o else h.ob m := by
  show (bif Nat.beq m n then o else h.ob m) = _
  by_cases e : m = n
  · rw [if_pos e, e, Nat.beq_refl]; rfl
  · rw [if_neg e]
    cases hb : Nat.beq m n with
    | true => exact absurd (Nat.eq_of_beq_eq_true hb) e
    | false => rfl
/-- A new object in a new block. -/
theorem hm_push (hC : CtxOk C) (hM : Mem C rw ε w) (hH : HM C h rw ε w) {o : Obj} {V : Value} {z : Nat} (hp : Pres (fun _ => False) w w') (hb : ∀ b, V.ownBlock = some b → w.heap.size ≤ b) (hok : ObjOk (ε.hh.push V z) w' ε.hh.nx o) :
    Mem C rw (ε.withH (ε.hh.push V z)) w' ∧ HM C (h.push o) rw (ε.withH (ε.hh.push V z)) w' := by
  refine hm_step hC hM hH (HEnv.push_le _ _ _) hp (fun _ _ h => h.elim) (fun _ _ _ _ _ _ h => h) (by show h.nx + 1 = ε.hh.nx + 1; rw [hH.ok.nx]) (N := fun n => n = h.nx) (fun n q hq hN => ?_) (fun n q hq hN => ?_) (fun n m hn hm => hn.trans hm.symm)
  · have hN : n ≠ h.nx := hN
    rw [push_ob, if_neg hN] at hq
    exact ⟨hq, fun _ _ h => h⟩
  · have hN : n = h.nx := hN
    subst hN
    rw [push_ob, if_pos rfl] at hq
    cases hq
    rw [hH.ok.nx]
    refine ⟨Nat.lt_succ_self _, hok, fun b hb' => ?_⟩
    rw [HEnv.push_new] at hb'
    exact .inr (hb b hb')
/-- An object is written into. -/
theorem hm_set (hC : CtxOk C) (hM : Mem C rw ε w) (hH : HM C h rw ε w) {n : Nat} {q q' : Obj} (hob : h.ob n = some q) (hp : Pres (fun k => some k = (ε.hh.hv n).ownBlock) w w') (hok : ObjOk ε.hh w' n q') :
    Mem C rw (ε.withH ε.hh) w' ∧ HM C (h.set n (some q')) rw (ε.withH ε.hh) w' := by
  have hl : h.ob n ≠ none := by rw [hob]; simp
  refine hm_step hC hM hH (HEnv.le.refl _) hp (fun k _ hk => hH.mine n hl k hk.symm) (fun r x hr hx b hb hm => hH.rows n hl b hm.symm r x hr hx hb) hH.ok.nx (N := fun m => m = n) (fun m y hz hN => ?_) (fun m y hz hN => ?_) (fun n m hn hm => hn.trans hm.symm)
  · have hN : m ≠ n := hN
    rw [set_ob, if_neg hN] at hz
    exact ⟨hz, fun b hb hm => hH.ok.sep m n (by rw [hz]; simp) hl hN b hb hm.symm⟩
  · have hN : m = n := hN
    subst hN
    rw [set_ob, if_pos rfl] at hz
    cases hz
    exact ⟨(hH.ok.ob m q hob).1, hok, fun b hb => .inl hb.symm⟩
/-- An object gives its place to a new one. -/
theorem hm_over (hC : CtxOk C) (hM : Mem C rw ε w) (hH : HM C h rw ε w) {n : Nat} {q q' : Obj} {V : Value} {z : Nat} (hob : h.ob n = some q) (hp : Pres (fun k => some k = (ε.hh.hv n).ownBlock) w w') (hb : ∀ b, V.ownBlock = some b → some b = (ε.hh.hv n).ownBlock ∨ w.heap.size ≤ b) (hok : ObjOk (ε.hh.push V z) w' ε.hh.nx q') :
    Mem C rw (ε.withH (ε.hh.push V z)) w' ∧ HM C ((h.set n none).push q') rw (ε.withH (ε.hh.push V z)) w' := by
  have hl : h.ob n ≠ none := by rw [hob]; simp
  have hnx : (h.set n none).nx = h.nx := rfl
  refine hm_step hC hM hH (HEnv.push_le _ _ _) hp (fun k _ hk => hH.mine n hl k hk.symm) (fun r x hr hx b hb hm => hH.rows n hl b hm.symm r x hr hx hb) (by show h.nx + 1 = ε.hh.nx + 1; rw [hH.ok.nx]) (N := fun m => m = h.nx) (fun m y hz hN => ?_) (fun m y hz hN => ?_) (fun n m hn hm => hn.trans hm.symm)
  · have hN : m ≠ h.nx := hN
    rw [push_ob, hnx, if_neg hN, set_ob] at hz
    split at hz
    · cases hz
    · rename_i hmn
      exact ⟨hz, fun b hb hm => hH.ok.sep m n (by rw [hz]; simp) hl hmn b hb hm.symm⟩
  · have hN : m = h.nx := hN
    subst hN
    rw [push_ob, hnx, if_pos rfl] at hz
    cases hz
    rw [hH.ok.nx]
    refine ⟨Nat.lt_succ_self _, hok, fun b hb' => ?_⟩
    rw [HEnv.push_new] at hb'
    exact (hb b hb').imp (fun h => h) id
/-! ### rows that go to the heap -/
theorem new_cells (t : Ty) (xs : List t.den) : (xs.map (HTy.p t).cc).flatten = (cellsL t xs).map .v := by
  induction xs with
  | nil => rfl
  | cons x xs ih =>
    rw [List.map_cons, List.flatten_cons, cellsL_cons, List.map_append, ih]
    rfl
theorem row_gone (rw : RW) (r n : Nat) : row (fun m => if m = r then some none else rw m) n = if n = r then none else row rw n := by
  unfold row
  by_cases h : n = r <;> simp [h]
theorem heapify_ok (hM : Mem C rw ε w) (hH : HM C h rw ε w) {r : Nat} {y : Row} (hr : row rw r = some y) (ho : y.own = true) :
    Mem C (fun m => if m = r then some none else rw m) (ε.withH (ε.hh.push (ε.sv r) y.t.sz)) w ∧ HM C (h.new y.e (.p y.t) y.xs) (fun m => if m = r then some none else rw m) (ε.withH (ε.hh.push (ε.sv r) y.t.sz)) w ∧
      Ext2 rw ε (fun m => if m = r then some none else rw m) (ε.withH (ε.hh.push (ε.sv r) y.t.sz)) := by
  have hle := HEnv.push_le ε.hh (ε.sv r) y.t.sz
  have hrows : ∀ n x, row (fun m => if m = r then some none else rw m) n = some x → n ≠ r ∧ row rw n = some x := by
    intro n x hn
    rw [row_gone] at hn
    split at hn
    · cases hn
    · rename_i h; exact ⟨h, hn⟩
  have hvo : ∀ n, n < ε.hh.nx → (ε.hh.push (ε.sv r) y.t.sz).hv n = ε.hh.hv n := hle.hv
  obtain ⟨hown, hmine⟩ := (hM.ok r y hr).own ho
  have hobj : ObjOk (ε.hh.push (ε.sv r) y.t.sz) w ε.hh.nx (.cells y.e y.t.sz (y.xs.map (HTy.p y.t).cc).flatten) := by
    refine ⟨⟨y.t.sz_pos, HEnv.push_zs _ _ _⟩, y.xs.length, cellsL y.t y.xs, ?_, ?_⟩
    · rw [HEnv.push_new]
      exact hown
    · rw [new_cells]
      exact rel_pure (cellsL_one _ _)
  have hn : ∀ n q, (h.new y.e (.p y.t) y.xs).ob n = some q → (n = ε.hh.nx ∧ q = .cells y.e y.t.sz (y.xs.map (HTy.p y.t).cc).flatten) ∨ (n ≠ ε.hh.nx ∧ h.ob n = some q) := by
    intro n q hq
    unfold Hp.new at hq
    rw [push_ob] at hq
    rw [← hH.ok.nx]
    split at hq
    · rename_i e
      cases hq
      exact .inl ⟨e, rfl⟩
    · rename_i e
      exact .inr ⟨e, hq⟩
  refine ⟨⟨fun n x hx => ?_, fun n x n' x' hx hxo hx' hne hxo' => ?_, hM.pres, fun n x hx hv => ?_⟩, ⟨⟨?_, fun n q hq => ?_, fun n m hn' hm' hne b hb => ?_⟩, fun n hn' b hb => ?_, fun n hn' b hb r' x hx hxo hb' => ?_, hH.ge.trans hle⟩, ⟨fun n hn' => ?_, fun _ _ => rfl, fun _ _ => rfl, hle⟩⟩
  · obtain ⟨_, hx⟩ := hrows n x hx
    exact ⟨(hM.ok n x hx).ty, (hM.ok n x hx).own, (hM.ok n x hx).read⟩
  · exact hM.sep n x n' x' (hrows n x hx).2 hxo (hrows n' x' hx').2 hne hxo'
  · exact hM.far n x (hrows n x hx).2 hv
  · show h.nx + 1 = ε.hh.nx + 1
    rw [hH.ok.nx]
  · show n < ε.hh.nx + 1 ∧ ObjOk (ε.hh.push (ε.sv r) y.t.sz) w n q
    rcases hn n q hq with ⟨rfl, rfl⟩ | ⟨_, h1⟩
    · exact ⟨Nat.lt_succ_self _, hobj⟩
    · obtain ⟨k1, k2⟩ := hH.ok.ob n q h1
      exact ⟨Nat.lt_succ_of_lt k1, ObjOk.le hle k1 k2⟩
  · obtain ⟨on, hon⟩ := live_some hn'
    obtain ⟨om, hom⟩ := live_some hm'
    have hb : ((ε.hh.push (ε.sv r) y.t.sz).hv n).ownBlock = some b := hb
    show ((ε.hh.push (ε.sv r) y.t.sz).hv m).ownBlock ≠ some b
    rcases hn n on hon with ⟨e1, _⟩ | ⟨e1, h1⟩ <;> rcases hn m om hom with ⟨e2, _⟩ | ⟨e2, h2⟩
    · exact absurd (e1.trans e2.symm) hne
    · rw [e1, HEnv.push_new] at hb
      rw [hvo m (hH.ok.ob m om h2).1]
      exact fun hb' => hH.rows m (by rw [h2]; simp) b hb' r y hr (.inl ho) hb
    · rw [hvo n (hH.ok.ob n on h1).1] at hb
      rw [e2, HEnv.push_new]
      exact hH.rows n (by rw [h1]; simp) b hb r y hr (.inl ho)
    · rw [hvo n (hH.ok.ob n on h1).1] at hb
      rw [hvo m (hH.ok.ob m om h2).1]
      exact hH.ok.sep n m (by rw [h1]; simp) (by rw [h2]; simp) hne b hb
  · obtain ⟨on, hon⟩ := live_some hn'
    have hb : ((ε.hh.push (ε.sv r) y.t.sz).hv n).ownBlock = some b := hb
    rcases hn n on hon with ⟨e1, _⟩ | ⟨e1, h1⟩
    · rw [e1, HEnv.push_new] at hb
      exact hmine b hb
    · rw [hvo n (hH.ok.ob n on h1).1] at hb
      exact hH.mine n (by rw [h1]; simp) b hb
  · obtain ⟨on, hon⟩ := live_some hn'
    obtain ⟨hne, hx⟩ := hrows r' x hx
    have hb : ((ε.hh.push (ε.sv r) y.t.sz).hv n).ownBlock = some b := hb
    have hb' : (ε.sv r').ownBlock = some b := hb'
    rcases hn n on hon with ⟨e1, _⟩ | ⟨e1, h1⟩
    · rw [e1, HEnv.push_new] at hb
      exact hM.sep r y r' x hr ho hx (Ne.symm hne) hxo b hb hb'
    · rw [hvo n (hH.ok.ob n on h1).1] at hb
      exact hH.rows n (by rw [h1]; simp) b hb r' x hx hxo hb'
  · show (if n = r then some none else rw n) ≠ none
    split
    · simp
    · exact hn'
/-- What tells of the row tells of the object. -/
theorem heapify_sl (hM : Mem C rw ε w) {r : Nat} {y : Row} (hr : row rw r = some y) : EncS (ε.hh.push (ε.sv r) y.t.sz) true (.at ε.hh.nx 0 y.xs.length) (ε.sv r) := by
  obtain ⟨A, c, hv, hc, hcell⟩ := row_slice hM hr
  refine ⟨Nat.lt_succ_self _, A, y.xs.length, c, A, c, by rw [HEnv.push_new]; exact hv, hv, hc, fun hl => ?_, Cap.whole⟩
  obtain ⟨ad, hA, _⟩ := hcell 0 hl
  exact ⟨ad, hA, by rw [hA, Addr.add_zero']⟩
theorem heapify_cut (hM : Mem C rw ε w) {r : Nat} {y : Row} (hr : row rw r = some y) {p : Bool} {lo hi : Int} {V : Value} (hv : VRel rw ε (.cut r p lo hi) V) : EncS (ε.hh.push (ε.sv r) y.t.sz) true (.at ε.hh.nx (lo.toNat * y.t.sz) (hi - lo).toNat) V := by
  obtain ⟨_, A, n, c, A', c', hsv, hnc, hV, h0, h1, h2, h3, hne, hz, _, hcc, hca⟩ := hv
  refine ⟨Nat.lt_succ_self _, A, n, c, A', c', by rw [HEnv.push_new]; exact hsv, hV, h3, fun hl => ?_, fun _ => ⟨fun _ hk => ?_, fun _ => ⟨lo.toNat, ?_, hcc, fun ad hA hc => ?_⟩⟩⟩
  · obtain ⟨ad, hA, hA'⟩ := hne (by omega)
    rw [(hM.ok r y hr).ty] at hA'
    exact ⟨ad, hA, hA'⟩
  · have := y.t.sz_pos
    rcases Nat.mul_eq_zero.1 hk with h | h
    · exact hz (by omega)
    · omega
  · have hmul : lo.toNat * 1 ≤ lo.toNat * y.t.sz := Nat.mul_le_mul_left _ y.t.sz_pos
    omega
  · rw [hca ad hA hc, (hM.ok r y hr).ty]
theorem heapify_ptr (hM : Mem C rw ε w) {r : Nat} {y : Row} (hr : row rw r = some y) {i : Int} {V : Value} (hv : VRel rw ε (.ptr r i) V) : EncP (ε.hh.push (ε.sv r) y.t.sz) (.at ε.hh.nx (i.toNat * y.t.sz)) V := by
  obtain ⟨_, ad, n, c, hsv, _, _, hV⟩ := hv
  rw [(hM.ok r y hr).ty] at hV
  exact ⟨Nat.lt_succ_self _, ad, n, c, by rw [HEnv.push_new]; exact hsv, hV⟩
end
end Go.Ev

/- Operations that change the heap. -/
namespace Go.Ev
open Go.RowKit
theorem one_cells {v : Value} (h : v.oneCell' = true) : v.cells = #[v] := by
  cases v <;> first | rfl | cases h
theorem mkv_cells {t : HTy} {vs : List Value} (hl : vs.length = t.sz) (h1 : ∀ v ∈ vs, v.oneCell' = true) : (t.mkv vs).cells = vs.toArray := by
  cases hs : t.isStruct with
  | true => rw [mkv_struct hs]; rfl
  | false =>
    obtain ⟨v, rfl, hv⟩ := mkv_one hs hl
    rw [hv, one_cells (h1 v (by simp))]
theorem zero_rel {η : HEnv} : ∀ t : HTy, All2 (CellRel η) (t.cc t.zero) t.zcells
  | .p t => rel_pure (t.cells_one t.zero)
  | .sr => ⟨rfl, trivial⟩
  | .pr => ⟨rfl, trivial⟩
  | .ir => ⟨rfl, trivial⟩
  | .one a => zero_rel a
  | .pair a b => (zero_rel a).append (zero_rel b)
theorem zcells_length (t : HTy) : t.zcells.length = t.sz := by rw [← (zero_rel (η := HEnv.zero) t).length, t.cc_length]
theorem zcells_one (t : HTy) : ∀ v ∈ t.zcells, v.oneCell' = true := (zero_rel (η := HEnv.zero) t).right (Q := fun v => v.oneCell' = true) fun _ _ h => cellRel_one h
theorem castH_eq {F : HTy → Type} {s t : HTy} {x : F s} {y : F t} (h : castH s t x = some y) : ∃ e : s = t, e ▸ x = y := by
  unfold castH at h
  split at h
  · rename_i hb
    exact ⟨HTy.beq_eq hb, by injection h⟩
  · cases h
section
variable {C : Ctx} {rw rw' : RW} {ε ε' : Env} {w w' : World} {g : Nat → Option AV} {a : Act} {o : Oper} {h h' : Hp}
theorem toH_rel {t : HTy} {av : AV} {V : Value} {x : t.den} (h : toH t av = some x) (hv : VRel rw ε av V) : HRel ε.hh t x V := by
  unfold toH at h
  split at h
  · rename_i s y
    split at h
    · rename_i u
      obtain ⟨e, he⟩ := cast?_eq (F := Ty.den) h
      subst e
      subst he
      rw [show V = s.val y from hv]
      exact hrel_of y
    · cases h
  · rename_i s y
    obtain ⟨e, he⟩ := castH_eq (F := HTy.den) h
    subst e
    subst he
    exact hv
  · split at h
    · cases h
      exact hrel_sr.2 hv
    · cases h
  · split at h
    · cases h
      exact hrel_pr.2 hv
    · cases h
  · cases h
theorem opdH_rel {T : Tab} (hS : Slots rw ε g a) {t : HTy} {x : Operand} {y : t.den} (h : opdH T g t x = some y) : HRel ε.hh t y (a.eval x) := by
  unfold opdH at h
  split at h
  · split at h
    · cases h; exact hrel_sr.2 rfl
    · cases h
  · split at h
    · cases h; exact hrel_pr.2 rfl
    · cases h
  · split at h
    · cases h; exact hrel_ir.2 rfl
    · cases h
  · split at h
    · rename_i av hav
      exact toH_rel h (opd_rel hS hav)
    · cases h
theorem hrel_cells {η : HEnv} {t : HTy} {x : t.den} {V : Value} (h : HRel η t x V) : ∃ vs, All2 (CellRel η) (t.cc x) vs ∧ V = t.mkv vs ∧ vs.length = t.sz ∧ (∀ v ∈ vs, v.oneCell' = true) ∧ V.cells = vs.toArray := by
  obtain ⟨vs, h1, rfl⟩ := h
  have hl : vs.length = t.sz := by rw [← h1.length, t.cc_length]
  have h2 := h1.right (Q := fun v => v.oneCell' = true) fun _ _ h => cellRel_one h
  exact ⟨vs, h1, rfl, hl, h2, mkv_cells hl h2⟩
theorem run_storeVarH {P : Program} {n : TypeId} {t : HTy} (h : SzH P n t) (w w' : World) (ad : Addr) (V : Value) (vs : List Value) (hV : V.cells = vs.toArray) (hl : vs.length = t.sz) (hr : (storeCells ad vs).run P w = .ok () w') : (storeVar n ad V).run P w = .ok () w' := by
  simp [storeVar, hV, run_sizeOfH h, hl, hr, Result.andThen]
theorem good2_store (hC : CtxOk C) (hM : Mem C rw ε w) (hH : HM C h rw ε w) {s : TypeId} {x y : Operand} (ho : o.op = .store s x y) {t : HTy} (ht : C.T.hty s = some t) {p : Pf} (hx : HRel ε.hh .pr p (a.eval x)) {v : t.den} (hy : HRel ε.hh t v (a.eval y)) (hst : h.st t p v = some h') :
    Good2 C rw ε a w o .u [] h' := by
  have hp := hrel_pr.1 hx
  obtain ⟨vs, hrel, _, hl, h1, hV⟩ := hrel_cells hy
  cases p with
  | nil => cases hst
  | «at» n off =>
    unfold Hp.st at hst
    dsimp only at hst
    split at hst
    · rename_i e z cs hob
      obtain ⟨hle, hst⟩ := bif_some hst
      have hle := Nat.le_of_ble_eq_true hle
      cases hst
      obtain ⟨_, ad, m, c, hv, hVx⟩ := hp
      obtain ⟨_, h0, m', XS, hown, hrelO⟩ := hH.ok.ob n _ hob
      have hown2 := hown
      rw [hv] at hown2
      obtain ⟨g', rfl, rfl, _⟩ := own_at hown2
      have hXl : XS.length = m * z := hown2.1
      have hcl := hrelO.length
      obtain ⟨w', hrun, hown', hpres⟩ := own_store (P := C.P) hown2 off vs (by omega) h1
      rw [← hv] at hown'
      have hvb : (ε.hh.hv n).ownBlock = some g' := by rw [hv]; rfl
      have hrelN : All2 (CellRel ε.hh) (cs.take off ++ t.cc v ++ cs.drop (off + t.sz)) (XS.take off ++ vs ++ XS.drop (off + vs.length)) := by
        rw [hl]
        exact ((hrelO.take off).append hrel).append (hrelO.drop _)
      obtain ⟨m1, m2⟩ := hm_set hC hM hH hob (q' := .cells e z (cs.take off ++ t.cc v ++ cs.drop (off + t.sz))) (w' := w') (hpres.mono fun k _ hk => by rw [hvb, hk]) ⟨h0, m, _, hown', hrelN⟩
      intro next Q hn
      refine wp_skipV (w' := w') ?_ (hn undef _ w' rfl (ext_withH (HEnv.le.refl _)) m1 m2)
      rw [Addr.add_lit, Nat.zero_add] at hVx
      have := run_storeVarH (hC.tab.hty _ _ ht).1 w w' ⟨g', off, none⟩ (a.eval y) vs hV hl hrun
      simp [execOp, ho, hVx, Instr.storeAt, Instr.sureAddr, this, Result.andThen]
    · cases hst
/-- A new object of cells. -/
theorem new_obj (hC : CtxOk C) (hM : Mem C rw ε w) (hH : HM C h rw ε w) {e : TypeId} {sz m cap : Nat} (h0 : 0 < sz) {XS : List Value} {cur : Array Value} {cs : List Cell} (hcs : All2 (CellRel ε.hh) cs XS) (hXS : XS.length = m * sz) (hmc : m ≤ cap) (hcm : cap ≤ maxLen) (hcur : cur.size = cap * sz) (htake : cur.toList.take (m * sz) = XS) :
    Mem C rw (ε.withH (ε.hh.push (.slice (some ⟨w.heap.size, 0, none⟩) m cap) sz)) (w.alloc (.cells cur e)) ∧ HM C (h.push (.cells e sz cs)) rw (ε.withH (ε.hh.push (.slice (some ⟨w.heap.size, 0, none⟩) m cap) sz)) (w.alloc (.cells cur e)) := by
  refine hm_push hC hM hH ⟨rfl, rfl, rfl, by simp, fun k hk _ => heap_alloc_old w _ k hk⟩ (fun b hb => ?_) ⟨⟨h0, HEnv.push_zs _ _ _⟩, m, XS, ?_, hcs.mono fun _ _ => CellRel.le (HEnv.push_le _ _ _)⟩
  · have : w.heap.size = b := by simpa [Value.ownBlock] using hb
    omega
  · rw [HEnv.push_new]
    exact ⟨hXS, .inr ⟨w.heap.size, cap, cur, rfl, Nat.zero_le _, heap_alloc_new _ _, hmc, hcm, hcur, htake⟩⟩
theorem new_pt (hn : h.nx = ε.hh.nx) {m cap z : Nat} {b : Nat} : VRel rw (ε.withH (ε.hh.push (.slice (some ⟨b, 0, none⟩) m cap) z)) (.h .pr (.at h.nx 0)) (.pointer (some ⟨b, 0, none⟩)) := by
  refine hrel_pr.2 ⟨by rw [hn]; exact Nat.lt_succ_self _, _, m, cap, ?_, by rw [Addr.add_zero']⟩
  rw [hn]
  exact HEnv.push_new _ _ _
theorem new_sl (hn : h.nx = ε.hh.nx) {m cap z : Nat} {b : Nat} (hmc : m ≤ cap) : VRel rw (ε.withH (ε.hh.push (.slice (some ⟨b, 0, none⟩) m cap) z)) (.h .sr (.at h.nx 0 m)) (.slice (some ⟨b, 0, none⟩) m cap) := by
  refine hrel_sr.2 ⟨by rw [hn]; exact Nat.lt_succ_self _, _, m, cap, _, _, ?_, rfl, hmc, fun _ => ⟨_, rfl, by rw [Addr.add_zero']⟩, Cap.whole⟩
  rw [hn]
  exact HEnv.push_new _ _ _
theorem good2_box (hC : CtxOk C) (hM : Mem C rw ε w) (hH : HM C h rw ε w) {e : TypeId} {x : Operand} (ho : o.op = .box e x) {t : HTy} {v : t.den} (hx : HRel ε.hh t v (a.eval x)) : Good2 C rw ε a w o (.h .pr (.at h.nx 0)) [] (h.box e t v) := by
  obtain ⟨vs, hrel, _, hl, h1, hV⟩ := hrel_cells hx
  obtain ⟨m1, m2⟩ := new_obj (h := h) (e := e) (m := 1) (cap := 1) (cur := vs.toArray) hC hM hH t.sz_pos hrel (by omega) (Nat.le_refl _) (by simp [maxLen]) (by simp [hl]) (by simp; exact List.take_of_length_le (by omega))
  intro next Q hn
  refine wp_value ?_ (hn (.pointer (some ⟨w.heap.size, 0, none⟩)) _ _ (new_pt hH.ok.nx) (ext_withH (HEnv.push_le _ _ _)) m1 m2)
  simp [execOp, ho, Instr.box, newVar, newRow, hV, Result.andThen]
theorem good2_alloc (hC : CtxOk C) (hM : Mem C rw ε w) (hH : HM C h rw ε w) {e : TypeId} (ho : o.op = .alloc e) {t : HTy} (ht : C.T.hty e = some t) : Good2 C rw ε a w o (.h .pr (.at h.nx 0)) [] (h.box e t t.zero) := by
  obtain ⟨i, hi, hz, _, _⟩ := info_ofH (hC.tab.hty _ _ ht).1
  have hl := zcells_length t
  obtain ⟨m1, m2⟩ := new_obj (h := h) (e := e) (m := 1) (cap := 1) (cur := t.zcells.toArray) hC hM hH t.sz_pos (zero_rel t) (by omega) (Nat.le_refl _) (by simp [maxLen]) (by simp [hl]) (by simp; exact List.take_of_length_le (by omega))
  intro next Q hn
  refine wp_value ?_ (hn (.pointer (some ⟨w.heap.size, 0, none⟩)) _ _ (new_pt hH.ok.nx) (ext_withH (HEnv.push_le _ _ _)) m1 m2)
  simp [execOp, ho, Instr.alloc, zeroValue, typeInfo, hi, hz, newVar, newRow, mkv_cells hl (zcells_one t), Result.andThen]
theorem flat_rep {α : Type} (xs : List α) (sz : Nat) (h : xs.length = sz) : ∀ (n j : Nat), (List.replicate n xs).flatten[j]? = if j < n * sz then xs[j % sz]? else none
  | 0, j => by simp
  | n + 1, j => by
    rw [List.replicate_succ, List.flatten_cons, List.getElem?_append]
    by_cases hj : j < xs.length
    · rw [if_pos hj, if_pos (by rw [Nat.add_mul]; omega), Nat.mod_eq_of_lt (by omega)]
    · rw [if_neg hj, flat_rep xs sz h n (j - xs.length), h]
      have hm : (j - sz) % sz = j % sz := by
        conv => rhs; rw [show j = (j - sz) + sz by omega]
        rw [Nat.add_mod_right]
      rw [hm, Nat.add_mul, Nat.one_mul]
      by_cases h2 : j - sz < n * sz
      · rw [if_pos h2, if_pos (by omega)]
      · rw [if_neg h2, if_neg (by omega)]
theorem made_takeH (zs : List Value) (sz l c : Nat) (hz : zs.length = sz) (hp : 0 < sz) (h : l ≤ c) : (madeCells zs.toArray (c * sz)).toList.take (l * sz) = (List.replicate l zs).flatten := by
  apply List.ext_getElem?
  intro j
  have hlc := Nat.mul_le_mul_right sz h
  rw [flat_rep zs sz hz, List.getElem?_take]
  by_cases hj : j < l * sz
  · rw [if_pos hj, if_pos hj]
    have hm : j % sz < sz := Nat.mod_lt _ hp
    have hjc : j < c * sz := by omega
    simp [madeCells, hjc, hz, hm]
  · rw [if_neg hj, if_neg hj]
theorem rep_rel {η : HEnv} {cs : List Cell} {vs : List Value} (h : All2 (CellRel η) cs vs) : ∀ n, All2 (CellRel η) (List.replicate n cs).flatten (List.replicate n vs).flatten
  | 0 => by simp [All2]
  | n + 1 => by
    rw [List.replicate_succ, List.flatten_cons, List.replicate_succ, List.flatten_cons]
    exact h.append (rep_rel h n)
theorem good2_make (hC : CtxOk C) (hM : Mem C rw ε w) (hH : HM C h rw ε w) {t : TypeId} {x y : Operand} (ho : o.op = .makeSlice t x y) {u : HTy} {e : TypeId} (ht : C.T.hsl t = some (u, e)) {kl kc : IntKind} {l c : Int} (hx : a.eval x = .int kl l) (hy : a.eval y = .int kc c) (h0 : 0 ≤ l) (h1 : l ≤ c) (h2 : c < 1000000000000) :
    Good2 C rw ε a w o (.h .sr (.at h.nx 0 l.toNat)) [] (h.new e u (List.replicate l.toNat u.zero)) := by
  obtain ⟨hu, hs⟩ := hC.tab.hsl _ _ _ ht
  obtain ⟨i, hi, hz, hsz, hb⟩ := info_ofH hs
  have hb' : (i.bytes : Int) * c ≤ 281474976710656 := by
    have h3 : (i.bytes : Int) * c ≤ 140 * c := Int.mul_le_mul_of_nonneg_right (by omega) (by omega)
    omega
  have hr := run_make (P := C.P) w t e i _ hu hi hz kl kc l c h0 h1 hb' (by omega)
  have hl := zcells_length u
  rw [mkv_cells hl (zcells_one u), hsz] at hr
  obtain ⟨m1, m2⟩ := new_obj (h := h) (e := e) (m := l.toNat) (cap := c.toNat) (cur := madeCells u.zcells.toArray (c.toNat * u.sz)) (cs := (List.replicate l.toNat (u.cc u.zero)).flatten) hC hM hH u.sz_pos (rep_rel (zero_rel u) l.toNat) (by simp [hl]) (by omega) (by simp only [maxLen]; omega) (by rw [size_madeCells]) (made_takeH _ _ _ _ hl u.sz_pos (by omega))
  intro next Q hn
  have e1 : h.new e u (List.replicate l.toNat u.zero) = h.push (.cells e u.sz (List.replicate l.toNat (u.cc u.zero)).flatten) := by unfold Hp.new; rw [List.map_replicate]
  rw [e1] at hn
  refine wp_value ?_ (hn (.slice (some ⟨w.heap.size, 0, none⟩) l.toNat c.toNat) _ _ (new_sl hH.ok.nx (by omega)) (ext_withH (HEnv.push_le _ _ _)) m1 m2)
  simp [execOp, ho, hx, hy, hr, Result.andThen]
theorem fill_elemsH {T : Tab} (hS : Slots rw ε g a) {t : HTy} : ∀ (ps : List (Nat × Operand)) (k : Nat) (xs : List t.den) (done : List Value) (cells : Array Value), elemsH T g t k ps = some xs → done.length = k * t.sz → cells.toList.take (k * t.sz) = done → cells.size = (k + xs.length) * t.sz →
    ∃ vs, All2 (CellRel ε.hh) (xs.map t.cc).flatten vs ∧ vs.length = xs.length * t.sz ∧ Instr.fill (fun i => some (i * t.sz, t.sz)) cells (ps.map fun p => (p.1, a.eval p.2)) = some (done ++ vs).toArray
  | [], k, xs, done, cells, h, hd, ht, hs => by
    cases h
    refine ⟨[], trivial, by simp, ?_⟩
    simp only [List.length_nil, Nat.add_zero] at hs
    rw [List.map_nil, Instr.fill, ← ht, List.take_of_length_le (by simp [hs]), List.append_nil, Array.toArray_toList]
  | (m, o) :: ps, k, xs, done, cells, h, hd, ht, hs => by
    unfold elemsH at h
    obtain ⟨hm, h⟩ := bif_some h
    have hm : m = k := Nat.eq_of_beq_eq_true hm
    subst hm
    split at h
    · rename_i y ys hy hys
      cases h
      obtain ⟨vs, hrel, _, hl, h1, hV⟩ := hrel_cells (opdH_rel hS hy)
      have hle : m * t.sz + t.sz ≤ cells.size := by
        rw [hs, ← Nat.succ_mul]
        exact Nat.mul_le_mul_right _ (by simp)
      have hlk : (cells.toList.take (m * t.sz)).length = m * t.sz := by rw [List.length_take, Array.length_toList]; omega
      rw [List.map_cons (l := ps) (f := fun p : Nat × Operand => (p.1, a.eval p.2)), fill_one (place := fun i => some (i * t.sz, t.sz)) (off := m * t.sz) (size := t.sz) rfl (by rw [hV]; simp [hl]) hle, hV]
      obtain ⟨vs', k1, k2, k3⟩ := fill_elemsH hS ps (m + 1) ys (done ++ vs) (cells.toList.take (m * t.sz) ++ vs ++ cells.toList.drop (m * t.sz + t.sz)).toArray hys (by rw [List.length_append, hd, hl, Nat.add_mul, Nat.one_mul]) (by
        rw [← ht]
        show (List.take (m * t.sz) cells.toList ++ vs ++ _).take _ = _
        rw [List.take_left']
        rw [List.length_append, hlk, hl, Nat.add_mul, Nat.one_mul]) (by
        simp only [List.size_toArray, List.length_append, hlk, List.length_drop, Array.length_toList, hl]
        rw [hs] at hle ⊢
        rw [show m + 1 + ys.length = m + (y :: ys).length by rw [List.length_cons]; omega]
        omega)
      refine ⟨vs ++ vs', ?_, ?_, ?_⟩
      · rw [List.map_cons, List.flatten_cons]
        exact hrel.append k1
      · rw [List.length_append, hl, k2, List.length_cons, Nat.add_mul, Nat.one_mul]
        omega
      · rw [← List.append_assoc, ← k3]
    · cases h
theorem good2_buildSlice (hC : CtxOk C) (hM : Mem C rw ε w) (hH : HM C h rw ε w) (hS : Slots rw ε g a) {n : TypeId} {m : Nat} {ps : Array (Nat × Operand)} (ho : o.op = .buildSlice n m ps) {t : HTy} {e : TypeId} (ht : C.T.hsl n = some (t, e)) {xs : List t.den} (hxs : elemsH C.T g t 0 ps.toList = some xs) (hm : xs.length = m) (hb : m * t.sz ≤ 100000) :
    Good2 C rw ε a w o (.h .sr (.at h.nx 0 m)) [] (h.new e t xs) := by
  obtain ⟨hu, hs⟩ := hC.tab.hsl _ _ _ ht
  obtain ⟨i, hi, hz, hsz, _⟩ := info_ofH hs
  subst hm
  have hmax : xs.length ≤ maxLen := by
    have := Nat.le_mul_of_pos_right xs.length t.sz_pos
    simp only [maxLen]
    omega
  have key : ∀ c0 : Array Value, c0.size = xs.length * t.sz → ∃ vs, All2 (CellRel ε.hh) (xs.map t.cc).flatten vs ∧ vs.length = xs.length * t.sz ∧ Instr.fill (fun i => some (i * t.sz, t.sz)) c0 (List.map (fun x => (x.fst, a.eval x.snd)) ps.toList) = some vs.toArray := by
    intro c0 hc0
    have := fill_elemsH (T := C.T) hS ps.toList 0 xs [] c0 hxs (by simp) (by simp) (by rw [hc0, Nat.zero_add])
    simpa using this
  have hrun : ∃ vs, All2 (CellRel ε.hh) (xs.map t.cc).flatten vs ∧ vs.length = xs.length * t.sz ∧ (Instr.buildSlice n xs.length (ps.map fun (i, x) => (i, a.eval x))).run C.P w = .ok (.slice (some ⟨w.heap.size, 0, none⟩) xs.length xs.length) (w.alloc (.cells vs.toArray e)) := by
    have h24 : ¬ xs.length * t.sz > 2 ^ 24 := by omega
    by_cases h0 : xs.length * t.sz = 0
    · obtain ⟨vs, k1, k2, k3⟩ := key (Array.map (fun _ => (default : Value)) (Array.range 0)) (by simp [h0])
      refine ⟨vs, k1, k2, ?_⟩
      simp [Instr.buildSlice, run_underlying hu, run_sizeOfH hs, h0, Result.andThen, newRow]
      rw [k3]
      simp
    · simp only [gt_iff_lt, Nat.not_lt] at h24
      obtain ⟨vs, k1, k2, k3⟩ := key ((Array.range (xs.length * t.sz)).map ((t.mkv t.zcells).cells[· % (t.mkv t.zcells).cells.size]!)) (by simp)
      refine ⟨vs, k1, k2, ?_⟩
      simp [Instr.buildSlice, run_underlying hu, run_sizeOfH hs, h0, Result.andThen, zeroValue, typeInfo, hi, hz, newRow, Nat.not_lt.2 h24]
      rw [k3]
      simp
  obtain ⟨vs, k1, k2, k3⟩ := hrun
  obtain ⟨m1, m2⟩ := new_obj (h := h) (e := e) (m := xs.length) (cap := xs.length) (cur := vs.toArray) hC hM hH t.sz_pos k1 k2 (Nat.le_refl _) hmax (by simp [k2]) (by simp; exact List.take_of_length_le (by omega))
  intro next Q hn
  refine wp_value ?_ (hn (.slice (some ⟨w.heap.size, 0, none⟩) xs.length xs.length) _ _ (new_sl hH.ok.nx (Nat.le_refl _)) (ext_withH (HEnv.push_le _ _ _)) m1 m2)
  simp [execOp, ho, k3, Result.andThen]
theorem HTy.put_fld : ∀ (t : HTy) (j : Nat) (x : t.den) (s : HTy) (y : s.den) (z : t.den), t.put j x s y = some z → t.fld j = some s ∧ t.cc z = (t.cc x).take (t.off j) ++ s.cc y ++ (t.cc x).drop (t.off j + s.sz)
  | .p _, _, _, _, _, _, h => by cases h
  | .sr, _, _, _, _, _, h => by cases h
  | .pr, _, _, _, _, _, h => by cases h
  | .ir, _, _, _, _, _, h => by cases h
  | .one a, 0, x, s, y, z, h => by
    obtain ⟨e, hy⟩ := castH_eq (F := HTy.den) (show castH s a y = some z from h)
    subst e
    subst hy
    refine ⟨rfl, ?_⟩
    show s.cc y = (s.cc x).take 0 ++ s.cc y ++ (s.cc x).drop (0 + s.sz)
    rw [List.take_zero, List.nil_append, List.drop_eq_nil_of_le (by rw [s.cc_length]; omega), List.append_nil]
  | .one a, j + 1, x, s, y, z, h => by cases h
  | .pair a b, 0, x, s, y, z, h => by
    simp only [HTy.put] at h
    split at h
    · rename_i z' hb
      obtain ⟨e, hy⟩ := castH_eq (F := HTy.den) hb
      subst e
      subst hy
      injection h with h
      subst h
      refine ⟨rfl, ?_⟩
      show s.cc y ++ b.cc x.2 = (s.cc x.1 ++ b.cc x.2).take 0 ++ s.cc y ++ (s.cc x.1 ++ b.cc x.2).drop (0 + s.sz)
      rw [List.take_zero, List.nil_append, Nat.zero_add, ← s.cc_length x.1, List.drop_left']
      rfl
    · cases h
  | .pair a b, j + 1, x, s, y, z, h => by
    simp only [HTy.put] at h
    split at h
    · rename_i z' hz
      injection h with h
      subst h
      obtain ⟨e1, ih⟩ := b.put_fld j x.2 s y z' hz
      refine ⟨e1, ?_⟩
      show a.cc x.1 ++ b.cc z' = (a.cc x.1 ++ b.cc x.2).take (a.sz + b.off j) ++ s.cc y ++ (a.cc x.1 ++ b.cc x.2).drop (a.sz + b.off j + s.sz)
      rw [ih, ← a.cc_length x.1, List.take_length_add_append, Nat.add_assoc, List.drop_length_add_append]
      simp [List.append_assoc]
    · cases h
theorem fill_putH {T : Tab} (hS : Slots rw ε g a) {t : HTy} {place : Nat → Option (Nat × Nat)} (hp : ∀ j s, t.fld j = some s → place j = some (t.off j, s.sz)) : ∀ (ps : List (Nat × Operand)) (x z : t.den) (vs : List Value), All2 (CellRel ε.hh) (t.cc x) vs → buildH T g t ps x = some z →
    ∃ us, All2 (CellRel ε.hh) (t.cc z) us ∧ Instr.fill place vs.toArray (ps.map fun p => (p.1, a.eval p.2)) = some us.toArray
  | [], x, z, vs, hr, h => by cases h; exact ⟨vs, hr, rfl⟩
  | (j, o) :: ps, x, z, vs, hr, h => by
    unfold buildH at h
    split at h
    · rename_i s hs
      split at h
      · rename_i y hy
        split at h
        · rename_i x' hx'
          obtain ⟨us, hrel, _, hl, h1, hV⟩ := hrel_cells (opdH_rel hS hy)
          obtain ⟨_, hcc⟩ := t.put_fld j x s y x' hx'
          have hsz := t.off_sz j s hs
          have hvl : vs.length = t.sz := by rw [← hr.length, t.cc_length]
          rw [List.map_cons, fill_one (hp j s hs) (by rw [hV]; simp [hl]) (by simp [hvl]; exact hsz), hV]
          refine fill_putH hS hp ps x' z _ ?_ h
          rw [hcc]
          exact ((hr.take _).append hrel).append (hr.drop _)
        · cases h
      · cases h
    · cases h
theorem good2_build (hC : CtxOk C) (hM : Mem C rw ε w) (hH : HM C h rw ε w) (hS : Slots rw ε g a) {n : TypeId} {ps : Array (Nat × Operand)} (ho : o.op = .build n ps) {t : HTy} (ht : C.T.hty n = some t) (hst : t.isStruct = true) {z : t.den} (hz : buildH C.T g t ps.toList t.zero = some z) : Good2 C rw ε a w o (.h t z) [] h := by
  obtain ⟨hsz, hund⟩ := hC.tab.hty _ _ ht
  obtain ⟨fs, hu, hf⟩ := hund.1 hst
  obtain ⟨i, hi, hzero, hisz, _⟩ := info_ofH hsz
  obtain ⟨places, hpl, hpj⟩ := mapM_all (f := fun f : Field => (C.P.info? f.type).map fun i => (f.offset, i.size)) fs.toList (fun f hfm => by
    obtain ⟨j, hj⟩ := List.mem_iff_getElem?.1 hfm
    have hj' : fs[j]? = some f := by simpa using hj
    obtain ⟨s, hs⟩ := hf.2 j f hj'
    obtain ⟨f', hf', _, hs'⟩ := hf.1 j s hs
    rw [hj'] at hf'
    cases hf'
    obtain ⟨i', hi', _⟩ := info_ofH hs'
    exact ⟨_, by rw [hi']; rfl⟩)
  have hplace : ∀ j s, t.fld j = some s → (fun x => places.toArray[x]?) j = some (t.off j, s.sz) := by
    intro j s hs
    obtain ⟨f, hf', hoff, hs'⟩ := hf.1 j s hs
    obtain ⟨i', hi', _, hsz', _⟩ := info_ofH hs'
    have := hpj j
    simp only [Array.getElem?_toList, hf', Option.bind_some, hi', Option.map_some, hoff, hsz'] at this
    simpa using this
  obtain ⟨us, hrel, hfill⟩ := fill_putH (T := C.T) hS hplace ps.toList t.zero z t.zcells (zero_rel t) hz
  have hb : C.P.built n (ps.map fun (i, x) => (i, a.eval x)).toList = some us.toArray := by
    unfold Program.built
    simp only [hi, hu, hzero, hpl, mkv_cells (zcells_length t) (zcells_one t)]
    rw [Array.toList_map]
    exact hfill
  refine good2_pure hM hH (V := .agg us.toArray) ?_ ⟨us, hrel, (mkv_struct hst).symm⟩
  have hrun := run_build (P := C.P) w n (ps.map fun (i, x) => (i, a.eval x)) _ hb
  simp [execOp, ho, hrun, Result.andThen]
end
end Go.Ev

/- Operations that change the heap, continued: what is appended, texts ranged over. -/
namespace Go.Ev
open Go.RowKit
theorem own_takeX {w : World} {e : TypeId} {sz n m c : Nat} {A : Option Addr} {XS : List Value} (h : w.ownsRow 0 e sz (.slice A n c) n XS) (hm : m ≤ n) : w.ownsRow 0 e sz (.slice A m c) m (XS.take (m * sz)) := by
  have hle := Nat.mul_le_mul_right sz hm
  refine ⟨by rw [List.length_take, h.1]; omega, ?_⟩
  rcases h.2 with ⟨he, h0⟩ | ⟨g, cap, cur, he, hb, hh, hnc, hcm, hcs, ht⟩
  · injection he with ha _ hc
    subst ha; subst hc
    obtain rfl : m = 0 := by omega
    exact .inl ⟨rfl, rfl⟩
  · injection he with ha _ hc
    subst ha; subst hc
    refine .inr ⟨g, c, cur, rfl, hb, hh, by omega, hcm, hcs, ?_⟩
    rw [← ht, List.take_take, Nat.min_eq_left hle]
theorem own_len {w : World} {e : TypeId} {sz n m c : Nat} {A : Option Addr} {XS : List Value} (h : w.ownsRow 0 e sz (.slice A n c) m XS) : n = m := by
  rcases h.2 with ⟨he, h0⟩ | ⟨g, cap, cur, he, _⟩
  · injection he with _ h1 _
    omega
  · injection he
theorem own_slice {w : World} {e : TypeId} {sz m : Nat} {V : Value} {XS : List Value} (h : w.ownsRow 0 e sz V m XS) : ∃ A c, V = .slice A m c ∧ m ≤ c ∧ (0 < m → ∃ ad, A = some ad) := by
  rcases h.2 with ⟨rfl, rfl⟩ | ⟨g, cap, cur, rfl, _, _, h1, _⟩
  · exact ⟨none, 0, rfl, Nat.le_refl _, fun h => absurd h (by omega)⟩
  · exact ⟨_, cap, rfl, h1, fun _ => ⟨_, rfl⟩⟩
theorem encS_own {η : HEnv} {w : World} {e : TypeId} {sz m : Nat} {V : Value} {XS : List Value} (h : w.ownsRow 0 e sz V m XS) : EncS (η.push V sz) true (.at η.nx 0 m) V := by
  obtain ⟨A, c, rfl, hc, hA⟩ := own_slice h
  refine ⟨Nat.lt_succ_self _, A, m, c, A, c, HEnv.push_new _ _ _, rfl, hc, fun hm => ?_, Cap.whole⟩
  obtain ⟨ad, rfl⟩ := hA hm
  exact ⟨ad, rfl, by rw [Addr.add_zero']⟩
section
variable {C : Ctx} {rw rw' : RW} {ε ε' : Env} {w w' : World} {g : Nat → Option AV} {a : Act} {o : Oper} {h h' : Hp}
/-- Cells that are read for an append. -/
def SrcV (ε : Env) (w : World) (sz : Nat) (ys : List Cell) (m : Nat) (X : Value) : Prop :=
  ∃ news A c, All2 (CellRel ε.hh) ys news ∧ news.length = m * sz ∧ X = .slice A m c ∧ m ≤ c ∧ ∀ j u, news[j]? = some u → ∃ ad, A = some ad ∧ w.cell? (ad.add j) = some u
theorem run_appH {P : Program} {t ty e : TypeId} {u : HTy} (hu : P.underlying t = some (.slice e)) (hs : SzH P e u) {V X : Value} {len m : Nat} {XS : List Value} {ys : List Cell} (ho : w.ownsRow 0 e u.sz V len XS) (hr : SrcV ε w u.sz ys m X) (hb : len + m < 1000000000000) :
    ∃ V' w' news, (Builtin.append_ #[t, t] ty #[V, X]).run P w = .ok V' w' ∧ All2 (CellRel ε.hh) ys news ∧ w'.ownsRow 0 e u.sz V' (len + m) (XS ++ news) ∧ Pres (fun k => some k = V.ownBlock) w w' ∧ (∀ g, V'.ownBlock = some g → some g = V.ownBlock ∨ w.heap.size ≤ g) ∧ (V = .slice none 0 0 → m = 0 → V' = .slice none 0 0) := by
  obtain ⟨i, hi, hz, hsz, hby⟩ := info_ofH hs
  obtain ⟨news, A, c, hrel, hnl, rfl, hc, hcell⟩ := hr
  cases A with
  | none =>
    have hn : news = [] := by
      cases news with
      | nil => rfl
      | cons y l =>
        obtain ⟨ad, hA, _⟩ := hcell 0 y rfl
        cases hA
    subst hn
    have hm : m = 0 := by
      have := u.sz_pos
      rcases Nat.mul_eq_zero.1 hnl.symm with h | h
      · exact h
      · omega
    subst hm
    exact ⟨V, w, [], run_append_none hu hi V len c _ ho, hrel, by rw [List.append_nil]; exact ho, Pres.refl _ _, fun g hg => .inl hg.symm, fun h _ => h⟩
  | some ad =>
    obtain ⟨v', w', hrun, hown, hg, hnil, hat⟩ := run_append_own_at (P := P) w 0 t ty e i (u.mkv u.zcells) u.sz i.bytes hu hi hz hsz rfl (by rw [mkv_cells (zcells_length u) (zcells_one u)]; simp [zcells_length u]) u.sz_pos V len _ ho ad m c news hnl
      (fun j q hq => by
        obtain ⟨ad', hA, h⟩ := hcell j q hq
        cases hA
        exact h) (hrel.right (Q := fun v => v.oneCell' = true) fun _ _ h => cellRel_one h) (by simp only [maxLen]; omega) (by
          have := Nat.mul_le_mul (Nat.le_of_lt hb) hby
          omega) (Nat.zero_le _)
    refine ⟨v', w', news, hrun, hrel, hown, Pres.grown hg, fun g hgg => ?_, fun h1 h2 => hnil.2 ⟨h1, h2⟩⟩
    rcases hat with hat | hat
    · exact .inl (by rw [← hat, hgg])
    · rw [hat] at hgg
      cases hgg
      exact .inr (Nat.le_refl _)
/-- An append where the row has the cells. -/
theorem run_append_in {P : Program} {t ty e : TypeId} {u : HTy} (hu : P.underlying t = some (.slice e)) (hs : SzH P e u) {A A' : Option Addr} {m0 c c' k len m : Nat} {XS : List Value} {ys : List Cell} {X : Value} (ho : w.ownsRow 0 e u.sz (.slice A m0 c) m0 XS) (hroom : len + m ≤ c') (hA : 0 < c' → ∀ ad, A = some ad → A' = some (ad.add k)) (hfit : k + (len + m) * u.sz ≤ m0 * u.sz) (hr : SrcV ε w u.sz ys m X) :
    ∃ w' news, (Builtin.append_ #[t, t] ty #[.slice A' len c', X]).run P w = .ok (.slice A' (len + m) c') w' ∧ All2 (CellRel ε.hh) ys news ∧ w'.ownsRow 0 e u.sz (.slice A m0 c) m0 (XS.take (k + len * u.sz) ++ news ++ XS.drop (k + (len + m) * u.sz)) ∧ Pres (fun b => some b = (Value.slice A m0 c).ownBlock) w w' := by
  obtain ⟨i, hi, hz, hsz, hby⟩ := info_ofH hs
  obtain ⟨news, B, cB, hrel, hnl, rfl, hc, hcell⟩ := hr
  have hup := u.sz_pos
  have hf : (Builtin.firstCells i.size m (.slice B m cB)).run P w = .ok news.toArray w := by
    cases B with
    | none =>
      have hn : news = [] := by
        cases news with
        | nil => rfl
        | cons y l => obtain ⟨ad, h, _⟩ := hcell 0 y rfl; cases h
      subst hn
      exact run_firstCells_none (P := P) w _ _ _ _
    | some ad =>
      rw [hsz]
      exact run_firstCells_some (P := P) w u.sz m ad m cB news hnl fun j q hq => by
        obtain ⟨ad', h, hq'⟩ := hcell j q hq
        cases h
        exact hq'
  by_cases hn : news = []
  · subst hn
    have hm : m = 0 := by
      rcases Nat.mul_eq_zero.1 hnl.symm with h | h
      · exact h
      · omega
    subst hm
    refine ⟨w, [], ?_, hrel, ?_, Pres.refl _ _⟩
    · cases A' <;> simp [Builtin.append_, run_underlying hu, sizeOf, typeInfo, hi, Builtin.lenOf, show len ≤ c' by omega, hf, storeCells]
    · rw [List.append_nil, Nat.add_zero, List.take_append_drop]
      exact ho
  · have hm : 0 < m := by
      rcases Nat.eq_zero_or_pos m with h | h
      · rw [h, Nat.zero_mul] at hnl
        exact absurd (List.length_eq_zero_iff.1 hnl) hn
      · exact h
    have hadd : (len + m) * u.sz = len * u.sz + m * u.sz := Nat.add_mul _ _ _
    rcases ho.2 with ⟨_, h3⟩ | ⟨g, cap, cur, h3, _⟩
    · subst h3
      have : 0 < m * u.sz := Nat.mul_pos hm hup
      omega
    · cases h3
      have hA' := hA (by omega) _ rfl
      rw [Addr.add_lit, Nat.zero_add] at hA'
      subst hA'
      obtain ⟨w', hst, hown, hp⟩ := own_store (P := P) ho (k + len * u.sz) news (by omega) (hrel.right (Q := fun v => v.oneCell' = true) fun _ _ h => cellRel_one h)
      refine ⟨w', news, ?_, hrel, ?_, hp.mono fun b _ hb => by rw [hb]; rfl⟩
      · rw [← hsz] at hst
        simp [Builtin.append_, run_underlying hu, sizeOf, typeInfo, hi, Builtin.lenOf, hroom, hf, Addr.add_lit, hst]
      · rw [hnl] at hown
        rw [show k + (len + m) * u.sz = k + len * u.sz + m * u.sz by omega]
        exact hown
theorem hm_none (hC : CtxOk C) (hM : Mem C rw ε w) (hH : HM C h rw ε w) (hp : Pres (fun _ => False) w w') : Mem C rw (ε.withH ε.hh) w' ∧ HM C h rw (ε.withH ε.hh) w' :=
  hm_step hC hM hH (HEnv.le.refl _) hp (fun _ _ h => h.elim) (fun _ _ _ _ _ _ h => h) hH.ok.nx (N := fun _ => False) (fun n o ho _ => ⟨ho, fun _ _ h => h⟩) (fun _ _ _ h => h.elim) (fun _ _ h => h.elim)
theorem good2_append (hC : CtxOk C) (hM : Mem C rw ε w) (hH : HM C h rw ε w) {t t' : TypeId} (htt : appTy C.T t t' = true) {x y : Operand} (ho : o.op = .call { callee := .builtin .append, args := #[x, y], argTypes := #[t, t'] }) {u : HTy} {e : TypeId} (ht : C.T.hsl t = some (u, e)) {r : Rf} (hx : EncS ε.hh true r (a.eval x)) {ys : List Cell} {m : Nat} (hy : SrcV ε w u.sz ys m (a.eval y)) (hb : rlen r + m < 1000000000000) {s : Rf × Hp} (hs : h.app e u.sz ys m r = some s) :
    Good2 C rw ε a w o (.h .sr s.1) [] s.2 := by
  obtain ⟨hu, hsz⟩ := hC.tab.hsl _ _ _ ht
  cases r with
  | nil =>
    have hV : a.eval x = .slice none 0 0 := hx
    obtain ⟨V', w', news, hrun, hrel, hown, hp, hbl, hnil⟩ := run_appH (ty := o.type) hu hsz (World.ownsRow_nil w 0 e u.sz) hy hb
    rw [← hV] at hrun
    have hp' : Pres (fun _ => False) w w' := hp.mono fun k _ hk => by cases hk
    rw [Nat.zero_add, List.nil_append] at hown
    cases m with
    | zero =>
      cases hs
      obtain ⟨m1, m2⟩ := hm_none hC hM hH hp'
      intro next Q hn
      refine wp_value (exec_append ho rfl rfl ((appTy_run hC (hC.tab.hsl _ _ _ ht).1 (some_info (hC.tab.hsl _ _ _ ht).2.info) htt _ _).trans hrun)) (hn V' _ w' ?_ (ext_withH (HEnv.le.refl _)) m1 m2)
      exact hrel_sr.2 (hnil rfl rfl)
    | succ m =>
      cases hs
      obtain ⟨m1, m2⟩ := hm_push (V := V') (z := u.sz) (o := .cells e u.sz ys) hC hM hH hp' (fun b hb => (hbl b hb).resolve_left (fun h => by cases h)) ⟨⟨u.sz_pos, HEnv.push_zs _ _ _⟩, _, _, by rw [HEnv.push_new]; exact hown, hrel.mono fun _ _ => CellRel.le (HEnv.push_le _ _ _)⟩
      intro next Q hn
      refine wp_value (exec_append ho rfl rfl ((appTy_run hC (hC.tab.hsl _ _ _ ht).1 (some_info (hC.tab.hsl _ _ _ ht).2.info) htt _ _).trans hrun)) (hn V' _ w' ?_ (ext_withH (HEnv.push_le _ _ _)) m1 m2)
      rw [hH.ok.nx]
      exact hrel_sr.2 (encS_own hown)
  | «at» n k len =>
    have hs : (match h.ob n with | some (.cells e' z' cs) => bif Nat.beq e e' && Nat.beq u.sz z' && Nat.ble (k + len * u.sz) cs.length then
        (bif Nat.ble (k + (len + m) * u.sz) cs.length && (Nat.beq k 0 || Nat.beq u.sz 1) then some (Rf.at n k (len + m), h.set n (some (.cells e u.sz (cs.take (k + len * u.sz) ++ ys ++ cs.drop (k + (len + m) * u.sz)))))
        else bif Nat.beq k 0 then some (Rf.at h.nx 0 (len + m), (h.set n none).push (.cells e u.sz (cs.take (len * u.sz) ++ ys))) else none) else none | _ => none) = some s := hs
    split at hs
    · rename_i e' z' cs hob
      have hb0 := bif_some hs
      clear hs
      obtain ⟨hcond, hs⟩ := hb0
      rw [Bool.and_eq_true, Bool.and_eq_true] at hcond
      obtain ⟨⟨c1, c2⟩, c3⟩ := hcond
      obtain rfl : e = e' := Nat.eq_of_beq_eq_true c1
      have c2 : u.sz = z' := Nat.eq_of_beq_eq_true c2
      subst c2
      have c3 := Nat.le_of_ble_eq_true c3
      obtain ⟨hn, A, m0, c, A', c', hsv, hV, hlc, _, hex⟩ := hx
      obtain ⟨_, h0, m', XS, hownO, hrelO⟩ := hH.ok.ob n _ hob
      have hexc := hex rfl
      rw [h0.2] at hexc
      rw [hsv] at hownO
      obtain rfl := own_len hownO
      have h1 := hrelO.length
      have h2 := hownO.1
      have hup := u.sz_pos
      cases hin : (Nat.ble (k + (len + m) * u.sz) cs.length && (Nat.beq k 0 || Nat.beq u.sz 1)) with
      | true =>
        rw [hin] at hs
        simp only [cond_true] at hs
        cases hs
        rw [Bool.and_eq_true, Bool.or_eq_true] at hin
        have hfit := Nat.le_of_ble_eq_true hin.1
        have hroom : len + m ≤ c' ∧ (0 < c' → ∀ ad, A = some ad → A' = some (ad.add k)) := by
          have hmc : m0 ≤ c := by
            obtain ⟨_, _, h3, h4, _⟩ := own_slice hownO
            cases h3
            exact h4
          rcases hin.2 with hk | hk
          · have hk := Nat.eq_of_beq_eq_true hk
            subst hk
            obtain ⟨e1, e2⟩ := hexc.1 (by omega) rfl
            have h3 : (len + m) * u.sz ≤ m0 * u.sz := by omega
            have h4 := Nat.le_of_mul_le_mul_right h3 hup
            exact ⟨by omega, fun _ ad hA => by rw [e1, hA, Addr.add_zero']⟩
          · have hk := Nat.eq_of_beq_eq_true hk
            obtain ⟨q, hq, hqc, had⟩ := hexc.2 hk
            rw [hk, Nat.mul_one] at hfit h2
            exact ⟨by omega, fun h ad hA => had ad hA h⟩
        obtain ⟨w', news, hrun, hrel, hown, hp⟩ := run_append_in (ty := o.type) hu hsz hownO hroom.1 hroom.2 (by omega) hy
        rw [← hV] at hrun
        rw [← hsv] at hown hp
        obtain ⟨m1, m2⟩ := hm_set hC hM hH hob (q' := .cells e u.sz (cs.take (k + len * u.sz) ++ ys ++ cs.drop (k + (len + m) * u.sz))) (w' := w') hp ⟨h0, _, _, hown, ((hrelO.take _).append hrel).append (hrelO.drop _)⟩
        intro next Q hnx
        refine wp_value (exec_append ho rfl rfl ((appTy_run hC (hC.tab.hsl _ _ _ ht).1 (some_info (hC.tab.hsl _ _ _ ht).2.info) htt _ _).trans hrun)) (hnx _ _ w' ?_ (ext_withH (HEnv.le.refl _)) m1 m2)
        refine hrel_sr.2 ⟨hn, A, m0, c, A', c', hsv, rfl, hroom.1, fun hl => ?_, hex⟩
        have hm0 : XS ≠ [] := by
          rintro rfl
          have : 0 < (len + m) * u.sz := Nat.mul_pos hl hup
          simp only [List.length_nil] at h1
          omega
        rcases hownO.2 with ⟨_, h3⟩ | ⟨g, cap, cur, h3, _⟩
        · subst h3
          have : 0 < (len + m) * u.sz := Nat.mul_pos hl hup
          omega
        · cases h3
          exact ⟨_, rfl, hroom.2 (by omega) _ rfl⟩
      | false =>
        rw [hin] at hs
        simp only [cond_false] at hs
        have hb1 := bif_some hs
        clear hs
        obtain ⟨hk, hs⟩ := hb1
        cases hs
        have hk := Nat.eq_of_beq_eq_true hk
        subst hk
        obtain ⟨rfl, rfl⟩ := hexc.1 (by omega) rfl
        have hlen : len ≤ m0 := by
          have h3 : len * u.sz ≤ m0 * u.sz := by omega
          exact Nat.le_of_mul_le_mul_right h3 u.sz_pos
        have hown1 := own_takeX hownO hlen
        rw [← hV] at hown1
        obtain ⟨V', w', news, hrun, hrel, hown, hp, hbl, _⟩ := run_appH (ty := o.type) hu hsz hown1 hy hb
        have hbk : (a.eval x).ownBlock = (ε.hh.hv n).ownBlock := by rw [hV, hsv]; cases A' <;> rfl
        rw [hbk] at hp hbl
        obtain ⟨m1, m2⟩ := hm_over (V := V') (z := u.sz) (q' := .cells e u.sz (cs.take (len * u.sz) ++ ys)) hC hM hH hob hp hbl ⟨⟨h0.1, HEnv.push_zs _ _ _⟩, _, _, by rw [HEnv.push_new]; exact hown, ((hrelO.take _).append hrel).mono fun _ _ => CellRel.le (HEnv.push_le _ _ _)⟩
        intro next Q hn
        refine wp_value (exec_append ho rfl rfl ((appTy_run hC (hC.tab.hsl _ _ _ ht).1 (some_info (hC.tab.hsl _ _ _ ht).2.info) htt _ _).trans hrun)) (hn V' _ w' ?_ (ext_withH (HEnv.push_le _ _ _)) m1 m2)
        rw [hH.ok.nx]
        exact hrel_sr.2 (encS_own hown)
    · cases hs
/-- An append to a slice without room. -/
theorem good2_apc (hC : CtxOk C) (hM : Mem C rw ε w) (hH : HM C h rw ε w) {t t' : TypeId} (htt : appTy C.T t t' = true) {x y : Operand} (ho : o.op = .call { callee := .builtin .append, args := #[x, y], argTypes := #[t, t'] }) {u : HTy} {e : TypeId} (ht : C.T.hsl t = some (u, e)) {r : Rf} {c : Nat} (hx : EncS ε.hh false r (a.eval x) ∧ ∃ A, a.eval x = .slice A (rlen r) c ∧ (A = none → c = 0)) {ps : List Cell} (hp : SrcV ε w u.sz ps (rlen r) (a.eval x)) {ys : List Cell} {m : Nat} (hy : SrcV ε w u.sz ys m (a.eval y)) (hb : rlen r + m < 1000000000000) {s : Rf × Hp}
    (hs : (match rlen r + m with | 0 => some (Rf.at h.nx 0 0, h.push (.ro [])) | k + 1 => bif Nat.ble (k + 1) c then none else some (Rf.at h.nx 0 (k + 1), h.push (.cells e u.sz (ps ++ ys)))) = some s) :
    Good2 C rw ε a w o (.h .sr s.1) [] s.2 := by
  obtain ⟨hu, hsz⟩ := hC.tab.hsl _ _ _ ht
  obtain ⟨_, A, hV, hA⟩ := hx
  cases hk : rlen r + m with
  | zero =>
    rw [hk] at hs
    cases hs
    obtain rfl : m = 0 := by omega
    have hr0 : rlen r = 0 := by omega
    rw [hr0] at hV hp
    have hrun : (Builtin.append_ #[t, t] o.type #[.slice A 0 c, a.eval y]).run C.P w = .ok (.slice A 0 c) w := by
      obtain ⟨i, hi, hz, hsz', hby⟩ := info_ofH hsz
      obtain ⟨news, B, cB, hrel, hnl, hY, hc, hcell⟩ := hy
      have hn : news = [] := List.length_eq_zero_iff.1 (by rw [hnl, Nat.zero_mul])
      have hf : (Builtin.firstCells i.size 0 (.slice B 0 cB)).run C.P w = .ok #[] w := by
        cases B with
        | none => exact run_firstCells_none (P := C.P) w _ _ _ _
        | some ad => exact run_firstCells_some (P := C.P) w i.size 0 ad 0 cB [] (by rw [Nat.zero_mul]; rfl) fun j q hq => by simp at hq
      rw [hY]
      cases A <;> simp [Builtin.append_, run_underlying hu, sizeOf, typeInfo, hi, Builtin.lenOf, hf, storeCells]
    rw [← hV] at hrun
    obtain ⟨m1, m2⟩ := hm_push (w' := w) (V := .slice none 0 0) (z := 0) (o := .ro []) hC hM hH (Pres.refl _ _) (fun b hb => by cases hb) ⟨HEnv.push_zs _ _ _, .inl ⟨rfl, HEnv.push_new _ _ _⟩⟩
    intro next Q hn
    refine wp_value (exec_append ho rfl rfl ((appTy_run hC (hC.tab.hsl _ _ _ ht).1 (some_info (hC.tab.hsl _ _ _ ht).2.info) htt _ _).trans hrun)) (hn _ _ w ?_ (ext_withH (HEnv.push_le _ _ _)) m1 m2)
    rw [hH.ok.nx, hV]
    refine hrel_sr.2 ⟨Nat.lt_succ_self _, none, 0, 0, A, c, HEnv.push_new _ _ _, rfl, Nat.zero_le _, fun h => absurd h (by omega), ?_⟩
    show Cap true ((ε.hh.push (.slice none 0 0) 0).zs ε.hh.nx) 0 none 0 A c
    rw [HEnv.push_zs]
    exact Cap.zero
  | succ k =>
    rw [hk] at hs
    replace hs : (bif Nat.ble (k + 1) c then none else some (Rf.at h.nx 0 (k + 1), h.push (.cells e u.sz (ps ++ ys)))) = some s := hs
    cases hble : Nat.ble (k + 1) c with
    | true => rw [hble] at hs; cases hs
    | false =>
      rw [hble] at hs
      cases hs
      have hgt : c < k + 1 := by
        rcases Nat.lt_or_ge c (k + 1) with h1 | h1
        · exact h1
        · rw [Nat.ble_eq_true_of_le h1] at hble
          cases hble
      have key : ∃ V' w' nn, (Builtin.append_ #[t, t] o.type #[a.eval x, a.eval y]).run C.P w = .ok V' w' ∧ All2 (CellRel ε.hh) (ps ++ ys) nn ∧ w'.ownsRow 0 e u.sz V' (k + 1) nn ∧ Pres (fun _ => False) w w' ∧ ∀ g, V'.ownBlock = some g → w.heap.size ≤ g := by
        cases A with
        | none =>
          obtain rfl := hA rfl
          obtain ⟨olds, B0, c0, hrel0, hl0, hV0, hc0, _⟩ := hp
          rw [hV] at hV0
          cases hV0
          have hr0 : rlen r = 0 := by omega
          rw [hr0] at hV hl0
          have hp0 : ps = [] := List.length_eq_zero_iff.1 (by rw [hrel0.length, hl0, Nat.zero_mul])
          obtain ⟨V', w', news, hrun, hrel, hown, hp', hbl, _⟩ := run_appH (ty := o.type) hu hsz (World.ownsRow_nil w 0 e u.sz) hy (by omega)
          rw [← hV] at hrun
          rw [hr0, Nat.zero_add] at hk
          rw [Nat.zero_add, List.nil_append, hk] at hown
          refine ⟨V', w', news, hrun, by rw [hp0]; exact hrel, hown, hp'.mono (fun _ _ h => (by cases h)), fun g hg => (hbl g hg).resolve_left (fun h => (by cases h))⟩
        | some ad =>
          obtain ⟨i, hi, hz, hsz', hby⟩ := info_ofH hsz
          obtain ⟨olds, B0, c0, hrel0, hl0, hV0, hc0, hcell0⟩ := hp
          rw [hV] at hV0
          cases hV0
          obtain ⟨news, B, cB, hrel, hnl, hY, hcB, hcell⟩ := hy
          have hm : 0 < m := by omega
          have hB : ∃ bd, B = some bd := by
            have : 0 < news.length := by rw [hnl]; exact Nat.mul_pos hm u.sz_pos
            obtain ⟨bd, hbd, _⟩ := hcell 0 _ (List.getElem?_eq_getElem this)
            exact ⟨bd, hbd⟩
          obtain ⟨bd, rfl⟩ := hB
          obtain ⟨v', w', hrun, hown, hg⟩ := run_append_arg_grows (P := C.P) w t o.type e i (u.mkv u.zcells) u.sz i.bytes hu hi hz hsz' rfl (by rw [mkv_cells (zcells_length u) (zcells_one u)]; simp [zcells_length u]) u.sz_pos ad (rlen r) c olds hl0 (fun j q hq => by
            obtain ⟨ad', hA', h⟩ := hcell0 j q hq
            cases hA'
            exact h) bd m cB news hnl (fun j q hq => by
            obtain ⟨ad', hA', h⟩ := hcell j q hq
            cases hA'
            exact h) (by omega) (by simp only [maxLen]; omega) (by
              have := Nat.mul_le_mul (Nat.le_of_lt hb) hby
              omega)
          rw [← hV, ← hY, hk] at *
          obtain ⟨hlen, hrest⟩ := hown
          refine ⟨v', w', olds ++ news, hrun, hrel0.append hrel, ⟨hlen, ?_⟩, (Pres.grown hg).mono (fun _ _ h => (by cases h)), fun g hgg => ?_⟩
          · rcases hrest with h | ⟨g, cap, cur, h1, h2, h3⟩
            · exact .inl h
            · exact .inr ⟨g, cap, cur, h1, Nat.zero_le _, h3⟩
          · rcases hrest with ⟨h, _⟩ | ⟨g', cap, cur, h1, h2, h3⟩
            · rw [h] at hgg; cases hgg
            · rw [h1] at hgg; cases hgg; exact h2
      obtain ⟨V', w', nn, hrun, hrel, hown, hp', hbl⟩ := key
      obtain ⟨m1, m2⟩ := hm_push (V := V') (z := u.sz) (o := .cells e u.sz (ps ++ ys)) hC hM hH hp' hbl ⟨⟨u.sz_pos, HEnv.push_zs _ _ _⟩, _, _, by rw [HEnv.push_new]; exact hown, hrel.mono fun _ _ => CellRel.le (HEnv.push_le _ _ _)⟩
      intro next Q hn
      refine wp_value (exec_append ho rfl rfl ((appTy_run hC (hC.tab.hsl _ _ _ ht).1 (some_info (hC.tab.hsl _ _ _ ht).2.info) htt _ _).trans hrun)) (hn V' _ w' ?_ (ext_withH (HEnv.push_le _ _ _)) m1 m2)
      rw [hH.ok.nx]
      exact hrel_sr.2 (encS_own hown)
/-! ### the bytes of a text -/
theorem roBytes_cells (s : ByteArray) : roBytes s = (Lib.strCells s).map .v := by
  rw [← bytesI_cells]
  unfold roBytes cellsL
  generalize bytesI s = l
  induction l with
  | nil => rfl
  | cons x l ih => simp only [List.map_cons, List.flatten_cons, List.map_append, ih]; rfl
theorem good2_toBytes (hC : CtxOk C) (hM : Mem C rw ε w) (hH : HM C h rw ε w) {src dst : TypeId} {x : Operand} (ho : o.op = .convert src dst x) {s : ByteArray} (hx : a.eval x = .string s) (hs : C.T.ty src = some .str) {e : TypeId} (hd : C.T.sl dst = some (.int .u8, e)) :
    Good2 C rw ε a w o (.h .sr (.at h.nx 0 s.size)) [] (h.push (.ro (roBytes s))) := by
  obtain ⟨hu, hse, he⟩ := hC.tab.sl _ _ _ hd
  have he : C.P.underlying e = some (.int .u8) := he
  have hsu : C.P.underlying src = some .string := (hC.tab.ty _ _ hs).2
  have hr := Lib.run_convert_string_bytes (P := C.P) w src dst e s hsu hu he
  have hsz := Lib.bytesWorld_size w e s
  have hp : Pres (fun _ => False) w (Lib.bytesWorld w e s) := ⟨rfl, rfl, rfl, by rw [Lib.bytesWorld_size]; omega, fun k hk _ => Lib.bytesWorld_at_old w e s k hk⟩
  obtain ⟨m1, m2⟩ := hm_push (w' := Lib.bytesWorld w e s) (V := .slice (some ⟨w.heap.size, 0, none⟩) s.size (grownCap w s.size 0 e)) (z := 0) (o := .ro (roBytes s)) hC hM hH hp (fun b hb => by
    have : w.heap.size = b := by simpa [Value.ownBlock] using hb
    omega) ⟨HEnv.push_zs _ _ _, .inr ⟨w.heap.size, s.size, grownCap w s.size 0 e, Lib.strCells s, HEnv.push_new _ _ _, by omega, by
      rw [roBytes_cells]
      refine rel_pure fun u hu => ?_
      rw [← bytesI_cells] at hu
      exact cellsL_one (.int .u8) _ u hu, fun j u hj => by
      have hj' : j < s.size := by
        have := (List.getElem?_eq_some_iff.1 hj).1
        rwa [Lib.strCells_length] at this
      rw [Lib.bytesWorld_cell w e s j hj', ← hj]
      unfold Lib.strCells
      have hj2 : j < s.data.toList.length := by rw [Array.length_toList]; exact hj'
      rw [List.getElem?_map, List.getElem?_eq_getElem hj2, List.getD_eq_getElem?_getD, List.getElem?_eq_getElem hj2]
      rfl⟩⟩
  intro next Q hn
  have hexec : (execOp a.eval o).run C.P w = .ok (.value (.slice (some ⟨w.heap.size, 0, none⟩) s.size (grownCap w s.size 0 e))) (Lib.bytesWorld w e s) := by
    simp [execOp, ho, hx, hr, Result.andThen]
  refine wp_value hexec (hn _ _ _ ?_ (ext_withH (HEnv.push_le _ _ _)) m1 m2)
  rw [hH.ok.nx]
  exact hrel_sr.2 ⟨Nat.lt_succ_self _, _, _, _, _, _, HEnv.push_new _ _ _, rfl, grownCap_ge w s.size 0 e, fun _ => ⟨_, rfl, by rw [Addr.add_zero']⟩, Cap.whole⟩
/-! ### texts ranged over -/
theorem good2_range (hC : CtxOk C) (hM : Mem C rw ε w) (hH : HM C h rw ε w) {xt : TypeId} {x : Operand} (ho : o.op = .range xt x) (ht : C.T.ty xt = some .str) {s : ByteArray} (hx : a.eval x = .string s) : Good2 C rw ε a w o (.h .pr (.at h.nx 0)) [] (h.push (.iter s 0)) := by
  have hu : C.P.underlying xt = some .string := (hC.tab.ty _ _ ht).2
  obtain ⟨m1, m2⟩ := hm_push (w' := w.alloc (.stringIter s 0)) (V := .slice (some ⟨w.heap.size, 0, none⟩) 0 0) (z := 0) (o := .iter s 0) hC hM hH ⟨rfl, rfl, rfl, by simp, fun k hk _ => heap_alloc_old w _ k hk⟩ (fun b hb => by
    have : w.heap.size = b := by simpa [Value.ownBlock] using hb
    omega) ⟨w.heap.size, HEnv.push_new _ _ _, heap_alloc_new _ _⟩
  intro next Q hn
  refine wp_value ?_ (hn (.pointer (some ⟨w.heap.size, 0, none⟩)) _ _ (new_pt hH.ok.nx) (ext_withH (HEnv.push_le _ _ _)) m1 m2)
  simp [execOp, ho, hx, Instr.range, run_underlying hu, Result.andThen]
theorem good2_next (hC : CtxOk C) (hM : Mem C rw ε w) (hH : HM C h rw ε w) {it : Operand} (ho : o.op = .next it true) {p : Pf} (hx : HRel ε.hh .pr p (a.eval it)) {b : Bool} (hm : h.more p = some b) :
    (b = false → Good2 C rw ε a w o (.tup [.v .bool false]) [] h) ∧ (b = true → ∀ q, h.nxt p = some q → Good2 C rw ε a w o (.tup [.v .bool true, .v (.int .i64) q.1, .v (.int .i32) q.2.1]) [] q.2.2) := by
  have hp := hrel_pr.1 hx
  cases p with
  | nil => cases hm
  | «at» n off =>
    cases off with
    | succ k => cases hm
    | zero =>
      have hm : (match h.ob n with | some (.iter s pos) => some (Nat.blt pos s.size) | _ => none) = some b := hm
      split at hm
      · rename_i s pos hob
        cases hm
        obtain ⟨_, ad, m, c, hsv, hV⟩ := hp
        obtain ⟨_, blk, hsv', hblk⟩ := hH.ok.ob n _ hob
        rw [hsv] at hsv'
        cases hsv'
        rw [Addr.add_zero'] at hV
        have hget : (getObj blk).run C.P w = .ok (.stringIter s pos) w := by simp [getObj, Sem.run, hblk]
        constructor
        · intro hb
          have hb : Nat.blt pos s.size = false := hb
          have hle : ¬ pos < s.size := fun h => by rw [show Nat.blt pos s.size = true from Nat.blt_eq ▸ h] at hb; cases hb
          refine good2_pure hM hH (V := .tuple #[.bool false]) ?_ ⟨fun c hc => (by rw [List.mem_singleton.1 hc]; trivial), rfl⟩
          simp [execOp, ho, hV, Instr.next, hget, Result.andThen, hle]
        · intro hb q hq
          have hlt : pos < s.size := by rwa [Nat.blt_eq] at hb
          have hq : (match h.ob n with | some (.iter s pos) => some ((pos : Int), (Utf8.decode s pos).1, h.set n (some (.iter s (pos + (Utf8.decode s pos).2)))) | _ => none) = some q := hq
          rw [hob] at hq
          cases hq
          have hset : (setObj blk (.stringIter s (pos + (Utf8.decode s pos).2))).run C.P w = .ok () { w with heap := w.heap.setIfInBounds blk (.stringIter s (pos + (Utf8.decode s pos).2)) } := by simp [setObj, Sem.run, hblk]
          have hbs : blk < w.heap.size := (Array.getElem?_eq_some_iff.1 hblk).1
          have hvb : (ε.hh.hv n).ownBlock = some blk := by rw [hsv]; rfl
          obtain ⟨m1, m2⟩ := hm_set (w' := { w with heap := w.heap.setIfInBounds blk (.stringIter s (pos + (Utf8.decode s pos).2)) }) hC hM hH hob (q' := .iter s (pos + (Utf8.decode s pos).2))
            ⟨rfl, rfl, rfl, by simp, fun k hk hne => by
              simp only
              rw [Array.getElem?_setIfInBounds_ne]
              rintro rfl
              exact hne hvb.symm⟩ ⟨blk, hsv, by simp [Array.getElem?_setIfInBounds_self_of_lt, hbs]⟩
          intro next Q hn
          refine wp_value ?_ (hn (.tuple #[.bool true, .int .i64 pos, .int .i32 (Utf8.decode s pos).1]) _ _ ⟨fun c hc => ?_, rfl⟩ (ext_withH (HEnv.le.refl _)) m1 m2)
          · simp [execOp, ho, hV, Instr.next, hget, Result.andThen, hlt, hset, goInt]
          · simp only [List.mem_cons, List.not_mem_nil, or_false] at hc
            rcases hc with rfl | rfl | rfl <;> trivial
      · cases hm
end
end Go.Ev

