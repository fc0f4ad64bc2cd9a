import Derived.Test.YtfglahmbnnkijaaEv2
/- An evaluator of the model that knows a heap, and that it is sound: part 3 of 4. -/
set_option linter.unusedVariables false
set_option linter.unusedSimpArgs false
/- Calls of functions that take the heap; heap slices looked at as rows. -/
namespace Go.Ev
open Go.RowKit
section
variable {C : Ctx} {rw rw' : RW} {ε ε' : Env} {w w' : World} {g : Nat → Option AV} {a : Act} {o : Oper} {h h' : Hp}
/-- What arguments tell. -/
def ArgsG (rw : RW) (ε : Env) (w : World) (ps : List Par) (ys : argL ps) (us : Upd) (rs : List Nat) (Vs : List Value) : Prop :=
  (∀ m x, (m, x) ∈ us → x = none ∧ m ∈ rs ∧ ∃ z, row rw m = some z ∧ z.own = true) ∧
  (∀ S : Nat → Prop, (∀ r ∈ given us, ∀ b, (ε.sv r).ownBlock = some b → S b) → (∀ r ∈ rs, r ∉ given us → ∀ z, row rw r = some z → z.xs ≠ [] → ∀ b, (ε.sv r).ownBlock = some b → ¬ S b) → ArgsOk ε.hh w S ps ys Vs) ∧
  (∀ V ∈ ownVals ps Vs, ∀ b, V.ownBlock = some b → ∃ r ∈ given us, (ε.sv r).ownBlock = some b) ∧ (ownVals ps Vs).Pairwise apart2
theorem resOf2_rel {η : HEnv} {rw' : RW} {ε' : Env} {cs : List AC} {Rs : List Value} (he : ε'.hh = η) (hu' : ∀ c ∈ cs, (match c with | .v _ _ => True | .h _ _ => True | .sl m => rw' m ≠ none | .pt m => rw' m ≠ none ∧ ∃ ad n c, ε'.sv m = .slice (some ad) n c ∧ 0 < n)) (hR : All2 (PRel η ε') cs Rs) : VRel rw' ε' (resOf2 cs) (retV Rs) := by
  subst he
  have key : All2 (ACRel rw' ε') cs Rs := hR.mono_mem fun c hc V hV => by
    have := hu' c hc
    cases c with
    | v t x => exact hV
    | h t x => exact hV
    | sl m => exact ⟨this, hV⟩
    | pt m =>
      obtain ⟨h1, ad, n, c, hsv, hn⟩ := this
      refine ⟨h1, ad, n, c, hsv, hn, ?_⟩
      rw [show V = toPt (ε'.sv m) from hV, hsv]
      rfl
  match cs, Rs, key with
  | [], [], _ => exact ⟨[], rfl, trivial⟩
  | [c], [V], key =>
    have k := key.1
    cases c with
    | v t x => exact k
    | h t x => exact k
    | sl m => exact k
    | pt m =>
      obtain ⟨h1, ad, n, c, hsv, hn, hV⟩ := k
      exact ⟨h1, ad, n, c, hsv, Int.le_refl _, by omega, by rw [show retV [V] = V from rfl, hV]; simp [Addr.add]⟩
  | c :: c' :: cs, V :: V' :: Vs, key =>
    have e : resOf2 (c :: c' :: cs) = .ht (c :: c' :: cs) := by cases c <;> rfl
    rw [e]
    exact ⟨_, rfl, key⟩
theorem strip_add {ps : List Par} (hh : hasHp ps = true) (ys : argL (strip ps)) : stripA ps (addH ps h ys) = ys ∧ hpA ps (addH ps h ys) = h := by
  cases ps with
  | nil => cases hh
  | cons p ps => cases p <;> first | exact ⟨rfl, rfl⟩ | cases hh
theorem good2_call (hC : CtxOk C) (hM : Mem C rw ε w) (hH : HM C h rw ε w) {sg : FuncId → Sig} {callF : (f : FuncId) → argL (sg f).ps → Option (retL (sg f).rs)} {f : FuncId} (hf : CallOk C.P C.W0 sg callF f) {Vs : List Value}
    (ho : (execOp a.eval o).run C.P w = (callFunc f Vs.toArray).run C.P w) {ys : argL (strip (sg f).ps)} {us : Upd} {rs : List Nat} (ha : ArgsG rw ε w (strip (sg f).ps) ys us rs Vs) (hh : hasHp (sg f).ps = true) {r : retL (sg f).rs} (hr : callF f (addH (sg f).ps h ys) = some r) {d : Nat} {cs : List AC} {vs : Upd} (hp : parts d (stripT (sg f).rs) (stripR (sg f).rs r) = (cs, vs)) (hnew : allNew rw vs = true) :
    Good2 C rw ε a w o (resOf2 cs) (us ++ vs) (hpR (sg f).rs r) := by
  obtain ⟨k1, k2, k3, k4⟩ := ha
  have hnewS := allNew_spec hnew
  have hus : ∀ m x, (m, x) ∈ us → x = none := fun m x hm => (k1 m x hm).1
  have hgu : ∀ m ∈ given us, ∃ z, row rw m = some z ∧ z.own = true := fun m hm => by
    obtain ⟨x, hx⟩ := mem_given.1 hm
    exact (k1 m x hx).2.2
  let S : Nat → Prop := fun b => (∃ r ∈ given us, (ε.sv r).ownBlock = some b) ∨ ∃ n, h.ob n ≠ none ∧ (ε.hh.hv n).ownBlock = some b
  have hSm : ∀ b, S b → C.mine b := by
    rintro b (⟨r, hr, hb⟩ | ⟨n, hn, hb⟩)
    · obtain ⟨z, hz, hzo⟩ := hgu r hr
      exact ((hM.ok r z hz).own hzo).2 b hb
    · exact hH.mine n hn b hb
  have hfar : ∀ r z, row rw r = some z → r ∉ given us → (z.own = true ∨ z.xs ≠ []) → ∀ b, (ε.sv r).ownBlock = some b → ¬ S b := by
    rintro r z hz hn hx b hb (⟨r', hr', hb'⟩ | ⟨n, hn', hb'⟩)
    · obtain ⟨z', hz', hzo'⟩ := hgu r' hr'
      exact hM.sep r' z' r z hz' hzo' hz (fun e => hn (e ▸ hr')) hx b hb' hb
    · exact hH.rows n hn' b hb' r z hz hx hb
  have hargs := k2 S (fun r hr b hb => .inl ⟨r, hr, hb⟩) (fun r _ hn z hz hx b hb => hfar r z hz hn (.inr hx) b hb)
  obtain ⟨e1, e2⟩ := strip_add (h := h) hh ys
  obtain ⟨henters, hcalls⟩ := hf _ r hr
  have hcall := hcalls ε.hh w S Vs (below_now hC hM) (fun b hb => hC.base b (hSm b hb)) (by rw [e1]; exact hargs) k4 (by rw [e2]; exact hH.ok) (by
    rw [e2]
    intro n hn b hb
    refine ⟨.inr ⟨n, hn, hb⟩, fun V hV hVb => ?_⟩
    obtain ⟨r', hr', hb'⟩ := k3 V hV b hVb
    obtain ⟨z, hz, hzo⟩ := hgu r' hr'
    exact hH.rows n hn b hb r' z hz (.inl hzo) hb')
  intro next Q hn
  unfold Oper.wp
  rw [ho, henters, Oper.upon_enter]
  refine hcall.mono ?_
  rintro e w' ⟨Rs, η', rfl, h1, h2, h3, h4, h5, h6⟩
  obtain ⟨ε', g1, g2, g3, g4, g5, g6, g7, g8⟩ := parts_sound hp h1 h2 (ε.withH η')
  have g2 : ε'.hh = η' := g2
  have hupd : updF rw (us ++ vs) = updF (updF rw us) vs := updF_append _ _ _
  have husedU : ∀ m, rw m ≠ none → m ∉ given vs := fun m hm hm' => hm (hnewS m hm')
  have rowOld : ∀ m, m ∉ given vs → row (updF (updF rw us) vs) m = row (updF rw us) m := fun m hm => by unfold row; rw [updF_notin _ _ hm]
  have rowNew : ∀ m x, (m, x) ∈ vs → row (updF (updF rw us) vs) m = x := fun m x hm => by
    unfold row
    rw [updF_in _ _ hm g4]
    cases x <;> rfl
  have hold : ∀ m x, row (updF (updF rw us) vs) m = some x → m ∉ given vs → row rw m = some x ∧ m ∉ given us := by
    intro m x hrow hN
    rw [rowOld m hN] at hrow
    have hnu : m ∉ given us := fun hm => by
      unfold row at hrow
      rw [updF_kill _ _ hus hm] at hrow
      cases hrow
    refine ⟨?_, hnu⟩
    unfold row at hrow ⊢
    rw [updF_notin _ _ hnu] at hrow
    exact hrow
  have hMem : Mem C (updF (updF rw us) vs) ε' w' := by
    refine mem_step hC hM (N := fun m => m ∈ given vs) h3 (fun k _ h => hSm k h) (fun m x hrow hN => ?_) (fun m x hrow hN => ?_) (fun m x m' x' _ _ hN hN' hne => g8 m hN m' hN' hne)
    · obtain ⟨hrow', hnu⟩ := hold m x hrow hN
      exact ⟨hrow', (g1 m hN).1, (g1 m hN).2, hfar m x hrow' hnu⟩
    · obtain ⟨x', hx'⟩ := mem_given.1 hN
      rw [rowNew m x' hx'] at hrow
      subst hrow
      obtain ⟨z, j1, j2, j3, j4, j6⟩ := g7 m _ hx'
      cases j1
      refine ⟨⟨j3, fun _ => ⟨j4, fun b hb => ?_⟩, own_read j4⟩, j6⟩
      rcases j6 b hb with h | h
      · exact hSm b h
      · exact hC.new b (Nat.le_trans hM.pres.size h)
  refine hn (retV Rs) ε' w' (resOf2_rel (η := η') g2 (fun c hc => ?_) g3) ⟨fun m hm => updF_used _ _ (.inl hm), fun m hm => (g1 m (husedU m hm)).1, fun m hm => (g1 m (husedU m hm)).2, by rw [g2]; exact h4⟩ (by rw [hupd]; exact hMem) ?_
  · have hin : ∀ m, m ∈ given vs → updF rw (us ++ vs) m ≠ none := fun m hm => updF_used _ _ (.inr (by rw [given_append]; exact List.mem_append_right _ hm))
    have := g6 c hc
    cases c with
    | v t x => trivial
    | h t x => trivial
    | sl m => exact hin m this
    | pt m => exact ⟨hin m this.1, this.2⟩
  · rw [hupd]
    refine ⟨by rw [g2]; exact h5, fun n hn' b hb => ?_, fun n hn' b hb m x hrow hx hb' => ?_, hH.ge.trans (by rw [g2]; exact h4)⟩
    · rw [g2] at hb
      rcases (h6 n hn' b hb).1 with h | h
      · exact hSm b h
      · exact hC.new b (Nat.le_trans hM.pres.size h)
    · rw [g2] at hb
      obtain ⟨q1, q2⟩ := h6 n hn' b hb
      by_cases hN : m ∈ given vs
      · obtain ⟨V, hV, hVb⟩ := (g5 m hN).2
        rw [hVb] at hb'
        exact q2 V hV hb'
      · obtain ⟨hrow', hnu⟩ := hold m x hrow hN
        have hb'' : (ε.sv m).ownBlock = some b := by rw [← show ε'.sv m = ε.sv m from (g1 m hN).1]; exact hb'
        rcases q1 with q1 | q1
        · exact hfar m x hrow' hnu hx b hb'' q1
        · have hok := hM.ok m x hrow'
          have : b < w.heap.size := by
            rcases hx with hx | hx
            · exact own_ltG (hok.own hx).1 b hb''
            · exact hok.read.lt hx b hb''
          omega
/-! ### arguments -/
theorem argsG_nil : ArgsG rw ε w [] () [] [] [] := ⟨fun m x hm => (by cases hm), fun S _ _ => trivial, fun V hV => (by cases hV), List.Pairwise.nil⟩
theorem argsG_free {p : Par} {ps : List Par} {y : p.den} {ys : argL ps} {us : Upd} {rs : List Nat} {V : Value} {Vs : List Value} (hp : ∀ S, ArgOk ε.hh w S p y V) (hno : ∀ t e, p ≠ .own t e) (h : ArgsG rw ε w ps ys us rs Vs) : ArgsG rw ε w (p :: ps) (y, ys) us rs (V :: Vs) := by
  obtain ⟨h1, h2, h3, h4⟩ := h
  have e : ownVals (p :: ps) (V :: Vs) = ownVals ps Vs := by cases p <;> first | rfl | exact absurd rfl (hno _ _)
  exact ⟨h1, fun S a b => ⟨hp S, h2 S a b⟩, by rw [e]; exact h3, by rw [e]; exact h4⟩
theorem argsG_cons (hM : Mem C rw ε w) (hS : Slots rw ε g a) {p : Par} {ps : List Par} {x : Operand} {Vs : List Value} {y : p.den} {us1 : Upd} {ys1 : argL ps} {vs : Upd} {rs1 : List Nat} (h1 : toArg C.T g rw p x = some (y, us1)) (hi : ArgsG rw ε w ps ys1 vs rs1 Vs) (hd : (disj (given us1) rs1 && disj (argRow g x) (given vs)) = true) :
    ArgsG rw ε w (p :: ps) (y, ys1) (us1 ++ vs) (argRow g x ++ rs1) (a.eval x :: Vs) := by
  rw [Bool.and_eq_true] at hd
  have hd1 := disj_spec hd.1
  have hd2 := disj_spec hd.2
  obtain ⟨k1, k2, k3⟩ := toArg_sound hM hS h1
  obtain ⟨i1, i2, i3, i4⟩ := hi
  have hgv : ∀ r ∈ given vs, r ∈ rs1 := fun r hr => by
    obtain ⟨x', hx'⟩ := mem_given.1 hr
    exact (i1 r x' hx').2.1
  refine ⟨?_, ?_, ?_, ?_⟩
  · intro m x' hm
    rcases List.mem_append.1 hm with hm | hm
    · rcases k1 with rfl | ⟨r, z, rfl, hz, hzo, hr⟩
      · cases hm
      · rcases List.mem_singleton.1 hm with hm
        cases hm
        exact ⟨rfl, by rw [hr]; simp, z, hz, hzo⟩
    · obtain ⟨j1, j2, j3⟩ := i1 m x' hm
      exact ⟨j1, List.mem_append_right _ j2, j3⟩
  · intro S hS1 hS2
    rw [given_append] at hS1 hS2
    refine ⟨k2 S (fun r hr => hS1 r (List.mem_append_left _ hr)) (fun r hr hn z hz hx => ?_) _, i2 S (fun r hr => hS1 r (List.mem_append_right _ hr)) (fun r hr hn z hz hx => ?_)⟩
    · refine hS2 r (List.mem_append_left _ hr) ?_ z hz hx
      intro hm
      rcases List.mem_append.1 hm with hm | hm
      · exact hn hm
      · exact hd2 r hr hm
    · refine hS2 r (List.mem_append_right _ hr) ?_ z hz hx
      intro hm
      rcases List.mem_append.1 hm with hm | hm
      · exact hd1 r hm hr
      · exact hn hm
  · intro V hV b hb
    rw [given_append]
    have hV : V = a.eval x ∧ (∃ t e, p = .own t e) ∨ V ∈ ownVals ps Vs := by
      cases p <;> simp only [ownVals] at hV <;> first | exact .inr hV | skip
      rcases List.mem_cons.1 hV with h | h
      · exact .inl ⟨h, _, _, rfl⟩
      · exact .inr h
    rcases hV with ⟨rfl, t, e, rfl⟩ | hV
    · obtain ⟨r, hr, hb'⟩ := k3 t e rfl b hb
      exact ⟨r, List.mem_append_left _ hr, hb'⟩
    · obtain ⟨r, hr, hb'⟩ := i3 V hV b hb
      exact ⟨r, List.mem_append_right _ hr, hb'⟩
  · have key : ∀ t e, p = .own t e → (a.eval x :: ownVals ps Vs).Pairwise apart2 := by
      intro t e hp
      refine List.Pairwise.cons (fun V' hV' b hb hb' => ?_) i4
      obtain ⟨r, hr, hrb⟩ := k3 t e hp b hb
      obtain ⟨r', hr', hrb'⟩ := i3 V' hV' b hb'
      have hne : r ≠ r' := by
        rintro rfl
        exact hd1 r hr (hgv r hr')
      obtain ⟨x1, hx1⟩ := mem_given.1 hr
      obtain ⟨x2, hx2⟩ := mem_given.1 hr'
      obtain ⟨_, _, z2, hz2, ho2⟩ := i1 r' x2 hx2
      rcases k1 with rfl | ⟨r0, z, rfl, hz, hzo, _⟩
      · cases hr
      · have : r = r0 := by simpa [given] using hr
        subst this
        exact hM.sep r z r' z2 hz hzo hz2 hne (.inl ho2) b hrb hrb'
    cases p <;> simp only [ownVals] <;> first | exact i4 | exact key _ _ rfl
theorem toArgs2_sound (hM : Mem C rw ε w) (hS : Slots rw ε g a) : ∀ {ps : List Par} {l : List Operand} {ys : argL ps} {us : Upd} {rs : List Nat}, toArgs2 C.T g rw ps l = some (ys, us, rs) → ArgsG rw ε w ps ys us rs (l.map a.eval)
  | [], [], ys, us, rs, h => by
    cases h
    exact argsG_nil
  | [], _ :: _, _, _, _, h => by cases h
  | p :: ps, [], _, _, _, h => by cases p <;> cases h
  | p :: ps, x :: l, ys, us, rs, h => by
    by_cases hp1 : ∃ t, p = .h t
    · obtain ⟨t, rfl⟩ := hp1
      simp only [toArgs2] at h
      split at h
      · rename_i y ys1 vs rs1 h1 h2
        cases h
        exact argsG_free (p := .h t) (y := y) (fun _ => opdH_rel hS h1) (fun _ _ h => by cases h) (toArgs2_sound hM hS h2)
      · cases h
    · by_cases hp2 : p = .fn
      · subst hp2
        have h : (match opd C.T g 0 x, toArgs2 C.T g rw ps l with
          | some (.fn f caps), some (ys, vs, rs) => some (((f, caps), ys), vs, rs)
          | _, _ => none) = some (ys, us, rs) := h
        split at h
        · rename_i f caps ys1 vs rs1 h1 h2
          cases h
          exact argsG_free (p := .fn) (y := (f, caps)) (fun _ => opd_rel hS h1) (fun _ _ h => by cases h) (toArgs2_sound hM hS h2)
        · cases h
      · have h : (match toArg C.T g rw p x, toArgs2 C.T g rw ps l with
          | some (y, us), some (ys, vs, rs) => bif disj (given us) rs && disj (argRow g x) (given vs) then some ((y, ys), us ++ vs, argRow g x ++ rs) else none
          | _, _ => none) = some (ys, us, rs) := by
          cases p <;> first | exact h | exact absurd rfl hp2 | exact absurd ⟨_, rfl⟩ hp1
        split at h
        · rename_i y us1 ys1 vs rs1 h1 h2
          obtain ⟨hd, h⟩ := bif_some h
          cases h
          exact argsG_cons hM hS h1 (toArgs2_sound hM hS h2) hd
        · cases h
theorem capArgs_sound : ∀ {ps : List Par} {l : List Pf} {ys : argL ps} {cs : List Value}, capArgs ps l = some ys → All2 (EncP ε.hh) l cs → ArgsG rw ε w ps ys [] [] cs
  | [], [], ys, [], h, _ => by
    cases h
    exact argsG_nil
  | [], [], _, _ :: _, _, hl => hl.elim
  | [], _ :: _, _, _, h, _ => by cases h
  | p :: ps, [], _, _, h, _ => by
    cases p <;> first | (cases h; done) | skip
    rename_i t
    cases t <;> simp [capArgs] at h
  | p :: ps, q :: l, ys, [], _, hl => hl.elim
  | p :: ps, q :: l, ys, V :: cs, h, hl => by
    cases p <;> first | (cases h; done) | skip
    rename_i t
    cases t <;> first | (cases h; done) | skip
    have h : (match capArgs ps l with
      | some ys => some (q, ys)
      | none => none) = some ys := h
    split at h
    · rename_i ys1 h1
      cases h
      exact argsG_free (p := .h .pr) (y := q) (fun _ => hrel_pr.2 hl.1) (fun _ _ h => by cases h) (capArgs_sound h1 hl.2)
    · cases h
theorem toArgs3_sound (hM : Mem C rw ε w) (hS : Slots rw ε g a) {caps : List Pf} {cs : List Value} (hc : All2 (EncP ε.hh) caps cs) : ∀ {ps : List Par} {l : List Operand} {ys : argL ps} {us : Upd} {rs : List Nat}, toArgs3 C.T g rw caps ps l = some (ys, us, rs) → ArgsG rw ε w ps ys us rs (l.map a.eval ++ cs)
  | ps, [], ys, us, rs, h => by
    have h : (match capArgs ps caps with
      | some ys => some (ys, ([] : Upd), ([] : List Nat))
      | none => none) = some (ys, us, rs) := by
      cases ps with
      | nil => exact h
      | cons p ps => cases p <;> exact h
    split at h
    · rename_i ys1 h1
      cases h
      exact capArgs_sound h1 hc
    · cases h
  | [], _ :: _, _, _, _, h => by cases h
  | p :: ps, x :: l, ys, us, rs, h => by
    cases p <;> first | (cases h; done) | skip
    · rename_i t
      simp only [toArgs3] at h
      split at h
      · rename_i y us1 ys1 vs rs1 h1 h2
        cases h
        refine argsG_free (p := .v t) (y := y) (fun S => ?_) (fun _ _ h => by cases h) (toArgs3_sound hM hS hc h2)
        have h1 : (match opdDen C.T g t x with
          | some y => some (y, ([] : Upd))
          | none => none) = some (y, us1) := h1
        split at h1
        · rename_i y' hy
          cases h1
          exact opdDen_rel hS hy
        · cases h1
      · cases h
    · rename_i t
      simp only [toArgs3] at h
      split at h
      · rename_i y ys1 vs rs1 h1 h2
        cases h
        exact argsG_free (p := .h t) (y := y) (fun _ => opdH_rel hS h1) (fun _ _ h => by cases h) (toArgs3_sound hM hS hc h2)
      · cases h
/-- What an interface value holds. -/
theorem recvOf_rel {t : TypeId} {i : If} {V : Value} (hi : EncI ε.hh i V) {p : Par} {y : p.den} (hy : recvOf t i p = some y) : ∃ u, V = .iface t u ∧ (∀ S, ArgOk ε.hh w S p y u) ∧ ∀ t e, p ≠ .own t e := by
  unfold recvOf at hy
  split at hy
  · cases i with
    | sl s r =>
      obtain ⟨hb, hy⟩ := bif_some (show (bif Nat.beq s t then some r else none) = some y from hy)
      cases hy
      obtain rfl := Nat.eq_of_beq_eq_true hb
      obtain ⟨u, h1, h2⟩ := hi
      exact ⟨u, h1, fun _ => hrel_sr.2 h2, fun _ _ h => by cases h⟩
    | _ => cases hy
  · cases i with
    | pt s r =>
      obtain ⟨hb, hy⟩ := bif_some (show (bif Nat.beq s t then some r else none) = some y from hy)
      cases hy
      obtain rfl := Nat.eq_of_beq_eq_true hb
      obtain ⟨u, h1, h2⟩ := hi
      exact ⟨u, h1, fun _ => hrel_pr.2 h2, fun _ _ h => by cases h⟩
    | _ => cases hy
  · cases i with
    | two s b c =>
      obtain ⟨hb, hy⟩ := bif_some (show (bif Nat.beq s t then some (b, c) else none) = some y from hy)
      cases hy
      obtain rfl := Nat.eq_of_beq_eq_true hb
      obtain ⟨u, v, h1, h2, h3⟩ := hi
      exact ⟨_, h1, fun _ => ⟨[u, v], ⟨h2, h3, trivial⟩, rfl⟩, fun _ _ h => by cases h⟩
    | _ => cases hy
  · cases hy
theorem invArgs_sound (hM : Mem C rw ε w) (hS : Slots rw ε g a) {t : TypeId} {i : If} {V : Value} (hi : EncI ε.hh i V) {ps : List Par} {l : List Operand} {ys : argL ps} {us : Upd} {rs : List Nat} (h : invArgs C.T g rw t i ps l = some (ys, us, rs)) : ∃ u, V = .iface t u ∧ ArgsG rw ε w ps ys us rs (u :: l.map a.eval) := by
  cases ps with
  | nil => cases h
  | cons p ps =>
    have h : (match recvOf t i p, toArgs2 C.T g rw ps l with
      | some y, some (ys, vs, rs) => some ((y, ys), vs, rs)
      | _, _ => none) = some (ys, us, rs) := h
    split at h
    · rename_i y ys1 vs rs1 h1 h2
      cases h
      obtain ⟨u, k1, k2, k3⟩ := recvOf_rel (w := w) hi h1
      exact ⟨u, k1, argsG_free k2 k3 (toArgs2_sound hM hS h2)⟩
    · cases h
end
end Go.Ev

/- Slices of the heap looked at as rows; one operation that knows the heap, put together. -/
namespace Go.Ev
open Go.RowKit
section
variable {C : Ctx} {rw rw' : RW} {ε ε' ε0 : Env} {w w' : World} {g : Nat → Option AV} {a : Act} {o : Oper} {h h' : Hp} {R : Type}
theorem rd_read (hH : HM C h rw ε w) {t : Ty} {r : Rf} {xs : List t.den} (hr : h.rd t r = some xs) {ex : Bool} {V : Value} (hv : EncS ε.hh ex r V) : ReadV w t xs V ∧ (xs ≠ [] → ∃ n, h.ob n ≠ none ∧ (ε.hh.hv n).ownBlock = V.ownBlock) := by
  cases r with
  | nil =>
    cases hr
    rw [show V = _ from hv]
    exact ⟨readV_nil w t, fun h => absurd rfl h⟩
  | «at» n k len =>
    have hr : (match h.cl n with
      | some cs => bif Nat.ble (k + len * t.sz) cs.length then decL (.p t) len (cs.drop k) else none
      | _ => none) = some xs := hr
    split at hr
    · rename_i cs hob
      obtain ⟨hle, hr⟩ := bif_some hr
      have hle := Nat.le_of_ble_eq_true hle
      obtain ⟨hn, A, m, c, A', c', hsv, hV, hlc, hne, _⟩ := hv
      obtain ⟨A0, m0, c0, XS, hv0, hrel, hcell, hlive⟩ := cl_read hH hob
      rw [hsv] at hv0
      cases hv0
      obtain ⟨hcc, hlen⟩ := decL_eq hr (by rw [List.length_drop]; show len * t.sz ≤ _; omega)
      rw [new_cells] at hcc
      have hsz : (HTy.p t).sz = t.sz := rfl
      rw [hsz] at hcc
      have hrel2 := (hrel.drop k).take (len * t.sz)
      rw [hcc] at hrel2
      have hX := pure_rel hrel2
      subst hlen
      refine ⟨⟨A', c', hV, hlc, fun j u hu => ?_⟩, fun hx => ⟨n, hlive, ?_⟩⟩
      · have hpos : 0 < xs.length := by
          cases xs with
          | nil => simp [cellsL] at hu
          | cons x l => simp
        obtain ⟨ad, rfl, rfl⟩ := hne hpos
        refine ⟨_, rfl, ?_⟩
        rw [← hX, List.getElem?_take] at hu
        split at hu
        · rw [List.getElem?_drop] at hu
          rw [Addr.add_add]
          exact hcell _ _ hu _ rfl
        · cases hu
      · have hpos : 0 < xs.length := by
          cases xs with
          | nil => exact absurd rfl hx
          | cons x l => simp
        obtain ⟨ad, rfl, rfl⟩ := hne hpos
        rw [hsv, hV]
        have hbl : (ad.add k).block = ad.block := by unfold Addr.add; split <;> rfl
        simp [Value.ownBlock, hbl]
    · cases hr
/-- What views keep. -/
structure VOk (C : Ctx) (h : Hp) (rw0 : RW) (ε0 : Env) (w : World) (Vw : Nat → Prop) (g : Nat → Option AV) (a : Act) (rw : RW) (ε : Env) : Prop where
  mem : Mem (farOf C h ε0 w Vw) rw ε w
  hh : ε.hh = ε0.hh
  slots : Slots rw ε g a
  own : ∀ r x, row rw r = some x → x.own = true → row rw0 r = some x ∧ ε.sv r = ε0.sv r
  keep : ∀ m, ¬ Vw m → rw m = rw0 m ∧ ε.sv m = ε0.sv m ∧ ε.ty m = ε0.ty m
theorem view_one (hC : CtxOk C) {rw0 : RW} (hH : HM C h rw0 ε0 w) {Vw : Nat → Prop} (k : VOk C h rw0 ε0 w Vw g a rw ε) {t : Ty} {e : TypeId} {r : Rf} {ex : Bool} {n q : Nat} (hv : EncS ε0.hh ex r (a.tmps.getD n undef)) {xs : List t.den} (hr : h.rd t r = some xs) (hq : rw q = none) (hV : Vw q) :
    VOk C h rw0 ε0 w Vw (setG g n (.sl q)) a (setW rw q ⟨t, e, false, xs⟩) (ε.put q (a.tmps.getD n undef) t) := by
  obtain ⟨hread, hblk⟩ := rd_read hH hr hv
  have hset : ∀ m, setW rw q ⟨t, e, false, xs⟩ m = if m = q then some (some ⟨t, e, false, xs⟩) else rw m := by
    intro m
    unfold setW
    by_cases hm : m = q
    · rw [if_pos hm, hm, Nat.beq_refl]; rfl
    · rw [if_neg hm]
      cases hb : Nat.beq m q with
      | true => exact absurd (Nat.eq_of_beq_eq_true hb) hm
      | false => rfl
  have hrow : ∀ m, row (setW rw q ⟨t, e, false, xs⟩) m = if m = q then some ⟨t, e, false, xs⟩ else row rw m := by
    intro m
    unfold row
    rw [hset]
    by_cases hm : m = q <;> simp [hm]
  have hfar : ∀ b, xs ≠ [] → (a.tmps.getD n undef).ownBlock = some b → ∃ n', h.ob n' ≠ none ∧ (ε0.hh.hv n').ownBlock = some b := fun b hx hb => by
    obtain ⟨n', h1, h2⟩ := hblk hx
    exact ⟨n', h1, by rw [h2]; exact hb⟩
  refine ⟨⟨fun m x hm => ?_, fun m x m' x' hm hxo hm' hne hxo' b hb => ?_, k.mem.pres, fun m x hm hvw hx b hb => ?_⟩, k.hh, fun m av hm => ?_, fun m x hm hxo => ?_, fun m hm => ?_⟩
  · rw [hrow] at hm
    split at hm
    · rename_i e1
      cases hm
      subst e1
      exact ⟨Env.put_ty_same _ _ _ _, fun h => (by cases h), by rw [Env.put_sv_same]; exact hread⟩
    · rename_i e1
      have := k.mem.ok m x hm
      exact ⟨by rw [Env.put_ty_ne _ _ _ e1]; exact this.ty, by rw [Env.put_sv_ne _ _ _ e1]; exact this.own, by rw [Env.put_sv_ne _ _ _ e1]; exact this.read⟩
  · rw [hrow] at hm hm'
    split at hm
    · cases hm
      cases hxo
    · rename_i e1
      rw [Env.put_sv_ne _ _ _ e1] at hb
      split at hm'
      · rename_i e2
        cases hm'
        subst e2
        rw [Env.put_sv_same]
        intro hb'
        obtain ⟨n', h1, h2⟩ := hfar b (hxo'.resolve_left (fun h => by cases h)) hb'
        obtain ⟨h3, h4⟩ := k.own m x hm hxo
        exact hH.rows n' h1 b h2 m x h3 (.inl hxo) (by rw [← h4]; exact hb)
      · rename_i e2
        rw [Env.put_sv_ne _ _ _ e2]
        exact k.mem.sep m x m' x' hm hxo hm' hne hxo' b hb
  · rw [hrow] at hm
    split at hm
    · rename_i e1
      exact absurd (e1 ▸ hV) hvw
    · rename_i e1
      rw [Env.put_sv_ne _ _ _ e1] at hb
      exact k.mem.far m x hm hvw hx b hb
  · have hext : Ext rw ε (setW rw q ⟨t, e, false, xs⟩) (ε.put q (a.tmps.getD n undef) t) := by
      refine ⟨fun m hm => ?_, fun m hm => Env.put_sv_ne _ _ _ (fun e => hm (e ▸ hq)), fun m hm => Env.put_ty_ne _ _ _ (fun e => hm (e ▸ hq)), rfl⟩
      rw [hset]
      split
      · simp
      · exact hm
    unfold setG at hm
    cases hb : Nat.beq m n with
    | true =>
      rw [hb] at hm
      cases hm
      obtain rfl := Nat.eq_of_beq_eq_true hb
      refine ⟨?_, (Env.put_sv_same _ _ _ _).symm⟩
      rw [hset, if_pos rfl]
      simp
    | false =>
      rw [hb] at hm
      exact (k.slots m av hm).ext hext
  · rw [hrow] at hm
    split at hm
    · cases hm; cases hxo
    · rename_i e1
      rw [Env.put_sv_ne _ _ _ e1]
      exact k.own m x hm hxo
  · have e1 : m ≠ q := fun e => hm (e ▸ hV)
    rw [hset, if_neg e1, Env.put_sv_ne _ _ _ e1, Env.put_ty_ne _ _ _ e1]
    exact k.keep m hm
theorem views_sound (hC : CtxOk C) {rw0 : RW} (hH : HM C h rw0 ε0 w) {Vw : Nat → Prop} {K : (Nat → Option AV) → RW → Option R} {r : R} : ∀ (l : List (Operand × Ty × TypeId)) (q : Nat) (g : Nat → Option AV) (rw : RW) (ε : Env), VOk C h rw0 ε0 w Vw g a rw ε → (∀ m, q ≤ m → m < q + l.length → Vw m) → views h q l g rw K = some r →
    ∃ g' rw' ε', K g' rw' = some r ∧ VOk C h rw0 ε0 w Vw g' a rw' ε'
  | [], q, g, rw, ε, k, _, hK => ⟨g, rw, ε, hK, k⟩
  | (x, t, e) :: l, q, g, rw, ε, k, hV, hK => by
    have hV1 : ∀ m, q + 1 ≤ m → m < q + 1 + l.length → Vw m := fun m h1 h2 => hV m (by omega) (by simp; omega)
    have hV2 : ∀ m, q ≤ m → m < q + l.length → Vw m := fun m h1 h2 => hV m h1 (by simp; omega)
    have hVq : Vw q := hV q (Nat.le_refl _) (by simp)
    cases x with
    | tmp n =>
      simp only [views] at hK
      split at hK
      · rename_i rf hg
        cases hrd : h.rd t rf with
        | none => rw [hrd] at hK; cases hK
        | some xs =>
          rw [hrd] at hK
          simp only [Option.bind_some] at hK
          obtain ⟨hn, hK⟩ := bif_some hK
          have hv : EncS ε0.hh true rf (a.tmps.getD n undef) := by
            have := k.slots n _ hg
            rw [← k.hh]
            exact hrel_sr.1 this
          exact views_sound hC hH l (q + 1) _ _ _ (view_one hC hH k hv hrd (isNew_eq hn) hVq) hV1 hK
      · rename_i rf cc hg
        cases hrd : h.rd t rf with
        | none => rw [hrd] at hK; cases hK
        | some xs =>
          rw [hrd] at hK
          simp only [Option.bind_some] at hK
          obtain ⟨hn, hK⟩ := bif_some hK
          have hv : EncS ε0.hh false rf (a.tmps.getD n undef) := by
            have := k.slots n _ hg
            rw [← k.hh]
            exact this.1
          exact views_sound hC hH l (q + 1) _ _ _ (view_one hC hH k hv hrd (isNew_eq hn) hVq) hV1 hK
      · exact views_sound hC hH l q g rw ε k hV2 hK
    | const c => exact views_sound hC hH l q g rw ε k hV2 hK
    | global c => exact views_sound hC hH l q g rw ε k hV2 hK
    | func c => exact views_sound hC hH l q g rw ε k hV2 hK
/-- Names that are no views. -/
def outV (q n r : Nat) : Prop := r < q ∨ q + n ≤ r
theorem outV_of {q n r : Nat} (h : (Nat.blt r q || Nat.ble (q + n) r) = true) : outV q n r := by
  rw [Bool.or_eq_true] at h
  rcases h with h | h
  · exact .inl (by rwa [Nat.blt_eq] at h)
  · exact .inr (Nat.le_of_ble_eq_true h)
theorem noUs_of {q n : Nat} : ∀ {us : Upd}, noUs q n us = true → ∀ m ∈ given us, outV q n m
  | [], _, m, hm => by cases hm
  | (r, x) :: us, h, m, hm => by
    unfold noUs at h
    rw [Bool.and_eq_true] at h
    rcases List.mem_cons.1 hm with rfl | hm
    · exact outV_of h.1
    · exact noUs_of h.2 m hm
theorem vrel_drop {rw1 rw2 : RW} {q n : Nat} (hd : ∀ r, outV q n r → rw1 r ≠ none → rw2 r ≠ none) {v : AV} (hv : noView q n v = true) {V : Value} (k : VRel rw1 ε v V) : VRel rw2 ε v V := by
  cases v with
  | v t x => exact k
  | sl r => exact ⟨hd r (outV_of hv) k.1, k.2⟩
  | cut r p lo hi => exact ⟨hd r (outV_of hv) k.1, k.2⟩
  | ptr r i => exact ⟨hd r (outV_of hv) k.1, k.2⟩
  | fptr r i j => exact ⟨hd r (outV_of hv) k.1, k.2⟩
  | op => exact k
  | nilS t e => exact k
  | nilP => exact k
  | u => exact k
  | tup l =>
    refine ⟨fun c hc => ?_, k.2⟩
    have h1 := k.1 c hc
    have h2 := List.all_eq_true.1 (show (l.all fun c => match c with
      | .v _ _ => true
      | .sl r => Nat.blt r q || Nat.ble (q + n) r
      | .pt r => Nat.blt r q || Nat.ble (q + n) r
      | .h _ _ => true) = true from hv) c hc
    cases c with
    | v t x => trivial
    | sl r => exact hd r (outV_of h2) h1
    | pt r => exact ⟨hd r (outV_of h2) h1.1, h1.2⟩
    | h t x => exact h1.elim
  | h t x => exact k
  | hc r => exact k
  | fn f caps => exact k
  | ht l => cases hv
/-- An old operation behind views. -/
theorem good_view (hC : CtxOk C) (hvw : ∀ r, ¬ C.vw r) (hM : Mem C rw ε w) (hH : HM C h rw ε w) {q n : Nat} (hfresh : ∀ m, ¬ outV q n m → rw m = none ∨ True) {g' : Nat → Option AV} (k : VOk C h rw ε w (fun m => ¬ outV q n m) g' a rw' ε') {v : AV} {us : Upd} (hg : Good (farOf C h ε w fun m => ¬ outV q n m) rw' ε' a w o v us) (hv : noView q n v = true) (hu : noUs q n us = true) (hd : ∀ m, ¬ outV q n m → rw m = none) :
    Good2 C rw ε a w o v us h := by
  intro next Q hn
  refine hg next Q fun V ε1 w1 hV he hM1 => ?_
  have hus := noUs_of hu
  have hin : ∀ m, outV q n m → updF rw us m = updF rw' us m := by
    intro m hm
    have e1 : rw' m = rw m := (k.keep m (fun h => h hm)).1
    clear hV he hM1 hus hg
    have : ∀ (us : Upd) (r1 r2 : RW), r1 m = r2 m → updF r1 us m = updF r2 us m := by
      intro us
      induction us with
      | nil => intro r1 r2 h; exact h
      | cons p us ih =>
        intro r1 r2 h
        obtain ⟨b, x⟩ := p
        refine ih _ _ ?_
        show (if m = b then some x else r1 m) = (if m = b then some x else r2 m)
        rw [h]
    exact this us rw rw' e1.symm
  have hout : ∀ m, ¬ outV q n m → updF rw us m = none := by
    intro m hm
    rw [updF_notin rw us (fun h => hm (hus m h))]
    exact hd m hm
  have hrow : ∀ m x, row (updF rw us) m = some x → outV q n m ∧ row (updF rw' us) m = some x := by
    intro m x hx
    by_cases hm : outV q n m
    · refine ⟨hm, ?_⟩
      unfold row at hx ⊢
      rw [← hin m hm]
      exact hx
    · unfold row at hx
      rw [hout m hm] at hx
      cases hx
  have hM2 : Mem (farOf C h ε w fun m => ¬ outV q n m) (updF rw us) ε1 w1 := by
    refine ⟨fun m x hx => ?_, fun m x m' x' hx hxo hx' => ?_, hM1.pres, fun m x hx => ?_⟩
    · exact hM1.ok m x (hrow m x hx).2
    · exact hM1.sep m x m' x' (hrow m x hx).2 hxo (hrow m' x' hx').2
    · exact hM1.far m x (hrow m x hx).2
  have hhe : ε1.hh = ε.hh := he.hh.trans k.hh
  obtain ⟨m1, m2⟩ := far_back hM hH hM2 (fun r x hr hr' => hr' (hrow r x hr).1) hhe
  refine hn V ε1 w1 (vrel_drop (fun r hr h1 => by rw [hin r hr]; exact h1) hv hV) ⟨fun m hm => updF_used _ _ (.inl hm), fun m hm => ?_, fun m hm => ?_, hhe ▸ HEnv.le.refl _⟩ m1 m2
  · have hm' : outV q n m := by
      by_cases h : outV q n m
      · exact h
      · exact absurd (hd m h) hm
    obtain ⟨e1, e2, e3⟩ := k.keep m (fun h => h hm')
    exact (he.sv m (by rw [e1]; exact hm)).trans e2
  · have hm' : outV q n m := by
      by_cases h : outV q n m
      · exact h
      · exact absurd (hd m h) hm
    obtain ⟨e1, e2, e3⟩ := k.keep m (fun h => h hm')
    exact (he.ty m (by rw [e1]; exact hm)).trans e3
end
end Go.Ev

/- One operation that knows the heap, put together. -/
namespace Go.Ev
open Go.RowKit
section
variable {C : Ctx} {rw rw' : RW} {ε ε' ε0 : Env} {w w' : World} {g : Nat → Option AV} {a : Act} {o : Oper} {h h' : Hp} {R : Type} {sg : FuncId → Sig} {callF : (f : FuncId) → argL (sg f).ps → Option (retL (sg f).rs)}
theorem freshV_of {q n : Nat} (hf : freshV rw q n = true) : ∀ m, ¬ outV q n m → rw m = none := by
  induction n with
  | zero =>
    intro m hm
    exact absurd (by unfold outV; omega) hm
  | succ n ih =>
    unfold freshV at hf
    rw [Bool.and_eq_true] at hf
    intro m hm
    by_cases e : m = q + n
    · rw [e]; exact isNew_eq hf.1
    · exact ih hf.2 m (fun h => hm (by unfold outV at *; omega))
theorem lastRow_eq {r : Nat} : ∀ {us us' : Upd} {y : Row}, lastRow r us = some (us', y) → ∃ pre, us = pre ++ [(r, some y)] ∧ us' = pre ++ [(r, none)]
  | [], _, _, h => by cases h
  | [(q, some z)], us', y, h => by
    obtain ⟨hb, h⟩ := bif_some (show (bif Nat.beq q r then some ([(q, none)], z) else none) = some (us', y) from h)
    cases h
    obtain rfl := Nat.eq_of_beq_eq_true hb
    exact ⟨[], rfl, rfl⟩
  | [(q, none)], us', y, h => by
    have h : (match (none : Option (Upd × Row)) with
      | some (us, w) => some ((q, none) :: us, w)
      | none => none) = some (us', y) := h
    cases h
  | p :: p' :: l, us', y, h => by
    have h : (match lastRow r (p' :: l) with
      | some (us, w) => some (p :: us, w)
      | none => none) = some (us', y) := by
      obtain ⟨q, z⟩ := p
      cases z <;> exact h
    split at h
    · rename_i us1 y1 h1
      cases h
      obtain ⟨pre, e1, e2⟩ := lastRow_eq h1
      exact ⟨p :: pre, by rw [e1]; rfl, by rw [e2]; rfl⟩
    · cases h
theorem heapify_sound {v : AV} {us : Upd} {K : AV → Upd → Hp → Option R} {r : R} (hg : Good2 C rw ε a w o v us h) (hk : heapify h v us K = some r) : ∃ v' us' h', K v' us' h' = some r ∧ Good2 C rw ε a w o v' us' h' := by
  unfold heapify at hk
  split at hk
  · rename_i q
    split at hk
    · rename_i us' y hl
      obtain ⟨ho, hk⟩ := bif_some hk
      obtain ⟨pre, e1, e2⟩ := lastRow_eq hl
      refine ⟨_, _, _, hk, ?_⟩
      intro next Q hn
      refine hg next Q fun V ε' w' hV he hM hH => ?_
      have hrow : row (updF rw us) q = some y := by
        rw [e1, updF_append]
        show row (fun m => if m = q then some (some y) else updF rw pre m) q = some y
        rw [row_put_same]
      have hupd : updF rw us' = fun m => if m = q then some none else updF rw us m := by
        funext m
        rw [e1, e2, updF_append, updF_append]
        show (if m = q then some none else updF rw pre m) = if m = q then some none else (if m = q then some (some y) else updF rw pre m)
        split <;> rfl
      obtain ⟨m1, m2, m3⟩ := heapify_ok hM hH hrow ho
      rw [← hupd] at m1 m2 m3
      refine hn V _ w' ?_ (he.trans m3) m1 m2
      rw [hV.2, hH.ok.nx]
      exact hrel_sr.2 (heapify_sl hM hrow)
    · cases hk
  · cases hk
theorem heapIf_sound {v : AV} {us : Upd} {K : AV → Upd → Hp → Option R} {r : R} {b : Bool} (hg : Good2 C rw ε a w o v us h) (hk : (bif b then heapify h v us K else K v us h) = some r) : ∃ v' us' h', K v' us' h' = some r ∧ Good2 C rw ε a w o v' us' h' := by
  cases b with
  | true => exact heapify_sound hg hk
  | false => exact ⟨_, _, _, hk, hg⟩
theorem oldK_sound (hC : CtxOk C) (hvw : ∀ r, ¬ C.vw r) (hF : ∀ f, CallOk C.P C.W0 sg callF f) (hM : Mem C rw ε w) (hH : HM C h rw ε w) (hS : Slots rw ε g a) {d : Nat} {K : AV → Upd → Hp → Option R} {r : R} (hk : oldK C.T sg callF g rw d o h K = some r) :
    ∃ v us h', K v us h' = some r ∧ Good2 C rw ε a w o v us h' := by
  unfold oldK at hk
  split at hk
  · obtain ⟨v, us, h1, h2⟩ := oper_sound (C := farOf C h ε w fun _ => False) (far_ok hC hM hH _) hF (far_mem hvw hM hH _) hS hk
    exact heapIf_sound (good_lift hM hH h2) h1
  · rename_i l hl
    obtain ⟨hf, hk⟩ := bif_some hk
    have hfr := freshV_of hf
    obtain ⟨g', rw', ε', h1, h2⟩ := views_sound (Vw := fun m => ¬ outV (viewQ + d) (viewsOf C.T sg o).length m) hC hH _ _ g rw ε ⟨far_mem hvw hM hH _, rfl, hS, fun r x hr _ => ⟨hr, rfl⟩, fun m _ => ⟨rfl, rfl, rfl⟩⟩ (fun m h1 h2 => by unfold outV; omega) hk
    obtain ⟨v, us, h3, h4⟩ := oper_sound (C := farOf C h ε w _) (far_ok hC hM hH _) hF h2.mem h2.slots h1
    obtain ⟨hb, h3⟩ := bif_some h3
    rw [Bool.and_eq_true] at hb
    exact heapIf_sound (good_view hC hvw hM hH (fun _ _ => .inr trivial) h2 h4 hb.1 hb.2 hfr) h3
theorem good_lift_call (hC : CtxOk C) (hvw : ∀ r, ¬ C.vw r) (hM : Mem C rw ε w) (hH : HM C h rw ε w) (hS : Slots rw ε g a) {f : FuncId} (hf : CallOk C.P C.W0 sg callF f) {args : Array Operand} (ho : (execOp a.eval o).run C.P w = (callFunc f (args.map a.eval)).run C.P w) {d : Nat} {K : AV → Upd → Hp → Option R} {r : R} (hk : pcall sg callF rw d f h K (toArgs C.T g rw (sg f).ps args.toList) = some r) :
    ∃ v us h', K v us h' = some r ∧ Good2 C rw ε a w o v us h' := by
  unfold pcall at hk
  split at hk
  · rename_i ds us rs ha
    obtain ⟨hp, hk⟩ := bif_some hk
    cases hr : callF f ds with
    | none => rw [hr] at hk; cases hk
    | some rr =>
      rw [hr] at hk
      simp only [Option.bind_some] at hk
      obtain ⟨hn, hk⟩ := bif_some hk
      exact ⟨_, _, _, hk, good_lift hM hH (good_call (C := farOf C h ε w fun _ => False) (far_ok hC hM hH _) (far_mem hvw hM hH _) hS hf ho ha hr rfl hp hn)⟩
  · cases hk
theorem hcall_sound (hC : CtxOk C) (hM : Mem C rw ε w) (hH : HM C h rw ε w) {f : FuncId} (hf : CallOk C.P C.W0 sg callF f) {Vs : List Value} (ho : (execOp a.eval o).run C.P w = (callFunc f Vs.toArray).run C.P w) {x : Option (argL (strip (sg f).ps) × Upd × List Nat)} (hx : ∀ ys us rs, x = some (ys, us, rs) → ArgsG rw ε w (strip (sg f).ps) ys us rs Vs) (hh : hasHp (sg f).ps = true) {d : Nat} {K : AV → Upd → Hp → Option R} {r : R} (hk : hcall sg callF rw d f h K x = some r) :
    ∃ v us h', K v us h' = some r ∧ Good2 C rw ε a w o v us h' := by
  unfold hcall at hk
  split at hk
  · rename_i ds us rs
    cases hr : callF f (addH (sg f).ps h ds) with
    | none => rw [hr] at hk; cases hk
    | some rr =>
      rw [hr] at hk
      simp only [Option.bind_some] at hk
      obtain ⟨hn, hk⟩ := bif_some hk
      exact ⟨_, _, _, hk, good2_call hC hM hH hf ho (hx _ _ _ rfl) hh hr rfl hn⟩
  · cases hk
theorem exec_value {n : Nat} {args : Array Operand} {ts : Array TypeId} (ho : o.op = .call { callee := .value (.tmp n), args, argTypes := ts }) {f : FuncId} {cs : List Value} (hf : a.eval (.tmp n) = .func (.func f) #[] cs.toArray) (P : Program) (w : World) : (execOp a.eval o).run P w = (callFunc f (args.toList.map a.eval ++ cs).toArray).run P w := by
  have e : (args.map a.eval ++ cs.toArray) = (args.toList.map a.eval ++ cs).toArray := by
    apply Array.ext'
    simp
  simp [execOp, ho, resolve, hf, Deferred.ofValue, invoke, e]
theorem exec_invoke {x : Operand} {name : String} {args : Array Operand} {ts : Array TypeId} (ho : o.op = .call { callee := .invoke x name, args, argTypes := ts }) {P : Program} {t : TypeId} {u : Value} {f : FuncId} (hx : a.eval x = .iface t u) (hm : MethOk P t name f) (w : World) : (execOp a.eval o).run P w = (callFunc f (u :: args.toList.map a.eval).toArray).run P w := by
  have e0 : (#[Value.iface t u] ++ args.map a.eval)[0]? = some (Value.iface t u) := by
    rw [Array.getElem?_append_left (by simp)]
    rfl
  have e1 : (#[Value.iface t u] ++ args.map a.eval).extract 1 (#[Value.iface t u] ++ args.map a.eval).size = args.map a.eval := by
    apply Array.ext'
    simp
    exact List.take_of_length_le (by simp)
  have e3 : (#[u] ++ args.map a.eval) = (u :: args.toList.map a.eval).toArray := by
    apply Array.ext'
    simp
  have hm' := hm (P.types.size + Made.depth - 1) u w
  have e2 : P.types.size + Made.depth - 1 + 1 = P.types.size + Made.depth := by
    have : 0 < Made.depth := by decide
    omega
  rw [e2] at hm'
  have hi : invoke (.fn (.method name) #[]) (#[Value.iface t u] ++ args.map a.eval) = callMethod (.iface t u) name (args.map a.eval) := by
    unfold invoke
    simp only [e0, e1]
  have hr : execOp a.eval o = callMethod (.iface t u) name (args.map a.eval) := by
    rw [← hi]
    unfold execOp
    simp only [ho, resolve, hx]
    rfl
  rw [hr, ← e3]
  simp only [callMethod]
  simp [Result.andThen, hm']
theorem dispF_sound (hC : CtxOk C) (hvw : ∀ r, ¬ C.vw r) (hF : ∀ f, CallOk C.P C.W0 sg callF f) (hM : Mem C rw ε w) (hH : HM C h rw ε w) (hS : Slots rw ε g a) {n : Nat} {args : Array Operand} {ts : Array TypeId} (ho : o.op = .call { callee := .value (.tmp n), args, argTypes := ts }) {f : Nat} {caps : List Pf} (hf : VRel rw ε (.fn f caps) (a.eval (.tmp n))) {d : Nat} {K : AV → Upd → Hp → Option R} {r : R} :
    ∀ {l : List FuncId}, dispF C.T sg callF g rw d f caps args.toList h K l = some r → ∃ v us h', K v us h' = some r ∧ Good2 C rw ε a w o v us h'
  | [], hk => by cases hk
  | q :: l, hk => by
    unfold dispF at hk
    cases hb : Nat.beq f q with
    | false =>
      rw [hb] at hk
      exact dispF_sound hC hvw hF hM hH hS ho hf (l := l) hk
    | true =>
      rw [hb] at hk
      obtain rfl := Nat.eq_of_beq_eq_true hb
      obtain ⟨cs, hv, hcs⟩ := hf
      have he := exec_value ho hv C.P w
      have hk : (bif hasHp (sg f).ps then (bif Nat.beq (strip (sg f).ps).length args.toList.length then chk (nilC caps) (hcall sg callF rw d f h K (toArgs3 C.T g rw [] (strip (sg f).ps) args.toList)) else hcall sg callF rw d f h K (toArgs3 C.T g rw caps (strip (sg f).ps) args.toList)) else chk (nilC caps) (pcall sg callF rw d f h K (toArgs C.T g rw (sg f).ps args.toList))) = some r := hk
      cases hh : hasHp (sg f).ps with
      | true =>
        rw [hh] at hk
        have hk : (bif Nat.beq (strip (sg f).ps).length args.toList.length then chk (nilC caps) (hcall sg callF rw d f h K (toArgs3 C.T g rw [] (strip (sg f).ps) args.toList)) else hcall sg callF rw d f h K (toArgs3 C.T g rw caps (strip (sg f).ps) args.toList)) = some r := hk
        have hk : hcall sg callF rw d f h K (toArgs3 C.T g rw caps (strip (sg f).ps) args.toList) = some r := by
          cases hl : Nat.beq (strip (sg f).ps).length args.toList.length with
          | false => rw [hl] at hk; exact hk
          | true =>
            rw [hl] at hk
            obtain ⟨hn, hk⟩ := chk_some (show chk (nilC caps) _ = some r from hk)
            cases caps with
            | nil => exact hk
            | cons _ _ => cases hn
        exact hcall_sound hC hM hH (hF f) he (fun ys us rs hx => toArgs3_sound hM hS hcs hx) hh hk
      | false =>
        rw [hh] at hk
        cases caps with
        | cons _ _ => cases hk
        | nil =>
          cases cs with
          | cons _ _ => exact hcs.elim
          | nil =>
            refine good_lift_call hC hvw hM hH hS (hF f) (args := args) ?_ (show pcall sg callF rw d f h K (toArgs C.T g rw (sg f).ps args.toList) = some r from hk)
            rw [he]
            congr 2
            apply Array.ext'
            simp
theorem inv_eq {T : Tab} {g : Nat → Option AV} {sg : FuncId → Sig} {callF : (f : FuncId) → argL (sg f).ps → Option (retL (sg f).rs)} {d : Nat} {f : FuncId} {i : If} {t : TypeId} {args : List Operand} (K : AV → Upd → Hp → Option R) : ((recvS t i (strip (sg f).ps)).bind fun y => hcall sg callF rw d f h K (invY T g rw (strip (sg f).ps) y args)) = hcall sg callF rw d f h K (invArgs T g rw t i (strip (sg f).ps) args) := by
  generalize ho : hcall sg callF rw d f h K = F
  have hF : F none = none := by rw [← ho]; rfl
  clear ho
  revert F
  generalize strip (sg f).ps = ps
  intro F hF
  cases ps with
  | nil => exact hF.symm
  | cons p ps =>
    show (recvOf t i p).bind _ = _
    cases hr : recvOf t i p with
    | none =>
      have e : invArgs T g rw t i (p :: ps) args = none := by
        unfold invArgs
        simp only [hr]
      rw [e]
      exact hF.symm
    | some y =>
      have e : invArgs T g rw t i (p :: ps) args = invY T g rw (p :: ps) y args := by
        unfold invArgs invY
        simp only [hr]
        cases toArgs2 T g rw ps args <;> rfl
      rw [e]
      rfl
theorem dispI_sound (hC : CtxOk C) (hF : ∀ f, CallOk C.P C.W0 sg callF f) (hM : Mem C rw ε w) (hH : HM C h rw ε w) (hS : Slots rw ε g a) {x : Operand} {name : String} {args : Array Operand} {ts : Array TypeId} (ho : o.op = .call { callee := .invoke x name, args, argTypes := ts }) {i : If} (hi : EncI ε.hh i (a.eval x)) {d : Nat} {K : AV → Upd → Hp → Option R} {r : R} :
    ∀ {l : List (TypeId × FuncId)}, (∀ t f, (t, f) ∈ l → MethOk C.P t name f) → dispI C.T sg callF g rw d i args.toList h K l = some r → ∃ v us h', K v us h' = some r ∧ Good2 C rw ε a w o v us h'
  | [], _, hk => by cases hk
  | (t, f) :: l, hm, hk => by
    unfold dispI at hk
    cases hb : itag t i with
    | false =>
      rw [hb] at hk
      exact dispI_sound hC hF hM hH hS ho hi (fun t f h => hm t f (List.mem_cons_of_mem _ h)) (l := l) hk
    | true =>
      rw [hb] at hk
      have hk : (bif hasHp (sg f).ps then ((recvS t i (strip (sg f).ps)).bind fun y => hcall sg callF rw d f h K (invY C.T g rw (strip (sg f).ps) y args.toList)) else none) = some r := hk
      rw [inv_eq] at hk
      obtain ⟨hh, hk⟩ := bif_some hk
      have hk2 := hk
      unfold hcall at hk2
      split at hk2
      · rename_i ds us rs hinv
        obtain ⟨u, hu, _⟩ := invArgs_sound hM hS hi hinv
        refine hcall_sound hC hM hH (hF f) (exec_invoke ho hu (hm t f (by simp)) w) (fun ys us rs hx => ?_) hh hk
        obtain ⟨u', hu', hg⟩ := invArgs_sound hM hS hi hx
        rw [hu] at hu'
        cases hu'
        exact hg
      · cases hk2
end
end Go.Ev

/- One operation that knows the heap is sound. -/
namespace Go.Ev
open Go.RowKit
section
variable {C : Ctx} {rw rw' : RW} {ε ε' ε0 : Env} {w w' : World} {g : Nat → Option AV} {a : Act} {o : Oper} {h h' : Hp} {R : Type} {sg : FuncId → Sig} {callF : (f : FuncId) → argL (sg f).ps → Option (retL (sg f).rs)}
theorem isNil_und {P : Program} {xt : TypeId} {s : HTy} (hu : UndH P xt s) {u : s.den} {η : HEnv} {V : Value} (hv : HRel η s u V) (hs : s = .sr ∨ s = .pr ∨ s = .ir) :
    ((∃ A n c, V = .slice A n c) → ∃ e, P.underlying xt = some (.slice e)) ∧ ((∃ A, V = .pointer A) → ∃ e, P.underlying xt = some (.pointer e)) ∧ ((V = .nilIface ∨ ∃ t x, V = .iface t x) → ∃ ms, P.underlying xt = some (.interface ms)) := by
  rcases hs with rfl | rfl | rfl
  · have hv := hrel_sr.1 hv
    have hV : ∃ A n c, V = .slice A n c := by
      cases u with
      | nil => exact ⟨_, _, _, hv⟩
      | «at» n k len =>
        obtain ⟨_, A, m, c, A', c', _, hV, _⟩ := hv
        exact ⟨_, _, _, hV⟩
    obtain ⟨A, n, c, rfl⟩ := hV
    exact ⟨fun _ => hu.2.1 rfl, (fun ⟨_, h⟩ => by cases h), (fun h => by rcases h with h | ⟨_, _, h⟩ <;> cases h)⟩
  · have hv := hrel_pr.1 hv
    have hV : ∃ A, V = .pointer A := by
      cases u with
      | nil => exact ⟨_, hv⟩
      | «at» n k =>
        obtain ⟨_, ad, m, c, _, hV⟩ := hv
        exact ⟨_, hV⟩
    obtain ⟨A, rfl⟩ := hV
    exact ⟨(fun ⟨_, _, _, h⟩ => by cases h), (fun _ => hu.2.2.1 rfl), (fun h => by rcases h with h | ⟨_, _, h⟩ <;> cases h)⟩
  · have hv := hrel_ir.1 hv
    have hV : V = .nilIface ∨ ∃ t x, V = .iface t x := by
      cases u with
      | nil => exact .inl hv
      | sl t r => obtain ⟨u, h, _⟩ := hv; exact .inr ⟨_, _, h⟩
      | pt t r => obtain ⟨u, h, _⟩ := hv; exact .inr ⟨_, _, h⟩
      | two t r s => obtain ⟨u, v, h, _⟩ := hv; exact .inr ⟨_, _, h⟩
    refine ⟨fun ⟨_, _, _, h⟩ => ?_, fun ⟨_, h⟩ => ?_, fun _ => hu.2.2.2 rfl⟩
    · rcases hV with h' | ⟨_, _, h'⟩ <;> (rw [h'] at h; cases h)
    · rcases hV with h' | ⟨_, _, h'⟩ <;> (rw [h'] at h; cases h)
/-- What nil held against a value says. -/
def nilB : (s : HTy) → s.den → Option Bool
  | .sr, r => if rsure r = true then some (rnil r) else none
  | .pr, p => some (pnil p)
  | .ir, i => some (inil i)
  | _, _ => none
theorem nilEq_b {op : BinOp} {s : HTy} {u : s.den} {K : AV → Option R} {r : R} (hk : nilEq op (.h s u) K = some r) : ∃ c, nilB s u = some c ∧ (s = .sr ∨ s = .pr ∨ s = .ir) ∧ ((op = .eql ∧ K (.v .bool c) = some r) ∨ (op = .neq ∧ K (.v .bool (!c)) = some r)) := by
  unfold nilEq at hk
  split at hk
  · obtain ⟨hc, hk⟩ := chk_some hk
    rename_i heq _
    cases heq
    exact ⟨_, if_pos hc, .inl rfl, .inl ⟨rfl, hk⟩⟩
  · obtain ⟨hc, hk⟩ := chk_some hk
    rename_i heq _
    cases heq
    exact ⟨_, if_pos hc, .inl rfl, .inr ⟨rfl, hk⟩⟩
  · rename_i heq
    cases heq
    exact ⟨_, rfl, .inr (.inl rfl), .inl ⟨rfl, hk⟩⟩
  · rename_i heq
    cases heq
    exact ⟨_, rfl, .inr (.inl rfl), .inr ⟨rfl, hk⟩⟩
  · rename_i heq
    cases heq
    exact ⟨_, rfl, .inr (.inr rfl), .inl ⟨rfl, hk⟩⟩
  · rename_i heq
    cases heq
    exact ⟨_, rfl, .inr (.inr rfl), .inr ⟨rfl, hk⟩⟩
  · cases hk
theorem nilB_val {s : HTy} {u : s.den} {c : Bool} (hb : nilB s u = some c) {η : HEnv} {V : Value} (hv : HRel η s u V) {N : Value} (hN : N = .slice none 0 0 ∨ N = .pointer none ∨ N = .nilIface) (hk : (∃ A n c, V = .slice A n c) ∧ N = .slice none 0 0 ∨ (∃ A, V = .pointer A) ∧ N = .pointer none ∨ (V = .nilIface ∨ ∃ t x, V = .iface t x) ∧ N = .nilIface) :
    (nilV V N = some c ∧ nilV N V = some c) ∨ (V = .nilIface ∧ N = .nilIface ∧ c = true) := by
  cases s with
  | sr =>
    have hv := hrel_sr.1 hv
    have hb : (if rsure u = true then some (rnil u) else none) = some c := hb
    split at hb
    · rename_i hs
      cases hb
      cases u with
      | nil =>
        have hv : V = .slice none 0 0 := hv
        subst hv
        rcases hk with ⟨_, rfl⟩ | ⟨⟨_, h⟩, _⟩ | ⟨h, _⟩
        · exact .inl ⟨rfl, rfl⟩
        · cases h
        · rcases h with h | ⟨_, _, h⟩ <;> cases h
      | «at» n k len =>
        obtain ⟨_, A, m, c', A', c'', _, rfl, _, hne, _⟩ := hv
        have hs : Nat.blt 0 len = true := hs
        rw [Nat.blt_eq] at hs
        obtain ⟨ad, _, rfl⟩ := hne hs
        rcases hk with ⟨_, rfl⟩ | ⟨⟨_, h⟩, _⟩ | ⟨h, _⟩
        · exact .inl ⟨rfl, rfl⟩
        · cases h
        · rcases h with h | ⟨_, _, h⟩ <;> cases h
    · cases hb
  | pr =>
    have hv := hrel_pr.1 hv
    cases hb
    cases u with
    | nil =>
      have hv : V = .pointer none := hv
      subst hv
      rcases hk with ⟨⟨_, _, _, h⟩, _⟩ | ⟨_, rfl⟩ | ⟨h, _⟩
      · cases h
      · exact .inl ⟨rfl, rfl⟩
      · rcases h with h | ⟨_, _, h⟩ <;> cases h
    | «at» n k =>
      obtain ⟨_, ad, m, c, _, rfl⟩ := hv
      rcases hk with ⟨⟨_, _, _, h⟩, _⟩ | ⟨_, rfl⟩ | ⟨h, _⟩
      · cases h
      · exact .inl ⟨rfl, rfl⟩
      · rcases h with h | ⟨_, _, h⟩ <;> cases h
  | ir =>
    have hv := hrel_ir.1 hv
    cases hb
    have hno : ∀ t x, V = .iface t x → inil u = false → (nilV V N = some (inil u) ∧ nilV N V = some (inil u)) ∨ (V = .nilIface ∧ N = .nilIface ∧ inil u = true) := by
      rintro t x rfl hu
      rcases hk with ⟨⟨_, _, _, h⟩, _⟩ | ⟨⟨_, h⟩, _⟩ | ⟨_, rfl⟩
      · cases h
      · cases h
      · rw [hu]; exact .inl ⟨rfl, rfl⟩
    cases u with
    | nil =>
      have hv : V = .nilIface := hv
      subst hv
      rcases hk with ⟨⟨_, _, _, h⟩, _⟩ | ⟨⟨_, h⟩, _⟩ | ⟨_, rfl⟩
      · cases h
      · cases h
      · exact .inr ⟨rfl, rfl, rfl⟩
    | sl t r => obtain ⟨u, h, _⟩ := hv; exact hno _ _ h rfl
    | pt t r => obtain ⟨u, h, _⟩ := hv; exact hno _ _ h rfl
    | two t r s => obtain ⟨u, v, h, _⟩ := hv; exact hno _ _ h rfl
  | p t => cases hb
  | one b => cases hb
  | pair b d => cases hb
theorem nilCof_val {s : HTy} {y : Operand} (h : nilCof s y = true) : isC y = true ∧ ((s = .sr ∧ a.eval y = .slice none 0 0) ∨ (s = .pr ∧ a.eval y = .pointer none) ∨ (s = .ir ∧ a.eval y = .nilIface)) := by
  unfold nilCof at h
  split at h
  · exact ⟨rfl, .inl ⟨rfl, rfl⟩⟩
  · exact ⟨rfl, .inr (.inl ⟨rfl, rfl⟩)⟩
  · exact ⟨rfl, .inr (.inr ⟨rfl, rfl⟩)⟩
  · cases h
theorem nilK {s : HTy} {y : Operand} (h : nilCof s y = true) {u : s.den} {V : Value} (hv : HRel ε.hh s u V) : (∃ A n c, V = .slice A n c) ∧ a.eval y = .slice none 0 0 ∨ (∃ A, V = .pointer A) ∧ a.eval y = .pointer none ∨ (V = .nilIface ∨ ∃ t x, V = .iface t x) ∧ a.eval y = .nilIface := by
  rcases (nilCof_val (a := a) h).2 with ⟨rfl, hy⟩ | ⟨rfl, hy⟩ | ⟨rfl, hy⟩
  · refine .inl ⟨?_, hy⟩
    have hv := hrel_sr.1 hv
    cases u with
    | nil => exact ⟨_, _, _, hv⟩
    | «at» n k len =>
      obtain ⟨_, A, m, c, A', c', _, hV, _⟩ := hv
      exact ⟨_, _, _, hV⟩
  · refine .inr (.inl ⟨?_, hy⟩)
    have hv := hrel_pr.1 hv
    cases u with
    | nil => exact ⟨_, hv⟩
    | «at» n k =>
      obtain ⟨_, ad, m, c, _, hV⟩ := hv
      exact ⟨_, hV⟩
  · refine .inr (.inr ⟨?_, hy⟩)
    have hv := hrel_ir.1 hv
    cases u with
    | nil => exact .inl hv
    | sl t r => obtain ⟨u, h, _⟩ := hv; exact .inr ⟨_, _, h⟩
    | pt t r => obtain ⟨u, h, _⟩ := hv; exact .inr ⟨_, _, h⟩
    | two t r s => obtain ⟨u, v, h, _⟩ := hv; exact .inr ⟨_, _, h⟩
theorem run_eqNil {P : Program} {xt : TypeId} {ms : Array (String × TypeId)} (hu : P.underlying xt = some (.interface ms)) (d : Nat) (w : World) : (Op.equalIn (d + 1) xt .nilIface .nilIface).run P w = .ok true w := by
  simp [Op.equalIn, run_underlying hu, Result.andThen]
theorem run_nilnil {P : Program} {xt : TypeId} {x y : Operand} (hc : isC x = true ∨ isC y = true) (hu : ∃ ms, P.underlying xt = some (.interface ms)) (w : World) :
    (do eqGuard .eql xt x y .nilIface .nilIface; binOp .eql xt .nilIface .nilIface).run P w = .ok (.bool true) w ∧ (do eqGuard .neq xt x y .nilIface .nilIface; binOp .neq xt .nilIface .nilIface).run P w = .ok (.bool false) w := by
  obtain ⟨ms, hu⟩ := hu
  have hr : (Op.equal xt .nilIface .nilIface).run P w = .ok true w := run_eqNil hu 9999 w
  have hg := fun op => run_eqGuard_nil (P := P) w op xt x y (by rcases hc with h | h <;> simp [h])
  constructor
  · rw [Sem.run_bind, hg]
    simp [Result.andThen, binOp, hr]
  · rw [Sem.run_bind, hg]
    simp [Result.andThen, binOp, hr]
theorem good2_nilEq (hC : CtxOk C) (hM : Mem C rw ε w) (hH : HM C h rw ε w) {op : BinOp} {xt t : TypeId} {x y : Operand} (ho : o.op = .binOp op xt x y t) {s : HTy} (hs : C.T.hty xt = some s) {u : s.den} {K : AV → Upd → Hp → Option R} {r : R} (hk : nilEq op (.h s u) (fun v => K v [] h) = some r)
    (hx : (HRel ε.hh s u (a.eval x) ∧ nilCof s y = true) ∨ (HRel ε.hh s u (a.eval y) ∧ nilCof s x = true)) : ∃ v us h', K v us h' = some r ∧ Good2 C rw ε a w o v us h' := by
  obtain ⟨c, hb, hs3, hop⟩ := nilEq_b hk
  have hund := (hC.tab.hty _ _ hs).2
  have key : (do eqGuard .eql xt x y (a.eval x) (a.eval y); binOp .eql xt (a.eval x) (a.eval y)).run C.P w = .ok (.bool c) w ∧ (do eqGuard .neq xt x y (a.eval x) (a.eval y); binOp .neq xt (a.eval x) (a.eval y)).run C.P w = .ok (.bool (!c)) w := by
    rcases hx with ⟨hv, hn⟩ | ⟨hv, hn⟩
    · obtain ⟨u1, u2, u3⟩ := isNil_und hund hv hs3
      have hN := (nilCof_val (a := a) hn).1
      rcases nilB_val hb hv (N := a.eval y) (by rcases (nilCof_val (a := a) hn).2 with ⟨_, h⟩ | ⟨_, h⟩ | ⟨_, h⟩ <;> simp [h]) (nilK hn hv) with h1 | ⟨h1, h2, rfl⟩
      · exact run_nilEq h1.1 (.inr hN) u1 u2 u3 w
      · rw [h1, h2]
        exact run_nilnil (.inr hN) (u3 (.inl h1)) w
    · obtain ⟨u1, u2, u3⟩ := isNil_und hund hv hs3
      have hN := (nilCof_val (a := a) hn).1
      have hyy := nilK (a := a) hn hv
      rcases nilB_val hb hv (N := a.eval x) (by rcases (nilCof_val (a := a) hn).2 with ⟨_, h⟩ | ⟨_, h⟩ | ⟨_, h⟩ <;> simp [h]) hyy with h1 | ⟨h1, h2, rfl⟩
      · refine run_nilEq h1.2 (.inl hN) (fun _ => ?_) (fun _ => ?_) (fun _ => ?_) w
        · rename_i hh
          rcases hyy with ⟨k1, _⟩ | ⟨_, k2⟩ | ⟨_, k2⟩
          · exact u1 k1
          · obtain ⟨_, _, _, hh⟩ := hh; rw [k2] at hh; cases hh
          · obtain ⟨_, _, _, hh⟩ := hh; rw [k2] at hh; cases hh
        · rename_i hh
          rcases hyy with ⟨_, k2⟩ | ⟨k1, _⟩ | ⟨_, k2⟩
          · obtain ⟨_, hh⟩ := hh; rw [k2] at hh; cases hh
          · exact u2 k1
          · obtain ⟨_, hh⟩ := hh; rw [k2] at hh; cases hh
        · rename_i hh
          rcases hyy with ⟨_, k2⟩ | ⟨_, k2⟩ | ⟨k1, _⟩
          · rw [k2] at hh; rcases hh with hh | ⟨_, _, hh⟩ <;> cases hh
          · rw [k2] at hh; rcases hh with hh | ⟨_, _, hh⟩ <;> cases hh
          · exact u3 k1
      · rw [h1, h2]
        exact run_nilnil (.inl hN) (u3 (.inl h1)) w
  rcases hop with ⟨rfl, hk2⟩ | ⟨rfl, hk2⟩
  · exact ⟨_, _, _, hk2, good2_pure hM hH (V := .bool c) (exec_eql ho C.P w key.1) rfl⟩
  · exact ⟨_, _, _, hk2, good2_pure hM hH (V := .bool (!c)) (exec_eql ho C.P w key.2) rfl⟩
/-- Three indices: what comes of it is only read. -/
theorem good2_slice3 (hC : CtxOk C) (hM : Mem C rw ε w) (hH : HM C h rw ε w) {t : TypeId} {x m : Operand} {L H : Option Operand} (ho : o.op = .slice t x L H (some m)) {ty : HTy} {e : TypeId} (ht : C.T.hsl t = some (ty, e)) {r : Rf} (hx : HRel ε.hh .sr r (a.eval x)) {lo hi mx : Int} (h0 : 0 ≤ lo) (h1 : lo ≤ hi) (h2 : hi ≤ mx) (h3 : mx ≤ (rlen r : Int))
    (hL : (∃ k, L.map a.eval = some (.int k lo)) ∨ (L.map a.eval = none ∧ lo = 0)) (hHi : (∃ k, H.map a.eval = some (.int k hi))) (hm : ∃ k, a.eval m = .int k mx) :
    Good2 C rw ε a w o (.hc (rcut ty.sz lo.toNat hi.toNat r) (mx - lo).toNat) [] h := by
  obtain ⟨hu, hs⟩ := hC.tab.hsl _ _ _ ht
  have hel := elem_eq hu
  have hu' : C.P.underlying t = some (.slice (C.P.elem t)) := by rw [hel]; exact hu
  have hsz := run_sizeOfH hs w
  rw [← hel] at hsz
  have hv := hrel_sr.1 hx
  obtain ⟨km, hm⟩ := hm
  obtain ⟨kh, hHi⟩ := hHi
  have hrun : ∀ (A : Option Addr) (n c : Nat), mx ≤ c → (Instr.sliceAt t (.slice A n c) (L.map a.eval) (H.map a.eval) (some (a.eval m))).run C.P w = .ok (.slice (if mx.toNat = lo.toNat then A else A.map (·.add (lo.toNat * ty.sz))) (hi - lo).toNat (mx.toNat - lo.toNat)) w := by
    intro A n c hc
    have e1 : (hi - lo).toNat = hi.toNat - lo.toNat := by omega
    rw [run_sliceAt_slice w t _ _ _ _ hu', hHi, hm]
    rcases hL with ⟨kl, hL⟩ | ⟨hL, rfl⟩
    · rw [hL, run_slice_lhm w t A n c hu' kl kh km lo hi mx h0 h1 h2 hc, hsz, e1]; rfl
    · rw [hL, run_slice_hm w t A n c hu' kh km hi mx (by omega) h2 hc, hsz, e1]; rfl
  have e1 : (hi - lo).toNat = hi.toNat - lo.toNat := by omega
  cases r with
  | nil =>
    have hV : a.eval x = .slice none 0 0 := hv
    have h3 : mx ≤ 0 := h3
    have hr := hrun none 0 0 h3
    refine good2_pure hM hH (V := .slice (if mx.toNat = lo.toNat then none else Option.map (fun ad : Addr => ad.add (lo.toNat * ty.sz)) none) (hi - lo).toNat (mx.toNat - lo.toNat)) (by simp [execOp, ho, hV, hr, Result.andThen]) ?_
    have hVV : (Value.slice (if mx.toNat = lo.toNat then none else Option.map (fun ad : Addr => ad.add (lo.toNat * ty.sz)) none) (hi - lo).toNat (mx.toNat - lo.toNat)) = .slice none 0 0 := by
      rw [show (hi - lo).toNat = 0 by omega, show mx.toNat - lo.toNat = 0 by omega]
      split <;> rfl
    refine ⟨hVV, none, ?_, fun _ => by omega⟩
    rw [hVV, show (mx - lo).toNat = 0 by omega]
    rfl
  | «at» n k len =>
    obtain ⟨hn, A, m', c, A', c', hsv, hV, hlc, hne, hex⟩ := hv
    have h3 : mx ≤ (len : Int) := h3
    have hr := hrun A' len c' (by omega)
    refine good2_pure hM hH (V := .slice (if mx.toNat = lo.toNat then A' else A'.map (·.add (lo.toNat * ty.sz))) (hi - lo).toNat (mx.toNat - lo.toNat)) (by simp [execOp, ho, hV, hr, Result.andThen]) ?_
    refine ⟨⟨hn, A, m', c, _, _, hsv, by rw [e1], by omega, fun hlt => ?_, fun h => (by cases h)⟩, (if mx.toNat = lo.toNat then A' else A'.map (·.add (lo.toNat * ty.sz))), ?_, fun hA0 => ?_⟩
    · obtain ⟨ad, hA, hA'⟩ := hne (by omega)
      refine ⟨ad, hA, ?_⟩
      rw [if_neg (by omega), hA']
      simp only [Option.map_some]
      rw [Addr.add_add]
    · rw [e1, show (mx - lo).toNat = mx.toNat - lo.toNat by omega]
      rfl
    · by_cases hml : mx.toNat = lo.toNat
      · omega
      · rw [if_neg hml] at hA0
        rcases Nat.eq_zero_or_pos len with hl0 | hl0
        · omega
        · obtain ⟨ad, _, hA'⟩ := hne hl0
          rw [hA'] at hA0
          cases hA0
theorem good2_extract (hM : Mem C rw ε w) (hH : HM C h rw ε w) {x : Operand} {j : Nat} (ho : o.op = .extract x j) {l : List AC} (hx : VRel rw ε (.ht l) (a.eval x)) {c : AC} (hc : l[j]? = some c) : Good2 C rw ε a w o (acAV c) [] h := by
  obtain ⟨Vs, hV, hl⟩ := hx
  have key : ∀ (l : List AC) (Vs : List Value) (j : Nat) (c : AC), All2 (ACRel rw ε) l Vs → l[j]? = some c → ∃ V, Vs[j]? = some V ∧ ACRel rw ε c V := by
    intro l
    induction l with
    | nil => intro Vs j c _ h; simp at h
    | cons d l ih =>
      intro Vs j c hl h
      cases Vs with
      | nil => exact hl.elim
      | cons V Vs =>
        cases j with
        | zero => cases h; exact ⟨V, rfl, hl.1⟩
        | succ j => exact ih Vs j c hl.2 (by simpa using h)
  obtain ⟨V, hVj, hr⟩ := key l Vs j c hl hc
  refine good2_pure hM hH (V := V) ?_ ?_
  · simp [execOp, ho, hV, Instr.extract, hVj, Result.andThen]
  · cases c with
    | v t x => exact hr
    | sl r => exact hr
    | pt r =>
      obtain ⟨h1, ad, n, c, hsv, hn, hV⟩ := hr
      exact ⟨h1, ad, n, c, hsv, Int.le_refl _, by omega, by rw [hV]; simp [Addr.add]⟩
    | h t x => exact hr
theorem good2_iface (hC : CtxOk C) (hM : Mem C rw ε w) (hH : HM C h rw ε w) {xt : TypeId} {x : Operand} (ho : o.op = .makeInterface xt x) {t : HTy} (ht : C.T.hty xt = some t) {v : t.den} (hx : HRel ε.hh t v (a.eval x)) {i : If} (hi : ifOf xt t v = some i) : Good2 C rw ε a w o (.h .ir i) [] h := by
  obtain ⟨hsz, hund⟩ := hC.tab.hty _ _ ht
  have hnot : ∃ d, C.P.underlying xt = some d ∧ (∀ ms, d ≠ .interface ms) ∧ EncI ε.hh i (.iface xt (a.eval x)) := by
    unfold ifOf at hi
    split at hi
    · cases hi
      obtain ⟨e, he⟩ := hund.2.1 rfl
      exact ⟨_, he, (fun _ h => by cases h), _, rfl, hrel_sr.1 hx⟩
    · cases hi
      obtain ⟨e, he⟩ := hund.2.2.1 rfl
      exact ⟨_, he, (fun _ h => by cases h), _, rfl, hrel_pr.1 hx⟩
    · cases hi
      obtain ⟨fs, he, _⟩ := hund.1 rfl
      obtain ⟨vs, hrel, hV⟩ := hx
      match vs, hrel with
      | [p, q], hrel =>
        refine ⟨_, he, (fun _ h => by cases h), p, q, ?_, hrel.1, hrel.2.1⟩
        rw [hV]
        rfl
    · cases hi
  obtain ⟨d, hd, hne, henc⟩ := hnot
  refine good2_pure hM hH (V := .iface xt (a.eval x)) ?_ (hrel_ir.2 henc)
  cases d <;> first | exact absurd rfl (hne _) | simp [execOp, ho, Instr.makeInterface, run_underlying hd, Result.andThen]
theorem capsH_rel (hS : Slots rw ε g a) {T : Tab} : ∀ {l : List Operand} {caps : List Pf}, capsH T g l = some caps → All2 (EncP ε.hh) caps (l.map a.eval)
  | [], caps, h => by cases h; trivial
  | x :: l, caps, h => by
    simp only [capsH] at h
    split at h
    · rename_i p ps h1 h2
      cases h
      exact ⟨hrel_pr.1 (opdH_rel hS h1), capsH_rel hS h2⟩
    · cases h
theorem good2_func (hM : Mem C rw ε w) (hH : HM C h rw ε w) (hS : Slots rw ε g a) {f : FuncId} {first captured : Array Operand} (ho : o.op = .makeFunc (.func f) first captured) (hf : first.toList = []) {caps : List Pf} (hc : capsH C.T g captured.toList = some caps) : Good2 C rw ε a w o (.fn f caps) [] h := by
  have e1 : first = #[] := by apply Array.ext'; simpa using hf
  refine good2_pure hM hH (V := .func (.func f) #[] (captured.toList.map a.eval).toArray) ?_ ⟨_, rfl, capsH_rel hS hc⟩
  have e2 : (captured.toList.map a.eval).toArray = captured.map a.eval := by apply Array.ext'; simp
  rw [e2]
  simp [execOp, ho, e1, Instr.makeFunc, Result.andThen]
theorem cs_src (hH : HM C h rw ε w) {z : Nat} {r : Rf} {q : List Cell × Nat} (hq : h.cs z r = some q) {V : Value} {ex : Bool} (hv : EncS ε.hh ex r V) : SrcV ε w z q.1 q.2 V := by
  cases r with
  | nil =>
    cases hq
    exact ⟨[], none, 0, trivial, by simp, hv, Nat.le_refl _, fun j u hu => by simp at hu⟩
  | «at» n k len =>
    have hq : (match h.cl n with
      | some cs => bif Nat.ble (k + len * z) cs.length then some ((cs.drop k).take (len * z), len) else none
      | _ => none) = some q := hq
    split at hq
    · rename_i cs hob
      obtain ⟨hle, hq⟩ := bif_some hq
      have hle := Nat.le_of_ble_eq_true hle
      cases hq
      obtain ⟨hn, A, m, c, A', c', hsv, hV, hlc, hne, _⟩ := hv
      obtain ⟨A0, m0, c0, XS, hv0, hrel, hcell, hlive⟩ := cl_read hH hob
      rw [hsv] at hv0
      cases hv0
      have hlen := hrel.length
      refine ⟨(XS.drop k).take (len * z), A', c', (hrel.drop k).take _, by show ((XS.drop k).take (len * z)).length = len * z; rw [List.length_take, List.length_drop]; omega, hV, hlc, fun j u hu => ?_⟩
      rw [List.getElem?_take] at hu
      split at hu
      · rename_i hj
        have hpos : 0 < len := by
          rcases Nat.eq_zero_or_pos len with h0 | h0
          · rw [h0, Nat.zero_mul] at hj; omega
          · exact h0
        obtain ⟨ad, rfl, rfl⟩ := hne hpos
        refine ⟨_, rfl, ?_⟩
        rw [List.getElem?_drop] at hu
        rw [Addr.add_add]
        exact hcell _ _ hu _ rfl
      · cases hu
    · cases hq
theorem row_src (hM : Mem C rw ε w) {av : AV} {V : Value} (hv : VRel rw ε av V) {y : Row} (hy : listOf rw av = some y) : SrcV ε w y.t.sz ((cellsL y.t y.xs).map .v) y.xs.length V := by
  obtain ⟨⟨A, c, hV, hc, hr⟩, _⟩ := listOf_read hM hv hy
  exact ⟨cellsL y.t y.xs, A, c, rel_pure (cellsL_one _ _), cellsL_length _ _, hV, hc, hr⟩
end
end Go.Ev

/- One operation that knows the heap is sound: the cases. -/
namespace Go.Ev
open Go.RowKit
section
variable {C : Ctx} {rw rw' : RW} {ε ε' ε0 : Env} {w w' : World} {g : Nat → Option AV} {a : Act} {o : Oper} {h h' : Hp} {R : Type} {sg : FuncId → Sig} {callF : (f : FuncId) → argL (sg f).ps → Option (retL (sg f).rs)}
theorem lt_of (hC : CtxOk C) {x y : Int} (h : C.T.lt x y = true) : x < y := of_decide_eq_true (hC.tab.lt x y ▸ h)
theorem le_of (hC : CtxOk C) {x y : Int} (h : C.T.le x y = true) : x ≤ y := of_decide_eq_true (hC.tab.le x y ▸ h)
theorem appDst_rel {b : Bool} {av : AV} {r : Rf} {V : Value} (hd : appDst b av = some r) (hv : VRel rw ε av V) : EncS ε.hh true r V := by
  unfold appDst at hd
  split at hd
  · cases hd
    exact hrel_sr.1 hv
  · cases hd
    exact hv
  · obtain ⟨_, hd⟩ := bif_some hd
    cases hd
    exact hv
  · cases hd
set_option maxHeartbeats 1000000 in
theorem oper2_sound (hC : CtxOk C) (hvw : ∀ r, ¬ C.vw r) (hF : ∀ f, CallOk C.P C.W0 sg callF f) (hM : Mem C rw ε w) (hH : HM C h rw ε w) (hS : Slots rw ε g a) {d : Nat} {K : AV → Upd → Hp → Option R} {r : R} (hk : oper2 C.T sg callF g rw d o h K = some r) :
    ∃ v us h', K v us h' = some r ∧ Good2 C rw ε a w o v us h' := by
  have old : oldK C.T sg callF g rw d o h K = some r → ∃ v us h', K v us h' = some r ∧ Good2 C rw ε a w o v us h' := oldK_sound hC hvw hF hM hH hS
  unfold oper2 at hk
  split at hk
  · rename_i s x hop
    split at hk
    · rename_i p hx
      split at hk
      · rename_i t ht
        cases hl : h.ld t p with
        | none => rw [hl] at hk; cases hk
        | some y =>
          rw [hl] at hk
          exact ⟨_, _, _, hk, good2_load hC hM hH hop ht (opd_rel hS hx) hl⟩
      · cases hk
    · exact old hk
  · rename_i s x y hop
    split at hk
    · rename_i p hx
      split at hk
      · rename_i t ht
        split at hk
        · rename_i v hv
          cases hl : h.st t p v with
          | none => rw [hl] at hk; cases hk
          | some h2 =>
            rw [hl] at hk
            exact ⟨_, _, _, hk, good2_store hC hM hH hop ht (opd_rel hS hx) (opdH_rel hS hv) hl⟩
        · cases hk
      · cases hk
    · exact old hk
  · rename_i x hop
    split at hk
    · rename_i p hx
      obtain ⟨hp, hk⟩ := chk_some hk
      exact ⟨_, _, _, hk, good2_nilCheck hM hH hop (opd_rel hS hx) (by simpa using hp)⟩
    · rename_i p hx
      obtain ⟨hp, hk⟩ := chk_some hk
      exact ⟨_, _, _, hk, good2_nilCheckI hM hH hop (opd_rel hS hx) (by simpa using hp)⟩
    · exact old hk
  · rename_i t x i hop
    split at hk
    · rename_i rf hx
      split at hk
      · rename_i ty e n ht hi
        obtain ⟨c0, hk⟩ := chk_some hk
        obtain ⟨c1, hk⟩ := chk_some hk
        obtain ⟨k, hik⟩ := opdInt_rel hS hi
        exact ⟨_, _, _, hk, good2_indexAddr hC hM hH hop ht (opd_rel hS hx) hik (le_of hC c0) (lt_of hC c1)⟩
      · cases hk
    · exact old hk
  · rename_i s x j hop
    split at hk
    · rename_i p hx
      split at hk
      · rename_i t ht
        split at hk
        · rename_i f hf
          obtain ⟨hp, hk⟩ := chk_some hk
          exact ⟨_, _, _, hk, good2_fieldAddr hC hM hH hop ht hf (HTy.fld_struct hf) (opd_rel hS hx) (by simpa using hp)⟩
        · cases hk
      · cases hk
    · exact old hk
  · rename_i s x j hop
    split at hk
    · rename_i t v hx
      split at hk
      · rename_i u hu
        obtain ⟨hb, hk⟩ := bif_some hk
        obtain rfl := HTy.beq_eq hb
        split at hk
        · rename_i f hf
          exact ⟨_, _, _, hk, good2_field hC hM hH hop hu (HTy.fld_struct hf) hf (opd_rel hS hx) (u.get_cc j v f hf)⟩
        · cases hk
      · cases hk
    · exact old hk
  · rename_i t x xlo hi mx hop
    split at hk
    · rename_i rf hx
      split at hk
      · rename_i ty e lo hi' ht hlo hhi
        obtain ⟨c0, hk⟩ := chk_some hk
        obtain ⟨c1, hk⟩ := chk_some hk
        obtain ⟨c2, hk⟩ := chk_some hk
        exact ⟨_, _, _, hk, good2_slice hC hM hH hop ht (opd_rel hS hx) (le_of hC c0) (le_of hC c1) (le_of hC c2) (loOf_rel hS hlo) (hiOf_rel hS hhi)⟩
      · rename_i ty e lo hi' m ht hlo hhi
        split at hk
        · rename_i hx0 mv hm
          obtain ⟨c0, hk⟩ := chk_some hk
          obtain ⟨c1, hk⟩ := chk_some hk
          obtain ⟨c2, hk⟩ := chk_some hk
          obtain ⟨c3, hk⟩ := chk_some hk
          refine ⟨_, _, _, hk, good2_slice3 hC hM hH hop ht (opd_rel hS hx) (le_of hC c0) (le_of hC c1) (le_of hC c2) (le_of hC c3) (loOf_rel hS hlo) ?_ (opdInt_rel hS hm)⟩
          rcases hiOf_rel hS hhi with h1 | ⟨h1, _⟩
          · exact h1
          · cases h1
        · cases hk
      · cases hk
    · exact old hk
  · rename_i t ps hop
    split at hk
    · rename_i ty h1 h2
      split at hk
      · rename_i x hx
        obtain ⟨hs, hx⟩ := bif_some hx
        exact ⟨_, _, _, hk, good2_build hC hM hH hS hop h2 hs hx⟩
      · cases hk
    · exact old hk
  · rename_i e x hop
    split at hk
    · exact old hk
    · split at hk
      · rename_i v hv
        exact ⟨_, _, _, hk, good2_box hC hM hH hop (opdH_rel hS hv)⟩
      · cases hk
    · cases hk
  · rename_i e hop
    split at hk
    · exact old hk
    · rename_i t ht _
      exact ⟨_, _, _, hk, good2_alloc hC hM hH hop ht⟩
    · cases hk
  · rename_i t l c hop
    split at hk
    · exact old hk
    · rename_i ty e ht _
      split at hk
      · rename_i lv cv hl hc
        obtain ⟨c0, hk⟩ := chk_some hk
        obtain ⟨c1, hk⟩ := chk_some hk
        obtain ⟨c2, hk⟩ := chk_some hk
        obtain ⟨k1, hl'⟩ := opdInt_rel hS hl
        obtain ⟨k2, hc'⟩ := opdInt_rel hS hc
        exact ⟨_, _, _, hk, good2_make hC hM hH hop ht hl' hc' (le_of hC c0) (le_of hC c1) (lt_of hC c2)⟩
      · cases hk
    · cases hk
  · rename_i t n ps hop
    split at hk
    · exact old hk
    · rename_i ty e ht _
      split at hk
      · rename_i xs hxs
        obtain ⟨hb, hk⟩ := bif_some hk
        rw [Bool.and_eq_true] at hb
        exact ⟨_, _, _, hk, good2_buildSlice hC hM hH hS hop ht hxs (Nat.eq_of_beq_eq_true hb.1) (Nat.le_of_ble_eq_true hb.2)⟩
      · cases hk
    · cases hk
  · rename_i op xt x y t hop
    split at hk
    · rename_i s u hx
      split at hk
      · rename_i s' hs
        obtain ⟨hb, hk⟩ := bif_some hk
        rw [Bool.and_eq_true] at hb
        obtain rfl := HTy.beq_eq hb.1
        exact good2_nilEq hC hM hH hop hs hk (.inl ⟨opd_rel hS hx, hb.2⟩)
      · cases hk
    · rename_i s u hy _
      split at hk
      · rename_i s' hs
        obtain ⟨hb, hk⟩ := bif_some hk
        rw [Bool.and_eq_true] at hb
        obtain rfl := HTy.beq_eq hb.1
        exact good2_nilEq hC hM hH hop hs hk (.inr ⟨opd_rel hS hy, hb.2⟩)
      · cases hk
    · exact old hk
  · rename_i x j hop
    split at hk
    · rename_i l hx
      split at hk
      · rename_i c hc
        exact ⟨_, _, _, hk, good2_extract hM hH hop (opd_rel hS hx) hc⟩
      · cases hk
    · exact old hk
  · rename_i xt x hop
    split at hk
    · rename_i t ht
      split at hk
      · rename_i v hv
        split at hk
        · rename_i i hi
          exact ⟨_, _, _, hk, good2_iface hC hM hH hop ht (opdH_rel hS hv) hi⟩
        · cases hk
      · cases hk
    · cases hk
  · rename_i f first captured hop
    split at hk
    · rename_i caps h1 h2
      exact ⟨_, _, _, hk, good2_func hM hH hS hop h1 h2⟩
    · cases hk
  · rename_i xt x hop
    split at hk
    · rename_i s ht hx
      exact ⟨_, _, _, hk, good2_range hC hM hH hop ht (opd_rel hS hx)⟩
    · cases hk
  · rename_i it hop
    split at hk
    · rename_i p hx
      cases hm : h.more p with
      | none => rw [hm] at hk; cases hk
      | some b =>
        rw [hm] at hk
        simp only [Option.bind_some] at hk
        obtain ⟨k1, k2⟩ := good2_next hC hM hH hop (opd_rel hS hx) hm
        cases b with
        | false => exact ⟨_, _, _, hk, k1 rfl⟩
        | true =>
          cases hq : h.nxt p with
          | none => rw [hq] at hk; cases hk
          | some q =>
            rw [hq] at hk
            exact ⟨_, _, _, hk, k2 rfl q hq⟩
    · cases hk
  · rename_i args ts hop
    split at hk
    · rename_i x t ha ht
      rw [list1 ha, list1 ht] at hop
      split at hk
      · rename_i rf hx
        split at hk
        · rename_i p hp
          exact ⟨_, _, _, hk, good2_len hC hM hH hop hp (hrel_sr.1 (opd_rel hS hx))⟩
        · cases hk
      · rename_i rf cc hx
        split at hk
        · rename_i p hp
          exact ⟨_, _, _, hk, good2_len hC hM hH hop hp (show EncS ε.hh false rf _ from (show VRel rw ε (.hc rf cc) _ from opd_rel hS hx).1)⟩
        · cases hk
      · exact old hk
    · cases hk
  · rename_i args ts hop
    split at hk
    · rename_i x y t t' ha ht
      rw [list2 ha, list2 ht] at hop
      split at hk
      · rename_i rf cc hx
        split at hk
        · rename_i ty e hsl
          unfold srcC at hk
          replace hk := bif_some hk
          obtain ⟨htt, hk⟩ := hk
          have hxr : EncS ε.hh false rf (a.eval x) ∧ ∃ A, a.eval x = .slice A (rlen rf) cc ∧ (A = none → cc = 0) := opd_rel hS hx
          have one : ∀ (ys : List Cell) (m : Nat), SrcV ε w ty.sz ys m (a.eval y) → C.T.lt ((rlen rf : Int) + (m : Int)) 1000000000000 = true → ∀ {s : Rf × Hp}, h.apc e ty.sz ys m rf cc = some s → Good2 C rw ε a w o (.h .sr s.1) [] s.2 := by
            intro ys m hsrc c0 s hs
            have c0 := lt_of hC c0
            unfold Hp.apc at hs
            split at hs
            · rename_i ps n hcs
              have hn : n = rlen rf := by
                cases rf with
                | nil => cases hcs; rfl
                | «at» q k len =>
                  have hcs : (match h.cl q with
                    | some cs => bif Nat.ble (k + len * ty.sz) cs.length then some ((cs.drop k).take (len * ty.sz), len) else none
                    | _ => none) = some (ps, n) := hcs
                  split at hcs
                  · obtain ⟨_, hcs⟩ := bif_some hcs
                    cases hcs
                    rfl
                  · cases hcs
              subst hn
              exact good2_apc hC hM hH htt hop hsl hxr (cs_src hH hcs hxr.1) hsrc (by omega) hs
            · cases hs
          split at hk
          · rename_i r2 hy
            cases hq : h.cs ty.sz r2 with
            | none => rw [hq] at hk; cases hk
            | some q =>
              rw [hq] at hk
              simp only [Option.bind_some] at hk
              obtain ⟨c0, hk⟩ := chk_some hk
              cases hs : h.apc e ty.sz q.1 q.2 rf cc with
              | none => rw [hs] at hk; cases hk
              | some s =>
                rw [hs] at hk
                exact ⟨_, _, _, hk, one _ _ (cs_src hH hq (hrel_sr.1 (opd_rel hS hy))) c0 hs⟩
          · rename_i bv _ hy
            split at hk
            · rename_i z hz
              obtain ⟨hb, hk⟩ := bif_some hk
              have hb := HTy.beq_eq hb
              obtain ⟨c0, hk⟩ := chk_some hk
              cases hs : h.apc e ty.sz ((cellsL z.t z.xs).map .v) z.xs.length rf cc with
              | none => rw [hs] at hk; cases hk
              | some s =>
                rw [hs] at hk
                have hsrc := row_src hM (opd_rel hS hy) hz
                rw [show z.t.sz = ty.sz by rw [← hb]; rfl] at hsrc
                exact ⟨_, _, _, hk, one _ _ hsrc c0 hs⟩
            · cases hk
          · cases hk
        · cases hk
      · rename_i av _ hx
        split at hk
        · rename_i rf hd
          split at hk
          · rename_i ty e hsl
            unfold srcC at hk
            replace hk := bif_some hk
            obtain ⟨htt, hk⟩ := hk
            have hxr := appDst_rel hd (opd_rel hS hx)
            split at hk
            · rename_i r2 hy
              cases hq : h.cs ty.sz r2 with
              | none => rw [hq] at hk; cases hk
              | some q =>
                rw [hq] at hk
                simp only [Option.bind_some] at hk
                obtain ⟨c0, hk⟩ := chk_some hk
                cases hs : h.app e ty.sz q.1 q.2 rf with
                | none => rw [hs] at hk; cases hk
                | some s =>
                  rw [hs] at hk
                  have := lt_of hC c0
                  exact ⟨_, _, _, hk, good2_append hC hM hH htt hop hsl hxr (cs_src hH hq (hrel_sr.1 (opd_rel hS hy))) (by omega) hs⟩
            · rename_i bv _ hy
              split at hk
              · rename_i z hz
                obtain ⟨hb, hk⟩ := bif_some hk
                have hb := HTy.beq_eq hb
                obtain ⟨c0, hk⟩ := chk_some hk
                cases hs : h.app e ty.sz ((cellsL z.t z.xs).map .v) z.xs.length rf with
                | none => rw [hs] at hk; cases hk
                | some s =>
                  rw [hs] at hk
                  have := lt_of hC c0
                  have hsrc := row_src hM (opd_rel hS hy) hz
                  rw [show z.t.sz = ty.sz by rw [← hb]; rfl] at hsrc
                  exact ⟨_, _, _, hk, good2_append hC hM hH htt hop hsl hxr hsrc (show rlen rf + z.xs.length < 1000000000000 by have h7 : (rlen rf : Int) + (z.xs.length : Int) < 1000000000000 := this; omega) hs⟩
              · cases hk
            · cases hk
          · cases hk
        · exact old hk
      · cases hk
    · cases hk
  · rename_i f args ts hop
    cases hh : hasHp (sg f).ps with
    | true =>
      rw [hh] at hk
      replace hk : (bif C.T.rd f then none else hcall sg callF rw d f h K (toArgs2 C.T g rw (strip (sg f).ps) args.toList)) = some r := hk
      cases hrd : C.T.rd f with
      | true => rw [hrd] at hk; cases hk
      | false =>
      rw [hrd] at hk
      refine hcall_sound hC hM hH (hF f) (Vs := args.toList.map a.eval) ?_ (fun ys us rs hx => toArgs2_sound hM hS hx) hh hk
      rw [exec_func hop]
      congr 2
      apply Array.ext'
      simp
    | false =>
      rw [hh] at hk
      exact old hk
  · rename_i n args ts hop
    split at hk
    · rename_i f caps hg
      exact dispF_sound hC hvw hF hM hH hS hop (hS n _ hg) hk
    · cases hk
  · rename_i x name args ts hop
    split at hk
    · rename_i i hx
      exact dispI_sound hC hF hM hH hS hop (hrel_ir.1 (opd_rel hS hx)) (fun t f hm => hC.tab.meth name t f hm) hk
    · cases hk
  · rename_i src dst x hop
    split at hk
    · rename_i p hx
      split at hk
      · rename_i e hs hd
        cases hl : h.rd (.int .i32) p with
        | none => rw [hl] at hk; cases hk
        | some xs =>
          rw [hl] at hk
          exact ⟨_, _, _, hk, good_lift hM hH (good_ofRunes (far_ok hC hM hH _) (far_mem hvw hM hH _) hop hs hd (rd_read hH hl (hrel_sr.1 (opd_rel hS hx))).1)⟩
      · rename_i e hs hd
        cases hl : h.rd (.int .u8) p with
        | none => rw [hl] at hk; cases hk
        | some xs =>
          rw [hl] at hk
          exact ⟨_, _, _, hk, good_lift hM hH (good_ofBytes (far_ok hC hM hH _) (far_mem hvw hM hH _) hop hs hd (rd_read hH hl (hrel_sr.1 (opd_rel hS hx))).1)⟩
      · cases hk
    · rename_i s hx
      split at hk
      · rename_i e hd0 hs hd
        exact ⟨_, _, _, hk, good2_toBytes hC hM hH hop (opd_rel hS hx) hs hd⟩
      · exact old hk
    · exact old hk
  · exact old hk
end
end Go.Ev

/-
The evaluator of regions, code and functions: the definitions.
-/
namespace Go.Ev
section
variable (T : Tab) (sg : FuncId → Sig) (callF : (f : FuncId) → argL (sg f).ps → Option (retL (sg f).rs)) {R : Type}
def putS (sl : List (Nat × AV)) (dst : Option Nat) (v : AV) : List (Nat × AV) := match dst with
  | some d => set sl d v
  | none => sl
def dstOk (nt : Nat) : Option Nat → Bool
  | some d => Nat.blt d nt
  | none => true
def dstN : Option Nat → Nat
  | some d => d
  | none => 0
/-- A row of one's own goes to the heap; what told of it tells of the object. -/
def hAV (r nm : Nat) (y : Row) : AV → AV
  | .sl q => bif Nat.beq q r then .h .sr (.at nm 0 y.xs.length) else .sl q
  | .cut q p lo hi => bif Nat.beq q r then .h .sr (.at nm (lo.toNat * y.t.sz) (hi - lo).toNat) else .cut q p lo hi
  | .ptr q i => bif Nat.beq q r then .h .pr (.at nm (i.toNat * y.t.sz)) else .ptr q i
  | v => v
def mapS (r nm : Nat) (y : Row) : List (Nat × AV) → List (Nat × AV)
  | [] => []
  | (n, v) :: l => (n, hAV r nm y v) :: mapS r nm y l
def heapRow (r : Nat) (s : St) : St := match row (look s.rows) r with
  | some y => bif y.own then ⟨mapS r s.hp.nx y s.sl, set s.rows r none, s.hp.new y.e (.p y.t) y.xs⟩ else s
  | none => s
def prepT : List Operand → St → St
  | [], s => s
  | .tmp n :: l, s => prepT l (match look s.sl n with
    | some (.sl r) => heapRow r s
    | some (.cut r _ _ _) => heapRow r s
    | some (.ptr r _) => heapRow r s
    | _ => s)
  | _ :: l, s => prepT l s
def heapPs : List Par → List Operand → List Operand
  | .h _ :: ps, x :: l => x :: heapPs ps l
  | _ :: ps, _ :: l => heapPs ps l
  | _, _ => []
/-- Operands that must lie in the heap. -/
def needs (g : Nat → Option AV) (o : Oper) : List Operand := match o.op with
  | .store _ x y => (match opd T g 0 x with
    | some (.h .pr _) => [y]
    | _ => [])
  | .build t ps => (match T.ty t with
    | none => ps.toList.map (·.2)
    | some _ => [])
  | .buildSlice t _ ps => (match T.sl t with
    | none => ps.toList.map (·.2)
    | some _ => [])
  | .makeInterface _ x => [x]
  | .call { callee := .value (.func f), args, argTypes := _ } => bif hasHp (sg f).ps then heapPs (strip (sg f).ps) args.toList else []
  | _ => []
def prepS (o : Oper) (s : St) : St := prepT (needs T sg (look s.sl) o) s
def step (pr : Bool) (nt : Nat) (s : St) (o : Oper) (K : St → Option R) : Option R :=
  bif dstOk nt o.dst then (bif pr then oper2 T sg callF (look (prepS T sg o s).sl) (look (prepS T sg o s).rows) (dstN o.dst) o (prepS T sg o s).hp (fun v us h => K ⟨putS (prepS T sg o s).sl o.dst v, upd (prepS T sg o s).rows us, h⟩)
    else oper2 T sg callF (look s.sl) (look s.rows) (dstN o.dst) o s.hp fun v us h => K ⟨putS s.sl o.dst v, upd s.rows us, h⟩) else none
def skipS (nt : Nat) (s : St) (o : Oper) (K : St → Option R) : Option R :=
  bif dstOk nt o.dst then K ⟨putS s.sl o.dst .u, s.rows, s.hp⟩ else none
def nthO : List Oper → Nat → Option Oper
  | [], _ => none
  | o :: _, 0 => some o
  | _ :: l, n + 1 => nthO l n
def guardS (all : List Oper) (j : Nat) : Option Nat := match nthO all j with
  | some o => o.dst
  | none => none
def ops (pr : Bool) (nt : Nat) (all : List Oper) (l : List Oper) (s : St) (K : St → Option R) : Option R :=
  match l with
  | [] => K s
  | o :: l => match o.guard with
    | none => step T sg callF pr nt s o fun s => ops pr nt all l s K
    | some (j, want) => (match guardS all j with
      | some d => (match look s.sl d with
          | some (.v .bool b) => (match want with
            | true => br b (step T sg callF pr nt ⟨set s.sl d (.v .bool true), s.rows, s.hp⟩ o fun s => ops pr nt all l s K) (skipS nt ⟨set s.sl d (.v .bool false), s.rows, s.hp⟩ o fun s => ops pr nt all l s K)
            | false => br b (skipS nt ⟨set s.sl d (.v .bool true), s.rows, s.hp⟩ o fun s => ops pr nt all l s K) (step T sg callF pr nt ⟨set s.sl d (.v .bool false), s.rows, s.hp⟩ o fun s => ops pr nt all l s K))
          | some .u => skipS nt s o fun s => ops pr nt all l s K
          | _ => none)
      | none => none)
/-- What is live, in the order of the list. -/
def only {α : Type} : List Nat → List (Nat × α) → List (Nat × α)
  | [], _ => []
  | n :: lv, l => bif mem n lv then only lv l else (match look l n with
    | some a => (n, a) :: only lv l
    | none => only lv l)
/-- Rows named anew by the first temporary that holds them; a part of a row becomes a row that is read. -/
def ren (m : List (Nat × Nat)) (r : Nat) : Option Nat := match m with
  | [] => none
  | (a, b) :: l => bif Nat.beq a r then some b else ren l r
/-- Is a part of the row kept ahead of the row itself? -/
def isCut (r : Nat) : List (Nat × AV) → Bool
  | [] => false
  | (_, .cut q _ _ _) :: l => bif Nat.beq q r then true else isCut r l
  | (_, .sl q) :: l => bif Nat.beq q r then false else isCut r l
  | (_, .ptr q _) :: l => bif Nat.beq q r then false else isCut r l
  | _ :: l => isCut r l
/-- How many slots speak of a row. -/
def speaks (r : Nat) : AV → Bool
  | .sl q => Nat.beq q r
  | .cut q _ _ _ => Nat.beq q r
  | .ptr q _ => Nat.beq q r
  | _ => false
def cnt (r : Nat) : List (Nat × AV) → Nat
  | [] => 0
  | (_, av) :: l => bif speaks r av then cnt r l + 1 else cnt r l
/-- Plain parts alone. -/
def allV : List AC → Bool
  | [] => true
  | .v _ _ :: l => allV l
  | _ => false
/-- all: all slots that stay; m: which row has which new name. -/
def keep (rows : List (Nat × Option Row)) (all : List (Nat × AV)) : List (Nat × AV) → List (Nat × Nat) → Option (List (Nat × AV) × List (Nat × Option Row))
  | [], _ => some ([], [])
  | (n, .sl r) :: l, m => (match ren m r with
    | some q => (match keep rows all l m with
      | some (sl, rs) => some ((n, .sl q) :: sl, rs)
      | none => none)
    | none => (match row (look rows) r, keep rows all l ((r, n) :: m) with
      | some w, some (sl, rs) => some ((n, .sl n) :: sl, (n, some ⟨w.t, w.e, bif isCut r all then false else w.own, w.xs⟩) :: rs)
      | _, _ => none))
  | (n, .ptr r i) :: l, m => (match ren m r with
    | some q => (match keep rows all l m with
      | some (sl, rs) => some ((n, .ptr q i) :: sl, rs)
      | none => none)
    | none => (match row (look rows) r, keep rows all l ((r, n) :: m) with
      | some w, some (sl, rs) => some ((n, .ptr n i) :: sl, (n, some ⟨w.t, w.e, bif isCut r all then false else w.own, w.xs⟩) :: rs)
      | _, _ => none))
  | (n, .cut r p lo hi) :: l, m => (match ren m r with
    | some q => (match keep rows all l m with
      | some (sl, rs) => some ((n, .cut q p lo hi) :: sl, rs)
      | none => none)
    | none => (match row (look rows) r, keep rows all l m with
      | some w, some (sl, rs) => bif w.own && p && Nat.beq (cnt r all) 1 then some ((n, .sl n) :: sl, (n, some ⟨w.t, w.e, true, w.xs.take hi.toNat⟩) :: rs)
        else some ((n, .sl n) :: sl, (n, some ⟨w.t, w.e, false, (w.xs.drop lo.toNat).take (hi.toNat - lo.toNat)⟩) :: rs)
      | _, _ => none))
  | (n, .v t x) :: l, m => (match keep rows all l m with
      | some (sl, rs) => some ((n, .v t x) :: sl, rs)
      | none => none)
  | (n, .op) :: l, m => (match keep rows all l m with
      | some (sl, rs) => some ((n, .op) :: sl, rs)
      | none => none)
  | (n, .tup t) :: l, m => bif allV t then (match keep rows all l m with
      | some (sl, rs) => some ((n, .tup t) :: sl, rs)
      | none => none) else none
  | (n, .h t x) :: l, m => (match keep rows all l m with
      | some (sl, rs) => some ((n, .h t x) :: sl, rs)
      | none => none)
  | (n, .fn f c) :: l, m => (match keep rows all l m with
      | some (sl, rs) => some ((n, .fn f c) :: sl, rs)
      | none => none)
  | (n, .nilP) :: l, m => (match keep rows all l m with
      | some (sl, rs) => some ((n, .nilP) :: sl, rs)
      | none => none)
  | (n, .nilS t e) :: l, m => (match keep rows all l m with
      | some (sl, rs) => some ((n, .sl n) :: sl, (n, some ⟨t, e, true, []⟩) :: rs)
      | none => none)
  | (_, _) :: _, _ => none
def cutTo (lv : List Nat) (s : St) (K : St → Option R) : Option R := match keep s.rows (only lv s.sl) (only lv s.sl) [] with
  | some (sl, rows) => K ⟨sl, rows, s.hp⟩
  | none => none
inductive Out where
  | normal | exit (id : Nat) | ret
variable (live : Nat → Option (List Nat))
def reg : Code → Nat
  | .region id _ _ => id
  | .seq a _ => reg a
  | .block _ a => reg a
  | .loop _ => 1000000
  | .scope a => reg a
  | .cond _ a _ => reg a
  | _ => 1000000
/-- What follows a piece of code. -/
inductive Fr where
  | seq (b : Code) | block (id : Nat) | loop (a : Code)
inductive Task where
  | code (c : Code) | out (o : Out)
/-- The evaluation of code; J: where ways meet, and loops. -/
def run (nt : Nat) (J : Code → List Fr → St → Option R) (fin : St → Option R) : Nat → Task → St → List Fr → Option R
  | 0, _, _, _ => none
  | n + 1, .code c, s, fs => (match c with
    | .skip => run nt J fin n (.out .normal) s fs
    | .region _ o d => ops T sg callF (!d) nt o.toList o.toList s (fun s => run nt J fin n (.out .normal) s fs)
    | .seq a b => run nt J fin n (.code a) s (.seq b :: fs)
    | .cond c a b => (match opd T (look s.sl) 0 c with
      | some (.v .bool c) => br c (run nt J fin n (.code a) s fs) (run nt J fin n (.code b) s fs)
      | _ => none)
    | .block id a => run nt J fin n (.code a) s (.block id :: fs)
    | .loop a => (match live (reg a + 10000) with
      | some lv => cutTo lv s (J (.loop a) fs)
      | none => none)
    | .exit id => run nt J fin n (.out (.exit id)) s fs
    | .ret => run nt J fin n (.out .ret) s fs
    | _ => none)
  | n + 1, .out o, s, fs => (match fs with
    | [] => (match o with
      | .exit _ => none
      | _ => fin s)
    | .seq b :: fs => (match o with
      | .normal => (match live (reg b) with
        | some lv => cutTo lv s (J b fs)
        | none => run nt J fin n (.code b) s fs)
      | o => run nt J fin n (.out o) s fs)
    | .block id :: fs => (match o with
      | .exit j => bif Nat.beq j id then run nt J fin n (.out .normal) s fs else run nt J fin n (.out (.exit j)) s fs
      | o => run nt J fin n (.out o) s fs)
    | .loop a :: fs => (match o with
      | .normal => (match live (reg a + 10000) with
        | some lv => cutTo lv s (J (.loop a) fs)
        | none => none)
      | o => run nt J fin n (.out o) s fs))
def steps : Nat := 400
/-- A place: with k rounds. -/
def jF (nt : Nat) (fin : St → Option R) : Nat → Code → List Fr → St → Option R
  | 0, _, _, _ => none
  | k + 1, c, fs, s => (match c with
    | .loop a => run T sg callF live nt (jF nt fin k) fin steps (.code a) s (.loop a :: fs)
    | c => run T sg callF live nt (jF nt fin k) fin steps (.code c) s fs)
/-! ### places in code -/
inductive Dir where
  | l | r | b | lp
def stepC : Dir → Code → Code
  | .l, .seq a _ => a
  | .r, .seq _ b => b
  | .l, .cond _ a _ => a
  | .r, .cond _ _ b => b
  | .b, .block _ a => a
  | .lp, .loop a => a
  | _, c => c
def stepF : Dir → Code → List Fr → List Fr
  | .l, .seq _ b, fs => .seq b :: fs
  | .b, .block id _, fs => .block id :: fs
  | .lp, .loop a, fs => .loop a :: fs
  | _, _, fs => fs
noncomputable def subC (p : List Dir) : Code → Code := List.rec (motive := fun _ => Code → Code) (fun c => c) (fun d _ ih c => ih (stepC d c)) p
noncomputable def subF (p : List Dir) : Code → List Fr → List Fr :=
  List.rec (motive := fun _ => Code → List Fr → List Fr) (fun _ fs => fs) (fun d _ ih c fs => ih (stepC d c) (stepF d c fs)) p
/-! ### functions -/
def slotsOf : (ps : List Par) → argL ps → Nat → List (Nat × AV)
  | [], _, _ => []
  | .v t :: ps, x, n => (n, .v t x.1) :: slotsOf ps x.2 (n + 1)
  | .op :: ps, x, n => (n, .op) :: slotsOf ps x.2 (n + 1)
  | .read _ _ :: ps, x, n => (n, .sl n) :: slotsOf ps x.2 (n + 1)
  | .own _ _ :: ps, x, n => (n, .sl n) :: slotsOf ps x.2 (n + 1)
  | .pt _ _ :: ps, x, n => (n, .ptr n 0) :: slotsOf ps x.2 (n + 1)
  | .hp :: ps, x, n => (n, .op) :: slotsOf ps x.2 (n + 1)
  | .h t :: ps, x, n => (n, avOf t x.1) :: slotsOf ps x.2 (n + 1)
  | .fn :: ps, x, n => (n, .fn x.1.1 x.1.2) :: slotsOf ps x.2 (n + 1)
def rowsOf : (ps : List Par) → argL ps → Nat → List (Nat × Option Row)
  | [], _, _ => []
  | .v _ :: ps, x, n => rowsOf ps x.2 (n + 1)
  | .op :: ps, x, n => rowsOf ps x.2 (n + 1)
  | .hp :: ps, x, n => rowsOf ps x.2 (n + 1)
  | .h _ :: ps, x, n => rowsOf ps x.2 (n + 1)
  | .fn :: ps, x, n => rowsOf ps x.2 (n + 1)
  | .read t e :: ps, x, n => (n, some ⟨t, e, false, x.1⟩) :: rowsOf ps x.2 (n + 1)
  | .own t e :: ps, x, n => (n, some ⟨t, e, true, x.1⟩) :: rowsOf ps x.2 (n + 1)
  | .pt t e :: ps, x, n => (n, some ⟨t, e, false, [x.1]⟩) :: rowsOf ps x.2 (n + 1)
/-- A result that is handed back, and the row that goes with it. -/
def retOf (rows : List (Nat × Option Row)) : (t : RTy) → AV → Option (t.den × List Nat)
  | .v t, a => (match toDen t a with
    | some x => some (x, [])
    | none => none)
  | .sl t e, .sl r => (match row (look rows) r with
    | some w => bif w.own && Nat.beq w.e e then (match cast? (F := fun t => List t.den) w.t t w.xs with
      | some xs => some (xs, [r])
      | none => none) else none
    | none => none)
  | .sl t e, .cut r true _ hi => (match row (look rows) r with
    | some w => bif w.own && Nat.beq w.e e then (match cast? (F := fun t => List t.den) w.t t w.xs with
      | some xs => some (xs.take hi.toNat, [r])
      | none => none) else none
    | none => none)
  | .sl _ _, .nilS _ _ => some ([], [])
  | .pt t e, .ptr r (.ofNat 0) => (match row (look rows) r with
    | some w => bif w.own && Nat.beq w.e e then (match cast? (F := fun t => List t.den) w.t t w.xs with
      | some [x] => some (x, [r])
      | _ => none) else none
    | none => none)
  | .h t, a => (match toH t a with
    | some x => some (x, [])
    | none => none)
  | _, _ => none
/-- Where a result stands: in a temporary, or in a variable of its own. -/
inductive RV where
  | tmp (n : Nat) | cell (n : Nat) (t : TypeId)
def rets (s : St) : (rs : List RTy) → List AV → Option (retL rs × List Nat)
  | [], [] => some ((), [])
  | [t], [a] => retOf s.rows t a
  | t :: u :: rs, a :: ns => (match retOf s.rows t a, rets s (u :: rs) ns with
      | some (x, l), some (y, m) => bif disj l m then some ((x, y), l ++ m) else none
      | _, _ => none)
  | _, _ => none
def resTmps : List ResultVar → Option (List RV)
  | [] => some []
  | .tmp t :: l => (match resTmps l with
    | some m => some (.tmp t :: m)
    | none => none)
  | .cell t ty :: l => (match resTmps l with
    | some m => some (.cell t ty :: m)
    | none => none)
/-- Results with the heap. -/
def addR : (rs : List RTy) → Hp → retL (stripT rs) → retL rs
  | [.hp], h, _ => h
  | .hp :: _ :: _, h, x => (h, x)
  | [], _, x => x
  | [.v _], _, x => x
  | .v _ :: _ :: _, _, x => x
  | [.sl _ _], _, x => x
  | .sl _ _ :: _ :: _, _, x => x
  | [.pt _ _], _, x => x
  | .pt _ _ :: _ :: _, _, x => x
  | [.h _], _, x => x
  | .h _ :: _ :: _, _, x => x
/-- Results that must lie in the heap. -/
def heapRs : List RTy → List RV → List Operand
  | .h _ :: rs, .tmp n :: l => .tmp n :: heapRs rs l
  | _ :: rs, _ :: l => heapRs rs l
  | _, _ => []
def cellB : RV → Bool
  | .cell _ _ => true
  | _ => false
/-- The values of results of which one stands in a variable of the heap. -/
def hcells (s : St) (K : List AV → Option R) : List RV → Option R
  | [] => K []
  | .tmp n :: l => (match look s.sl n with
    | some a => hcells s (fun as => K (a :: as)) l
    | none => none)
  | .cell n ty :: l => (match look s.sl n with
    | some (.ptr r i) => (match row (look s.rows) r, T.ty ty with
      | some w, some t => bif Ty.beq t w.t then hcells s (fun as => K (.v w.t (nth w.t w.xs i) :: as)) l else none
      | _, _ => none)
    | some (.h .pr p) => (match T.hty ty with
      | some t => (s.hp.ld t p).bind fun y => hcells s (fun as => K (avOf t y :: as)) l
      | none => none)
    | _ => none)
/-- A function's end. -/
def finS (rs : List RTy) (s : St) (as : List AV) : Option (retL rs) := match rets s (stripT rs) as with
  | some (x, _) => some (addR rs s.hp x)
  | none => none
def fin (rs : List RTy) (res : List RV) (s : St) : Option (retL rs) := hcells T (prepT (heapRs (stripT rs) res) s) (finS rs (prepT (heapRs (stripT rs) res) s)) res
def evalF (k : Nat) (fn : Func) (g : Sig) (xs : argL g.ps) : Option (retL g.rs) := match fn.body, resTmps fn.results.toList with
  | some c, some res => run T sg callF live fn.ntmps (jF T sg callF live fn.ntmps (fin T g.rs res) k) (fin T g.rs res) steps (.code c) ⟨slotsOf (strip g.ps) (stripA g.ps xs) 0, rowsOf (strip g.ps) (stripA g.ps xs) 0, hpA g.ps xs⟩ []
  | _, _ => none
/-- A function's code from a place on. -/
noncomputable def jumpF (k : Nat) (fn : Func) (rs : List RTy) (p : List Dir) (s : St) : Option (retL rs) := match fn.body, resTmps fn.results.toList with
  | some c, some res => jF T sg callF live fn.ntmps (fin T rs res) k (subC p c) (subF p c []) s
  | _, _ => none
end
end Go.Ev

/- Regions in the text's order. -/
namespace Go.Ev
open Go.RowKit
theorem look_set {α : Type} (l : List (Nat × α)) (n : Nat) (a : α) (m : Nat) : look (set l n a) m = if m = n then some a else look l m := by
  induction l with
  | nil =>
    simp only [set, look]
    by_cases h : m = n
    · subst h; simp
    · have : Nat.beq n m = false := by
        cases hb : Nat.beq n m with
        | true => exact absurd (Nat.eq_of_beq_eq_true hb).symm h
        | false => rfl
      simp [this, h]
  | cons p l ih =>
    obtain ⟨k, b⟩ := p
    unfold set
    cases hb : Nat.beq k n with
    | true =>
      have hk := Nat.eq_of_beq_eq_true hb
      subst hk
      simp only [cond_true, look]
      by_cases h : m = k
      · subst h; simp
      · have : Nat.beq k m = false := by
          cases hb' : Nat.beq k m with
          | true => exact absurd (Nat.eq_of_beq_eq_true hb').symm h
          | false => rfl
        simp [this, h]
    | false =>
      have hk : k ≠ n := Nat.ne_of_beq_eq_false hb
      simp only [cond_false, look, ih]
      cases hb' : Nat.beq k m with
      | true =>
        have := Nat.eq_of_beq_eq_true hb'
        subst this
        simp [hk]
      | false => rfl
theorem keys_set {α : Type} (l : List (Nat × α)) (n : Nat) (a : α) : (l.map Prod.fst).Nodup → ((set l n a).map Prod.fst).Nodup ∧ ∀ m, m ∈ (set l n a).map Prod.fst → m = n ∨ m ∈ l.map Prod.fst := by
  induction l with
  | nil => intro _; simp [set]
  | cons p l ih =>
    obtain ⟨k, b⟩ := p
    intro h
    simp only [List.map_cons, List.nodup_cons] at h
    unfold set
    cases hb : Nat.beq k n with
    | true =>
      have hk := Nat.eq_of_beq_eq_true hb
      subst hk
      simp only [cond_true, List.map_cons, List.nodup_cons]
      exact ⟨h, fun m hm => .inr hm⟩
    | false =>
      have hk : k ≠ n := Nat.ne_of_beq_eq_false hb
      obtain ⟨h1, h2⟩ := ih h.2
      simp only [cond_false, List.map_cons, List.nodup_cons]
      refine ⟨⟨fun hm => ?_, h1⟩, fun m hm => ?_⟩
      · rcases h2 k hm with h3 | h3
        · exact hk h3
        · exact h.1 h3
      · rcases List.mem_cons.1 hm with rfl | hm
        · exact .inr (by simp)
        · rcases h2 m hm with h3 | h3
          · exact .inl h3
          · exact .inr (List.mem_cons_of_mem _ h3)
theorem look_upd (us : Upd) : ∀ (l : List (Nat × Option Row)), look (upd l us) = updF (look l) us := by
  induction us with
  | nil => intro l; rfl
  | cons p us ih =>
    obtain ⟨n, x⟩ := p
    intro l
    show look (upd (set l n x) us) = updF _ us
    rw [ih]
    congr 1
    funext m
    exact look_set l n x m
def Rel (C : Ctx) (nt : Nat) (s : St) (a : Act) (w : World) : Prop :=
  a.tmps.size = nt ∧ a.defers = [] ∧ (s.sl.map Prod.fst).Nodup ∧ ∃ ε, Slots (look s.rows) ε (look s.sl) a ∧ Mem C (look s.rows) ε w ∧ HM C s.hp (look s.rows) ε w
theorem putS_keys {sl : List (Nat × AV)} (dst : Option Nat) (v : AV) (h : (sl.map Prod.fst).Nodup) : ((putS sl dst v).map Prod.fst).Nodup := by
  cases dst with
  | none => exact h
  | some d => exact (keys_set sl d v h).1
theorem put_size (a : Act) (dst : Option Nat) (V : Value) : (a.put dst V).tmps.size = a.tmps.size := by cases dst <;> simp [Act.put]
theorem put_defs (a : Act) (dst : Option Nat) (V : Value) : (a.put dst V).defers = a.defers := by cases dst <;> rfl
theorem put_getD_same {a : Act} {d : Nat} (V : Value) (h : d < a.tmps.size) : (a.put (some d) V).tmps.getD d undef = V := by
  simp [Act.put, Array.getD, h]
theorem put_getD_ne (a : Act) {d n : Nat} (V : Value) (h : n ≠ d) : (a.put (some d) V).tmps.getD n undef = a.tmps.getD n undef := by
  simp [Act.put, Array.getElem?_setIfInBounds_ne (Ne.symm h)]
theorem slots_put {rw rw' : RW} {ε ε' : Env} {sl : List (Nat × AV)} {a : Act} (hS : Slots rw ε (look sl) a) (he : Ext2 rw ε rw' ε') {dst : Option Nat} {v : AV} {V : Value} (hv : VRel rw' ε' v V) {nt : Nat} (hn : a.tmps.size = nt) (hd : dstOk nt dst = true) :
    Slots rw' ε' (look (putS sl dst v)) (a.put dst V) := by
  intro n av h
  cases dst with
  | none => exact (hS n av h).ext2 he
  | some d =>
    have hlt : d < a.tmps.size := by rw [hn]; exact (Nat.ble_eq.mp hd)
    rw [show putS sl (some d) v = set sl d v from rfl, look_set] at h
    by_cases hnd : n = d
    · subst hnd
      rw [if_pos rfl] at h
      cases h
      rw [put_getD_same V hlt]
      exact hv
    · rw [if_neg hnd] at h
      rw [put_getD_ne a V hnd]
      exact (hS n av h).ext2 he
section
variable {C : Ctx} {nt : Nat} {s : St} {w w' : World} {a : Act} {o : Oper} {R : Type} {sg : FuncId → Sig} {callF : (f : FuncId) → argL (sg f).ps → Option (retL (sg f).rs)}
theorem mapS_keys (r nm : Nat) (y : Row) : ∀ l : List (Nat × AV), (mapS r nm y l).map Prod.fst = l.map Prod.fst
  | [] => rfl
  | (n, v) :: l => by
    show n :: (mapS r nm y l).map Prod.fst = n :: l.map Prod.fst
    rw [mapS_keys r nm y l]
theorem mapS_look (r nm : Nat) (y : Row) : ∀ (l : List (Nat × AV)) (m : Nat), look (mapS r nm y l) m = (look l m).map (hAV r nm y)
  | [], m => rfl
  | (n, v) :: l, m => by
    show (bif Nat.beq n m then some (hAV r nm y v) else look (mapS r nm y l) m) = Option.map _ (bif Nat.beq n m then some v else look l m)
    cases Nat.beq n m with
    | true => rfl
    | false => exact mapS_look r nm y l m
theorem hAV_rel {rw : RW} {ε : Env} (hM : Mem C rw ε w) {r : Nat} {y : Row} (hr : row rw r = some y) {nm : Nat} (hn : nm = ε.hh.nx) {rw' : RW} (he : Ext2 rw ε rw' (ε.withH (ε.hh.push (ε.sv r) y.t.sz))) {av : AV} {V : Value} (hv : VRel rw ε av V) : VRel rw' (ε.withH (ε.hh.push (ε.sv r) y.t.sz)) (hAV r nm y av) V := by
  subst hn
  have old := hv.ext2 he
  cases av with
  | sl q =>
    show VRel _ _ (bif Nat.beq q r then _ else _) V
    cases hb : Nat.beq q r with
    | false => exact old
    | true =>
      obtain rfl := Nat.eq_of_beq_eq_true hb
      rw [show V = ε.sv q from hv.2]
      exact hrel_sr.2 (heapify_sl hM hr)
  | cut q p lo hi =>
    show VRel _ _ (bif Nat.beq q r then _ else _) V
    cases hb : Nat.beq q r with
    | false => exact old
    | true =>
      obtain rfl := Nat.eq_of_beq_eq_true hb
      exact hrel_sr.2 (heapify_cut hM hr hv)
  | ptr q i =>
    show VRel _ _ (bif Nat.beq q r then _ else _) V
    cases hb : Nat.beq q r with
    | false => exact old
    | true =>
      obtain rfl := Nat.eq_of_beq_eq_true hb
      exact hrel_pr.2 (heapify_ptr hM hr hv)
  | _ => exact old
theorem heapRow_sound (hR : Rel C nt s a w) (r : Nat) : Rel C nt (heapRow r s) a w := by
  unfold heapRow
  split
  · rename_i y hy
    cases ho : y.own with
    | false => exact hR
    | true =>
      obtain ⟨hn, hdf, hk, ε, hS, hM, hH⟩ := hR
      obtain ⟨m1, m2, m3⟩ := heapify_ok hM hH hy ho
      have hrows : look (set s.rows r none) = fun m => if m = r then some none else look s.rows m := by
        funext m
        exact look_set s.rows r none m
      refine ⟨hn, hdf, by show ((mapS r s.hp.nx y s.sl).map Prod.fst).Nodup; rw [mapS_keys]; exact hk, ε.withH (ε.hh.push (ε.sv r) y.t.sz), ?_, ?_, ?_⟩
      · show Slots (look (set s.rows r none)) _ (look (mapS r s.hp.nx y s.sl)) a
        rw [hrows]
        intro n av hav
        rw [mapS_look] at hav
        cases hl : look s.sl n with
        | none => rw [hl] at hav; cases hav
        | some av0 =>
          rw [hl] at hav
          cases hav
          exact hAV_rel hM hy hH.ok.nx m3 (hS n av0 hl)
      · show Mem C (look (set s.rows r none)) _ w
        rw [hrows]
        exact m1
      · show HM C (s.hp.new y.e (.p y.t) y.xs) (look (set s.rows r none)) _ w
        rw [hrows]
        exact m2
  · exact hR
theorem prepT_sound : ∀ (l : List Operand) {s : St}, Rel C nt s a w → Rel C nt (prepT l s) a w
  | [], s, hR => hR
  | x :: l, s, hR => by
    cases x with
    | tmp n =>
      show Rel C nt (prepT l _) a w
      refine prepT_sound l ?_
      split
      · exact heapRow_sound hR _
      · exact heapRow_sound hR _
      · exact heapRow_sound hR _
      · exact hR
    | const c => exact prepT_sound l hR
    | global c => exact prepT_sound l hR
    | func c => exact prepT_sound l hR
theorem step_sound0 (hC : CtxOk C) (hvw : ∀ r, ¬ C.vw r) (hF : ∀ f, CallOk C.P C.W0 sg callF f) (hR : Rel C nt s a w) (hd : dstOk nt o.dst = true) {K : St → Option R} {r : R} (h : oper2 C.T sg callF (look s.sl) (look s.rows) (dstN o.dst) o s.hp (fun v us h => K ⟨putS s.sl o.dst v, upd s.rows us, h⟩) = some r) :
    ∃ s', K s' = some r ∧ ∀ (next : Act → World → Prop) (Q : Exit → Act → World → Prop), (∀ a' w', Rel C nt s' a' w' → next a' w') → o.wp C.P a w next Q := by
  obtain ⟨hn, hdf, hk, ε, hS, hM, hH⟩ := hR
  obtain ⟨v, us, h', h1, h2⟩ := oper2_sound hC hvw hF hM hH hS h
  refine ⟨_, h1, fun next Q hnext => h2 next Q fun V ε' w' hv he hM' hH' => hnext _ _ ⟨by rw [put_size, hn], by rw [put_defs, hdf], putS_keys _ _ hk, ε', ?_, ?_, ?_⟩⟩
  · simp only [look_upd]
    exact slots_put hS he hv hn hd
  · simp only [look_upd]
    exact hM'
  · simp only [look_upd]
    exact hH'
theorem step_sound (hC : CtxOk C) (hvw : ∀ r, ¬ C.vw r) (hF : ∀ f, CallOk C.P C.W0 sg callF f) (hR : Rel C nt s a w) {pr : Bool} {K : St → Option R} {r : R} (h : step C.T sg callF pr nt s o K = some r) :
    ∃ s', K s' = some r ∧ ∀ (next : Act → World → Prop) (Q : Exit → Act → World → Prop), (∀ a' w', Rel C nt s' a' w' → next a' w') → o.wp C.P a w next Q := by
  unfold step at h
  obtain ⟨hd, h⟩ := bif_some h
  cases pr with
  | true => exact step_sound0 hC hvw hF (prepT_sound _ hR) hd h
  | false => exact step_sound0 hC hvw hF hR hd h
theorem skip_sound (hR : Rel C nt s a w) {dst : Option Nat} (hd : dstOk nt dst = true) : Rel C nt ⟨putS s.sl dst .u, s.rows, s.hp⟩ (a.put dst undef) w := by
  obtain ⟨hn, hdf, hk, ε, hS, hM, hH⟩ := hR
  exact ⟨by rw [put_size, hn], by rw [put_defs, hdf], putS_keys _ _ hk, ε, slots_put hS (Ext2.refl _ _) rfl hn hd, hM, hH⟩
theorem refine_sound (hR : Rel C nt s a w) {d : Nat} {av : AV} (h : look s.sl d = some av) : Rel C nt ⟨set s.sl d av, s.rows, s.hp⟩ a w := by
  obtain ⟨hn, hdf, hk, ε, hS, hM, hH⟩ := hR
  refine ⟨hn, hdf, (keys_set _ _ _ hk).1, ε, ?_, hM, hH⟩
  have : look (set s.sl d av) = look s.sl := by
    funext m
    rw [look_set]
    split
    · rename_i e
      rw [e, h]
    · rfl
  show Slots _ _ (look (set s.sl d av)) a
  rw [this]
  exact hS
theorem nthO_eq : ∀ (l : List Oper) (j : Nat), nthO l j = l[j]?
  | [], j => by simp [nthO]
  | o :: l, 0 => rfl
  | o :: l, j + 1 => by rw [nthO, nthO_eq l j]; simp
theorem guard_dst {ops : Array Oper} {j d : Nat} (h : guardS ops.toList j = some d) : (ops[j]?).bind (·.dst) = some d := by
  unfold guardS at h
  rw [nthO_eq, Array.getElem?_toList] at h
  cases hj : ops[j]? with
  | none => rw [hj] at h; cases h
  | some o => rw [hj] at h; exact h
theorem yielded_bool (hR : Rel C nt s a w) {ops : Array Oper} {j d : Nat} (hg : guardS ops.toList j = some d) {b : Bool} (h : look s.sl d = some (.v .bool b)) : yielded ops a.tmps j = some b := by
  obtain ⟨hn, hdf, hk, ε, hS, hM, hH⟩ := hR
  have hv : a.tmps.getD d undef = .bool b := hS d _ h
  unfold yielded
  rw [guard_dst hg]
  simp only [Option.bind_some]
  cases hd : a.tmps[d]? with
  | none =>
    have : a.tmps.getD d undef = undef := by rw [Array.getD_eq_getD_getElem?, hd]; rfl
    rw [this] at hv
    cases hv
  | some v =>
    have : a.tmps.getD d undef = v := by rw [Array.getD_eq_getD_getElem?, hd]; rfl
    rw [this] at hv
    rw [hv]
theorem yielded_undef (hR : Rel C nt s a w) {ops : Array Oper} {j d : Nat} (hg : guardS ops.toList j = some d) (h : look s.sl d = some .u) : yielded ops a.tmps j = none := by
  obtain ⟨hn, hdf, hk, ε, hS, hM, hH⟩ := hR
  have hv : a.tmps.getD d undef = undef := hS d _ h
  unfold yielded
  rw [guard_dst hg]
  simp only [Option.bind_some]
  cases hd : a.tmps[d]? with
  | none => rfl
  | some v =>
    have : a.tmps.getD d undef = v := by rw [Array.getD_eq_getD_getElem?, hd]; rfl
    rw [this] at hv
    rw [hv]
    rfl
theorem br_some {c : Bool} {x y : Option R} {r : R} (h : br c x y = some r) : (c = true ∧ x = some r) ∨ (c = false ∧ y = some r) := by
  cases c
  · exact .inr ⟨rfl, h⟩
  · exact .inl ⟨rfl, h⟩
/-- Whether an operation is wanted, and what it leads to. -/
theorem op_cases {pr : Bool} (hF : ∀ f, CallOk C.P C.W0 sg callF f) (hR : Rel C nt s a w) {opsA : Array Oper} {l : List Oper} {K : St → Option R} {r : R} (h : ops C.T sg callF pr nt opsA.toList (o :: l) s K = some r) :
    ∃ s1, Rel C nt s1 a w ∧ ((Region.wanted o (yielded opsA a.tmps) = true ∧ step C.T sg callF pr nt s1 o (fun s => ops C.T sg callF pr nt opsA.toList l s K) = some r) ∨
      (Region.wanted o (yielded opsA a.tmps) = false ∧ dstOk nt o.dst = true ∧ ops C.T sg callF pr nt opsA.toList l ⟨putS s1.sl o.dst .u, s1.rows, s1.hp⟩ K = some r)) := by
  unfold ops at h
  split at h
  · rename_i hg
    exact ⟨s, hR, .inl ⟨by unfold Region.wanted; rw [hg], h⟩⟩
  · rename_i j want hg
    split at h
    · rename_i d hgd
      split at h
      · rename_i b hb
        have hy := yielded_bool hR hgd hb
        have hw : ∀ c, (want == b) = c → Region.wanted o (yielded opsA a.tmps) = c := by
          intro c hc
          unfold Region.wanted
          rw [hg]
          simp only [hy]
          rw [← hc]
          cases b <;> cases want <;> rfl
        have hRf := refine_sound hR hb
        cases want with
        | true =>
          rcases br_some h with ⟨rfl, h⟩ | ⟨rfl, h⟩
          · exact ⟨_, hRf, .inl ⟨hw true rfl, h⟩⟩
          · obtain ⟨hd, h⟩ := bif_some (show (bif dstOk nt o.dst then _ else none) = some r from h)
            exact ⟨_, hRf, .inr ⟨hw false rfl, hd, h⟩⟩
        | false =>
          rcases br_some h with ⟨rfl, h⟩ | ⟨rfl, h⟩
          · obtain ⟨hd, h⟩ := bif_some (show (bif dstOk nt o.dst then _ else none) = some r from h)
            exact ⟨_, hRf, .inr ⟨hw false rfl, hd, h⟩⟩
          · exact ⟨_, hRf, .inl ⟨hw true rfl, h⟩⟩
      · rename_i hu
        have hy := yielded_undef hR hgd hu
        obtain ⟨hd, h⟩ := bif_some (show (bif dstOk nt o.dst then _ else none) = some r from h)
        exact ⟨s, hR, .inr ⟨by unfold Region.wanted; rw [hg]; simp only [hy]; cases want <;> rfl, hd, h⟩⟩
      · cases h
    · cases h
theorem ops_sound {pr : Bool} (hC : CtxOk C) (hvw : ∀ r, ¬ C.vw r) (hF : ∀ f, CallOk C.P C.W0 sg callF f) {opsA : Array Oper} {Q : Exit → Act → World → Prop} {K : St → Option R} {r : R} (hQ : ∀ s' a' w', Rel C nt s' a' w' → K s' = some r → Q .normal a' w') :
    ∀ (l : List Oper) (s : St) (a : Act) (w : World), Rel C nt s a w → ops C.T sg callF pr nt opsA.toList l s K = some r → wpList C.P opsA Q l a w
  | [], s, a, w, hR, h => hQ s a w hR h
  | o :: l, s, a, w, hR, h => by
    obtain ⟨s1, hR1, hcase⟩ := op_cases hF hR h
    unfold wpList
    rcases hcase with ⟨hw, h1⟩ | ⟨hw, hd, h1⟩
    · rw [if_pos hw]
      obtain ⟨s2, h2, h3⟩ := step_sound hC hvw hF hR1 h1
      exact .inl (h3 _ _ fun a' w' hR' => ops_sound hC hvw hF hQ l s2 a' w' hR' h2)
    · rw [if_neg (by rw [hw]; simp)]
      exact ops_sound hC hvw hF hQ l _ _ _ (skip_sound hR1 hd) h1
end
end Go.Ev

/- A state cut to what lives on: rows named anew. -/
namespace Go.Ev
open Go.RowKit
theorem look_mem {α : Type} {l : List (Nat × α)} {n : Nat} {x : α} (h : look l n = some x) : (n, x) ∈ l := by
  induction l with
  | nil => cases h
  | cons p l ih =>
    obtain ⟨k, b⟩ := p
    unfold look at h
    cases hb : Nat.beq k n with
    | true =>
      rw [hb] at h
      have hk := Nat.eq_of_beq_eq_true hb
      subst hk
      cases h
      simp
    | false =>
      rw [hb] at h
      exact List.mem_cons_of_mem _ (ih h)
theorem look_of_mem {α : Type} {l : List (Nat × α)} (hk : (l.map Prod.fst).Nodup) {n : Nat} {x : α} (h : (n, x) ∈ l) : look l n = some x := by
  induction l with
  | nil => cases h
  | cons p l ih =>
    obtain ⟨k, b⟩ := p
    simp only [List.map_cons, List.nodup_cons] at hk
    unfold look
    rcases List.mem_cons.1 h with h | h
    · cases h
      rw [show Nat.beq n n = true from Nat.beq_refl n]
      rfl
    · have hne : k ≠ n := by
        rintro rfl
        exact hk.1 (List.mem_map_of_mem h)
      rw [show Nat.beq k n = false by
        cases hb : Nat.beq k n with
        | true => exact absurd (Nat.eq_of_beq_eq_true hb) hne
        | false => rfl]
      exact ih hk.2 h
theorem only_mem {α : Type} : ∀ (lv : List Nat) (l : List (Nat × α)) (n : Nat) (x : α), (n, x) ∈ only lv l → look l n = some x ∧ n ∈ lv
  | [], _, _, _, h => by cases h
  | m :: lv, l, n, x, h => by
    unfold only at h
    have tail : (n, x) ∈ only lv l → look l n = some x ∧ n ∈ m :: lv := fun h => ⟨(only_mem lv l n x h).1, List.mem_cons_of_mem _ (only_mem lv l n x h).2⟩
    cases hm : mem m lv with
    | true => rw [hm] at h; exact tail h
    | false =>
      rw [hm] at h
      simp only [cond_false] at h
      split at h
      · rename_i a ha
        rcases List.mem_cons.1 h with h | h
        · cases h
          exact ⟨ha, by simp⟩
        · exact tail h
      · exact tail h
theorem only_keys {α : Type} : ∀ (lv : List Nat) (l : List (Nat × α)), ((only lv l).map Prod.fst).Nodup
  | [], _ => List.nodup_nil
  | m :: lv, l => by
    have ih := only_keys lv l
    unfold only
    cases hm : mem m lv with
    | true => exact ih
    | false =>
      simp only [cond_false]
      split
      · rename_i a ha
        rw [List.map_cons, List.nodup_cons]
        refine ⟨fun hc => ?_, ih⟩
        obtain ⟨⟨n, x⟩, hx, he⟩ := List.mem_map.1 hc
        have he : n = m := he
        subst he
        have := (only_mem lv l n x hx).2
        rw [(mem_iff n lv).2 this] at hm
        cases hm
      · exact ih
/-- A part that is kept ahead of its row is seen. -/
theorem isCut_true {r : Nat} {n : Nat} {p : Bool} {lo hi : Int} {post : List (Nat × AV)} : ∀ {pre : List (Nat × AV)}, (∀ k av, (k, av) ∈ pre → av ≠ .sl r ∧ ∀ i, av ≠ .ptr r i) → isCut r (pre ++ (n, .cut r p lo hi) :: post) = true
  | [], _ => by
    show (bif Nat.beq r r then true else isCut r post) = true
    rw [show Nat.beq r r = true from Nat.beq_refl r]
    rfl
  | (k, av) :: pre, h => by
    have ih := isCut_true (r := r) (n := n) (p := p) (lo := lo) (hi := hi) (post := post) (pre := pre) (fun k av hm => h k av (List.mem_cons_of_mem _ hm))
    obtain ⟨h1, h2⟩ := h k av (by simp)
    rw [List.cons_append]
    cases av <;> first | exact ih | skip
    · rename_i q
      unfold isCut
      cases hb : Nat.beq q r with
      | true => exact absurd (by rw [Nat.eq_of_beq_eq_true hb]) h1
      | false => exact ih
    · rename_i q _ _ _
      unfold isCut
      cases hb : Nat.beq q r with
      | true => rfl
      | false => exact ih
    · rename_i q i
      unfold isCut
      cases hb : Nat.beq q r with
      | true => exact absurd (by rw [Nat.eq_of_beq_eq_true hb]) (h2 i)
      | false => exact ih
theorem ren_mem {r q : Nat} : ∀ {m : List (Nat × Nat)}, ren m r = some q → (r, q) ∈ m
  | [], h => by cases h
  | (a, b) :: l, h => by
    unfold ren at h
    cases hb : Nat.beq a r with
    | true =>
      rw [hb] at h
      have := Nat.eq_of_beq_eq_true hb
      subst this
      cases h
      simp
    | false =>
      rw [hb] at h
      exact List.mem_cons_of_mem _ (ren_mem h)
/-- From which row a kept slot's row comes. -/
def srcOf : Option AV → Option Nat
  | some (.sl r) => some r
  | some (.ptr r _) => some r
  | _ => none
theorem tup_plain {rw rw' : RW} {ε ε' : Env} {l : List AC} {V : Value} (h : allV l = true) (hv : VRel rw ε (.tup l) V) : VRel rw' ε' (.tup l) V := by
  obtain ⟨_, hV⟩ := hv
  have key : ∀ l : List AC, allV l = true → (∀ c ∈ l, ACUsed rw' ε' c) ∧ l.map (encC ε) = l.map (encC ε') := by
    intro l
    induction l with
    | nil => intro _; exact ⟨fun c hc => (by cases hc), rfl⟩
    | cons c l ih =>
      intro h
      cases c with
      | v t x =>
        obtain ⟨h1, h2⟩ := ih h
        refine ⟨fun c hc => ?_, by rw [List.map_cons, List.map_cons, h2]; rfl⟩
        rcases List.mem_cons.1 hc with rfl | hc
        · exact trivial
        · exact h1 c hc
      | sl r => cases h
      | pt r => cases h
      | h t x => cases h
  obtain ⟨h1, h2⟩ := key l h
  exact ⟨h1, by rw [← h2]; exact hV⟩
section
variable {C : Ctx} {nt : Nat} {s : St} {w w' : World} {a : Act} {R : Type}
/-- What the new names stand for. -/
def cutEnv (ε : Env) (all : List (Nat × AV)) (a : Act) : Env where
  sv n := match look all n with
    | some (.sl r) => ε.sv r
    | some (.ptr r _) => ε.sv r
    | _ => a.tmps.getD n undef
  ty n := match look all n with
    | some (.sl r) => ε.ty r
    | some (.ptr r _) => ε.ty r
    | some (.cut r _ _ _) => ε.ty r
    | some (.nilS t _) => t
    | _ => .bool
  hh := ε.hh
/-- What a kept row is. -/
inductive Kept (rows : List (Nat × Option Row)) (all : List (Nat × AV)) (n : Nat) (y : Row) : Prop where
  | whole (r : Nat) (x : Row) (h : srcOf (look all n) = some r) (hx : row (look rows) r = some x) (hy : y = ⟨x.t, x.e, bif isCut r all then false else x.own, x.xs⟩)
  | pre (r : Nat) (lo hi : Int) (x : Row) (h : look all n = some (.cut r true lo hi)) (hone : cnt r all = 1) (hx : row (look rows) r = some x) (ho : x.own = true) (hy : y = ⟨x.t, x.e, true, x.xs.take hi.toNat⟩)
  | part (r : Nat) (p : Bool) (lo hi : Int) (x : Row) (h : look all n = some (.cut r p lo hi)) (hc : isCut r all = true) (hx : row (look rows) r = some x) (hy : y = ⟨x.t, x.e, false, (x.xs.drop lo.toNat).take (hi.toNat - lo.toNat)⟩)
  | empty (t : Ty) (e : TypeId) (h : look all n = some (.nilS t e)) (hy : y = ⟨t, e, true, []⟩)
theorem keep_sound {rows : List (Nat × Option Row)} {all : List (Nat × AV)} (hall : (all.map Prod.fst).Nodup) {ε : Env} (hV : ∀ n av, look all n = some av → VRel (look rows) ε av (a.tmps.getD n undef)) :
    ∀ (l : List (Nat × AV)) (m : List (Nat × Nat)) (sl : List (Nat × AV)) (rs : List (Nat × Option Row)), (∀ p ∈ l, p ∈ all) → (l.map Prod.fst).Nodup → (∃ pre, all = pre ++ l ∧ ∀ k av, (k, av) ∈ pre → ∀ r, (av = .sl r ∨ ∃ i, av = .ptr r i) → ren m r ≠ none) → (∀ p ∈ m, srcOf (look all p.2) = some p.1) → keep rows all l m = some (sl, rs) →
      sl.map Prod.fst = l.map Prod.fst ∧ (∀ q ∈ rs.map Prod.fst, q ∈ l.map Prod.fst) ∧ (rs.map Prod.fst).Nodup ∧
      (∀ n x, (n, x) ∈ rs → ∃ y, x = some y ∧ Kept rows all n y) ∧
      (∀ n ∈ rs.map Prod.fst, ∀ r, srcOf (look all n) = some r → ren m r = none) ∧
      (∀ n ∈ rs.map Prod.fst, ∀ n' ∈ rs.map Prod.fst, n ≠ n' → ∀ r, srcOf (look all n) = some r → srcOf (look all n') ≠ some r) ∧
      (∀ rw' : RW, (∀ q ∈ rs.map Prod.fst, rw' q ≠ none) → (∀ p ∈ m, rw' p.2 ≠ none) → ∀ n av, (n, av) ∈ sl → VRel rw' (cutEnv ε all a) av (a.tmps.getD n undef)) := by
  intro l
  induction l with
  | nil =>
    intro m sl rs _ _ _ _ h
    cases h
    exact ⟨rfl, fun q hq => (by cases hq), List.nodup_nil, fun n x hm => (by cases hm), fun n hn => (by cases hn), fun n hn => (by cases hn), fun _ _ _ n av hm => (by cases hm)⟩
  | cons p l ih =>
    obtain ⟨n, av⟩ := p
    intro m sl rs hl hk hpre hm h
    obtain ⟨pre, hpa, hpm⟩ := hpre
    simp only [List.map_cons, List.nodup_cons] at hk
    have hlook : look all n = some av := look_of_mem hall (hl _ (by simp))
    have hv := hV n av hlook
    have hl' : ∀ p ∈ l, p ∈ all := fun p hp => hl p (List.mem_cons_of_mem _ hp)
    -- a slot without a row of its own
    have plain : ∀ (av' : AV), (∀ r, (av = .sl r ∨ ∃ i, av = .ptr r i) → ren m r ≠ none) → (∀ sl1, keep rows all l m = some (sl1, rs) → sl = (n, av') :: sl1 → (∀ rw' : RW, (∀ p ∈ m, rw' p.2 ≠ none) → VRel rw' (cutEnv ε all a) av' (a.tmps.getD n undef)) →
        sl.map Prod.fst = ((n, av) :: l).map Prod.fst ∧ (∀ q ∈ rs.map Prod.fst, q ∈ ((n, av) :: l).map Prod.fst) ∧ (rs.map Prod.fst).Nodup ∧
        (∀ n x, (n, x) ∈ rs → ∃ y, x = some y ∧ Kept rows all n y) ∧
        (∀ n ∈ rs.map Prod.fst, ∀ r, srcOf (look all n) = some r → ren m r = none) ∧
        (∀ n ∈ rs.map Prod.fst, ∀ n' ∈ rs.map Prod.fst, n ≠ n' → ∀ r, srcOf (look all n) = some r → srcOf (look all n') ≠ some r) ∧
        (∀ rw' : RW, (∀ q ∈ rs.map Prod.fst, rw' q ≠ none) → (∀ p ∈ m, rw' p.2 ≠ none) → ∀ n av, (n, av) ∈ sl → VRel rw' (cutEnv ε all a) av (a.tmps.getD n undef))) := by
      intro av' hown sl1 h1 hsl hav
      have hpre' : ∃ pre, all = pre ++ l ∧ ∀ k av, (k, av) ∈ pre → ∀ r, (av = .sl r ∨ ∃ i, av = .ptr r i) → ren m r ≠ none := by
        refine ⟨pre ++ [(n, av)], by rw [hpa]; simp, fun k av0 hmem r hr => ?_⟩
        rcases List.mem_append.1 hmem with hmem | hmem
        · exact hpm k av0 hmem r hr
        · cases List.mem_singleton.1 hmem
          exact hown r hr
      obtain ⟨i1, i2, i3, i4, i5, i6, i7⟩ := ih m sl1 rs hl' hk.2 hpre' hm h1
      subst hsl
      refine ⟨by simp [i1], fun q hq => List.mem_cons_of_mem _ (i2 q hq), i3, i4, i5, i6, fun rw' hr hm' n' av'' hmem => ?_⟩
      rcases List.mem_cons.1 hmem with hmem | hmem
      · cases hmem
        exact hav rw' hm'
      · exact i7 rw' hr hm' n' av'' hmem
    -- a slot with a row of its own
    have fresh : ∀ (av' : AV) (y : Row) (m' : List (Nat × Nat)), (∀ sl1 rs1, keep rows all l m' = some (sl1, rs1) → sl = (n, av') :: sl1 → rs = (n, some y) :: rs1 → Kept rows all n y →
        ((m' = m ∧ srcOf (look all n) = none ∧ srcOf (some av) = none) ∨ ∃ r, m' = (r, n) :: m ∧ srcOf (look all n) = some r ∧ ren m r = none) → (∀ rw' : RW, rw' n ≠ none → VRel rw' (cutEnv ε all a) av' (a.tmps.getD n undef)) →
        sl.map Prod.fst = ((n, av) :: l).map Prod.fst ∧ (∀ q ∈ rs.map Prod.fst, q ∈ ((n, av) :: l).map Prod.fst) ∧ (rs.map Prod.fst).Nodup ∧
        (∀ n x, (n, x) ∈ rs → ∃ y, x = some y ∧ Kept rows all n y) ∧
        (∀ n ∈ rs.map Prod.fst, ∀ r, srcOf (look all n) = some r → ren m r = none) ∧
        (∀ n ∈ rs.map Prod.fst, ∀ n' ∈ rs.map Prod.fst, n ≠ n' → ∀ r, srcOf (look all n) = some r → srcOf (look all n') ≠ some r) ∧
        (∀ rw' : RW, (∀ q ∈ rs.map Prod.fst, rw' q ≠ none) → (∀ p ∈ m, rw' p.2 ≠ none) → ∀ n av, (n, av) ∈ sl → VRel rw' (cutEnv ε all a) av (a.tmps.getD n undef))) := by
      intro av' y m' sl1 rs1 h1 hsl hrs hkept hm2 hav
      have hm' : ∀ p ∈ m', srcOf (look all p.2) = some p.1 := by
        rcases hm2 with ⟨rfl, _⟩ | ⟨r, rfl, hr, _⟩
        · exact hm
        · intro p hp
          rcases List.mem_cons.1 hp with rfl | hp
          · exact hr
          · exact hm p hp
      have hpre' : ∃ pre, all = pre ++ l ∧ ∀ k av, (k, av) ∈ pre → ∀ r, (av = .sl r ∨ ∃ i, av = .ptr r i) → ren m' r ≠ none := by
        refine ⟨pre ++ [(n, av)], by rw [hpa]; simp, fun k av0 hmem r hr => ?_⟩
        have old : ren m r ≠ none → ren m' r ≠ none := by
          intro h0
          rcases hm2 with ⟨rfl, _⟩ | ⟨r', rfl, _, _⟩
          · exact h0
          · unfold ren
            cases Nat.beq r' r with
            | true => simp
            | false => exact h0
        rcases List.mem_append.1 hmem with hmem | hmem
        · exact old (hpm k av0 hmem r hr)
        · cases List.mem_singleton.1 hmem
          rcases hm2 with ⟨rfl, _, h0⟩ | ⟨r', rfl, h0, _⟩
          · rcases hr with rfl | ⟨i, rfl⟩ <;> cases h0
          · have : r' = r := by
              rw [hlook] at h0
              rcases hr with rfl | ⟨i, rfl⟩ <;> (cases h0; rfl)
            subst this
            unfold ren
            rw [show Nat.beq r' r' = true from Nat.beq_refl r']
            simp
      obtain ⟨i1, i2, i3, i4, i5, i6, i7⟩ := ih m' sl1 rs1 hl' hk.2 hpre' hm' h1
      have hren : ∀ r, ren m' r = none → ren m r = none := by
        intro r hr
        rcases hm2 with ⟨rfl, _⟩ | ⟨r', rfl, _, _⟩
        · exact hr
        · unfold ren at hr
          cases hb : Nat.beq r' r with
          | true => rw [hb] at hr; cases hr
          | false => rw [hb] at hr; exact hr
      have hne : ∀ n' ∈ rs1.map Prod.fst, ∀ r, srcOf (look all n) = some r → srcOf (look all n') ≠ some r := by
        intro n' hn' r hr hr'
        have h5 := i5 n' hn' r hr'
        rcases hm2 with ⟨rfl, h0, _⟩ | ⟨r', rfl, h0, _⟩
        · rw [h0] at hr; cases hr
        · rw [h0] at hr
          cases hr
          unfold ren at h5
          rw [show Nat.beq r r = true from Nat.beq_refl r] at h5
          cases h5
      subst hsl; subst hrs
      refine ⟨by simp [i1], fun q hq => ?_, ?_, fun n' x hx => ?_, fun n' hn' r hr => ?_, fun n1 hn1 n2 hn2 hne' r hr => ?_, fun rw' hr hm3 n' av'' hmem => ?_⟩
      · rw [List.map_cons] at hq ⊢
        rcases List.mem_cons.1 hq with rfl | hq
        · exact List.mem_cons_self
        · exact List.mem_cons_of_mem _ (i2 q hq)
      · rw [List.map_cons, List.nodup_cons]
        exact ⟨fun hc => hk.1 (i2 n hc), i3⟩
      · rcases List.mem_cons.1 hx with hx | hx
        · cases hx
          exact ⟨y, rfl, hkept⟩
        · exact i4 n' x hx
      · rw [List.map_cons] at hn'
        rcases List.mem_cons.1 hn' with rfl | hn'
        · rcases hm2 with ⟨rfl, h0, _⟩ | ⟨r', rfl, h0, h00⟩
          · rw [h0] at hr; cases hr
          · rw [h0] at hr
            cases hr
            exact h00
        · exact hren r (i5 n' hn' r hr)
      · rw [List.map_cons] at hn1 hn2
        rcases List.mem_cons.1 hn1 with e1 | k1
        · rcases List.mem_cons.1 hn2 with e2 | k2
          · exact absurd (e1.trans e2.symm) hne'
          · rw [e1] at hr
            exact hne n2 k2 r hr
        · rcases List.mem_cons.1 hn2 with e2 | k2
          · intro hr'
            rw [e2] at hr'
            exact hne n1 k1 r hr' hr
          · exact i6 n1 k1 n2 k2 hne' r hr
      · have hn0 : rw' n ≠ none := hr n (by simp)
        rcases List.mem_cons.1 hmem with hmem | hmem
        · cases hmem
          exact hav rw' hn0
        · refine i7 rw' (fun q hq => hr q (by rw [List.map_cons]; exact List.mem_cons_of_mem _ hq)) (fun p hp => ?_) n' av'' hmem
          rcases hm2 with ⟨rfl, _⟩ | ⟨r', rfl, _, _⟩
          · exact hm3 p hp
          · rcases List.mem_cons.1 hp with rfl | hp
            · exact hn0
            · exact hm3 p hp
    cases av with
    | v t x =>
      simp only [keep] at h
      split at h
      · rename_i sl1 rs1 h1
        cases h
        exact plain (.v t x) (fun r hr => by rcases hr with hr | ⟨i, hr⟩ <;> cases hr) sl1 h1 rfl (fun rw' _ => hv)
      · cases h
    | h t x =>
      simp only [keep] at h
      split at h
      · rename_i sl1 rs1 h1
        cases h
        exact plain (.h t x) (fun r hr => by rcases hr with hr | ⟨i, hr⟩ <;> cases hr) sl1 h1 rfl (fun rw' _ => hv)
      · cases h
    | fn f c =>
      simp only [keep] at h
      split at h
      · rename_i sl1 rs1 h1
        cases h
        exact plain (.fn f c) (fun r hr => by rcases hr with hr | ⟨i, hr⟩ <;> cases hr) sl1 h1 rfl (fun rw' _ => hv)
      · cases h
    | hc r => simp only [keep] at h; cases h
    | ht l => simp only [keep] at h; cases h
    | op =>
      simp only [keep] at h
      split at h
      · rename_i sl1 rs1 h1
        cases h
        exact plain .op (fun r hr => by rcases hr with hr | ⟨i, hr⟩ <;> cases hr) sl1 h1 rfl (fun rw' _ => trivial)
      · cases h
    | nilP =>
      simp only [keep] at h
      split at h
      · rename_i sl1 rs1 h1
        cases h
        exact plain .nilP (fun r hr => by rcases hr with hr | ⟨i, hr⟩ <;> cases hr) sl1 h1 rfl (fun rw' _ => hv)
      · cases h
    | sl r =>
      have hsrc : srcOf (look all n) = some r := by rw [hlook]; rfl
      simp only [keep] at h
      split at h
      · rename_i q hq
        split at h
        · rename_i sl1 rs1 h1
          cases h
          have hqm := ren_mem hq
          refine plain (.sl q) (fun r' hr => by rcases hr with hr | ⟨i', hr⟩ <;> cases hr <;> (rw [hq]; simp)) sl1 h1 rfl (fun rw' hm' => ⟨hm' _ hqm, ?_⟩)
          have hs := hm _ hqm
          rw [hv.2]
          unfold cutEnv
          simp only at hs ⊢
          cases hl : look all q with
          | none => rw [hl] at hs; cases hs
          | some avq =>
            rw [hl] at hs
            cases avq <;> first | (cases hs; done) | skip
            · cases hs; rfl
            · cases hs; rfl
        · cases h
      · rename_i hq
        split at h
        · rename_i x sl1 rs1 hx h1
          cases h
          refine fresh (.sl n) _ ((r, n) :: m) sl1 rs1 h1 rfl rfl (.whole r x hsrc hx rfl) (.inr ⟨r, rfl, hsrc, hq⟩) (fun rw' hn' => ⟨hn', ?_⟩)
          rw [hv.2]
          unfold cutEnv
          simp only [hlook]
        · cases h
    | ptr r i =>
      have hsrc : srcOf (look all n) = some r := by rw [hlook]; rfl
      obtain ⟨hu, ad, k, c, hsv, h0, h1', hV'⟩ := hv
      simp only [keep] at h
      split at h
      · rename_i q hq
        split at h
        · rename_i sl1 rs1 h1
          cases h
          have hqm := ren_mem hq
          have hs := hm _ hqm
          refine plain (.ptr q i) (fun r' hr => by rcases hr with hr | ⟨i', hr⟩ <;> cases hr <;> (rw [hq]; simp)) sl1 h1 rfl (fun rw' hm' => ⟨hm' _ hqm, ad, k, c, ?_, h0, h1', ?_⟩)
          · unfold cutEnv
            simp only at hs ⊢
            cases hl : look all q with
            | none => rw [hl] at hs; cases hs
            | some avq =>
              rw [hl] at hs
              cases avq <;> first | (cases hs; done) | skip
              · cases hs; exact hsv
              · cases hs; exact hsv
          · rw [hV']
            unfold cutEnv
            simp only at hs ⊢
            cases hl : look all q with
            | none => rw [hl] at hs; cases hs
            | some avq =>
              rw [hl] at hs
              cases avq <;> first | (cases hs; done) | skip
              · cases hs; rfl
              · cases hs; rfl
        · cases h
      · rename_i hq
        split at h
        · rename_i x sl1 rs1 hx h1
          cases h
          refine fresh (.ptr n i) _ ((r, n) :: m) sl1 rs1 h1 rfl rfl (.whole r x hsrc hx rfl) (.inr ⟨r, rfl, hsrc, hq⟩) (fun rw' hn' => ⟨hn', ad, k, c, ?_, h0, h1', ?_⟩)
          · unfold cutEnv
            simp only [hlook]
            exact hsv
          · rw [hV']
            unfold cutEnv
            simp only [hlook]
        · cases h
    | cut r p lo hi =>
      simp only [keep] at h
      split at h
      · rename_i q hq
        split at h
        · rename_i sl1 rs1 h1
          cases h
          have hqm := ren_mem hq
          have hs := hm _ hqm
          obtain ⟨hu, hcut⟩ := hv
          refine plain (.cut q p lo hi) (fun r hr => by rcases hr with hr | ⟨i, hr⟩ <;> cases hr) sl1 h1 rfl (fun rw' hm' => ⟨hm' _ hqm, ?_⟩)
          have e1 : (cutEnv ε all a).sv q = ε.sv r ∧ (cutEnv ε all a).ty q = ε.ty r := by
            unfold cutEnv
            simp only at hs ⊢
            cases hl : look all q with
            | none => rw [hl] at hs; cases hs
            | some avq =>
              rw [hl] at hs
              cases avq <;> first | (cases hs; done) | skip
              · cases hs; exact ⟨rfl, rfl⟩
              · cases hs; exact ⟨rfl, rfl⟩
          unfold CutOf
          rw [e1.1, e1.2]
          exact hcut
        · cases h
      · rename_i hq
        split at h
        · rename_i x sl1 rs1 hx h1
          have hcut : isCut r all = true := by
            rw [hpa]
            refine isCut_true (fun k av0 hmem => ⟨fun e => ?_, fun i e => ?_⟩)
            · exact hpm k av0 hmem r (.inl e) hq
            · exact hpm k av0 hmem r (.inr ⟨i, e⟩) hq
          cases hc : (x.own && p && Nat.beq (cnt r all) 1) with
          | true =>
            rw [hc] at h
            simp only [cond_true] at h
            cases h
            rw [Bool.and_eq_true, Bool.and_eq_true] at hc
            have hp := hc.1.2
            subst hp
            refine fresh (.sl n) _ m sl1 rs1 h1 rfl rfl (.pre r lo hi x hlook (Nat.eq_of_beq_eq_true hc.2) hx hc.1.1 rfl) (.inl ⟨rfl, by rw [hlook]; rfl, rfl⟩) (fun rw' hn' => ⟨hn', ?_⟩)
            unfold cutEnv
            simp only [hlook]
          | false =>
            rw [hc] at h
            simp only [cond_false] at h
            cases h
            refine fresh (.sl n) _ m sl1 rs1 h1 rfl rfl (.part r p lo hi x hlook hcut hx rfl) (.inl ⟨rfl, by rw [hlook]; rfl, rfl⟩) (fun rw' hn' => ⟨hn', ?_⟩)
            unfold cutEnv
            simp only [hlook]
        · cases h
    | nilS t e =>
      simp only [keep] at h
      split at h
      · rename_i sl1 rs1 h1
        cases h
        refine fresh (.sl n) _ m sl1 rs1 h1 rfl rfl (.empty t e hlook rfl) (.inl ⟨rfl, by rw [hlook]; rfl, rfl⟩) (fun rw' hn' => ⟨hn', ?_⟩)
        unfold cutEnv
        simp only [hlook]
      · cases h
    | fptr r i j => simp only [keep] at h; cases h
    | u => simp only [keep] at h; cases h
    | tup t =>
      simp only [keep] at h
      obtain ⟨hv0, h⟩ := bif_some h
      split at h
      · rename_i sl1 rs1 h1
        cases h
        exact plain (.tup t) (fun r hr => by rcases hr with hr | ⟨i, hr⟩ <;> cases hr) sl1 h1 rfl (fun rw' _ => tup_plain hv0 hv)
      · cases h
end
end Go.Ev

/- A state cut to what lives on is a state of the same world. -/
namespace Go.Ev
open Go.RowKit
section
variable {C : Ctx} {nt : Nat} {s : St} {w w' : World} {a : Act} {R : Type}
theorem src_env {ε : Env} {all : List (Nat × AV)} {n r : Nat} (h : srcOf (look all n) = some r) : (cutEnv ε all a).sv n = ε.sv r ∧ (cutEnv ε all a).ty n = ε.ty r := by
  unfold cutEnv
  cases hl : look all n with
  | none => rw [hl] at h; cases h
  | some av =>
    rw [hl] at h
    cases av <;> first | (cases h; done) | skip
    · cases h; simp only [hl]; exact ⟨trivial, trivial⟩
    · cases h; simp only [hl]; exact ⟨trivial, trivial⟩
theorem row_mem {rs : List (Nat × Option Row)} {n : Nat} {y : Row} (h : row (look rs) n = some y) : (n, some y) ∈ rs := by
  unfold row at h
  split at h
  · rename_i x hx
    cases h
    exact look_mem hx
  · cases h
theorem cnt_one {r : Nat} : ∀ {l : List (Nat × AV)} {p : Nat × AV}, p ∈ l → speaks r p.2 = true → 1 ≤ cnt r l
  | (k, av) :: l, p, h, hs => by
    unfold cnt
    rcases List.mem_cons.1 h with h | h
    · subst h
      have hs : speaks r av = true := hs
      rw [hs]
      simp
    · have := cnt_one h hs
      cases speaks r av <;> simp <;> omega
theorem cnt_two {r : Nat} : ∀ {l : List (Nat × AV)} {n n' : Nat} {av av' : AV}, (n, av) ∈ l → (n', av') ∈ l → n ≠ n' → speaks r av = true → speaks r av' = true → cnt r l ≠ 1
  | (k, bv) :: l, n, n', av, av', h1, h2, hne, s1, s2 => by
    unfold cnt
    rcases List.mem_cons.1 h1 with e1 | h1
    · cases e1
      rcases List.mem_cons.1 h2 with e2 | h2
      · cases e2
        exact absurd rfl hne
      · have := cnt_one h2 s2
        rw [s1]
        simp
        omega
    · rcases List.mem_cons.1 h2 with e2 | h2
      · cases e2
        have := cnt_one h1 s1
        rw [s2]
        simp
        omega
      · have := cnt_two h1 h2 hne s1 s2
        have h3 := cnt_one h1 s1
        cases speaks r bv <;> simp <;> omega
theorem cutTo_sound (hvw : ∀ r, ¬ C.vw r) (hR : Rel C nt s a w) {lv : List Nat} {K : St → Option R} {r : R} (h : cutTo lv s K = some r) : ∃ s', K s' = some r ∧ Rel C nt s' a w := by
  obtain ⟨hn, hdf, hk, ε, hS, hM, hH⟩ := hR
  unfold cutTo at h
  split at h
  · rename_i sl rs hkeep
    refine ⟨_, h, hn, hdf, ?_⟩
    have hall : ((only lv s.sl).map Prod.fst).Nodup := only_keys lv s.sl
    have hV : ∀ n av, look (only lv s.sl) n = some av → VRel (look s.rows) ε av (a.tmps.getD n undef) := fun n av hl => hS n av (only_mem lv s.sl n av (look_mem hl)).1
    obtain ⟨i1, i2, i3, i4, i5, i6, i7⟩ := keep_sound (a := a) hall hV (only lv s.sl) [] sl rs (fun p hp => hp) hall ⟨[], rfl, fun k av hm => (by cases hm)⟩ (fun p hp => by cases hp) hkeep
    generalize only lv s.sl = all at *
    have hused : ∀ q ∈ rs.map Prod.fst, look rs q ≠ none := by
      intro q hq
      obtain ⟨⟨q', x⟩, hx, rfl⟩ := List.mem_map.1 hq
      rw [look_of_mem i3 hx]
      simp
    have hkept : ∀ n y, row (look rs) n = some y → n ∈ rs.map Prod.fst ∧ Kept s.rows all n y := by
      intro n y hy
      have hm := row_mem hy
      obtain ⟨y', e, hk'⟩ := i4 n _ hm
      cases e
      exact ⟨List.mem_map_of_mem hm, hk'⟩
    have cutv : ∀ n r p lo hi, look all n = some (.cut r p lo hi) → (cutEnv ε all a).sv n = a.tmps.getD n undef ∧ (cutEnv ε all a).ty n = ε.ty r := by
      intro n r p lo hi hl
      unfold cutEnv
      simp only [hl]
      exact ⟨trivial, trivial⟩
    have prev : ∀ n r lo hi x, look all n = some (.cut r true lo hi) → row (look s.rows) r = some x → x.own = true → (cutEnv ε all a).ty n = ε.ty r ∧ ((cutEnv ε all a).sv n).ownBlock = (ε.sv r).ownBlock ∧ OwnV w x.t x.e (x.xs.take hi.toNat) ((cutEnv ε all a).sv n) := by
      intro n r lo hi x hl hx ho
      obtain ⟨e1, e2⟩ := cutv n r true lo hi hl
      obtain ⟨_, A, m, c, A', c', hv, hmc, hV', hl0, hlh, hhm, hc', _, hz0, hp0⟩ := hV n _ hl
      have hlo := hp0.1 rfl
      subst hlo
      obtain ⟨rfl, rfl⟩ := hz0 rfl
      obtain ⟨h1, h2⟩ := (hM.ok r x hx).own ho
      have hm : m = x.xs.length := by
        have h3 := (hM.ok r x hx).read
        rw [hv] at h3
        exact (ReadV.at_ h3).1
      rw [hv] at h1
      have h4 := own_takeV (m := (hi - 0).toNat) h1 (by omega)
      rw [← hV', show (hi - 0).toNat = hi.toNat by omega] at h4
      exact ⟨e2, by rw [e1, hV', hv]; cases A' <;> rfl, by rw [e1]; exact h4⟩
    have two : ∀ n n' av av' r, look all n = some av → look all n' = some av' → n ≠ n' → speaks r av = true → speaks r av' = true → cnt r all ≠ 1 := fun n n' av av' r h1 h2 hne k1 k2 => cnt_two (look_mem h1) (look_mem h2) hne k1 k2
    have srcS : ∀ n r, srcOf (look all n) = some r → ∃ av, look all n = some av ∧ speaks r av = true := by
      intro n r h
      cases hl : look all n with
      | none => rw [hl] at h; cases h
      | some av =>
        rw [hl] at h
        refine ⟨av, rfl, ?_⟩
        cases av <;> first | (cases h; done) | (cases h; exact Nat.beq_refl _)
    have orig : ∀ n y, row (look rs) n = some y → (y.own = true ∨ y.xs ≠ []) → ∀ g, ((cutEnv ε all a).sv n).ownBlock = some g → ∃ r x, row (look s.rows) r = some x ∧ (x.own = true ∨ x.xs ≠ []) ∧ (ε.sv r).ownBlock = some g := by
      intro n y hy hyo g hg
      obtain ⟨hin, hkp⟩ := hkept n y hy
      cases hkp with
      | whole r x hsrc hx hyx =>
        obtain ⟨e1, e2⟩ := src_env (a := a) (ε := ε) hsrc
        rw [e1] at hg
        refine ⟨r, x, hx, ?_, hg⟩
        subst hyx
        rcases hyo with h | h
        · have h : (bif isCut r all then false else x.own) = true := h
          cases hc' : isCut r all with
          | true => rw [hc'] at h; cases h
          | false => rw [hc'] at h; exact .inl h
        · exact .inr h
      | pre r lo hi x hl hone hx ho hyx =>
        obtain ⟨e2, eb, hown⟩ := prev n r lo hi x hl hx ho
        rw [eb] at hg
        exact ⟨r, x, hx, .inl ho, hg⟩
      | part r p lo hi x hl hcut hx hyx =>
        obtain ⟨e1, _⟩ := cutv n r p lo hi hl
        rw [e1] at hg
        subst hyx
        have hne' : (x.xs.drop lo.toNat).take (hi.toNat - lo.toNat) ≠ [] := hyo.resolve_left (fun h => by cases h)
        obtain ⟨_, A, m, c, A', c', hv, hmc, hV', hl0, hlh, hhm, hc', hne2, _, _⟩ := hV n _ hl
        have hlt : lo < hi := by
          by_cases hlt : lo < hi
          · exact hlt
          · rw [show hi.toNat - lo.toNat = 0 by omega, List.take_zero] at hne'
            exact absurd rfl hne'
        obtain ⟨ad, hA, hA'⟩ := hne2 hlt
        have hx0 : x.xs ≠ [] := by
          intro h0
          rw [h0] at hne'
          simp at hne'
        refine ⟨r, x, hx, .inr hx0, ?_⟩
        rw [hV', hA'] at hg
        rw [hv, hA]
        have hbl : (ad.add (lo.toNat * (ε.ty r).sz)).block = ad.block := by unfold Addr.add; split <;> rfl
        simp only [Value.ownBlock, hbl] at hg ⊢
        exact hg
      | empty t e hl hyx =>
        have hv : a.tmps.getD n undef = .slice none 0 0 := hV n _ hl
        have e1 : (cutEnv ε all a).sv n = .slice none 0 0 := by unfold cutEnv; simp only [hl]; exact hv
        rw [e1] at hg
        simp [Value.ownBlock] at hg
    refine ⟨by rw [i1]; exact hall, cutEnv ε all a, fun n av hl => i7 _ hused (fun p hp => by cases hp) n av (look_mem hl), ?_, ⟨hH.ok, hH.mine, fun m hm b hb n y hy hyo hg => ?_, hH.ge⟩⟩
    rotate_left
    · obtain ⟨r, x, h1, h2, h3⟩ := orig n y hy hyo b hg
      exact hH.rows m hm b hb r x h1 h2 h3
    constructor
    · intro n y hy
      obtain ⟨hin, hkp⟩ := hkept n y hy
      cases hkp with
      | whole r x hsrc hx hyx =>
        obtain ⟨e1, e2⟩ := src_env (a := a) (ε := ε) hsrc
        have hok := hM.ok r x hx
        subst hyx
        refine ⟨e2.trans hok.ty, fun ho => ?_, ?_⟩
        · have ho : (bif isCut r all then false else x.own) = true := ho
          cases hc : isCut r all with
          | true => rw [hc] at ho; cases ho
          | false =>
            rw [hc] at ho
            rw [e1]
            exact hok.own ho
        · rw [e1]
          exact hok.read
      | pre r lo hi x hl hone hx ho hyx =>
        obtain ⟨e2, eb, hown⟩ := prev n r lo hi x hl hx ho
        subst hyx
        refine ⟨e2.trans (hM.ok r x hx).ty, fun _ => ⟨hown, fun g hg => ?_⟩, own_read hown⟩
        exact ((hM.ok r x hx).own ho).2 g (by rw [← eb]; exact hg)
      | part r p lo hi x hl hcut hx hyx =>
        obtain ⟨e1, e2⟩ := cutv n r p lo hi hl
        have hv := hV n _ hl
        have hrd := (listOf_read hM hv (show listOf (look s.rows) (.cut r p lo hi) = some y by unfold listOf; simp only [hx, hyx])).1
        subst hyx
        refine ⟨e2.trans (hM.ok r x hx).ty, fun ho => (by cases ho), ?_⟩
        rw [e1]
        exact hrd
      | empty t e hl hyx =>
        have hv : a.tmps.getD n undef = .slice none 0 0 := hV n _ hl
        have e1 : (cutEnv ε all a).sv n = .slice none 0 0 := by unfold cutEnv; simp only [hl]; exact hv
        have e2 : (cutEnv ε all a).ty n = t := by unfold cutEnv; simp only [hl]
        subst hyx
        refine ⟨e2, fun _ => ?_, ?_⟩
        · rw [e1]
          exact ⟨ownV_nil w t e, fun g hg => by simp [Value.ownBlock] at hg⟩
        · rw [e1]
          exact readV_nil w t
    · intro n y n' y' hy ho hy' hne hy2 g hg
      obtain ⟨hin, hkp⟩ := hkept n y hy
      obtain ⟨hin', hkp'⟩ := hkept n' y' hy'
      cases hkp with
      | part r p lo hi x hl hcut hx hyx => subst hyx; cases ho
      | pre r lo hi x hl hone hx ho0 hyx =>
        obtain ⟨_, eb, _⟩ := prev n r lo hi x hl hx ho0
        rw [eb] at hg
        have sp : speaks r (.cut r true lo hi) = true := Nat.beq_refl r
        cases hkp' with
        | whole r' x' hsrc' hx' hyx' =>
          obtain ⟨e1', _⟩ := src_env (a := a) (ε := ε) hsrc'
          obtain ⟨av', hl', hs'⟩ := srcS n' r' hsrc'
          rw [e1']
          have hrr : r ≠ r' := by
            rintro rfl
            exact two n n' _ _ r hl hl' hne sp hs' hone
          refine hM.sep r x r' x' hx ho0 hx' hrr ?_ g hg
          subst hyx'
          rcases hy2 with h | h
          · have h : (bif isCut r' all then false else x'.own) = true := h
            cases hc' : isCut r' all with
            | true => rw [hc'] at h; cases h
            | false => rw [hc'] at h; exact .inl h
          · exact .inr h
        | pre r' lo' hi' x' hl' hone' hx' ho' hyx' =>
          obtain ⟨_, eb', _⟩ := prev n' r' lo' hi' x' hl' hx' ho'
          rw [eb']
          have hrr : r ≠ r' := by
            rintro rfl
            exact two n n' _ _ r hl hl' hne sp (Nat.beq_refl r) hone
          exact hM.sep r x r' x' hx ho0 hx' hrr (.inl ho') g hg
        | part r' p' lo' hi' x' hl' hcut' hx' hyx' =>
          obtain ⟨e1', _⟩ := cutv n' r' p' lo' hi' hl'
          rw [e1']
          have hrr : r ≠ r' := by
            rintro rfl
            exact two n n' _ _ r hl hl' hne sp (Nat.beq_refl r) hone
          subst hyx'
          have hne' : (x'.xs.drop lo'.toNat).take (hi'.toNat - lo'.toNat) ≠ [] := hy2.resolve_left (fun h => by cases h)
          obtain ⟨_, A, m, c, A', c', hv, hmc, hV', hl0, hlh, hhm, hc', hne2, _, _⟩ := hV n' _ hl'
          have hlt : lo' < hi' := by
            by_cases hlt : lo' < hi'
            · exact hlt
            · rw [show hi'.toNat - lo'.toNat = 0 by omega, List.take_zero] at hne'
              exact absurd rfl hne'
          obtain ⟨ad, hA, hA'⟩ := hne2 hlt
          have hx0 : x'.xs ≠ [] := by
            intro h0
            rw [h0] at hne'
            simp at hne'
          have h3 := hM.sep r x r' x' hx ho0 hx' hrr (.inr hx0) g hg
          rw [hv, hA] at h3
          rw [hV', hA']
          have hbl : (ad.add (lo'.toNat * (ε.ty r').sz)).block = ad.block := by unfold Addr.add; split <;> rfl
          simp only [Value.ownBlock, hbl] at h3 ⊢
          exact h3
        | empty t e hl' hyx' =>
          have hv : a.tmps.getD n' undef = .slice none 0 0 := hV n' _ hl'
          have e1' : (cutEnv ε all a).sv n' = .slice none 0 0 := by unfold cutEnv; simp only [hl']; exact hv
          rw [e1']
          simp [Value.ownBlock]
      | empty t e hl hyx =>
        have hv : a.tmps.getD n undef = .slice none 0 0 := hV n _ hl
        have e1 : (cutEnv ε all a).sv n = .slice none 0 0 := by unfold cutEnv; simp only [hl]; exact hv
        rw [e1] at hg
        simp [Value.ownBlock] at hg
      | whole r x hsrc hx hyx =>
        obtain ⟨e1, e2⟩ := src_env (a := a) (ε := ε) hsrc
        rw [e1] at hg
        subst hyx
        have ho : (bif isCut r all then false else x.own) = true := ho
        cases hc : isCut r all with
        | true => rw [hc] at ho; cases ho
        | false =>
          rw [hc] at ho
          have ho : x.own = true := ho
          cases hkp' with
          | whole r' x' hsrc' hx' hyx' =>
            obtain ⟨e1', _⟩ := src_env (a := a) (ε := ε) hsrc'
            rw [e1']
            have hrr : r ≠ r' := by
              rintro rfl
              exact i6 n hin n' hin' hne r hsrc hsrc'
            refine hM.sep r x r' x' hx ho hx' hrr ?_ g hg
            subst hyx'
            rcases hy2 with h | h
            · have h : (bif isCut r' all then false else x'.own) = true := h
              cases hc' : isCut r' all with
              | true => rw [hc'] at h; cases h
              | false => rw [hc'] at h; exact .inl h
            · exact .inr h
          | pre r' lo' hi' x' hl' hone' hx' ho' hyx' =>
            obtain ⟨_, eb', _⟩ := prev n' r' lo' hi' x' hl' hx' ho'
            obtain ⟨av0, hl0, hs0⟩ := srcS n r hsrc
            rw [eb']
            have hrr : r ≠ r' := by
              rintro rfl
              exact two n' n _ _ r hl' hl0 (Ne.symm hne) (Nat.beq_refl r) hs0 hone'
            exact hM.sep r x r' x' hx ho hx' hrr (.inl ho') g hg
          | part r' p lo hi x' hl hcut hx' hyx' =>
            obtain ⟨e1', _⟩ := cutv n' r' p lo hi hl
            rw [e1']
            have hrr : r ≠ r' := by
              rintro rfl
              rw [hc] at hcut
              cases hcut
            subst hyx'
            have hne' : (x'.xs.drop lo.toNat).take (hi.toNat - lo.toNat) ≠ [] := hy2.resolve_left (fun h => by cases h)
            obtain ⟨_, A, m, c, A', c', hv, hmc, hV', hl0, hlh, hhm, hc', hne2, _, _⟩ := hV n' _ hl
            have hlt : lo < hi := by
              by_cases hlt : lo < hi
              · exact hlt
              · rw [show hi.toNat - lo.toNat = 0 by omega, List.take_zero] at hne'
                exact absurd rfl hne'
            obtain ⟨ad, hA, hA'⟩ := hne2 hlt
            have hx0 : x'.xs ≠ [] := by
              intro h0
              rw [h0] at hne'
              simp at hne'
            have h3 := hM.sep r x r' x' hx ho hx' hrr (.inr hx0) g hg
            rw [hv, hA] at h3
            rw [hV', hA']
            have hbl : (ad.add (lo.toNat * (ε.ty r').sz)).block = ad.block := by unfold Addr.add; split <;> rfl
            simp only [Value.ownBlock, hbl] at h3 ⊢
            exact h3
          | empty t e hl hyx' =>
            have hv : a.tmps.getD n' undef = .slice none 0 0 := hV n' _ hl
            have e1' : (cutEnv ε all a).sv n' = .slice none 0 0 := by unfold cutEnv; simp only [hl]; exact hv
            rw [e1']
            simp [Value.ownBlock]
    · exact hM.pres
    · intro n y hy hvn hyo g hg
      obtain ⟨r, x, h1, h2, h3⟩ := orig n y hy hyo g hg
      exact hM.far r x h1 (hvw r) h2 g h3
  · cases h
end
end Go.Ev

/- Which operations may change places. -/
namespace Go.Ev
open Go.RowKit
section
variable (T : Tab) (sg : FuncId → Sig) (callF : (f : FuncId) → argL (sg f).ps → Option (retL (sg f).rs)) {R : Type}
abbrev oper1 (g : Nat → Option AV) (rw : RW) (d : Nat) (o : Oper) : Option (AV × Upd) := oper T sg callF g rw d o fun v us => some (v, us)
/-- Operations that read no row. -/
def noRow (o : Oper) : Bool := match o.op with
  | .move _ | .assign _ | .pick .. | .binOp .. | .unOp .. | .build .. | .extract .. | .field .. | .index .. | .nilCheck _ => true
  | .call { callee := .builtin .max, .. } => true
  | .call { callee := .builtin .min, .. } => true
  | _ => false
/-- Operations that change no row. -/
def quiet (o : Oper) : Bool := match o.op with
  | .move _ | .assign _ | .pick .. | .binOp .. | .unOp .. | .build .. | .extract .. | .field .. | .index .. | .nilCheck _
  | .load .. | .indexAddr .. | .fieldAddr .. | .slice _ _ _ _ none | .slice _ _ _ _ (some _) => true
  | .convert src dst _ => (match T.ty src, T.ty dst with
    | some .str, _ => false
    | none, none => false
    | _, _ => true)
  | .call { callee := .builtin .len, .. } => true
  | .call { callee := .builtin .max, .. } => true
  | .call { callee := .builtin .min, .. } => true
  | _ => false
end
section
variable {T : Tab} {sg : FuncId → Sig} {callF : (f : FuncId) → argL (sg f).ps → Option (retL (sg f).rs)} {R : Type} {g g' : Nat → Option AV} {rw rw' : RW} {d d' : Nat} {o : Oper} {l0 : List Operand}
theorem br_bind {α β : Type} (c : Bool) (x y : Option α) (f : α → Option β) : (br c x y).bind f = br c (x.bind f) (y.bind f) := by cases c <;> rfl
theorem chk_bind {α β : Type} (c : Bool) (x : Option α) (f : α → Option β) : (chk c x).bind f = chk c (x.bind f) := by cases c <;> rfl
theorem bif_bind {α β : Type} (c : Bool) (x : Option α) (f : α → Option β) : (bif c then x else none).bind f = (bif c then x.bind f else none) := by cases c <;> rfl
theorem binV_param {S : Type} (nc : Bool) (xt : TypeId) (op : BinOp) (a b : AV) (K : AV → Option S) (f : S → Option R) : binV T nc xt op a b (fun v => (K v).bind f) = (binV T nc xt op a b K).bind f := by
  unfold binV
  split
  · split
    · rw [chk_bind]
    · rw [bif_bind]
      congr 1
      split
      · rfl
      · split
        · rfl
        · split
          · rw [chk_bind]
          · split <;> rfl
  · split
    · rfl
    · split
      · rw [chk_bind]
      · rfl
  · split <;> rfl
  · split
    · rfl
    · rw [chk_bind]
  · split <;> rfl
  · split <;> rfl
  · split
    · rw [bif_bind]
      congr 1
      split
      · split <;> rfl
      · rfl
    · rfl
  · rfl
set_option maxHeartbeats 1000000 in
theorem oper_param (K : AV → Upd → Option R) : oper T sg callF g rw d o K = (oper1 T sg callF g rw d o).bind fun p => K p.1 p.2 := by
  unfold oper1 oper
  split
  case h_4 =>
    split
    · exact binV_param (S := AV × Upd) _ _ _ _ _ (fun v => some (v, [])) (fun p => K p.1 p.2)
    · rfl
  case h_23 =>
    rw [bif_bind]
    congr 1
    split
    · rename_i ds us rs ha
      cases callF _ ds with
      | none => rfl
      | some r =>
        show (bif _ then _ else none) = Option.bind (bif _ then _ else none) _
        rw [bif_bind]
        rfl
    · rfl
  all_goals (repeat' (first | (simp only [Option.bind_some, Option.bind_none]; done) | (rw [bif_bind]; congr 1; done) | (rw [bif_bind]; congr 1) | (rw [chk_bind]; congr 1; done) | (rw [chk_bind]; congr 1) | (rw [br_bind]; simp only [Option.bind_some]; done) | split))
theorem buildT_congr (h : ∀ ty x, x ∈ l0 → opd T g ty x = opd T g' ty x) {t : Ty} : ∀ (ps : List (Nat × Operand)) (x : t.den), (∀ p ∈ ps, p.2 ∈ l0) → buildT T g t ps x = buildT T g' t ps x
  | [], _, _ => rfl
  | (j, o) :: ps, x, hp => by
    unfold buildT
    rw [h 0 o (hp (j, o) (by simp))]
    split
    · split
      · exact buildT_congr h ps _ (fun p hq => hp p (List.mem_cons_of_mem _ hq))
      · rfl
    · rfl
theorem opdDen_congr {x : Operand} (h : opd T g 0 x = opd T g' 0 x) (t : Ty) : opdDen T g t x = opdDen T g' t x := by unfold opdDen; rw [h]
theorem opdInt_congr {x : Operand} (h : opd T g 0 x = opd T g' 0 x) : opdInt T g x = opdInt T g' x := by unfold opdInt; rw [h]
theorem elems_congr (h : ∀ ty x, x ∈ l0 → opd T g ty x = opd T g' ty x) {t : Ty} : ∀ (ps : List (Nat × Operand)) (n : Nat), (∀ p ∈ ps, p.2 ∈ l0) → elems T g t n ps = elems T g' t n ps
  | [], _, _ => rfl
  | (j, o) :: ps, n, hp => by
    unfold elems
    rw [opdDen_congr (h 0 o (hp (j, o) (by simp))), elems_congr h ps (n + 1) (fun p hq => hp p (List.mem_cons_of_mem _ hq))]
theorem toArg_congr {p : Par} {x : Operand} (h : opd T g 0 x = opd T g' 0 x) : toArg T g rw p x = toArg T g' rw p x := by
  unfold toArg
  cases p with
  | v t => simp only [opdDen_congr h]
  | op => rfl
  | hp => rfl
  | h t => rfl
  | fn => rfl
  | pt t e => simp only [h]
  | read t e =>
    dsimp only
    split
    · rfl
    · simp only [h]
  | own t e =>
    dsimp only
    split
    · rfl
    · simp only [h]
theorem argRow_congr {x : Operand} (h : ∀ t, x = .tmp t → g t = g' t) : argRow g x = argRow g' x := by
  cases x with
  | tmp t => unfold argRow; simp only [h t rfl]
  | _ => rfl
theorem toArgs_congr : ∀ (ps : List Par) (l : List Operand), (∀ x ∈ l, opd T g 0 x = opd T g' 0 x) → toArgs T g rw ps l = toArgs T g' rw ps l
  | [], [], _ => rfl
  | [], _ :: _, _ => rfl
  | _ :: _, [], _ => rfl
  | p :: ps, x :: l, h => by
    have h1 := h x (by simp)
    unfold toArgs
    rw [toArg_congr h1, toArgs_congr ps l (fun y hy => h y (List.mem_cons_of_mem _ hy)), argRow_congr (g := g) (g' := g') (fun t ht => by subst ht; exact h1)]
theorem loOf_congr {x : Option Operand} (h : ∀ y, x = some y → opd T g 0 y = opd T g' 0 y) : loOf T g x = loOf T g' x := by
  cases x with
  | none => rfl
  | some y => exact opdInt_congr (h y rfl)
theorem hiOf_congr {x : Option Operand} (h : ∀ y, x = some y → opd T g 0 y = opd T g' 0 y) (n : Int) : hiOf T g x n = hiOf T g' x n := by
  cases x with
  | none => rfl
  | some y => exact opdInt_congr (h y rfl)
theorem maxI_congr {k : IntKind} : ∀ (l : List Operand) (x : Int), (∀ y ∈ l, opd T g 0 y = opd T g' 0 y) → maxI T g k x l = maxI T g' k x l
  | [], _, _ => rfl
  | o :: l, x, h => by
    unfold maxI
    rw [h o (by simp)]
    split
    · rw [maxI_congr l _ (fun y hy => h y (List.mem_cons_of_mem _ hy))]
    · rfl
theorem minI_congr {k : IntKind} : ∀ (l : List Operand) (x : Int), (∀ y ∈ l, opd T g 0 y = opd T g' 0 y) → minI T g k x l = minI T g' k x l
  | [], _, _ => rfl
  | o :: l, x, h => by
    unfold minI
    rw [h o (by simp)]
    split
    · rw [minI_congr l _ (fun y hy => h y (List.mem_cons_of_mem _ hy))]
    · rfl
/-- What an operation does hangs on its operands alone. -/
theorem oper_opd (h : ∀ ty x, x ∈ o.op.operands → opd T g ty x = opd T g' ty x) (K : AV → Upd → Option R) : oper T sg callF g rw d o K = oper T sg callF g' rw d o K := by
  unfold oper
  split
  · rename_i x hop
    rw [h _ x (by rw [hop]; simp [Op.operands])]
  · rename_i x hop
    rw [h _ x (by rw [hop]; simp [Op.operands])]
  · rename_i c x y hop
    rw [h _ c (by rw [hop]; simp [Op.operands]), h _ x (by rw [hop]; simp [Op.operands]), h _ y (by rw [hop]; simp [Op.operands])]
  · rename_i op xt x y yt hop
    rw [h _ x (by rw [hop]; simp [Op.operands]), h _ y (by rw [hop]; simp [Op.operands])]
  · rename_i op t x hop
    rw [h _ x (by rw [hop]; simp [Op.operands])]
  · rename_i t ps hop
    have e : ∀ (ty : Ty), buildT T g ty ps.toList ty.zero = buildT T g' ty ps.toList ty.zero := fun ty => buildT_congr (l0 := o.op.operands.toList) (fun ty x hx => h ty x (by simpa using hx)) _ _ (fun p hp => by
      rw [hop]
      simp only [Op.operands, List.mem_map]
      exact ⟨p, hp, rfl⟩)
    simp only [e]
  · rename_i t n ps hop
    have e : ∀ (ty : Ty), elems T g ty 0 ps.toList = elems T g' ty 0 ps.toList := fun ty => elems_congr (l0 := o.op.operands.toList) (fun ty x hx => h ty x (by simpa using hx)) _ _ (fun p hp => by
      rw [hop]
      simp only [Op.operands, List.mem_map]
      exact ⟨p, hp, rfl⟩)
    simp only [e]
  · rename_i e x hop
    rw [h _ x (by rw [hop]; simp [Op.operands])]
  · rfl
  · rename_i x hop
    rw [h _ x (by rw [hop]; simp [Op.operands])]
  · rename_i t x i hop
    rw [h _ x (by rw [hop]; simp [Op.operands]), opdInt_congr (h 0 i (by rw [hop]; simp [Op.operands]))]
  · rename_i t x i hop
    rw [h _ x (by rw [hop]; simp [Op.operands]), opdInt_congr (h 0 i (by rw [hop]; simp [Op.operands]))]
  · rename_i s x j hop
    rw [h _ x (by rw [hop]; simp [Op.operands])]
  · rename_i s x j hop
    rw [h _ x (by rw [hop]; simp [Op.operands])]
  · rename_i s x hop
    rw [h _ x (by rw [hop]; simp [Op.operands])]
  · rename_i s x y hop
    rw [h _ x (by rw [hop]; simp [Op.operands]), h _ y (by rw [hop]; simp [Op.operands])]
  · rename_i t x lo hi hop
    have e1 := loOf_congr (T := T) (g := g) (g' := g') (x := lo) (fun y hy => h 0 y (by rw [hop, hy]; simp [Op.operands]))
    have e2 := hiOf_congr (T := T) (g := g) (g' := g') (x := hi) (fun y hy => h 0 y (by rw [hop, hy]; simp [Op.operands]))
    rw [h _ x (by rw [hop]; simp [Op.operands]), e1]
    simp only [e2]
  · rename_i src dst x hop
    rw [h _ x (by rw [hop]; simp [Op.operands])]
  · rename_i x j hop
    rw [h _ x (by rw [hop]; simp [Op.operands])]
  · rename_i args ts hop
    split
    · rename_i x t ha ht
      rw [h _ x (by rw [hop, list1 ha]; simp [Op.operands, Call.operands])]
    · rfl
  · rename_i args ts hop
    split
    · rename_i x y t t' ha ht
      rw [h _ x (by rw [hop, list2 ha]; simp [Op.operands, Call.operands]), h _ y (by rw [hop, list2 ha]; simp [Op.operands, Call.operands])]
    · rfl
  · rename_i args ts hop
    split
    · rename_i x y t t' ha ht
      rw [h _ x (by rw [hop, list2 ha]; simp [Op.operands, Call.operands]), h _ y (by rw [hop, list2 ha]; simp [Op.operands, Call.operands])]
    · rfl
  · rename_i f args ts hop
    rw [toArgs_congr (sg f).ps args.toList (fun x hx => h 0 x (by
      rw [hop]
      simp only [Op.operands, Call.operands, Array.mem_append]
      exact .inr (by simpa using hx)))]
  · rename_i t l c hop
    rw [opdInt_congr (h 0 l (by rw [hop]; simp [Op.operands])), opdInt_congr (h 0 c (by rw [hop]; simp [Op.operands]))]
  · rename_i args ts hop
    split
    · rename_i x l ha
      have hh : ∀ y ∈ x :: l, opd T g 0 y = opd T g' 0 y := fun y hy => h 0 y (by
        rw [hop]
        simp only [Op.operands, Call.operands, Array.mem_append]
        exact .inr (by rw [← ha] at hy; simpa using hy))
      rw [hh x (by simp)]
      split
      · rw [maxI_congr l _ (fun y hy => hh y (List.mem_cons_of_mem _ hy))]
      · rfl
    · rfl
  · rename_i args ts hop
    split
    · rename_i x l ha
      have hh : ∀ y ∈ x :: l, opd T g 0 y = opd T g' 0 y := fun y hy => h 0 y (by
        rw [hop]
        simp only [Op.operands, Call.operands, Array.mem_append]
        exact .inr (by rw [← ha] at hy; simpa using hy))
      rw [hh x (by simp)]
      split
      · rw [minI_congr l _ (fun y hy => hh y (List.mem_cons_of_mem _ hy))]
      · rfl
    · rfl
  · rfl
theorem oper_noRow (hn : noRow o = true) (K : AV → Upd → Option R) : oper T sg callF g rw d o K = oper T sg callF g rw' d o K := by
  unfold noRow at hn
  unfold oper
  split at hn <;> first | (cases hn; done) | skip
  all_goals (rename_i hop; simp only [hop])
theorem quiet_nil (hq : quiet T o = true) {v : AV} {us : Upd} (h : oper1 T sg callF g rw d o = some (v, us)) : us = [] := by
  have key : oper T sg callF g rw d o (fun v us => some (v, us)) = oper T sg callF g rw d o (fun v _ => some (v, [])) := by
    unfold quiet at hq
    unfold oper
    split at hq <;> first | (cases hq; done) | skip
    case h_16 =>
      rename_i src dst x hop
      simp only [hop]
      split
      · split
        · rename_i hs _
          rw [hs] at hq
          cases hq
        · rename_i hs _
          rw [hs] at hq
          cases hq
        · rfl
      · rfl
      · rfl
      · split
        · rfl
        · rfl
        · rename_i h1 h2 h3 h4
          rw [h1, h3] at hq
          cases hq
        · rfl
      · rfl
    all_goals (rename_i hop; simp only [hop])
  rw [show oper T sg callF g rw d o (fun v us => some (v, us)) = some (v, us) from h, oper_param, show oper1 T sg callF g rw d o = some (v, us) from h] at key
  injection key with key
  injection key
/-! ### operations that make a row -/
/-- Operations that make one row and read none. -/
def makes (T : Tab) (o : Oper) : Bool := o.dst.isSome && (match o.op with
  | .box .. | .alloc _ | .buildSlice .. | .makeSlice .. => true
  | .convert src _ _ => (match T.ty src with
    | some .str => true
    | _ => false)
  | _ => false)
/-- Operations that make one row. -/
def mk1 (T : Tab) (o : Oper) : Bool := o.dst.isSome && (match o.op with
  | .call { callee := .value (.func f), .. } => T.rd f
  | _ => false)
theorem isNew_of {rw : RW} {d : Nat} (h : rw d = none) : isNew rw d = true := by unfold isNew; rw [h]
theorem makes_spec (hm : makes T o = true) {v : AV} {us : Upd} (h : oper1 T sg callF g rw d o = some (v, us)) :
    ∃ x, us = [(d, some x)] ∧ rw d = none ∧ ∀ rw', rw' d = none → oper1 T sg callF g rw' d o = some (v, us) := by
  unfold makes at hm
  rw [Bool.and_eq_true] at hm
  replace hm := hm.2
  unfold oper1 oper at h ⊢
  split at hm
  · rename_i e x hop
    simp only [hop] at h ⊢
    split at h
    · rename_i h1 h2
      obtain ⟨hb, h⟩ := bif_some h
      rw [Bool.and_eq_true] at hb
      cases h
      refine ⟨_, rfl, isNew_eq hb.2, fun rw' h' => ?_⟩
      rw [isNew_of h', hb.1]
      rfl
    · cases h
  · rename_i e hop
    simp only [hop] at h ⊢
    split at h
    · rename_i h1
      obtain ⟨hb, h⟩ := bif_some h
      cases h
      refine ⟨_, rfl, isNew_eq hb, fun rw' h' => ?_⟩
      rw [isNew_of h']
      rfl
    · cases h
  · rename_i t n ps hop
    simp only [hop] at h ⊢
    split at h
    · rename_i h1
      split at h
      · rename_i h2
        obtain ⟨hb, h⟩ := bif_some h
        rw [Bool.and_eq_true, Bool.and_eq_true] at hb
        cases h
        refine ⟨_, rfl, isNew_eq hb.1.2, fun rw' h' => ?_⟩
        rw [isNew_of h', hb.1.1, hb.2]
        rfl
      · cases h
    · cases h
  · rename_i t l c hop
    simp only [hop] at h ⊢
    split at h
    · rename_i h1 h2 h3
      obtain ⟨hb, h⟩ := bif_some h
      obtain ⟨c1, h⟩ := chk_some h
      obtain ⟨c2, h⟩ := chk_some h
      obtain ⟨c3, h⟩ := chk_some h
      cases h
      refine ⟨_, rfl, isNew_eq hb, fun rw' h' => ?_⟩
      rw [isNew_of h', c1, c2, c3]
      rfl
    · cases h
  · rename_i src dst x hop
    simp only [hop] at h ⊢
    split at hm
    · rename_i hs
      simp only [hs] at h ⊢
      split at h
      · rename_i s hx
        split at h
        · rename_i h1
          obtain ⟨hb, h⟩ := bif_some h
          obtain ⟨c1, h⟩ := chk_some h
          cases h
          refine ⟨_, rfl, isNew_eq hb, fun rw' h' => ?_⟩
          rw [isNew_of h', c1]
          rfl
        · obtain ⟨hb, h⟩ := bif_some h
          cases h
          refine ⟨_, rfl, isNew_eq hb, fun rw' h' => ?_⟩
          rw [isNew_of h']
          rfl
        · cases h
      · cases h
      · cases h
      · cases h
      · cases h
    · cases hm
  · cases hm
def namesC : AC → List Nat
  | .v _ _ => []
  | .sl r => [r]
  | .pt r => [r]
  | .h _ _ => []
def names : AV → List Nat
  | .sl r => [r]
  | .cut r _ _ _ => [r]
  | .ptr r _ => [r]
  | .fptr r _ _ => [r]
  | .tup l => l.flatMap namesC
  | .ht l => l.flatMap namesC
  | _ => []
/-- The slots speak of rows that were used. -/
def WfS (g : Nat → Option AV) (rw : RW) : Prop := ∀ n av, g n = some av → ∀ r ∈ names av, rw r ≠ none
theorem opd_names (hw : WfS g rw) {ty : TypeId} {x : Operand} {av : AV} (h : opd T g ty x = some av) : ∀ r ∈ names av, rw r ≠ none := by
  cases x with
  | tmp t => exact hw t av h
  | const c =>
    have h : constV T ty c = some av := h
    unfold constV at h
    split at h <;> first | (cases h; intro r hr; cases hr; done) | (cases h; done) | skip
    all_goals (split at h <;> first | (cases h; intro r hr; cases hr; done) | (cases h; done) | skip)
    all_goals (split at h <;> first | (cases h; intro r hr; cases hr; done) | (cases h; done) | skip)
    all_goals (split at h <;> first | (cases h; intro r hr; cases hr; done) | (cases h; done))
  | global _ => cases h
  | func _ => cases h; intro r hr; cases hr
theorem parts_names : ∀ (rs : List RTy) (r : retL rs) (n : Nat), ∀ c ∈ (parts n rs r).1, ∀ m ∈ namesC c, m ∈ given (parts n rs r).2
  | [], _, _, c, hc, _, _ => by cases hc
  | [.v t], x, n, c, hc, m, hm => by
    rw [List.mem_singleton.1 hc] at hm
    cases hm
  | [.sl t e], x, n, c, hc, m, hm => by
    rw [List.mem_singleton.1 hc] at hm
    simpa [parts, given, namesC] using hm
  | [.pt t e], x, n, c, hc, m, hm => by
    rw [List.mem_singleton.1 hc] at hm
    simpa [parts, given, namesC] using hm
  | .v t :: r0 :: l, x, n, c, hc, m, hm => by
    rcases List.mem_cons.1 hc with hc | hc
    · rw [hc] at hm
      cases hm
    · exact parts_names (r0 :: l) x.2 n c hc m hm
  | [.hp], x, n, c, hc, m, hm => by cases hc
  | [.h t], x, n, c, hc, m, hm => by
    rw [List.mem_singleton.1 hc] at hm
    cases hm
  | .hp :: r0 :: l, x, n, c, hc, m, hm => parts_names (r0 :: l) x.2 n c hc m hm
  | .h t :: r0 :: l, x, n, c, hc, m, hm => by
    rcases List.mem_cons.1 hc with hc | hc
    · rw [hc] at hm
      cases hm
    · exact parts_names (r0 :: l) x.2 n c hc m hm
  | .sl t e :: r0 :: l, x, n, c, hc, m, hm => by
    rcases List.mem_cons.1 hc with hc | hc
    · rw [hc] at hm
      have : m = n := by simpa [namesC] using hm
      subst this
      exact List.mem_cons_self
    · exact List.mem_cons_of_mem _ (parts_names (r0 :: l) x.2 (n + 100000) c hc m hm)
  | .pt t e :: r0 :: l, x, n, c, hc, m, hm => by
    rcases List.mem_cons.1 hc with hc | hc
    · rw [hc] at hm
      have : m = n := by simpa [namesC] using hm
      subst this
      exact List.mem_cons_self
    · exact List.mem_cons_of_mem _ (parts_names (r0 :: l) x.2 (n + 100000) c hc m hm)
theorem given_app (us vs : Upd) {r : Nat} (h : r ∈ given vs) : r ∈ given (us ++ vs) := by
  induction us with
  | nil => exact h
  | cons u us ih => exact List.mem_cons_of_mem _ ih
theorem resOf_names (l : List AC) : ∀ r ∈ names (resOf l), r ∈ l.flatMap namesC := by
  intro r hr
  unfold resOf at hr
  split at hr
  · cases hr
  · simpa [names, namesC] using hr
  · simpa [names, namesC] using hr
  · exact hr
theorem row_same {rw rw' : RW} (hr : ∀ r, rw r ≠ none → rw' r = rw r) {r : Nat} (h : rw r ≠ none) : row rw' r = row rw r := by unfold row; rw [hr r h]
theorem lenOf_same {rw rw' : RW} (hr : ∀ r, rw r ≠ none → rw' r = rw r) {av : AV} (h : ∀ r ∈ names av, rw r ≠ none) : lenOf rw' av = lenOf rw av := by
  cases av <;> first | rfl | skip
  rename_i r
  unfold lenOf
  simp only [row_same hr (h r (by simp [names]))]
theorem listOf_same {rw rw' : RW} (hr : ∀ r, rw r ≠ none → rw' r = rw r) {av : AV} (h : ∀ r ∈ names av, rw r ≠ none) : listOf rw' av = listOf rw av := by
  cases av <;> first | rfl | skip
  · rename_i r
    unfold listOf
    simp only [row_same hr (h r (by simp [names]))]
  · rename_i r p lo hi
    unfold listOf
    simp only [row_same hr (h r (by simp [names]))]
theorem quiet_same (hq : quiet T o = true) (hw : WfS g rw) (hr : ∀ r, rw r ≠ none → rw' r = rw r) (K : AV → Upd → Option R) : oper T sg callF g rw' d o K = oper T sg callF g rw d o K := by
  have key : ∀ x ty av, opd T g ty x = some av → ∀ r ∈ names av, row rw' r = row rw r := fun x ty av hx r hrn => row_same hr (opd_names hw hx r hrn)
  unfold quiet at hq
  split at hq <;> first | (cases hq; done) | skip
  all_goals (rename_i hop; first | (refine oper_noRow ?_ K; unfold noRow; rw [hop]; done) | skip)
  · rename_i s x
    unfold oper
    simp only [hop]
    split
    · rename_i ht hx
      rw [row_same hr (opd_names hw hx _ (by simp [names]))]
    · rename_i ht hx
      rw [row_same hr (opd_names hw hx _ (by simp [names]))]
    · rfl
  · rename_i t x i
    unfold oper
    simp only [hop]
    split
    · rename_i ht hx hi
      split
      · rw [row_same hr (opd_names hw hx _ (by simp [names]))]
      · rw [row_same hr (opd_names hw hx _ (by simp [names]))]
      · rfl
    · rfl
  · rename_i s x j
    unfold oper
    simp only [hop]
    split
    · rename_i ht hx
      rw [row_same hr (opd_names hw hx _ (by simp [names]))]
    · rfl
  · rename_i t x lo hi
    unfold oper
    simp only [hop]
    split
    · rfl
    · rename_i hx hlo
      rw [row_same hr (opd_names hw hx _ (by simp [names]))]
    · rename_i hx hlo
      rw [row_same hr (opd_names hw hx _ (by simp [names]))]
    · rfl
  · rename_i t x lo hi m
    unfold oper
    simp only [hop]
  · rename_i src dst x
    unfold oper
    simp only [hop]
    have hs : T.ty src = some .str → False := fun hs => by
      rw [hs] at hq
      cases hq
    · clear hq
      split
      · split
        · rename_i h1 h2
          exact absurd h1 hs
        · rename_i h1 h2
          exact absurd h1 hs
        · rfl
      · rfl
      · rfl
      · rename_i hx
        rw [listOf_same hr (opd_names hw hx)]
      · rfl
  · rename_i args ts
    unfold oper
    simp only [hop]
    split
    · rename_i x t ha ht
      split
      · rfl
      · rename_i hx
        rw [lenOf_same hr (opd_names hw hx)]
      · rfl
    · rfl
theorem nil_names {av : AV} {rw : RW} {us : Upd} (h : ∀ r ∈ names av, rw r ≠ none) : ∀ r ∈ names av, updF rw us r ≠ none := fun r hr => updF_used rw us (.inl (h r hr))
theorem binV_v (nc : Bool) (xt : TypeId) (op : BinOp) (a b : AV) {v : AV} {us : Upd} (h : binV T nc xt op a b (fun v => some (v, ([] : Upd))) = some (v, us)) : ∃ t x, v = .v t x := by
  unfold binV at h
  split at h
  · split at h
    · obtain ⟨_, h⟩ := chk_some h
      cases h; exact ⟨_, _, rfl⟩
    · obtain ⟨_, h⟩ := bif_some h
      split at h
      · cases h; exact ⟨_, _, rfl⟩
      · split at h
        · cases h; exact ⟨_, _, rfl⟩
        · split at h
          · obtain ⟨_, h⟩ := chk_some h
            cases h; exact ⟨_, _, rfl⟩
          · split at h
            · cases h; exact ⟨_, _, rfl⟩
            · cases h
  · split at h
    · cases h; exact ⟨_, _, rfl⟩
    · split at h
      · obtain ⟨_, h⟩ := chk_some h
        cases h; exact ⟨_, _, rfl⟩
      · cases h
  · split at h
    · cases h; exact ⟨_, _, rfl⟩
    · cases h; exact ⟨_, _, rfl⟩
    · cases h
  · split at h
    · cases h; exact ⟨_, _, rfl⟩
    · obtain ⟨_, h⟩ := chk_some h
      cases h; exact ⟨_, _, rfl⟩
  · split at h
    · cases h; exact ⟨_, _, rfl⟩
    · cases h; exact ⟨_, _, rfl⟩
    · cases h
  · split at h
    · cases h; exact ⟨_, _, rfl⟩
    · cases h; exact ⟨_, _, rfl⟩
    · cases h
  · split at h
    · obtain ⟨_, h⟩ := bif_some h
      split at h
      · split at h
        · cases h; exact ⟨_, _, rfl⟩
        · cases h; exact ⟨_, _, rfl⟩
        · cases h
      · cases h
    · cases h
  · cases h
set_option maxHeartbeats 2000000 in
theorem oper_names (hw : WfS g rw) {v : AV} {us : Upd} (h : oper1 T sg callF g rw d o = some (v, us)) : ∀ r ∈ names v, updF rw us r ≠ none := by
  have hnew : ∀ (q : Nat) (us : Upd), d ∈ given us → q = d → updF rw us q ≠ none := fun q us hq e => by rw [e]; exact updF_used rw _ (.inr hq)
  unfold oper1 oper at h
  split at h
  case h_3 =>
    split at h
    · rename_i c x y hc hx hy
      cases c with
      | false => cases h; exact opd_names hw hy
      | true => cases h; exact opd_names hw hx
    · cases h
  case h_4 =>
    split at h
    · obtain ⟨t, x, rfl⟩ := binV_v _ _ _ _ _ h
      intro r hr; cases hr
    · cases h
  case h_23 =>
    replace h := (bif_some h).2
    split at h
    · rename_i ds us0 rs ha
      cases hc : callF _ ds with
      | none => rw [hc] at h; cases h
      | some rr =>
        rw [hc] at h
        simp only [Option.bind_some] at h
        replace h := bif_some h
        obtain ⟨_, h⟩ := h
        cases h
        intro r hr
        obtain ⟨c, hc, hrc⟩ := List.mem_flatMap.1 (resOf_names _ r hr)
        exact updF_used rw _ (.inr (given_app _ _ (parts_names _ _ _ c hc r hrc)))
    · cases h
  case h_19 =>
    split at h
    · rename_i l hx
      have hn := opd_names hw hx
      split at h <;> cases h
      · intro r hr; cases hr
      · rename_i q hq
        intro r hr
        rw [List.mem_singleton.1 hr]
        exact hn q (List.mem_flatMap.2 ⟨_, List.mem_of_getElem? hq, by simp [namesC]⟩)
      · rename_i q hq
        intro r hr
        rw [List.mem_singleton.1 hr]
        exact hn q (List.mem_flatMap.2 ⟨_, List.mem_of_getElem? hq, by simp [namesC]⟩)
    · cases h
  all_goals (repeat' (first
    | (cases h; done)
    | (replace h := bif_some h; replace h := h.2)
    | (replace h := chk_some h; replace h := h.2)
    | (cases h; intro r hr; cases hr; done)
    | (cases h; rename_i hx; exact opd_names hw hx)
    | (cases h; intro r hr; rw [List.mem_singleton.1 hr]; refine updF_used rw _ (.inr ?_); simp [given]; done)
    | (cases h; intro r hr; refine opd_names hw ‹opd T g _ _ = some _› r ?_; simpa [names] using hr; done)
    | split at h))
end
end Go.Ev

