import Derived.Test.YtfglahmbnnkijaaEv3
import Derived.Deep.Slices
import Derived.ProofKit
import Derived.ChangeOld
/- An evaluator of the model that knows a heap, and that it is sound: part 4 of 4. -/
set_option linter.unusedVariables false
set_option linter.unusedSimpArgs false
/- Which operations may change places: those that know the heap. -/
namespace Go.Ev
open Go.RowKit
section
variable {T : Tab} {sg : FuncId → Sig} {callF : (f : FuncId) → argL (sg f).ps → Option (retL (sg f).rs)} {R : Type} {g g' : Nat → Option AV} {rw rw' : RW} {d d' : Nat} {o : Oper} {h h' : Hp}
abbrev R2 := AV × Upd × Hp
abbrev oper2r (T : Tab) (sg : FuncId → Sig) (callF : (f : FuncId) → argL (sg f).ps → Option (retL (sg f).rs)) (g : Nat → Option AV) (rw : RW) (d : Nat) (o : Oper) (h : Hp) : Option R2 := oper2 T sg callF g rw d o h fun v us h => some (v, us, h)
theorem views_param {S : Type} (f : S → Option R) : ∀ (l : List (Operand × Ty × TypeId)) (q : Nat) (g : Nat → Option AV) (rw : RW) (K : (Nat → Option AV) → RW → Option S), views h q l g rw (fun g rw => (K g rw).bind f) = (views h q l g rw K).bind f
  | [], q, g, rw, K => rfl
  | (x, t, e) :: l, q, g, rw, K => by
    cases x with
    | tmp n =>
      simp only [views]
      split
      · rename_i r _
        cases h.rd t r with
        | none => rfl
        | some xs =>
          simp only [Option.bind_some]
          rw [bif_bind]
          congr 1
          exact views_param f l _ _ _ K
      · rename_i r _ _
        cases h.rd t r with
        | none => rfl
        | some xs =>
          simp only [Option.bind_some]
          rw [bif_bind]
          congr 1
          exact views_param f l _ _ _ K
      · exact views_param f l _ _ _ K
    | const c => exact views_param f l _ _ _ K
    | global c => exact views_param f l _ _ _ K
    | func c => exact views_param f l _ _ _ K
theorem heapify_param (v : AV) (us : Upd) (K : AV → Upd → Hp → Option R) : heapify h v us K = (heapify h v us fun v us h => some (v, us, h)).bind fun q => K q.1 q.2.1 q.2.2 := by
  unfold heapify
  split
  · split
    · rw [bif_bind]
      rfl
    · rfl
  · rfl
theorem heapIf_param (b : Bool) (v : AV) (us : Upd) (K : AV → Upd → Hp → Option R) : (bif b then heapify h v us K else K v us h) = (bif b then heapify h v us (fun v us h => some (v, us, h)) else some (v, us, h)).bind fun q => K q.1 q.2.1 q.2.2 := by
  cases b with
  | true => exact heapify_param v us K
  | false => rfl
theorem oper_bind {S : Type} (K : AV → Upd → Option S) (f : S → Option R) : oper T sg callF g rw d o (fun v us => (K v us).bind f) = (oper T sg callF g rw d o K).bind f := by
  rw [oper_param, oper_param (K := K), Option.bind_assoc]
theorem oldK_param (K : AV → Upd → Hp → Option R) : oldK T sg callF g rw d o h K = (oldK T sg callF g rw d o h fun v us h => some (v, us, h)).bind fun q => K q.1 q.2.1 q.2.2 := by
  unfold oldK
  split
  · rw [← oper_bind]
    congr 1
    funext v us
    exact heapIf_param _ _ _ _
  · rw [bif_bind, ← views_param]
    congr 1
    congr 1
    funext g' rw'
    rw [← oper_bind]
    congr 1
    funext v us
    rw [bif_bind]
    congr 1
    exact heapIf_param _ _ _ _
theorem hcall_param {f : FuncId} (x : Option (argL (strip (sg f).ps) × Upd × List Nat)) (K : AV → Upd → Hp → Option R) : hcall sg callF rw d f h K x = (hcall sg callF rw d f h (fun v us h => some (v, us, h)) x).bind fun q => K q.1 q.2.1 q.2.2 := by
  unfold hcall
  split
  · rename_i ds us rs
    cases callF f (addH (sg f).ps h ds) with
    | none => rfl
    | some r =>
      simp only [Option.bind_some]
      rw [bif_bind]
      rfl
  · rfl
theorem pcall_param {f : FuncId} (x : Option (argL (sg f).ps × Upd × List Nat)) (K : AV → Upd → Hp → Option R) : pcall sg callF rw d f h K x = (pcall sg callF rw d f h (fun v us h => some (v, us, h)) x).bind fun q => K q.1 q.2.1 q.2.2 := by
  unfold pcall
  split
  · rename_i ds us rs
    rw [bif_bind]
    congr 1
    cases callF f ds with
    | none => rfl
    | some r =>
      simp only [Option.bind_some]
      rw [bif_bind]
      rfl
  · rfl
theorem dispF_param {f : Nat} {caps : List Pf} {args : List Operand} (K : AV → Upd → Hp → Option R) : ∀ l : List FuncId, dispF T sg callF g rw d f caps args h K l = (dispF T sg callF g rw d f caps args h (fun v us h => some (v, us, h)) l).bind fun q => K q.1 q.2.1 q.2.2
  | [] => rfl
  | q :: l => by
    unfold dispF
    rw [br_bind, ← dispF_param K l]
    congr 1
    cases hasHp (sg q).ps with
    | true =>
      simp only [cond_true]
      cases Nat.beq (strip (sg q).ps).length args.length with
      | true =>
        simp only [cond_true]
        rw [chk_bind]
        congr 1
        exact hcall_param _ K
      | false => exact hcall_param _ K
    | false =>
      simp only [cond_false]
      rw [chk_bind]
      congr 1
      exact pcall_param _ K
theorem dispI_param {i : If} {args : List Operand} (K : AV → Upd → Hp → Option R) : ∀ l : List (TypeId × FuncId), dispI T sg callF g rw d i args h K l = (dispI T sg callF g rw d i args h (fun v us h => some (v, us, h)) l).bind fun q => K q.1 q.2.1 q.2.2
  | [] => rfl
  | (t, f) :: l => by
    unfold dispI
    rw [br_bind, ← dispI_param K l, bif_bind]
    congr 1
    congr 1
    rw [inv_eq, inv_eq]
    exact hcall_param _ K
theorem nilEq_param {op : BinOp} {av : AV} (K : AV → Upd → Hp → Option R) : nilEq op av (fun v => K v [] h) = (nilEq op av fun v => some (v, ([] : Upd), h)).bind fun q => K q.1 q.2.1 q.2.2 := by
  unfold nilEq
  split <;> first | rfl | (rw [chk_bind]; rfl)
set_option maxHeartbeats 1000000 in
theorem oper2_param (K : AV → Upd → Hp → Option R) : oper2 T sg callF g rw d o h K = (oper2r T sg callF g rw d o h).bind fun q => K q.1 q.2.1 q.2.2 := by
  unfold oper2r oper2
  split
  case h_18 =>
    split
    · rename_i p _
      cases h.more p with
      | none => rfl
      | some b =>
        simp only [Option.bind_some]
        rw [br_bind]
        congr 1
        rw [Option.bind_assoc]
        rfl
    · rfl
  case h_21 =>
    rename_i f args ts _
    cases hasHp (sg f).ps with
    | true =>
      simp only [cond_true]
      cases T.rd f with
      | true => rfl
      | false => exact hcall_param _ K
    | false => exact oldK_param K
  case h_20 =>
    split
    · split
      · split
        · unfold srcC
          rw [bif_bind]
          congr 1
          split
          · rename_i r2 _
            cases h.cs _ r2 with
            | none => rfl
            | some q =>
              simp only [Option.bind_some]
              rw [chk_bind]
              congr 1
              rw [Option.bind_assoc]
              rfl
          · split
            · rw [bif_bind]
              congr 1
              rw [chk_bind]
              congr 1
              rw [Option.bind_assoc]
              rfl
            · rfl
          · rfl
        · rfl
      · split
        · split
          · unfold srcC
            rw [bif_bind]
            congr 1
            split
            · rename_i r2 _
              cases h.cs _ r2 with
              | none => rfl
              | some q =>
                simp only [Option.bind_some]
                rw [chk_bind]
                congr 1
                rw [Option.bind_assoc]
                rfl
            · split
              · rw [bif_bind]
                congr 1
                rw [chk_bind]
                congr 1
                rw [Option.bind_assoc]
                rfl
              · rfl
            · rfl
          · rfl
        · exact oldK_param K
      · rfl
    · rfl
  all_goals (repeat' (first
    | exact oldK_param K
    | exact hcall_param _ K
    | exact dispF_param K _
    | exact dispI_param K _
    | exact nilEq_param K
    | rfl
    | (rw [Option.bind_assoc]; rfl)
    | (rw [bif_bind]; congr 1)
    | (rw [chk_bind]; congr 1)
    | split))

theorem opdH_congr {x : Operand} (h : opd T g 0 x = opd T g' 0 x) (t : HTy) : opdH T g t x = opdH T g' t x := by
  unfold opdH
  split
  · rfl
  · rfl
  · rfl
  · rw [h]
theorem buildH_congr {t : HTy} : ∀ (ps : List (Nat × Operand)) (x : t.den), (∀ p ∈ ps, opd T g 0 p.2 = opd T g' 0 p.2) → buildH T g t ps x = buildH T g' t ps x
  | [], _, _ => rfl
  | (j, o) :: ps, x, hp => by
    have h1 : opd T g 0 o = opd T g' 0 o := hp (j, o) (by simp)
    unfold buildH
    simp only [opdH_congr h1]
    split
    · split
      · split
        · exact buildH_congr ps _ (fun p hq => hp p (List.mem_cons_of_mem _ hq))
        · rfl
      · rfl
    · rfl
theorem elemsH_congr {t : HTy} : ∀ (ps : List (Nat × Operand)) (n : Nat), (∀ p ∈ ps, opd T g 0 p.2 = opd T g' 0 p.2) → elemsH T g t n ps = elemsH T g' t n ps
  | [], _, _ => rfl
  | (j, o) :: ps, n, hp => by
    unfold elemsH
    rw [opdH_congr (hp (j, o) (by simp)), elemsH_congr ps (n + 1) (fun p hq => hp p (List.mem_cons_of_mem _ hq))]
theorem capsH_congr : ∀ (l : List Operand), (∀ x ∈ l, opd T g 0 x = opd T g' 0 x) → capsH T g l = capsH T g' l
  | [], _ => rfl
  | x :: l, hp => by
    unfold capsH
    rw [opdH_congr (hp x (by simp)), capsH_congr l (fun y hy => hp y (List.mem_cons_of_mem _ hy))]
theorem toArgs2_congr : ∀ (ps : List Par) (l : List Operand), (∀ x ∈ l, opd T g 0 x = opd T g' 0 x) → toArgs2 T g rw ps l = toArgs2 T g' rw ps l
  | [], [], _ => rfl
  | [], _ :: _, _ => rfl
  | p :: ps, [], _ => by cases p <;> rfl
  | p :: ps, x :: l, h => by
    have h1 := h x (by simp)
    have ih := toArgs2_congr ps l (fun y hy => h y (List.mem_cons_of_mem _ hy))
    have h3 : argRow g x = argRow g' x := argRow_congr (g := g) (g' := g') (fun t ht => by subst ht; exact h1)
    cases p <;> simp only [toArgs2, ih, opdH_congr h1, h1, toArg_congr h1, h3]
theorem toArgs3_congr {caps : List Pf} : ∀ (ps : List Par) (l : List Operand), (∀ x ∈ l, opd T g 0 x = opd T g' 0 x) → toArgs3 T g rw caps ps l = toArgs3 T g' rw caps ps l
  | ps, [], _ => by
    cases ps with
    | nil => rfl
    | cons p ps => cases p <;> rfl
  | [], _ :: _, _ => rfl
  | p :: ps, x :: l, h => by
    have h1 := h x (by simp)
    have ih := toArgs3_congr (caps := caps) ps l (fun y hy => h y (List.mem_cons_of_mem _ hy))
    cases p <;> simp only [toArgs3, ih, opdH_congr h1, toArg_congr h1]
theorem dispF_congr {f : Nat} {caps : List Pf} {args : List Operand} (h0 : ∀ x ∈ args, opd T g 0 x = opd T g' 0 x) (K : AV → Upd → Hp → Option R) : ∀ l : List FuncId, dispF T sg callF g rw d f caps args h K l = dispF T sg callF g' rw d f caps args h K l
  | [] => rfl
  | q :: l => by
    unfold dispF
    rw [dispF_congr h0 K l, toArgs3_congr _ _ h0, toArgs3_congr _ _ h0, toArgs_congr _ _ h0]
theorem dispI_congr {i : If} {args : List Operand} (h0 : ∀ x ∈ args, opd T g 0 x = opd T g' 0 x) (K : AV → Upd → Hp → Option R) : ∀ l : List (TypeId × FuncId), dispI T sg callF g rw d i args h K l = dispI T sg callF g' rw d i args h K l
  | [] => rfl
  | (t, f) :: l => by
    have e : ∀ ps, invArgs T g rw t i ps args = invArgs T g' rw t i ps args := by
      intro ps
      cases ps with
      | nil => rfl
      | cons p ps =>
        simp only [invArgs]
        rw [toArgs2_congr _ _ h0]
    unfold dispI
    rw [dispI_congr h0 K l, inv_eq, inv_eq, e]
theorem views_congr {K : (Nat → Option AV) → RW → Option R} {K' : (Nat → Option AV) → RW → Option R} {L : List Nat} (hK : ∀ g g' rw, (∀ t ∈ L, g t = g' t) → K g rw = K' g' rw) : ∀ (l : List (Operand × Ty × TypeId)) (q : Nat) (g g' : Nat → Option AV) (rw : RW), (∀ t ∈ L, g t = g' t) → (∀ p ∈ l, ∀ n, p.1 = .tmp n → n ∈ L) → views h q l g rw K = views h q l g' rw K'
  | [], q, g, g', rw, hg, _ => hK g g' rw hg
  | (x, t, e) :: l, q, g, g', rw, hg, hl => by
    have hl' : ∀ p ∈ l, ∀ n, p.1 = .tmp n → n ∈ L := fun p hp => hl p (List.mem_cons_of_mem _ hp)
    have hset : ∀ n v, ∀ t ∈ L, setG g n v t = setG g' n v t := by
      intro n v t ht
      unfold setG
      rw [hg t ht]
    cases x with
    | tmp n =>
      simp only [views]
      rw [← hg n (hl (.tmp n, t, e) (by simp) n rfl)]
      split
      · congr 1
        funext xs
        rw [views_congr hK l _ _ _ _ (hset _ _) hl']
      · congr 1
        funext xs
        rw [views_congr hK l _ _ _ _ (hset _ _) hl']
      · exact views_congr hK l _ _ _ _ hg hl'
    | const c => exact views_congr hK l _ _ _ _ hg hl'
    | global c => exact views_congr hK l _ _ _ _ hg hl'
    | func c => exact views_congr hK l _ _ _ _ hg hl'
theorem readPs_mem : ∀ (ps : List Par) (l : List Operand), ∀ p ∈ readPs ps l, p.1 ∈ l
  | [], _, p, hp => by cases hp
  | q :: ps, [], p, hp => by cases q <;> cases hp
  | q :: ps, x :: l, p, hp => by
    have tail : p ∈ readPs ps l → p.1 ∈ x :: l := fun h => List.mem_cons_of_mem _ (readPs_mem ps l p h)
    cases q with
    | read t e =>
      rcases List.mem_cons.1 hp with rfl | hp
      · simp
      · exact tail hp
    | v t => exact tail hp
    | op => exact tail hp
    | own t e => exact tail hp
    | pt t e => exact tail hp
    | hp => exact tail hp
    | h t => exact tail hp
    | fn => exact tail hp
theorem viewsOf_mem : ∀ p ∈ viewsOf T sg o, p.1 ∈ o.op.operands := by
  intro p hp
  unfold viewsOf at hp
  split at hp
  · rename_i args ts hop
    split at hp
    · rename_i x y t t' ha ht
      split at hp
      · rw [List.mem_singleton.1 hp, hop, list2 ha]; simp [Op.operands, Call.operands]
      · cases hp
    · cases hp
  · rename_i args ts hop
    split at hp
    · rename_i x y t t' ha ht
      split at hp
      · rw [List.mem_singleton.1 hp, hop, list2 ha]; simp [Op.operands, Call.operands]
      · cases hp
    · cases hp
  · rename_i f args ts hop
    have := readPs_mem _ _ p hp
    rw [hop]
    simp only [Op.operands, Call.operands, Array.mem_append]
    exact .inr (by simpa using this)
  · cases hp
theorem oldK_opd (hg : ∀ t, Operand.tmp t ∈ o.op.operands → g t = g' t) (K : AV → Upd → Hp → Option R) : oldK T sg callF g rw d o h K = oldK T sg callF g' rw d o h K := by
  have hop : ∀ (g g' : Nat → Option AV), (∀ t, Operand.tmp t ∈ o.op.operands → g t = g' t) → ∀ ty x, x ∈ o.op.operands → opd T g ty x = opd T g' ty x := by
    intro g g' hg ty x hx
    cases x with
    | tmp t => exact hg t hx
    | const v => rfl
    | global _ => rfl
    | func _ => rfl
  unfold oldK
  split
  · exact oper_opd (hop g g' hg) _
  · congr 1
    refine views_congr (L := (o.op.operands.toList.filterMap fun x => match x with | .tmp t => some t | _ => none)) (fun g1 g2 rw1 h1 => oper_opd (hop g1 g2 fun t ht => h1 t ?_) _) _ _ _ _ _ (fun t ht => ?_) (fun p hp n hn => ?_)
    · exact List.mem_filterMap.2 ⟨.tmp t, by simpa using ht, rfl⟩
    · obtain ⟨x, hx, hxt⟩ := List.mem_filterMap.1 ht
      cases x <;> cases hxt
      exact hg t (by simpa using hx)
    · have := viewsOf_mem p hp
      rw [hn] at this
      exact List.mem_filterMap.2 ⟨.tmp n, by simpa using this, rfl⟩
set_option maxHeartbeats 1000000 in
/-- What an operation does hangs on its operands alone. -/
theorem oper2_opd (hg : ∀ t, Operand.tmp t ∈ o.op.operands → g t = g' t) (K : AV → Upd → Hp → Option R) : oper2 T sg callF g rw d o h K = oper2 T sg callF g' rw d o h K := by
  have hop : ∀ ty x, x ∈ o.op.operands → opd T g ty x = opd T g' ty x := by
    intro ty x hx
    cases x with
    | tmp t => exact hg t hx
    | const v => rfl
    | global _ => rfl
    | func _ => rfl
  have old := oldK_opd (T := T) (rw := rw) (d := d) (h := h) (sg := sg) (callF := callF) hg K
  unfold oper2
  split
  · rename_i s x hO
    rw [hop _ x (by rw [hO]; simp [Op.operands]), old]
  · rename_i s x y hO
    rw [hop _ x (by rw [hO]; simp [Op.operands]), old]
    simp only [opdH_congr (hop 0 y (by rw [hO]; simp [Op.operands]))]
  · rename_i x hO
    rw [hop _ x (by rw [hO]; simp [Op.operands]), old]
  · rename_i t x i hO
    rw [hop _ x (by rw [hO]; simp [Op.operands]), old, opdInt_congr (hop 0 i (by rw [hO]; simp [Op.operands]))]
  · rename_i s x j hO
    rw [hop _ x (by rw [hO]; simp [Op.operands]), old]
  · rename_i s x j hO
    rw [hop _ x (by rw [hO]; simp [Op.operands]), old]
  · rename_i t x lo hi mx hO
    have e1 := loOf_congr (T := T) (g := g) (g' := g') (x := lo) (fun y hy => hop 0 y (by rw [hO, hy]; simp [Op.operands]))
    have e2 := hiOf_congr (T := T) (g := g) (g' := g') (x := hi) (fun y hy => hop 0 y (by rw [hO, hy]; simp [Op.operands]))
    rw [hop _ x (by rw [hO]; simp [Op.operands]), old, e1]
    simp only [e2]
    split
    · split
      · rfl
      · rename_i m _ _ _
        rw [opdInt_congr (hop 0 m (by rw [hO]; simp [Op.operands]))]
      · rfl
    · rfl
  · rename_i t ps hO
    have e : ∀ (ty : HTy), buildH T g ty ps.toList ty.zero = buildH T g' ty ps.toList ty.zero := fun ty => buildH_congr _ _ (fun p hp => hop 0 p.2 (by
      rw [hO]
      simp only [Op.operands, List.mem_toArray, List.mem_map]
      exact ⟨p, hp, rfl⟩))
    rw [old]
    simp only [e]
  · rename_i e x hO
    rw [old]
    simp only [opdH_congr (hop 0 x (by rw [hO]; simp [Op.operands]))]
  · rw [old]
  · rename_i t l c hO
    rw [old, opdInt_congr (hop 0 l (by rw [hO]; simp [Op.operands])), opdInt_congr (hop 0 c (by rw [hO]; simp [Op.operands]))]
  · rename_i t n ps hO
    have e : ∀ (ty : HTy), elemsH T g ty 0 ps.toList = elemsH T g' ty 0 ps.toList := fun ty => elemsH_congr _ _ (fun p hp => hop 0 p.2 (by
      rw [hO]
      simp only [Op.operands, List.mem_toArray, List.mem_map]
      exact ⟨p, hp, rfl⟩))
    rw [old]
    simp only [e]
  · rename_i op xt x y t hO
    rw [hop _ x (by rw [hO]; simp [Op.operands]), hop _ y (by rw [hO]; simp [Op.operands]), old]
  · rename_i x j hO
    rw [hop _ x (by rw [hO]; simp [Op.operands]), old]
  · rename_i xt x hO
    simp only [opdH_congr (hop 0 x (by rw [hO]; simp [Op.operands]))]
  · rename_i f first captured hO
    rw [capsH_congr captured.toList (fun x hx => hop 0 x (by rw [hO]; simp only [Op.operands, Array.mem_append]; exact .inr (by simpa using hx)))]
  · rename_i xt x hO
    rw [hop _ x (by rw [hO]; simp [Op.operands])]
  · rename_i it hO
    rw [hop _ it (by rw [hO]; simp [Op.operands])]
  · rename_i args ts hO
    split
    · rename_i x t ha ht
      rw [hop _ x (by rw [hO, list1 ha]; simp [Op.operands, Call.operands]), old]
    · rfl
  · rename_i args ts hO
    split
    · rename_i x y t t' ha ht
      rw [hop _ x (by rw [hO, list2 ha]; simp [Op.operands, Call.operands]), old]
      unfold srcC
      simp only [hop _ y (by rw [hO, list2 ha]; simp [Op.operands, Call.operands])]
    · rfl
  · rename_i f args ts hO
    rw [old, toArgs2_congr _ args.toList (fun x hx => hop 0 x (by
      rw [hO]
      simp only [Op.operands, Call.operands, Array.mem_append]
      exact .inr (by simpa using hx)))]
  · rename_i n args ts hO
    rw [hg n (by rw [hO]; simp [Op.operands, Call.operands])]
    split
    · exact dispF_congr (fun x hx => hop 0 x (by
        rw [hO]
        simp only [Op.operands, Call.operands, Array.mem_append]
        exact .inr (by simpa using hx))) _ _
    · rfl
  · rename_i x name args ts hO
    rw [hop _ x (by rw [hO]; simp [Op.operands, Call.operands])]
    split
    · exact dispI_congr (fun x hx => hop 0 x (by
        rw [hO]
        simp only [Op.operands, Call.operands, Array.mem_append]
        exact .inr (by simpa using hx))) _ _
    · rfl
  · rename_i src dst x hO
    rw [hop _ x (by rw [hO]; simp [Op.operands]), old]
  · exact old
end
end Go.Ev

/- Classes of operations, with the heap. -/
namespace Go.Ev
open Go.RowKit
section
variable {T : Tab} {sg : FuncId → Sig} {callF : (f : FuncId) → argL (sg f).ps → Option (retL (sg f).rs)} {R : Type} {g g' : Nat → Option AV} {rw rw' : RW} {d d' : Nat} {o : Oper} {h h' : Hp}
abbrev someR : AV → Upd → Hp → Option R2 := fun v us h => some (v, us, h)
def quiet2 (T : Tab) (o : Oper) : Bool := quiet T o && true
/-- Operations that make one row, not in the heap. -/
def makes2 (T : Tab) (o : Oper) : Bool := makes T o && !T.hs (dstN o.dst) && (match o.op with
  | .box e _ | .alloc e => (T.ty e).isSome
  | .buildSlice t _ _ | .makeSlice t _ _ => (T.sl t).isSome
  | .convert src _ _ => (T.sl src).isNone
  | _ => false)
def mk12 (T : Tab) (o : Oper) : Bool := mk1 T o && !T.hs (dstN o.dst)
theorem noRow_quiet0 (h : noRow o = true) : quiet T o = true := by
  unfold noRow at h
  unfold quiet
  split at h <;> first | (cases h; done) | skip
  all_goals (rename_i hop; simp only [hop])
theorem oldK_nil (hv : viewsOf T sg o = []) : oldK T sg callF g rw d o h someR = (oper1 T sg callF g rw d o).bind fun p => bif T.hs d then heapify h p.1 p.2 someR else some (p.1, p.2, h) := by
  unfold oldK
  rw [hv]
  exact oper_param _
theorem heapify_nil {v : AV} : heapify h v [] someR = none := by
  unfold heapify
  split <;> rfl
theorem oldK_quiet (hv : viewsOf T sg o = []) (hq : quiet T o = true) {v : AV} {us : Upd} (hr : oldK T sg callF g rw d o h someR = some (v, us, h')) : us = [] ∧ h' = h ∧ T.hs d = false ∧ oper1 T sg callF g rw d o = some (v, []) := by
  rw [oldK_nil hv] at hr
  cases h1 : oper1 T sg callF g rw d o with
  | none => rw [h1] at hr; cases hr
  | some p =>
    obtain ⟨v1, us1⟩ := p
    obtain rfl := quiet_nil hq h1
    rw [h1] at hr
    simp only [Option.bind_some] at hr
    cases hs : T.hs d with
    | true => rw [hs] at hr; rw [show (bif true then heapify h v1 [] someR else some (v1, [], h)) = heapify h v1 [] someR from rfl, heapify_nil] at hr; cases hr
    | false =>
      rw [hs] at hr
      cases hr
      exact ⟨rfl, rfl, rfl, rfl⟩
theorem oldK_of (hv : viewsOf T sg o = []) (hs : T.hs d = false) {v : AV} {us : Upd} (h1 : oper1 T sg callF g rw d o = some (v, us)) : oldK T sg callF g rw d o h someR = some (v, us, h) := by
  rw [oldK_nil hv, h1]
  simp only [Option.bind_some, hs]
  rfl
theorem noRow_views (hn : noRow o = true) : viewsOf T sg o = [] := by
  unfold noRow at hn
  unfold viewsOf
  split at hn <;> first | (cases hn; done) | skip
  all_goals (rename_i hop; simp only [hop])
theorem oldK_noRow (hn : noRow o = true) {v : AV} {us : Upd} (hr : oldK T sg callF g rw d o h someR = some (v, us, h')) : us = [] ∧ h' = h ∧ ∀ rw2 h2, oldK T sg callF g rw2 d o h2 someR = some (v, [], h2) := by
  have hv := noRow_views (T := T) (sg := sg) hn
  obtain ⟨e1, e2, e3, e4⟩ := oldK_quiet hv (noRow_quiet0 hn) hr
  refine ⟨e1, e2, fun rw2 h2 => oldK_of hv e3 ?_⟩
  rw [← e4]
  exact oper_noRow hn _
theorem nilEq_same {op : BinOp} {av : AV} {v : AV} {us : Upd} (hr : nilEq op av (fun v => some (v, ([] : Upd), h)) = some (v, us, h')) : us = [] ∧ h' = h ∧ ∀ h2 : Hp, nilEq op av (fun v => some (v, ([] : Upd), h2)) = some (v, [], h2) := by
  unfold nilEq at hr ⊢
  split at hr
  · obtain ⟨hc, hr⟩ := chk_some hr
    cases hr
    exact ⟨rfl, rfl, fun h2 => by rw [hc]; rfl⟩
  · obtain ⟨hc, hr⟩ := chk_some hr
    cases hr
    exact ⟨rfl, rfl, fun h2 => by rw [hc]; rfl⟩
  · cases hr; exact ⟨rfl, rfl, fun h2 => rfl⟩
  · cases hr; exact ⟨rfl, rfl, fun h2 => rfl⟩
  · cases hr; exact ⟨rfl, rfl, fun h2 => rfl⟩
  · cases hr; exact ⟨rfl, rfl, fun h2 => rfl⟩
  · cases hr
theorem noRow_spec2 (hn : noRow o = true) {v : AV} {us : Upd} (hr : oper2r T sg callF g rw d o h = some (v, us, h')) : us = [] ∧ h' = h ∧ ∀ rw2 h2, oper2r T sg callF g rw2 d o h2 = some (v, [], h2) := by
  have old := oldK_noRow (T := T) (sg := sg) (callF := callF) (g := g) (rw := rw) (d := d) (h := h) (h' := h') hn (v := v) (us := us)
  have hn' := hn
  unfold noRow at hn'
  unfold oper2r oper2 at hr ⊢
  split at hn' <;> first | (cases hn'; done) | skip
  all_goals (rename_i hop; simp only [hop] at hr ⊢; try exact old hr)
  · -- binOp
    split at hr
    · split at hr
      · obtain ⟨hb, hr⟩ := bif_some hr
        obtain ⟨e1, e2, e3⟩ := nilEq_same hr
        refine ⟨e1, e2, fun rw2 h2 => ?_⟩
        rw [hb]
        exact e3 h2
      · cases hr
    · split at hr
      · obtain ⟨hb, hr⟩ := bif_some hr
        obtain ⟨e1, e2, e3⟩ := nilEq_same hr
        refine ⟨e1, e2, fun rw2 h2 => ?_⟩
        rw [hb]
        exact e3 h2
      · cases hr
    · exact old hr
  · -- build
    split at hr
    · split at hr
      · cases hr
        exact ⟨rfl, rfl, fun _ _ => rfl⟩
      · cases hr
    · exact old hr
  · -- extract
    split at hr
    · split at hr
      · cases hr
        exact ⟨rfl, rfl, fun _ _ => rfl⟩
      · cases hr
    · exact old hr
  · -- field
    split at hr
    · split at hr
      · obtain ⟨hb, hr⟩ := bif_some hr
        split at hr
        · cases hr
          refine ⟨rfl, rfl, fun _ _ => ?_⟩
          rw [hb]
          rfl
        · cases hr
      · cases hr
    · exact old hr
  · -- nilCheck
    split at hr
    · obtain ⟨hb, hr⟩ := chk_some hr
      cases hr
      refine ⟨rfl, rfl, fun _ _ => ?_⟩
      rw [hb]
      rfl
    · obtain ⟨hb, hr⟩ := chk_some hr
      cases hr
      refine ⟨rfl, rfl, fun _ _ => ?_⟩
      rw [hb]
      rfl
    · exact old hr
theorem quiet2_views (hq : quiet2 T o = true) : viewsOf T sg o = [] := by
  unfold quiet2 at hq
  rw [Bool.and_eq_true] at hq
  obtain ⟨hq, hc⟩ := hq
  unfold quiet at hq
  unfold viewsOf
  split at hq <;> first | (cases hq; done) | skip
  all_goals (rename_i hop; simp only [hop])
theorem oldK_quiet2 (hq : quiet2 T o = true) {v : AV} {us : Upd} (hr : oldK T sg callF g rw d o h someR = some (v, us, h')) : us = [] ∧ h' = h ∧ ∀ rw2, WfS g rw → (∀ r, rw r ≠ none → rw2 r = rw r) → oldK T sg callF g rw2 d o h someR = some (v, [], h) := by
  have hv := quiet2_views (sg := sg) hq
  have hq0 : quiet T o = true := by unfold quiet2 at hq; rw [Bool.and_eq_true] at hq; exact hq.1
  obtain ⟨e1, e2, e3, e4⟩ := oldK_quiet hv hq0 hr
  refine ⟨e1, e2, fun rw2 hw hr2 => oldK_of hv e3 ?_⟩
  rw [← e4]
  exact quiet_same hq0 hw hr2 _
theorem quiet_spec2 (hq : quiet2 T o = true) {v : AV} {us : Upd} (hr : oper2r T sg callF g rw d o h = some (v, us, h')) : us = [] ∧ h' = h ∧ ∀ rw2, WfS g rw → (∀ r, rw r ≠ none → rw2 r = rw r) → oper2r T sg callF g rw2 d o h = some (v, [], h) := by
  have old := oldK_quiet2 (T := T) (sg := sg) (callF := callF) (g := g) (rw := rw) (d := d) (h := h) (h' := h') hq (v := v) (us := us)
  cases hn : noRow o with
  | true =>
    obtain ⟨e1, e2, e3⟩ := noRow_spec2 hn hr
    exact ⟨e1, e2, fun rw2 _ _ => e3 rw2 h⟩
  | false =>
    have hq' := hq
    unfold quiet2 at hq'
    rw [Bool.and_eq_true] at hq'
    replace hq' := hq'.1
    unfold quiet at hq'
    unfold oper2r oper2 at hr ⊢
    unfold noRow at hn
    split at hq' <;> first | (cases hq'; done) | skip
    all_goals (rename_i hop; simp only [hop] at hr ⊢; try exact old hr)
    all_goals (first | (simp only [hop] at hn; cases hn; done) | skip)
    · -- load
      split at hr
      · split at hr
        · rename_i q _ _ t ht
          cases hl : h.ld t q with
          | none => rw [hl] at hr; cases hr
          | some y =>
            rw [hl] at hr
            cases hr
            exact ⟨rfl, rfl, fun _ _ _ => rfl⟩
        · cases hr
      · exact old hr
    · -- indexAddr
      split at hr
      · split at hr
        · obtain ⟨c1, hr⟩ := chk_some hr
          obtain ⟨c2, hr⟩ := chk_some hr
          cases hr
          refine ⟨rfl, rfl, fun _ _ _ => ?_⟩
          rw [c1, c2]
          rfl
        · cases hr
      · exact old hr
    · -- fieldAddr
      split at hr
      · split at hr
        · split at hr
          · obtain ⟨c1, hr⟩ := chk_some hr
            cases hr
            refine ⟨rfl, rfl, fun _ _ _ => ?_⟩
            rw [c1]
            rfl
          · cases hr
        · cases hr
      · exact old hr
    · -- slice
      split at hr
      · split at hr
        · obtain ⟨c1, hr⟩ := chk_some hr
          obtain ⟨c2, hr⟩ := chk_some hr
          obtain ⟨c3, hr⟩ := chk_some hr
          cases hr
          refine ⟨rfl, rfl, fun _ _ _ => ?_⟩
          rw [c1, c2, c3]
          rfl
        · rename_i hm
          cases hm
        · cases hr
      · exact old hr
    · -- slice with its bound
      split at hr
      · split at hr
        · rename_i hm
          cases hm
        · rename_i hm
          cases hm
          split at hr
          · obtain ⟨c1, hr⟩ := chk_some hr
            obtain ⟨c2, hr⟩ := chk_some hr
            obtain ⟨c3, hr⟩ := chk_some hr
            obtain ⟨c4, hr⟩ := chk_some hr
            cases hr
            refine ⟨rfl, rfl, fun _ _ _ => ?_⟩
            rw [c1, c2, c3, c4]
            rfl
          · cases hr
        · cases hr
      · exact old hr
    · -- convert
      split at hr
      · rename_i p hx
        split at hr
        · cases hl : h.rd (.int .i32) p with
          | none => rw [hl] at hr; cases hr
          | some xs =>
            rw [hl] at hr
            cases hr
            exact ⟨rfl, rfl, fun _ _ _ => rfl⟩
        · cases hl : h.rd (.int .u8) p with
          | none => rw [hl] at hr; cases hr
          | some xs =>
            rw [hl] at hr
            cases hr
            exact ⟨rfl, rfl, fun _ _ _ => rfl⟩
        · cases hr
      · split at hr
        · rename_i hsrc _ _
          simp_all
        · exact old hr
      · exact old hr
    · -- len
      split at hr
      · split at hr
        · split at hr
          · cases hr
            exact ⟨rfl, rfl, fun _ _ _ => rfl⟩
          · cases hr
        · split at hr
          · cases hr
            exact ⟨rfl, rfl, fun _ _ _ => rfl⟩
          · cases hr
        · exact old hr
      · cases hr
/-- Operations that hang on neither rows nor heap: those that read no row, and parts of slices that cannot be rows. -/
def noRow2 (T : Tab) (o : Oper) : Bool := noRow o || (match o.op with
  | .slice t _ _ _ _ => (T.sl t).isNone
  | _ => false)
theorem slice_indep {t : TypeId} {x : Operand} {L H M : Option Operand} (hop : o.op = .slice t x L H M) (hs : T.sl t = none) : oper1 T sg callF g rw d o = oper1 T sg callF g rw' d o := by
  unfold oper1 oper
  cases M with
  | none =>
    simp only [hop, hs]
  | some m => simp only [hop]
theorem noRow_spec3 (hn : noRow2 T o = true) {v : AV} {us : Upd} (hr : oper2r T sg callF g rw d o h = some (v, us, h')) : us = [] ∧ h' = h ∧ ∀ rw2 h2, oper2r T sg callF g rw2 d o h2 = some (v, [], h2) := by
  unfold noRow2 at hn
  rw [Bool.or_eq_true] at hn
  rcases hn with hn | hn
  · exact noRow_spec2 hn hr
  · split at hn
    · rename_i t x L H M hop
      have hs := Option.isNone_iff_eq_none.1 hn
      have hq : quiet T o = true := by unfold quiet; cases M <;> simp only [hop]
      have hv : viewsOf T sg o = [] := by unfold viewsOf; simp only [hop]
      have old : ∀ {v : AV} {us : Upd}, oldK T sg callF g rw d o h someR = some (v, us, h') → us = [] ∧ h' = h ∧ ∀ rw2 h2, oldK T sg callF g rw2 d o h2 someR = some (v, [], h2) := by
        intro v us hr
        obtain ⟨e1, e2, e3, e4⟩ := oldK_quiet hv hq hr
        exact ⟨e1, e2, fun rw2 h2 => oldK_of hv e3 (by rw [← e4]; exact slice_indep hop hs)⟩
      unfold oper2r oper2 at hr ⊢
      simp only [hop] at hr ⊢
      split at hr
      · split at hr
        · obtain ⟨c1, hr⟩ := chk_some hr
          obtain ⟨c2, hr⟩ := chk_some hr
          obtain ⟨c3, hr⟩ := chk_some hr
          cases hr
          refine ⟨rfl, rfl, fun _ _ => ?_⟩
          rw [c1, c2, c3]
          rfl
        · split at hr
          · obtain ⟨c1, hr⟩ := chk_some hr
            obtain ⟨c2, hr⟩ := chk_some hr
            obtain ⟨c3, hr⟩ := chk_some hr
            obtain ⟨c4, hr⟩ := chk_some hr
            cases hr
            refine ⟨rfl, rfl, fun _ _ => ?_⟩
            rw [c1, c2, c3, c4]
            rfl
          · cases hr
        · cases hr
      · exact old hr
    · cases hn
/-- Operations that make an object of the heap. -/
def push2 (T : Tab) (o : Oper) : Bool := match o.op with
  | .box e _ | .alloc e => (T.ty e).isNone || T.hs (dstN o.dst)
  | .buildSlice t _ _ | .makeSlice t _ _ => (T.sl t).isNone || T.hs (dstN o.dst)
  | _ => false
theorem push_noRow (hm : push2 T o = true) : noRow2 T o = false := by
  unfold push2 at hm
  unfold noRow2 noRow
  split at hm <;> first | (cases hm; done) | skip
  all_goals (rename_i hop; simp only [hop]; rfl)
theorem push_quiet (hm : push2 T o = true) : quiet2 T o = false := by
  unfold push2 at hm
  unfold quiet2 quiet
  split at hm <;> first | (cases hm; done) | skip
  all_goals (rename_i hop; simp only [hop]; rfl)
theorem push_makes (hm : push2 T o = true) : makes2 T o = false := by
  unfold push2 at hm
  unfold makes2
  split at hm <;> first | (cases hm; done) | skip
  all_goals (
    rename_i hop
    simp only [hop]
    rw [Bool.or_eq_true] at hm
    rcases hm with hm | hm
    · rw [Option.isNone_iff_eq_none.1 hm]; simp
    · rw [hm]; simp)
theorem push_mk1 (hm : push2 T o = true) : mk12 T o = false := by
  unfold push2 at hm
  unfold mk12 mk1
  split at hm <;> first | (cases hm; done) | skip
  all_goals (rename_i hop; simp only [hop]; simp)
theorem push_spec2 (hm : push2 T o = true) {v : AV} {us : Upd} (hr : oper2r T sg callF g rw (dstN o.dst) o h = some (v, us, h')) : us = [] ∧ ∃ q, h' = h.push q := by
  unfold push2 at hm
  unfold oper2r oper2 at hr
  generalize (dstN o.dst) = D at *
  split at hm <;> first | (cases hm; done) | skip
  all_goals (rename_i hop; simp only [hop] at hr; rw [Bool.or_eq_true] at hm)
  · split at hr
    · simp_all
    · split at hr
      · cases hr; exact ⟨rfl, _, rfl⟩
      · cases hr
    · cases hr
  · split at hr
    · simp_all
    · cases hr; exact ⟨rfl, _, rfl⟩
    · cases hr
  · split at hr
    · simp_all
    · split at hr
      · obtain ⟨_, hr⟩ := bif_some hr
        cases hr; exact ⟨rfl, _, rfl⟩
      · cases hr
    · cases hr
  · split at hr
    · simp_all
    · split at hr
      · obtain ⟨_, hr⟩ := chk_some hr
        obtain ⟨_, hr⟩ := chk_some hr
        obtain ⟨_, hr⟩ := chk_some hr
        cases hr; exact ⟨rfl, _, rfl⟩
      · cases hr
    · cases hr
theorem cl_push {q : Obj} (hn : h.ob h.nx = none) {n : Nat} {cs : List Cell} (hc : h.cl n = some cs) : (h.push q).cl n = some cs := by
  unfold Hp.cl at hc ⊢
  have hne : n ≠ h.nx := by
    rintro rfl
    rw [hn] at hc
    cases hc
  rw [push_ob, if_neg hne]
  exact hc
theorem ld_push {q : Obj} (hn : h.ob h.nx = none) {t : HTy} {p : Pf} {y : t.den} (hl : h.ld t p = some y) : (h.push q).ld t p = some y := by
  cases p with
  | nil => cases hl
  | «at» n o =>
    unfold Hp.ld at hl ⊢
    dsimp only at hl ⊢
    split at hl
    · rename_i cs hc
      rw [cl_push hn hc]
      exact hl
    · cases hl
theorem rd_push {q : Obj} (hn : h.ob h.nx = none) {t : Ty} {r : Rf} {xs : List t.den} (hl : h.rd t r = some xs) : (h.push q).rd t r = some xs := by
  cases r with
  | nil => exact hl
  | «at» n k len =>
    unfold Hp.rd at hl ⊢
    dsimp only at hl ⊢
    split at hl
    · rename_i cs hc
      rw [cl_push hn hc]
      exact hl
    · cases hl
theorem quiet_push (hq : quiet2 T o = true) (hnx : h.ob h.nx = none) {v : AV} {us : Upd} (hr : oper2r T sg callF g rw d o h = some (v, us, h')) (q : Obj) : oper2r T sg callF g rw d o (h.push q) = some (v, [], h.push q) := by
  have hv := quiet2_views (sg := sg) hq
  have old : ∀ {v : AV} {us : Upd}, oldK T sg callF g rw d o h someR = some (v, us, h') → oldK T sg callF g rw d o (h.push q) someR = some (v, [], h.push q) := by
    intro v us hr
    have hq0 : quiet T o = true := by unfold quiet2 at hq; rw [Bool.and_eq_true] at hq; exact hq.1
    obtain ⟨e1, e2, e3, e4⟩ := oldK_quiet hv hq0 hr
    exact oldK_of hv e3 e4
  cases hn : noRow o with
  | true =>
    obtain ⟨e1, e2, e3⟩ := noRow_spec2 hn hr
    exact e3 rw _
  | false =>
    have hq' := hq
    unfold quiet2 at hq'
    rw [Bool.and_eq_true] at hq'
    replace hq' := hq'.1
    unfold quiet at hq'
    unfold oper2r oper2 at hr ⊢
    unfold noRow at hn
    split at hq' <;> first | (cases hq'; done) | skip
    all_goals (rename_i hop; simp only [hop] at hr ⊢; try exact old hr)
    all_goals (first | (simp only [hop] at hn; cases hn; done) | skip)
    · -- load
      split at hr
      · split at hr
        · rename_i p _ _ t ht
          cases hl : h.ld t p with
          | none => rw [hl] at hr; cases hr
          | some y =>
            rw [hl] at hr
            cases hr
            rw [ld_push hnx hl]
            rfl
        · cases hr
      · exact old hr
    · -- indexAddr
      split at hr
      · split at hr
        · obtain ⟨c1, hr⟩ := chk_some hr
          obtain ⟨c2, hr⟩ := chk_some hr
          cases hr
          rw [c1, c2]
          rfl
        · cases hr
      · exact old hr
    · -- fieldAddr
      split at hr
      · split at hr
        · split at hr
          · obtain ⟨c1, hr⟩ := chk_some hr
            cases hr
            rw [c1]
            rfl
          · cases hr
        · cases hr
      · exact old hr
    · -- slice
      split at hr
      · split at hr
        · obtain ⟨c1, hr⟩ := chk_some hr
          obtain ⟨c2, hr⟩ := chk_some hr
          obtain ⟨c3, hr⟩ := chk_some hr
          cases hr
          rw [c1, c2, c3]
          rfl
        · rename_i hm
          cases hm
        · cases hr
      · exact old hr
    · -- slice with its bound
      split at hr
      · split at hr
        · rename_i hm
          cases hm
        · rename_i hm
          cases hm
          split at hr
          · obtain ⟨c1, hr⟩ := chk_some hr
            obtain ⟨c2, hr⟩ := chk_some hr
            obtain ⟨c3, hr⟩ := chk_some hr
            obtain ⟨c4, hr⟩ := chk_some hr
            cases hr
            rw [c1, c2, c3, c4]
            rfl
          · cases hr
        · cases hr
      · exact old hr
    · -- convert
      split at hr
      · rename_i p hx
        split at hr
        · cases hl : h.rd (.int .i32) p with
          | none => rw [hl] at hr; cases hr
          | some xs =>
            rw [hl] at hr
            cases hr
            rw [rd_push hnx hl]
            rfl
        · cases hl : h.rd (.int .u8) p with
          | none => rw [hl] at hr; cases hr
          | some xs =>
            rw [hl] at hr
            cases hr
            rw [rd_push hnx hl]
            rfl
        · cases hr
      · split at hr
        · rename_i hsrc _ _
          simp_all
        · exact old hr
      · exact old hr
    · -- len
      split at hr
      · split at hr
        · split at hr
          · cases hr
            rfl
          · cases hr
        · split at hr
          · cases hr
            rfl
          · cases hr
        · exact old hr
      · cases hr
theorem makes_spec2 (hm : makes2 T o = true) {v : AV} {us : Upd} (hr : oper2r T sg callF g rw (dstN o.dst) o h = some (v, us, h')) :
    ∃ x, us = [((dstN o.dst), some x)] ∧ rw (dstN o.dst) = none ∧ h' = h ∧ ∀ rw2 h2, rw2 (dstN o.dst) = none → oper2r T sg callF g rw2 (dstN o.dst) o h2 = some (v, us, h2) := by
  unfold makes2 at hm
  rw [Bool.and_eq_true, Bool.and_eq_true, Bool.not_eq_true'] at hm
  obtain ⟨⟨hm, hs⟩, hk⟩ := hm
  generalize (dstN o.dst) = D at *
  have key : viewsOf T sg o = [] ∧ ∀ rw h, oper2r T sg callF g rw D o h = oldK T sg callF g rw D o h someR := by
    unfold oper2r oper2 viewsOf
    unfold makes at hm
    rw [Bool.and_eq_true] at hm
    replace hm := hm.2
    split at hm <;> first | (cases hm; done) | skip
    all_goals (rename_i hop; simp only [hop] at hk ⊢)
    · obtain ⟨t, ht⟩ := Option.isSome_iff_exists.1 hk
      rw [ht, hs]
      exact ⟨trivial, fun _ _ => rfl⟩
    · obtain ⟨t, ht⟩ := Option.isSome_iff_exists.1 hk
      rw [ht, hs]
      exact ⟨trivial, fun _ _ => rfl⟩
    · obtain ⟨t, ht⟩ := Option.isSome_iff_exists.1 hk
      rw [ht, hs]
      exact ⟨trivial, fun _ _ => rfl⟩
    · obtain ⟨t, ht⟩ := Option.isSome_iff_exists.1 hk
      rw [ht, hs]
      exact ⟨trivial, fun _ _ => rfl⟩
    · rename_i src dst x _
      have hsl := Option.isNone_iff_eq_none.1 hk
      refine ⟨trivial, fun rw h => ?_⟩
      split
      · rename_i r hx
        have hv : viewsOf T sg o = [] := by unfold viewsOf; simp only [hop]
        have h1 : oper1 T sg callF g rw D o = none := by
          unfold oper1 oper
          simp only [hop, hx, hsl]
          rw [show listOf rw (AV.h HTy.sr r) = none from rfl]
          split <;> first | rfl | (rename_i hz; cases hz; done) | simp_all
        rw [oldK_nil hv, h1]
        simp only [hsl]
        rfl
      · rw [hs]
      · rfl
  obtain ⟨hv, key⟩ := key
  rw [key, oldK_nil hv] at hr
  cases h1 : oper1 T sg callF g rw D o with
  | none => rw [h1] at hr; cases hr
  | some p =>
    obtain ⟨v1, us1⟩ := p
    rw [h1] at hr
    simp only [Option.bind_some, hs] at hr
    cases hr
    obtain ⟨x, e1, e2, e3⟩ := makes_spec hm h1
    refine ⟨x, e1, e2, rfl, fun rw2 h2 hd => ?_⟩
    rw [key]
    exact oldK_of hv hs (e3 rw2 hd)
theorem oldK_same (hq : quiet2 T o = true) (hw : WfS g rw) (hr : ∀ r, rw r ≠ none → rw' r = rw r) : oldK T sg callF g rw' d o h someR = oldK T sg callF g rw d o h someR := by
  have hq0 : quiet T o = true := by unfold quiet2 at hq; rw [Bool.and_eq_true] at hq; exact hq.1
  have hv := quiet2_views (sg := sg) hq
  rw [oldK_nil hv, oldK_nil hv, show oper1 T sg callF g rw' d o = oper1 T sg callF g rw d o from quiet_same hq0 hw hr _]
theorem quiet_same2 (hq : quiet2 T o = true) (hw : WfS g rw) (hr : ∀ r, rw r ≠ none → rw' r = rw r) : oper2r T sg callF g rw' d o h = oper2r T sg callF g rw d o h := by
  have old := oldK_same (sg := sg) (callF := callF) (d := d) (h := h) hq hw hr
  have hq' := hq
  unfold quiet2 at hq'
  rw [Bool.and_eq_true] at hq'
  replace hq' := hq'.1
  unfold quiet at hq'
  unfold oper2r oper2
  split at hq' <;> first | (cases hq'; done) | skip
  all_goals (rename_i hop; simp only [hop, old])
/-! ### names -/
theorem resOf2_names (l : List AC) : ∀ r ∈ names (resOf2 l), r ∈ l.flatMap namesC := by
  intro r hr
  unfold resOf2 at hr
  split at hr
  · cases hr
  · simpa [names, namesC] using hr
  · simpa [names, namesC] using hr
  · cases hr
  · exact hr
theorem hcall_names {f : FuncId} {x : Option (argL (strip (sg f).ps) × Upd × List Nat)} {v : AV} {us : Upd} (hr : hcall sg callF rw d f h someR x = some (v, us, h')) : ∀ r ∈ names v, updF rw us r ≠ none := by
  unfold hcall at hr
  split at hr
  · rename_i ds us0 rs
    cases hc : callF f (addH (sg f).ps h ds) with
    | none => rw [hc] at hr; cases hr
    | some rr =>
      rw [hc] at hr
      simp only [Option.bind_some] at hr
      obtain ⟨_, hr⟩ := bif_some hr
      cases hr
      intro r hr
      obtain ⟨c, hc, hrc⟩ := List.mem_flatMap.1 (resOf2_names _ r hr)
      exact updF_used rw _ (.inr (given_app _ _ (parts_names _ _ _ c hc r hrc)))
  · cases hr
theorem pcall_names {f : FuncId} {x : Option (argL (sg f).ps × Upd × List Nat)} {v : AV} {us : Upd} (hr : pcall sg callF rw d f h someR x = some (v, us, h')) : ∀ r ∈ names v, updF rw us r ≠ none := by
  unfold pcall at hr
  split at hr
  · rename_i ds us0 rs
    obtain ⟨_, hr⟩ := bif_some hr
    cases hc : callF f ds with
    | none => rw [hc] at hr; cases hr
    | some rr =>
      rw [hc] at hr
      simp only [Option.bind_some] at hr
      obtain ⟨_, hr⟩ := bif_some hr
      cases hr
      intro r hr
      obtain ⟨c, hc, hrc⟩ := List.mem_flatMap.1 (resOf_names _ r hr)
      exact updF_used rw _ (.inr (given_app _ _ (parts_names _ _ _ c hc r hrc)))
  · cases hr
theorem dispF_names {f : Nat} {caps : List Pf} {args : List Operand} {v : AV} {us : Upd} : ∀ {l : List FuncId}, dispF T sg callF g rw d f caps args h someR l = some (v, us, h') → ∀ r ∈ names v, updF rw us r ≠ none
  | [], hr => by cases hr
  | q :: l, hr => by
    unfold dispF at hr
    cases hb : Nat.beq f q with
    | false => rw [hb] at hr; exact dispF_names (l := l) hr
    | true =>
      rw [hb] at hr
      cases hh : hasHp (sg q).ps with
      | true =>
        rw [hh] at hr
        have hr : (bif Nat.beq (strip (sg q).ps).length args.length then chk (nilC caps) (hcall sg callF rw d q h someR (toArgs3 T g rw [] (strip (sg q).ps) args)) else hcall sg callF rw d q h someR (toArgs3 T g rw caps (strip (sg q).ps) args)) = some (v, us, h') := hr
        cases hl : Nat.beq (strip (sg q).ps).length args.length with
        | true => rw [hl] at hr; exact hcall_names (chk_some (show chk (nilC caps) _ = some (v, us, h') from hr)).2
        | false => rw [hl] at hr; exact hcall_names hr
      | false =>
        rw [hh] at hr
        cases caps with
        | nil => exact pcall_names hr
        | cons _ _ => cases hr
theorem dispI_names {i : If} {args : List Operand} {v : AV} {us : Upd} : ∀ {l : List (TypeId × FuncId)}, dispI T sg callF g rw d i args h someR l = some (v, us, h') → ∀ r ∈ names v, updF rw us r ≠ none
  | [], hr => by cases hr
  | (t, f) :: l, hr => by
    unfold dispI at hr
    cases hb : itag t i with
    | false => rw [hb] at hr; exact dispI_names (l := l) hr
    | true =>
      rw [hb] at hr
      have hr := (bif_some (show (bif hasHp (sg f).ps then ((recvS t i (strip (sg f).ps)).bind fun y => hcall sg callF rw d f h someR (invY T g rw (strip (sg f).ps) y args)) else none) = some (v, us, h') from hr)).2
      rw [inv_eq] at hr
      exact hcall_names hr
theorem avOf_names (t : HTy) (x : t.den) : ∀ r, r ∉ names (avOf t x) := by
  intro r hr
  cases t <;> cases hr
theorem acAV_names (c : AC) : ∀ r ∈ names (acAV c), r ∈ namesC c := by
  intro r hr
  cases c with
  | v t x => cases hr
  | sl q => exact hr
  | pt q => exact hr
  | h t x => cases hr
end
end Go.Ev

/- Regions that draw their order. -/
namespace Go.Ev
open Go.RowKit
def opnds : Op → List Operand
  | .pick c a b => [c, a, b]
  | .build _ ps | .buildSlice _ _ ps => ps.toList.map (·.2)
  | .call { callee := .builtin _, args, .. } => args.toList
  | .call { callee := .value f, args, .. } => f :: args.toList
  | .move x | .assign x | .box _ x | .load _ x | .nilCheck x | .unOp _ _ x | .convert _ _ x | .fieldAddr _ x _ | .field _ x _ | .extract x _ => [x]
  | .store _ a v | .binOp _ _ a v _ | .indexAddr _ a v | .index _ a v => [a, v]
  | op => op.operands.toList
theorem opnds_eq (op : Op) : op.operands.toList = opnds op := by
  unfold opnds
  split <;> simp [Op.operands, Call.operands]
def tmpsOf : List Operand → List Nat
  | [] => []
  | .tmp t :: l => t :: tmpsOf l
  | _ :: l => tmpsOf l
theorem mem_tmpsOf {t : Nat} : ∀ {l : List Operand}, Operand.tmp t ∈ l → t ∈ tmpsOf l
  | x :: l, h => by
    rcases List.mem_cons.1 h with h | h
    · subst h
      exact List.mem_cons_self
    · have := mem_tmpsOf h
      cases x <;> first | exact this | exact List.mem_cons_of_mem _ this
/-- What an operation looks at: its operands, its guard. -/
def looks (all : List Oper) (o : Oper) : List Nat := (match o.guard with
  | some (j, _) => (match guardS all j with
    | some d => [d]
    | none => [])
  | none => []) ++ tmpsOf (opnds o.op)
def dstIn (d : Option Nat) (l : List Nat) : Bool := match d with
  | some d => mem d l
  | none => false
def dstEq : Option Nat → Option Nat → Bool
  | some d, some e => Nat.beq d e
  | _, _ => false
def swapOk (T : Tab) (all : List Oper) (x y : Oper) : Bool :=
  !dstIn x.dst (looks all y) && !dstIn y.dst (looks all x) && !dstEq x.dst y.dst && (noRow2 T x || noRow2 T y || (quiet2 T x && quiet2 T y) || (makes2 T x && quiet2 T y) || (quiet2 T x && makes2 T y) || (makes2 T x && makes2 T y) || (mk12 T x && quiet2 T y) || (quiet2 T x && mk12 T y) || (quiet2 T x && push2 T y))
def maskOf (acc : List Nat) : List Edge → Nat → Nat
  | [], s => s
  | e :: l, s => maskOf acc l (bif Region.binds .any e then (s ||| 2 ^ e.on) ||| acc.getD e.on 0 else s)
def depsLt (n : Nat) : List Edge → Bool
  | [] => true
  | e :: l => (!Region.binds .any e || Nat.blt e.on n) && depsLt n l
def pairsOk (T : Tab) (all : List Oper) : List Oper → Nat → Nat → Oper → Bool
  | [], _, _, _ => true
  | p :: ps, i, m, o => (Nat.testBit m i || swapOk T all p o) && pairsOk T all ps (i + 1) m o
def ordGo (T : Tab) (all : List Oper) : List Oper → List Oper → List Nat → Bool
  | [], _, _ => true
  | o :: l, done, ms => depsLt done.length o.after.toList && pairsOk T all done 0 (maskOf ms o.after.toList 0) o && ordGo T all l (done ++ [o]) (ms ++ [maskOf ms o.after.toList 0])
def drawOk (T : Tab) (all : List Oper) : Bool := ordGo T all all [] []
/-- i must be listed ahead of j. -/
inductive Anc (l : List Oper) : Nat → Nat → Prop
  | one {i j : Nat} {o : Oper} {e : Edge} (ho : l[j]? = some o) (he : e ∈ o.after) (hb : Region.binds .any e = true) (hi : e.on = i) : Anc l i j
  | more {i j k : Nat} {o : Oper} {e : Edge} (ho : l[j]? = some o) (he : e ∈ o.after) (hb : Region.binds .any e = true) (hi : e.on = k) (h : Anc l i k) : Anc l i j
theorem maskOf_spec {acc : List Nat} {i : Nat} : ∀ (es : List Edge) (s : Nat), Nat.testBit (maskOf acc es s) i = true → Nat.testBit s i = true ∨ ∃ e ∈ es, Region.binds .any e = true ∧ (e.on = i ∨ Nat.testBit (acc.getD e.on 0) i = true)
  | [], s, h => .inl h
  | e :: es, s, h => by
    unfold maskOf at h
    rcases maskOf_spec es _ h with h | ⟨e', he', hb, h⟩
    · cases hb : Region.binds .any e with
      | false => rw [hb] at h; exact .inl h
      | true =>
        rw [hb] at h
        simp only [cond_true, Nat.testBit_or, Bool.or_eq_true] at h
        rcases h with (h | h) | h
        · exact .inl h
        · refine .inr ⟨e, by simp, hb, .inl ?_⟩
          rw [Nat.testBit_two_pow] at h
          exact of_decide_eq_true h
        · exact .inr ⟨e, by simp, hb, .inr h⟩
    · exact .inr ⟨e', List.mem_cons_of_mem _ he', hb, h⟩
theorem depsLt_spec {n : Nat} : ∀ {es : List Edge}, depsLt n es = true → ∀ e ∈ es, Region.binds .any e = true → e.on < n
  | [], _, _, h, _ => by cases h
  | e :: es, h, e', he', hb => by
    unfold depsLt at h
    rw [Bool.and_eq_true] at h
    rcases List.mem_cons.1 he' with he' | he'
    · subst he'
      have := h.1
      rw [hb] at this
      simpa [Nat.blt_eq] using this
    · exact depsLt_spec h.2 e' he' hb
theorem pairsOk_spec {T : Tab} {all : List Oper} {m : Nat} {o : Oper} : ∀ {ps : List Oper} {k : Nat}, pairsOk T all ps k m o = true → ∀ i p, ps[i]? = some p → Nat.testBit m (k + i) = true ∨ swapOk T all p o = true
  | [], _, _, _, _, h => by simp at h
  | p :: ps, k, h, i, q, hq => by
    unfold pairsOk at h
    rw [Bool.and_eq_true, Bool.or_eq_true] at h
    cases i with
    | zero =>
      have hq : p = q := by simpa using hq
      subst hq
      exact h.1
    | succ i =>
      have := pairsOk_spec h.2 i q (by simpa using hq)
      rwa [show k + 1 + i = k + (i + 1) by omega] at this
theorem ordGo_spec {T : Tab} {all : List Oper} : ∀ (rest done : List Oper) (ms : List Nat), all = done ++ rest → ms.length = done.length →
    (∀ j i, j < done.length → Nat.testBit (ms.getD j 0) i = true → Anc all i j) → (∀ i j p q, i < j → all[i]? = some p → all[j]? = some q → j < done.length → Anc all i j ∨ swapOk T all p q = true) →
    (∀ j q, all[j]? = some q → j < done.length → ∀ e ∈ q.after, Region.binds .any e = true → e.on < j) → ordGo T all rest done ms = true →
    (∀ i j p q, i < j → all[i]? = some p → all[j]? = some q → Anc all i j ∨ swapOk T all p q = true) ∧ (∀ j q, all[j]? = some q → ∀ e ∈ q.after, Region.binds .any e = true → e.on < j)
  | [], done, ms, hall, _, _, h2, h3, _ => by
    rw [List.append_nil] at hall
    subst hall
    exact ⟨fun i j p q hij hp hq => h2 i j p q hij hp hq (List.getElem?_eq_some_iff.1 hq).1, fun j q hq => h3 j q hq (List.getElem?_eq_some_iff.1 hq).1⟩
  | o :: l, done, ms, hall, hlen, h1, h2, h3, h => by
    unfold ordGo at h
    rw [Bool.and_eq_true, Bool.and_eq_true] at h
    obtain ⟨⟨ha, hb⟩, hc⟩ := h
    have ho : all[done.length]? = some o := by rw [hall]; simp
    have hdeps : ∀ e ∈ o.after, Region.binds .any e = true → e.on < done.length := fun e he hbd => depsLt_spec ha e (by simpa using he) hbd
    have hmask : ∀ i, Nat.testBit (maskOf ms o.after.toList 0) i = true → Anc all i done.length := by
      intro i hi
      rcases maskOf_spec _ _ hi with h0 | ⟨e, he, hbd, h0⟩
      · simp at h0
      · have he' : e ∈ o.after := by simpa using he
        rcases h0 with h0 | h0
        · exact .one ho he' hbd h0
        · exact .more ho he' hbd rfl (h1 e.on i (hdeps e he' hbd) h0)
    refine ordGo_spec l (done ++ [o]) _ (by rw [hall]; simp) (by simp [hlen]) (fun j i hj hi => ?_) (fun i j p q hij hp hq hj => ?_) (fun j q hq hj => ?_) hc
    · have hj : j < done.length ∨ j = done.length := by simp at hj; omega
      rcases hj with hj | rfl
      · refine h1 j i hj ?_
        rw [List.getD_eq_getElem?_getD, List.getElem?_append_left (by omega), ← List.getD_eq_getElem?_getD] at hi
        exact hi
      · rw [← hlen, List.getD_eq_getElem?_getD, List.getElem?_append_right (Nat.le_refl _)] at hi
        simp at hi
        exact hmask i hi
    · have hj : j < done.length ∨ j = done.length := by simp at hj; omega
      rcases hj with hj | rfl
      · exact h2 i j p q hij hp hq hj
      · rw [ho] at hq
        cases hq
        have hp' : done[i]? = some p := by
          rw [hall, List.getElem?_append_left hij] at hp
          exact hp
        rcases pairsOk_spec hb i p hp' with h0 | h0
        · rw [Nat.zero_add] at h0
          exact .inl (hmask i h0)
        · exact .inr h0
    · have hj : j < done.length ∨ j = done.length := by simp at hj; omega
      rcases hj with hj | rfl
      · exact h3 j q hq hj
      · rw [ho] at hq
        cases hq
        exact hdeps
theorem drawOk_spec {T : Tab} {all : List Oper} (h : drawOk T all = true) :
    (∀ i j p q, i < j → all[i]? = some p → all[j]? = some q → Anc all i j ∨ swapOk T all p q = true) ∧ (∀ j q, all[j]? = some q → ∀ e ∈ q.after, Region.binds .any e = true → e.on < j) :=
  ordGo_spec all [] [] rfl rfl (fun j i hj => by cases hj) (fun i j p q _ _ _ hj => by cases hj) (fun j q _ hj => by cases hj) h
end Go.Ev

/- Regions that draw their order are sound. -/
namespace Go.Ev
open Go.RowKit
abbrev FS := (Nat → Option AV) × RW × Hp
section
variable (T : Tab) (sg : FuncId → Sig) (callF : (f : FuncId) → argL (sg f).ps → Option (retL (sg f).rs))
def wantedE (all : List Oper) (o : Oper) (g : Nat → Option AV) : Option Bool := match o.guard with
  | none => some true
  | some (j, want) => (match guardS all j with
    | some d => (match g d with
      | some (.v .bool b) => some (want == b)
      | some .u => some false
      | _ => none)
    | none => none)
def res (all : List Oper) (o : Oper) (g : Nat → Option AV) (rw : RW) (h : Hp) : Option R2 := match wantedE all o g with
  | some true => oper2r T sg callF g rw (dstN o.dst) o h
  | some false => some (.u, [], h)
  | none => none
def putF (g : Nat → Option AV) (dst : Option Nat) (v : AV) : Nat → Option AV := match dst with
  | none => g
  | some d => fun n => if n = d then some v else g n
def runF (nt : Nat) (all : List Oper) (o : Oper) (f : FS) : Option FS := bif dstOk nt o.dst then (match res T sg callF all o f.1 f.2.1 f.2.2 with
  | some (v, us, h) => some (putF f.1 o.dst v, updF f.2.1 us, h)
  | none => none) else none
def seqF (nt : Nat) (all : List Oper) : List Oper → FS → Option FS
  | [], f => some f
  | o :: l, f => (match runF T sg callF nt all o f with
    | some f' => seqF nt all l f'
    | none => none)
end
section
variable {C : Ctx} {nt : Nat} {s : St} {w w' : World} {a : Act} {o : Oper} {R : Type} {sg : FuncId → Sig} {callF : (f : FuncId) → argL (sg f).ps → Option (retL (sg f).rs)} {T : Tab} {all : List Oper}
theorem look_putS (sl : List (Nat × AV)) (dst : Option Nat) (v : AV) : look (putS sl dst v) = putF (look sl) dst v := by
  cases dst with
  | none => rfl
  | some d => funext m; exact look_set sl d v m
theorem step_runF {K : St → Option R} {r : R} (h : step T sg callF false nt s o K = some r) : ∃ v us h', oper2r T sg callF (look s.sl) (look s.rows) (dstN o.dst) o s.hp = some (v, us, h') ∧ dstOk nt o.dst = true ∧ K ⟨putS s.sl o.dst v, upd s.rows us, h'⟩ = some r := by
  unfold step at h
  obtain ⟨hd, h⟩ := bif_some h
  have h : oper2 T sg callF (look s.sl) (look s.rows) (dstN o.dst) o s.hp (fun v us h => K ⟨putS s.sl o.dst v, upd s.rows us, h⟩) = some r := h
  rw [oper2_param] at h
  cases hq : oper2r T sg callF (look s.sl) (look s.rows) (dstN o.dst) o s.hp with
  | none => rw [hq] at h; cases h
  | some p =>
    rw [hq] at h
    obtain ⟨v, us, h'⟩ := p
    exact ⟨v, us, h', rfl, hd, h⟩
theorem ops_seqF : ∀ (l : List Oper) (s : St) {K : St → Option R} {r : R}, ops T sg callF false nt all l s K = some r →
    ∃ s', K s' = some r ∧ seqF T sg callF nt all l (look s.sl, look s.rows, s.hp) = some (look s'.sl, look s'.rows, s'.hp) ∧ ((s.sl.map Prod.fst).Nodup → (s'.sl.map Prod.fst).Nodup)
  | [], s, K, r, h => ⟨s, h, rfl, fun h => h⟩
  | o :: l, s, K, r, h => by
    have same : ∀ {d : Nat} {av : AV}, look s.sl d = some av → look (set s.sl d av) = look s.sl := by
      intro d av hd
      funext m
      rw [look_set]
      split
      · rename_i e
        rw [e, hd]
      · rfl
    have onStep : ∀ s1 : St, look s1.sl = look s.sl → s1.rows = s.rows → s1.hp = s.hp → ((s.sl.map Prod.fst).Nodup → (s1.sl.map Prod.fst).Nodup) → wantedE all o (look s.sl) = some true → step T sg callF false nt s1 o (fun s => ops T sg callF false nt all l s K) = some r →
        ∃ s', K s' = some r ∧ seqF T sg callF nt all (o :: l) (look s.sl, look s.rows, s.hp) = some (look s'.sl, look s'.rows, s'.hp) ∧ ((s.sl.map Prod.fst).Nodup → (s'.sl.map Prod.fst).Nodup) := by
      intro s1 e1 e2 e4 e3 hw h1
      obtain ⟨v, us, h', h2, hd, h3⟩ := step_runF h1
      obtain ⟨s', k1, k2, k3⟩ := ops_seqF l _ h3
      refine ⟨s', k1, ?_, fun hn => k3 (putS_keys _ _ (e3 hn))⟩
      rw [e1, e2, e4] at h2
      unfold seqF runF res
      simp only [hw, h2, hd, cond_true]
      rw [look_putS, look_upd, e1, e2] at k2
      exact k2
    have onSkip : ∀ s1 : St, look s1.sl = look s.sl → s1.rows = s.rows → s1.hp = s.hp → ((s.sl.map Prod.fst).Nodup → (s1.sl.map Prod.fst).Nodup) → wantedE all o (look s.sl) = some false → skipS nt s1 o (fun s => ops T sg callF false nt all l s K) = some r →
        ∃ s', K s' = some r ∧ seqF T sg callF nt all (o :: l) (look s.sl, look s.rows, s.hp) = some (look s'.sl, look s'.rows, s'.hp) ∧ ((s.sl.map Prod.fst).Nodup → (s'.sl.map Prod.fst).Nodup) := by
      intro s1 e1 e2 e4 e3 hw h1
      unfold skipS at h1
      obtain ⟨hd, h1⟩ := bif_some h1
      obtain ⟨s', k1, k2, k3⟩ := ops_seqF l _ h1
      refine ⟨s', k1, ?_, fun hn => k3 (putS_keys _ _ (e3 hn))⟩
      unfold seqF runF res
      simp only [hw, hd, cond_true, updF]
      rw [look_putS, e1, e2, e4] at k2
      exact k2
    unfold ops at h
    split at h
    · rename_i hg
      exact onStep s rfl rfl rfl (fun h => h) (by unfold wantedE; simp only [hg]) h
    · rename_i j want hg
      split at h
      · rename_i d hgd
        split at h
        · rename_i b hb
          have hw : wantedE all o (look s.sl) = some (want == b) := by unfold wantedE; simp only [hg, hgd, hb]
          cases want with
          | true =>
            rcases br_some h with ⟨rfl, h⟩ | ⟨rfl, h⟩
            · exact onStep ⟨set s.sl d (.v .bool true), s.rows, s.hp⟩ (same hb) rfl rfl (fun hn => (keys_set _ _ _ hn).1) hw h
            · exact onSkip ⟨set s.sl d (.v .bool false), s.rows, s.hp⟩ (same hb) rfl rfl (fun hn => (keys_set _ _ _ hn).1) hw h
          | false =>
            rcases br_some h with ⟨rfl, h⟩ | ⟨rfl, h⟩
            · exact onSkip ⟨set s.sl d (.v .bool true), s.rows, s.hp⟩ (same hb) rfl rfl (fun hn => (keys_set _ _ _ hn).1) hw h
            · exact onStep ⟨set s.sl d (.v .bool false), s.rows, s.hp⟩ (same hb) rfl rfl (fun hn => (keys_set _ _ _ hn).1) hw h
        · rename_i hu
          exact onSkip s rfl rfl rfl (fun h => h) (by unfold wantedE; simp only [hg, hgd, hu]) h
        · cases h
      · cases h
/-! ### two that change places -/
theorem res_congr {g g' : Nat → Option AV} {rw : RW} {h : Hp} (hg : ∀ t ∈ looks all o, g t = g' t) : res T sg callF all o g rw h = res T sg callF all o g' rw h := by
  have hw : wantedE all o g = wantedE all o g' := by
    unfold wantedE
    split
    · rfl
    · rename_i j want hgd
      split
      · rename_i d hd
        rw [hg d (by unfold looks; simp [hgd, hd])]
      · rfl
  unfold res oper2r
  rw [hw, oper2_opd (fun t ht => hg t (List.mem_append_right _ (mem_tmpsOf (by rw [← opnds_eq]; simpa using ht))))]
theorem res_noRow {g : Nat → Option AV} {rw : RW} {h h' : Hp} (hn : noRow2 T o = true) {v : AV} {us : Upd} (hr : res T sg callF all o g rw h = some (v, us, h')) : us = [] ∧ h' = h ∧ ∀ rw2 h2, res T sg callF all o g rw2 h2 = some (v, [], h2) := by
  unfold res at hr ⊢
  split at hr
  · exact noRow_spec3 hn hr
  · cases hr; exact ⟨rfl, rfl, fun _ _ => rfl⟩
  · cases hr
theorem res_quiet {g : Nat → Option AV} {rw : RW} {h h' : Hp} (hq : quiet2 T o = true) {v : AV} {us : Upd} (hr : res T sg callF all o g rw h = some (v, us, h')) : us = [] ∧ h' = h ∧ ∀ rw2, WfS g rw → (∀ r, rw r ≠ none → rw2 r = rw r) → res T sg callF all o g rw2 h = some (v, [], h) := by
  unfold res at hr ⊢
  split at hr
  · exact quiet_spec2 hq hr
  · cases hr; exact ⟨rfl, rfl, fun _ _ _ => rfl⟩
  · cases hr
theorem res_quiet_push {g : Nat → Option AV} {rw : RW} {h h' : Hp} (hq : quiet2 T o = true) (hn : h.ob h.nx = none) {v : AV} {us : Upd} (hr : res T sg callF all o g rw h = some (v, us, h')) (q : Obj) : res T sg callF all o g rw (h.push q) = some (v, [], h.push q) := by
  unfold res at hr ⊢
  split at hr
  · exact quiet_push hq hn hr q
  · cases hr; rfl
  · cases hr
theorem res_push {g : Nat → Option AV} {rw : RW} {h h' : Hp} (hm : push2 T o = true) {v : AV} {us : Upd} (hr : res T sg callF all o g rw h = some (v, us, h')) : us = [] ∧ (h' = h ∨ ∃ q, h' = h.push q) := by
  unfold res at hr
  split at hr
  · obtain ⟨e1, e2⟩ := push_spec2 hm hr
    exact ⟨e1, .inr e2⟩
  · cases hr; exact ⟨rfl, .inl rfl⟩
  · cases hr
theorem dstIn_spec {d : Option Nat} {l : List Nat} (h : dstIn d l = false) : ∀ t ∈ l, d ≠ some t := by
  rintro t ht rfl
  have : mem t l = false := h
  rw [(mem_iff t l).2 ht] at this
  cases this
theorem dstEq_spec {d e : Option Nat} (h : dstEq d e = false) : ∀ t, d = some t → e ≠ some t := by
  rintro t rfl rfl
  have : Nat.beq t t = false := h
  rw [Nat.beq_refl] at this
  cases this
theorem putF_ne {g : Nat → Option AV} {d : Option Nat} {v : AV} {t : Nat} (h : d ≠ some t) : putF g d v t = g t := by
  cases d with
  | none => rfl
  | some d =>
    show (if t = d then some v else g t) = g t
    rw [if_neg (fun e => h (by rw [e]))]
theorem putF_comm {g : Nat → Option AV} {d e : Option Nat} {v u2 : AV} (h : ∀ t, d = some t → e ≠ some t) : putF (putF g d v) e u2 = putF (putF g e u2) d v := by
  cases d with
  | none => rfl
  | some d =>
    cases e with
    | none => rfl
    | some e =>
      have hne : d ≠ e := fun he => h d rfl (by rw [he])
      funext n
      show (if n = e then some u2 else if n = d then some v else g n) = (if n = d then some v else if n = e then some u2 else g n)
      by_cases h1 : n = d
      · by_cases h2 : n = e
        · exact absurd (h1.symm.trans h2) hne
        · rw [if_neg h2, if_pos h1, if_pos h1]
      · rw [if_neg h1, if_neg h1]
theorem res_makes {g : Nat → Option AV} {rw : RW} {h h' : Hp} (hm : makes2 T o = true) {v : AV} {us : Upd} (hr : res T sg callF all o g rw h = some (v, us, h')) : h' = h ∧ (us = [] ∧ (∀ rw' h2, res T sg callF all o g rw' h2 = some (v, us, h2)) ∨ ∃ x, us = [(dstN o.dst, some x)] ∧ rw (dstN o.dst) = none ∧ ∀ rw' h2, rw' (dstN o.dst) = none → res T sg callF all o g rw' h2 = some (v, us, h2)) := by
  unfold res at hr ⊢
  split at hr
  · obtain ⟨x, e1, e2, e3, e4⟩ := makes_spec2 hm hr
    exact ⟨e3, .inr ⟨x, e1, e2, e4⟩⟩
  · cases hr; exact ⟨rfl, .inl ⟨rfl, fun _ _ => rfl⟩⟩
  · cases hr
theorem toArg_read {p : Par} {x : Operand} {y : p.den} {us : Upd} {T : Tab} {g : Nat → Option AV} {rw : RW} (hp : ∀ t e, p ≠ .own t e) (h : toArg T g rw p x = some (y, us)) : us = [] := by
  cases p with
  | v t =>
    simp only [toArg] at h
    split at h <;> cases h
    rfl
  | op => simp only [toArg] at h; cases h; rfl
  | hp => cases h
  | h t => cases h
  | fn => cases h
  | pt t e =>
    simp only [toArg] at h
    split at h
    · split at h
      · obtain ⟨_, h⟩ := bif_some h
        split at h <;> cases h
        rfl
      · cases h
    · cases h
  | read t e =>
    simp only [toArg] at h
    split at h
    · cases h; rfl
    · split at h
      · split at h
        · obtain ⟨_, h⟩ := bif_some h
          split at h <;> cases h
          rfl
        · cases h
      · cases h
  | own t e => exact absurd rfl (hp t e)
theorem toArgs_read {T : Tab} {g : Nat → Option AV} {rw : RW} : ∀ {ps : List Par} {l : List Operand} {ys : argL ps} {us : Upd} {rs : List Nat}, noOwn ps = true → toArgs T g rw ps l = some (ys, us, rs) → us = []
  | [], [], _, _, _, _, h => by cases h; rfl
  | [], _ :: _, _, _, _, _, h => by cases h
  | _ :: _, [], _, _, _, _, h => by cases h
  | p :: ps, x :: l, ys, us, rs, hn, h => by
    have hp : (∀ t e, p ≠ .own t e) ∧ noOwn ps = true := by
      cases p <;> first | exact ⟨fun _ _ e => (by cases e), hn⟩ | cases hn
    simp only [toArgs] at h
    split at h
    · rename_i y us1 ys1 vs rs1 h1 h2
      obtain ⟨_, h⟩ := bif_some h
      cases h
      rw [toArg_read hp.1 h1, toArgs_read hp.2 h2]
      rfl
    · cases h
theorem parts_one {R : List RTy} (r : retL R) {d : Nat} {rw : RW} (h : oneSl R = true) (hn : allNew rw (parts d R r).2 = true) : (parts d R r).2 = [] ∨ ∃ x, (parts d R r).2 = [(d, some x)] ∧ rw d = none := by
  cases R with
  | nil => cases h
  | cons t R =>
    cases R with
    | nil =>
      cases t with
      | v t => exact .inl rfl
      | pt t e => cases h
      | hp => cases h
      | h t => cases h
      | sl t e =>
        have : (isNew rw d && true) = true := hn
        exact .inr ⟨_, rfl, isNew_eq (by simpa using this)⟩
    | cons u R => cases t <;> cases h
theorem mk1_spec {g : Nat → Option AV} {rw : RW} {d : Nat} (h : mk1 T o = true) {v : AV} {us : Upd} (hr : oper1 T sg callF g rw d o = some (v, us)) : us = [] ∨ ∃ x, us = [(d, some x)] ∧ rw d = none := by
  unfold mk1 at h
  rw [Bool.and_eq_true] at h
  replace h := h.2
  unfold oper1 oper at hr
  split at h
  · rename_i f args ts hop
    simp only [hop] at hr
    obtain ⟨hc, hr⟩ := bif_some hr
    rw [h, Bool.and_eq_true] at hc
    have hsig : rdSig (sg f) = true := by simpa using hc.1
    unfold rdSig at hsig
    rw [Bool.and_eq_true] at hsig
    split at hr
    · rename_i ds us0 rs ha
      have hu := toArgs_read hsig.1 ha
      subst hu
      cases hcf : callF f ds with
      | none => rw [hcf] at hr; cases hr
      | some r =>
        rw [hcf] at hr
        simp only [Option.bind_some] at hr
        obtain ⟨hnew, hr⟩ := bif_some hr
        cases hr
        rcases parts_one r hsig.2 hnew with hx | ⟨x, hx, hd⟩
        · exact .inl (by rw [List.nil_append]; exact hx)
        · exact .inr ⟨x, by rw [List.nil_append]; exact hx, hd⟩
    · cases hr
  · cases h
theorem views_ex {h : Hp} {K : (Nat → Option AV) → RW → Option R} {r : R} : ∀ (l : List (Operand × Ty × TypeId)) (q : Nat) (g : Nat → Option AV) (rw : RW), views h q l g rw K = some r → ∃ g' rw', K g' rw' = some r ∧ ∀ m, rw' m = none → rw m = none
  | [], q, g, rw, hk => ⟨g, rw, hk, fun _ h => h⟩
  | (x, t, e) :: l, q, g, rw, hk => by
    have hset : ∀ xs m, setW rw q ⟨t, e, false, xs⟩ m = none → rw m = none := by
      intro xs m hm
      unfold setW at hm
      cases hb : Nat.beq m q with
      | true => rw [hb] at hm; cases hm
      | false => rw [hb] at hm; exact hm
    cases x with
    | tmp n =>
      simp only [views] at hk
      split at hk
      · rename_i rf _
        cases hrd : h.rd t rf with
        | none => rw [hrd] at hk; cases hk
        | some xs =>
          rw [hrd] at hk
          simp only [Option.bind_some] at hk
          obtain ⟨_, hk⟩ := bif_some hk
          obtain ⟨g', rw', h1, h2⟩ := views_ex l _ _ _ hk
          exact ⟨g', rw', h1, fun m hm => hset xs m (h2 m hm)⟩
      · rename_i rf _ _
        cases hrd : h.rd t rf with
        | none => rw [hrd] at hk; cases hk
        | some xs =>
          rw [hrd] at hk
          simp only [Option.bind_some] at hk
          obtain ⟨_, hk⟩ := bif_some hk
          obtain ⟨g', rw', h1, h2⟩ := views_ex l _ _ _ hk
          exact ⟨g', rw', h1, fun m hm => hset xs m (h2 m hm)⟩
      · exact views_ex l q g rw hk
    | const c => exact views_ex l q g rw hk
    | global c => exact views_ex l q g rw hk
    | func c => exact views_ex l q g rw hk
theorem mk12_spec {g : Nat → Option AV} {rw : RW} {h h' : Hp} (hm : mk12 T o = true) {v : AV} {us : Upd} (hr : oper2r T sg callF g rw (dstN o.dst) o h = some (v, us, h')) : h' = h ∧ (us = [] ∨ ∃ x, us = [(dstN o.dst, some x)] ∧ rw (dstN o.dst) = none) := by
  unfold mk12 at hm
  rw [Bool.and_eq_true, Bool.not_eq_true'] at hm
  obtain ⟨hm, hs⟩ := hm
  generalize dstN o.dst = D at *
  have hm1 := hm
  unfold mk1 at hm
  rw [Bool.and_eq_true] at hm
  replace hm := hm.2
  have hold : oldK T sg callF g rw D o h someR = some (v, us, h') := by
    unfold oper2r oper2 at hr
    split at hm
    · rename_i f args ts hop
      simp only [hop, hm] at hr
      cases hh : hasHp (sg f).ps with
      | true => rw [hh] at hr; cases hr
      | false => rw [hh] at hr; exact hr
    · cases hm
  unfold oldK at hold
  rw [hs] at hold
  split at hold
  · rw [oper_param] at hold
    cases h1 : oper1 T sg callF g rw D o with
    | none => rw [h1] at hold; cases hold
    | some p =>
      obtain ⟨v1, us1⟩ := p
      rw [h1] at hold
      cases hold
      exact ⟨rfl, mk1_spec hm1 h1⟩
  · obtain ⟨_, hold⟩ := bif_some hold
    obtain ⟨g', rw', h1, h2⟩ := views_ex _ _ _ _ hold
    rw [oper_param] at h1
    cases h3 : oper1 T sg callF g' rw' D o with
    | none => rw [h3] at h1; cases h1
    | some p =>
      obtain ⟨v1, us1⟩ := p
      rw [h3] at h1
      simp only [Option.bind_some] at h1
      obtain ⟨_, h1⟩ := bif_some h1
      cases h1
      rcases mk1_spec hm1 h3 with e1 | ⟨x, e1, e2⟩
      · exact ⟨rfl, .inl e1⟩
      · exact ⟨rfl, .inr ⟨x, e1, h2 _ e2⟩⟩
theorem res_mk1 {g : Nat → Option AV} {rw : RW} {h h' : Hp} (hm : mk12 T o = true) {v : AV} {us : Upd} (hr : res T sg callF all o g rw h = some (v, us, h')) : h' = h ∧ (us = [] ∨ ∃ x, us = [(dstN o.dst, some x)] ∧ rw (dstN o.dst) = none) := by
  unfold res at hr
  split at hr
  · exact mk12_spec hm hr
  · cases hr; exact ⟨rfl, .inl rfl⟩
  · cases hr
theorem oldK_names {g : Nat → Option AV} {rw : RW} {h h' : Hp} (hw : WfS g rw) {d : Nat} {v : AV} {us : Upd} (hr : oldK T sg callF g rw d o h someR = some (v, us, h')) : ∀ r ∈ names v, updF rw us r ≠ none := by
  have hif : ∀ {v1 : AV} {us1 : Upd}, (∀ r ∈ names v1, updF rw us1 r ≠ none) → (bif T.hs d then heapify h v1 us1 someR else someR v1 us1 h) = some (v, us, h') → ∀ r ∈ names v, updF rw us r ≠ none := by
    intro v1 us1 hn hk
    cases hb : T.hs d with
    | false => rw [hb] at hk; cases hk; exact hn
    | true =>
      rw [hb] at hk
      unfold heapify at hk
      simp only [cond_true] at hk
      split at hk
      · split at hk
        · obtain ⟨_, hk⟩ := bif_some hk
          cases hk
          intro r hr; cases hr
        · cases hk
      · cases hk
  unfold oldK at hr
  split at hr
  · rw [oper_param] at hr
    cases h1 : oper1 T sg callF g rw d o with
    | none => rw [h1] at hr; cases hr
    | some p =>
      obtain ⟨v1, us1⟩ := p
      rw [h1] at hr
      exact hif (oper_names hw h1) hr
  · rename_i l hl
    obtain ⟨_, hr⟩ := bif_some hr
    have key : ∀ (l : List (Operand × Ty × TypeId)) (q n : Nat) (g1 : Nat → Option AV) (rw1 : RW), (∀ n' av, g1 n' = some av → ∀ r ∈ names av, rw1 r ≠ none) → (∀ m, outV (viewQ + d) n m → rw1 m = rw m) → (∀ m, q ≤ m → m < q + l.length → ¬ outV (viewQ + d) n m) →
        views h q l g1 rw1 (fun g' rw' => oper T sg callF g' rw' d o fun v us => bif noView (viewQ + d) n v && noUs (viewQ + d) n us then (bif T.hs d then heapify h v us someR else someR v us h) else none) = some (v, us, h') → ∀ r ∈ names v, updF rw us r ≠ none := by
      intro l
      induction l with
      | nil =>
        intro q n g1 rw1 hw1 hk1 _ hv
        have hv : (oper T sg callF g1 rw1 d o fun v us => bif noView (viewQ + d) n v && noUs (viewQ + d) n us then (bif T.hs d then heapify h v us someR else someR v us h) else none) = some (v, us, h') := hv
        rw [oper_param] at hv
        cases h1 : oper1 T sg callF g1 rw1 d o with
        | none => rw [h1] at hv; cases hv
        | some p =>
          obtain ⟨v1, us1⟩ := p
          rw [h1] at hv
          simp only [Option.bind_some] at hv
          obtain ⟨hb, hv⟩ := bif_some hv
          rw [Bool.and_eq_true] at hb
          refine hif (fun r hr => ?_) hv
          have hn1 := oper_names hw1 h1 r hr
          have hout : outV (viewQ + d) n r := by
            have hnv := hb.1
            cases v1 with
            | sl q => rw [List.mem_singleton.1 hr]; exact outV_of hnv
            | cut q _ _ _ => rw [List.mem_singleton.1 hr]; exact outV_of hnv
            | ptr q _ => rw [List.mem_singleton.1 hr]; exact outV_of hnv
            | fptr q _ _ => rw [List.mem_singleton.1 hr]; exact outV_of hnv
            | tup l =>
              obtain ⟨c, hc, hrc⟩ := List.mem_flatMap.1 hr
              have h2 := List.all_eq_true.1 (show (l.all fun c => match c with
                | .v _ _ => true
                | .sl r => Nat.blt r (viewQ + d) || Nat.ble (viewQ + d + n) r
                | .pt r => Nat.blt r (viewQ + d) || Nat.ble (viewQ + d + n) r
                | .h _ _ => true) = true from hnv) c hc
              cases c with
              | v t x => cases hrc
              | sl q => rw [List.mem_singleton.1 hrc]; exact outV_of h2
              | pt q => rw [List.mem_singleton.1 hrc]; exact outV_of h2
              | h t x => cases hrc
            | ht l => cases hnv
            | v t x => cases hr
            | op => cases hr
            | nilS t e => cases hr
            | nilP => cases hr
            | u => cases hr
            | h t x => cases hr
            | hc r => cases hr
            | fn f c => cases hr
          have hsame : ∀ (us : Upd) (r1 r2 : RW), r1 r = r2 r → updF r1 us r = updF r2 us r := by
            intro us
            induction us with
            | nil => intro r1 r2 h; exact h
            | cons p us ih =>
              intro r1 r2 h
              obtain ⟨b, x⟩ := p
              refine ih _ _ ?_
              show (if r = b then some x else r1 r) = (if r = b then some x else r2 r)
              rw [h]
          rw [← hsame us1 rw1 rw (hk1 r hout)]
          exact hn1
      | cons p l ih =>
        obtain ⟨x, t, e⟩ := p
        intro q n g1 rw1 hw1 hk1 hq hv
        have hq1 : ∀ m, q + 1 ≤ m → m < q + 1 + l.length → ¬ outV (viewQ + d) n m := fun m h1 h2 => hq m (by omega) (by simp; omega)
        have hq2 : ∀ m, q ≤ m → m < q + l.length → ¬ outV (viewQ + d) n m := fun m h1 h2 => hq m h1 (by simp; omega)
        have hstep : ∀ (m' : Nat) (xs : List t.den), views h (q + 1) l (setG g1 m' (.sl q)) (setW rw1 q ⟨t, e, false, xs⟩) (fun g' rw' => oper T sg callF g' rw' d o fun v us => bif noView (viewQ + d) n v && noUs (viewQ + d) n us then (bif T.hs d then heapify h v us someR else someR v us h) else none) = some (v, us, h') → ∀ r ∈ names v, updF rw us r ≠ none := by
          intro m' xs hv
          have hs1 : ∀ m, m ≠ q → setW rw1 q ⟨t, e, false, xs⟩ m = rw1 m := by
            intro m hm
            unfold setW
            cases hb : Nat.beq m q with
            | true => exact absurd (Nat.eq_of_beq_eq_true hb) hm
            | false => rfl
          have hs2 : setW rw1 q ⟨t, e, false, xs⟩ q ≠ none := by
            unfold setW
            rw [Nat.beq_refl]
            simp
          refine ih (q + 1) n _ _ (fun n' av hav r hr => ?_) (fun m hm => ?_) hq1 hv
          · unfold setG at hav
            cases hb : Nat.beq n' m' with
            | true =>
              rw [hb] at hav
              cases hav
              rw [List.mem_singleton.1 hr]
              exact hs2
            | false =>
              rw [hb] at hav
              have := hw1 n' av hav r hr
              by_cases hrq : r = q
              · rw [hrq]; exact hs2
              · rw [hs1 r hrq]; exact this
          · rw [hs1 m (fun e => hq q (Nat.le_refl _) (by simp) (e ▸ hm))]
            exact hk1 m hm
        cases x with
        | tmp m' =>
          simp only [views] at hv
          split at hv
          · rename_i rf _
            cases hrd : h.rd t rf with
            | none => rw [hrd] at hv; cases hv
            | some xs =>
              rw [hrd] at hv
              simp only [Option.bind_some] at hv
              exact hstep m' xs (bif_some hv).2
          · rename_i rf _ _
            cases hrd : h.rd t rf with
            | none => rw [hrd] at hv; cases hv
            | some xs =>
              rw [hrd] at hv
              simp only [Option.bind_some] at hv
              exact hstep m' xs (bif_some hv).2
          · exact ih q n _ _ hw1 hk1 hq2 hv
        | const c => exact ih q n _ _ hw1 hk1 hq2 hv
        | global c => exact ih q n _ _ hw1 hk1 hq2 hv
        | func c => exact ih q n _ _ hw1 hk1 hq2 hv
    exact key _ (viewQ + d) _ g rw hw (fun _ _ => rfl) (fun m h1 h2 => by unfold outV; omega) hr
theorem makes_dst {x : Oper} (h : makes2 T x = true) : x.dst = some (dstN x.dst) := by
  unfold makes2 makes at h
  rw [Bool.and_eq_true, Bool.and_eq_true, Bool.and_eq_true] at h
  cases hd : x.dst with
  | none => rw [hd] at h; cases h.1.1.1
  | some d => rfl
/-- The names that a result tells of were used. -/
def NamesOk (T : Tab) (sg : FuncId → Sig) (callF : (f : FuncId) → argL (sg f).ps → Option (retL (sg f).rs)) : Prop := ∀ (o : Oper) (g : Nat → Option AV) (rw : RW) (d : Nat) (h h' : Hp) (v : AV) (us : Upd), WfS g rw → oper2r T sg callF g rw d o h = some (v, us, h') → ∀ r ∈ names v, updF rw us r ≠ none
theorem res_names (hN : NamesOk T sg callF) {g : Nat → Option AV} {rw : RW} {h h' : Hp} (hw : WfS g rw) {v : AV} {us : Upd} (hr : res T sg callF all o g rw h = some (v, us, h')) : ∀ r ∈ names v, updF rw us r ≠ none := by
  unfold res at hr
  split at hr
  · exact hN _ _ _ _ _ _ _ _ hw hr
  · cases hr; intro r hr; cases hr
  · cases hr
theorem runF_wf (hN : NamesOk T sg callF) {x : Oper} {f f1 : FS} (hw : WfS f.1 f.2.1) (h : runF T sg callF nt all x f = some f1) : WfS f1.1 f1.2.1 := by
  unfold runF at h
  obtain ⟨_, h⟩ := bif_some h
  split at h
  · rename_i v us h' hr
    cases h
    have hn := res_names hN hw hr
    intro n av hg
    show ∀ r ∈ names av, updF f.2.1 us r ≠ none
    have old : f.1 n = some av → ∀ r ∈ names av, updF f.2.1 us r ≠ none := fun hg r hr => updF_used _ _ (.inl (hw n av hg r hr))
    cases hd : x.dst with
    | none =>
      rw [hd] at hg
      exact old hg
    | some d =>
      rw [hd] at hg
      have hg : (if n = d then some v else f.1 n) = some av := hg
      split at hg
      · cases hg; exact hn
      · exact old hg
  · cases h
theorem quiet_back {g : Nat → Option AV} {rw rw' : RW} {h : Hp} (hq : quiet2 T o = true) (hw : WfS g rw) (hr : ∀ r, rw r ≠ none → rw' r = rw r) {x : Option R2} (he : res T sg callF all o g rw' h = x) : res T sg callF all o g rw h = x := by
  rw [← he]
  unfold res
  split
  · exact (quiet_same2 hq hw hr).symm
  · rfl
  · rfl
theorem runF_swap {x y : Oper} (hs : swapOk T all x y = true) {f f1 f2 : FS} (hw : WfS f.1 f.2.1) (hnx : push2 T y = true → f.2.2.ob f.2.2.nx = none) (h1 : runF T sg callF nt all x f = some f1) (h2 : runF T sg callF nt all y f1 = some f2) : ∃ f1', runF T sg callF nt all y f = some f1' ∧ runF T sg callF nt all x f1' = some f2 := by
  unfold swapOk at hs
  rw [Bool.and_eq_true, Bool.and_eq_true, Bool.and_eq_true, Bool.not_eq_true', Bool.not_eq_true', Bool.not_eq_true'] at hs
  obtain ⟨⟨⟨ha, hb⟩, hc⟩, hcls⟩ := hs
  have ha := dstIn_spec ha
  have hb := dstIn_spec hb
  have hc := dstEq_spec hc
  unfold runF at h1 h2
  obtain ⟨hd1, h1⟩ := bif_some h1
  obtain ⟨hd2, h2⟩ := bif_some h2
  split at h1
  · rename_i v us hx1 hr1
    cases h1
    split at h2
    · rename_i u2 vs hx2 hr2
      cases h2
      have fy : ∀ rw h, res T sg callF all y (putF f.1 x.dst v) rw h = res T sg callF all y f.1 rw h := fun rw h => res_congr (fun t ht => putF_ne (ha t ht))
      have fx : ∀ rw h, res T sg callF all x (putF f.1 y.dst u2) rw h = res T sg callF all x f.1 rw h := fun rw h => res_congr (fun t ht => putF_ne (hb t ht))
      have hr2' : res T sg callF all y f.1 (updF f.2.1 us) hx1 = some (u2, vs, hx2) := by rw [← fy]; exact hr2
      have key : ∃ hy1, res T sg callF all y f.1 f.2.1 f.2.2 = some (u2, vs, hy1) ∧ res T sg callF all x f.1 (updF f.2.1 vs) hy1 = some (v, us, hx2) ∧ updF (updF f.2.1 us) vs = updF (updF f.2.1 vs) us := by
        have one : ∀ (z : Oper) (Z : Row), f.2.1 (dstN z.dst) = none → ∀ r, f.2.1 r ≠ none → updF f.2.1 [(dstN z.dst, some Z)] r = f.2.1 r := by
          intro z Z hz r hr
          show (if r = dstN z.dst then some (some Z) else f.2.1 r) = f.2.1 r
          rw [if_neg (fun e => hr (by rw [e]; exact hz))]
        rw [Bool.or_eq_true, Bool.or_eq_true, Bool.or_eq_true, Bool.or_eq_true, Bool.or_eq_true, Bool.or_eq_true, Bool.or_eq_true, Bool.or_eq_true, Bool.and_eq_true, Bool.and_eq_true, Bool.and_eq_true, Bool.and_eq_true, Bool.and_eq_true, Bool.and_eq_true, Bool.and_eq_true] at hcls
        rcases hcls with (((((((hx | hy) | ⟨hx, hy⟩) | ⟨hx, hy⟩) | ⟨hx, hy⟩) | ⟨hx, hy⟩) | ⟨hx, hy⟩) | ⟨hx, hy⟩) | ⟨hx, hy⟩
        · obtain ⟨rfl, rfl, h3⟩ := res_noRow hx hr1
          exact ⟨hx2, hr2', h3 _ _, rfl⟩
        · obtain ⟨rfl, rfl, h3⟩ := res_noRow hy hr2'
          exact ⟨f.2.2, h3 _ _, hr1, rfl⟩
        · obtain ⟨rfl, rfl, _⟩ := res_quiet hx hr1
          obtain ⟨rfl, rfl, _⟩ := res_quiet hy hr2'
          exact ⟨_, hr2', hr1, rfl⟩
        · obtain ⟨rfl, hmk⟩ := res_makes hx hr1
          rcases hmk with ⟨rfl, hx'⟩ | ⟨X, rfl, hx1, hx2'⟩
          · obtain ⟨rfl, rfl, _⟩ := res_quiet hy hr2'
            exact ⟨_, hr2', hr1, rfl⟩
          · obtain ⟨rfl, rfl, _⟩ := res_quiet hy hr2'
            have hy0 : res T sg callF all y f.1 f.2.1 f.2.2 = some (u2, [], f.2.2) := by
              have := quiet_back hy hw (one x X hx1) hr2'
              exact this
            exact ⟨_, hy0, hr1, rfl⟩
        · obtain ⟨rfl, rfl, hq⟩ := res_quiet hx hr1
          obtain ⟨rfl, hmk⟩ := res_makes hy hr2'
          rcases hmk with ⟨rfl, hy'⟩ | ⟨Y, rfl, hy1, hy2⟩
          · exact ⟨_, hr2', hr1, rfl⟩
          · exact ⟨_, hr2', hq _ hw (one y Y hy1), rfl⟩
        · obtain ⟨rfl, hmk⟩ := res_makes hx hr1
          obtain ⟨rfl, hmk2⟩ := res_makes hy hr2'
          rcases hmk with ⟨rfl, hx'⟩ | ⟨X, rfl, hx1, hx2'⟩
          · exact ⟨_, hr2', hx' _ _, rfl⟩
          · have hne : dstN x.dst ≠ dstN y.dst := fun e => hc _ (makes_dst hx) (by rw [e]; exact makes_dst hy)
            rcases hmk2 with ⟨rfl, hy'⟩ | ⟨Y, rfl, hy1, hy2⟩
            · exact ⟨_, hy' _ _, hr1, rfl⟩
            · have hy1' : f.2.1 (dstN y.dst) = none := by
                have : (if dstN y.dst = dstN x.dst then _ else f.2.1 (dstN y.dst)) = none := hy1
                rwa [if_neg (Ne.symm hne)] at this
              refine ⟨_, hy2 _ _ hy1', hx2' _ _ ?_, ?_⟩
              · show (if dstN x.dst = dstN y.dst then _ else f.2.1 (dstN x.dst)) = none
                rw [if_neg hne]
                exact hx1
              · funext m
                show (if m = dstN y.dst then _ else if m = dstN x.dst then _ else f.2.1 m) = (if m = dstN x.dst then _ else if m = dstN y.dst then _ else f.2.1 m)
                by_cases e1 : m = dstN y.dst
                · have e2 : m ≠ dstN x.dst := fun e => hne (e.symm.trans e1)
                  rw [if_pos e1, if_neg e2, if_pos e1]
                · rw [if_neg e1, if_neg e1]
        · obtain ⟨rfl, rfl, _⟩ := res_quiet hy hr2'
          obtain ⟨rfl, hmk⟩ := res_mk1 hx hr1
          rcases hmk with rfl | ⟨X, rfl, hx1⟩
          · exact ⟨_, hr2', hr1, rfl⟩
          · exact ⟨_, quiet_back hy hw (one x X hx1) hr2', hr1, rfl⟩
        · obtain ⟨rfl, rfl, hq⟩ := res_quiet hx hr1
          obtain ⟨rfl, hmk⟩ := res_mk1 hy hr2'
          rcases hmk with rfl | ⟨Y, rfl, hy1⟩
          · exact ⟨_, hr2', hr1, rfl⟩
          · exact ⟨_, hr2', hq _ hw (one y Y hy1), rfl⟩
        · obtain ⟨rfl, rfl, hq⟩ := res_quiet hx hr1
          obtain ⟨rfl, hmk⟩ := res_push hy hr2'
          rcases hmk with rfl | ⟨q, rfl⟩
          · exact ⟨_, hr2', hr1, rfl⟩
          · exact ⟨_, hr2', res_quiet_push hx (hnx hy) hr1 q, rfl⟩
      obtain ⟨hy1, k1, k2, k3⟩ := key
      refine ⟨(putF f.1 y.dst u2, updF f.2.1 vs, hy1), ?_, ?_⟩
      · unfold runF
        rw [hd2, k1]
        rfl
      · unfold runF
        rw [hd1]
        simp only [cond_true]
        rw [fx, k2]
        simp only
        rw [putF_comm hc, k3]
    · cases h2
  · cases h1
theorem seqF_append {l1 l2 : List Oper} {f : FS} : seqF T sg callF nt all (l1 ++ l2) f = (seqF T sg callF nt all l1 f).bind (seqF T sg callF nt all l2) := by
  induction l1 generalizing f with
  | nil => rfl
  | cons o l ih =>
    show (match runF T sg callF nt all o f with | some f' => seqF T sg callF nt all (l ++ l2) f' | none => none) = Option.bind (match runF T sg callF nt all o f with | some f' => seqF T sg callF nt all l f' | none => none) _
    cases runF T sg callF nt all o f with
    | none => rfl
    | some f' => exact ih
theorem vrel_names {rw : RW} {ε : Env} : ∀ {av : AV} {V : Value}, VRel rw ε av V → ∀ r ∈ names av, rw r ≠ none
  | .v _ _, _, _, r, hr => by cases hr
  | .sl q, _, h, r, hr => by rw [List.mem_singleton.1 hr]; exact h.1
  | .cut q _ _ _, _, h, r, hr => by rw [List.mem_singleton.1 hr]; exact h.1
  | .ptr q _, _, h, r, hr => by rw [List.mem_singleton.1 hr]; exact h.1
  | .fptr q _ _, _, h, r, hr => by rw [List.mem_singleton.1 hr]; exact h.1
  | .op, _, _, r, hr => by cases hr
  | .nilS _ _, _, _, r, hr => by cases hr
  | .nilP, _, _, r, hr => by cases hr
  | .u, _, _, r, hr => by cases hr
  | .tup l, _, h, r, hr => by
    obtain ⟨c, hc, hrc⟩ := List.mem_flatMap.1 hr
    have := h.1 c hc
    cases c with
    | v t x => cases hrc
    | sl q => rw [List.mem_singleton.1 hrc]; exact this
    | pt q => rw [List.mem_singleton.1 hrc]; exact this.1
    | h t x => cases hrc
  | .h _ _, _, _, r, hr => by cases hr
  | .hc _ _, _, _, r, hr => by cases hr
  | .fn _ _, _, _, r, hr => by cases hr
  | .ht l, _, ⟨Vs, _, hl⟩, r, hr => by
    obtain ⟨c, hc, hrc⟩ := List.mem_flatMap.1 hr
    have key : ∀ (l : List AC) (Vs : List Value), All2 (ACRel rw ε) l Vs → ∀ c ∈ l, ∃ V, ACRel rw ε c V := by
      intro l
      induction l with
      | nil => intro _ _ c hc; cases hc
      | cons d l ih =>
        intro Vs hl c hc
        cases Vs with
        | nil => exact hl.elim
        | cons V Vs =>
          rcases List.mem_cons.1 hc with rfl | hc
          · exact ⟨V, hl.1⟩
          · exact ih Vs hl.2 c hc
    obtain ⟨V, hV⟩ := key l Vs hl c hc
    cases c with
    | v t x => cases hrc
    | sl q => rw [List.mem_singleton.1 hrc]; exact hV.1
    | pt q => rw [List.mem_singleton.1 hrc]; exact hV.1
    | h t x => cases hrc
/-- Ahead of an operation that makes an object the heap stays. -/
theorem runF_still {x y : Oper} (hs : swapOk T all x y = true) (hy : push2 T y = true) {f f1 : FS} (h1 : runF T sg callF nt all x f = some f1) : f1.2.2 = f.2.2 := by
  unfold swapOk at hs
  rw [push_noRow hy, push_quiet hy, push_makes hy, push_mk1 hy] at hs
  simp only [Bool.and_eq_true, Bool.or_eq_true, Bool.and_false, Bool.or_false, Bool.false_eq_true, or_false, and_false] at hs
  have hcls := hs.2
  unfold runF at h1
  obtain ⟨hd1, h1⟩ := bif_some h1
  split at h1
  · rename_i v us hx1 hr1
    cases h1
    rcases hcls with hx | ⟨hx, _⟩
    · exact (res_noRow hx hr1).2.1
    · exact (res_quiet hx hr1).2.1
  · cases h1
/-- One that may go ahead of all before it goes first. -/
theorem seqF_first (hN : NamesOk T sg callF) {y : Oper} {post : List Oper} : ∀ (pre : List Oper) {f f2 : FS}, WfS f.1 f.2.1 → (push2 T y = true → f.2.2.ob f.2.2.nx = none) → (∀ x ∈ pre, swapOk T all x y = true) → seqF T sg callF nt all (pre ++ y :: post) f = some f2 → ∃ f1, runF T sg callF nt all y f = some f1 ∧ seqF T sg callF nt all (pre ++ post) f1 = some f2
  | [], f, f2, _, _, _, h => by
    rw [List.nil_append] at h
    unfold seqF at h
    split at h
    · rename_i f1 h1
      exact ⟨f1, h1, h⟩
    · cases h
  | x :: pre, f, f2, hw, hnx, hs, h => by
    rw [List.cons_append] at h
    unfold seqF at h
    split at h
    · rename_i f1 h1
      obtain ⟨f1', h2, h3⟩ := seqF_first hN pre (runF_wf hN hw h1) (fun hy => by rw [runF_still (hs x (by simp)) hy h1]; exact hnx hy) (fun z hz => hs z (List.mem_cons_of_mem _ hz)) h
      obtain ⟨f3, h4, h5⟩ := runF_swap (hs x (by simp)) hw hnx h1 h2
      refine ⟨f3, h4, ?_⟩
      rw [List.cons_append]
      unfold seqF
      rw [h5]
      exact h3
    · cases h
/-! ### the walk -/
def RelF (C : Ctx) (nt : Nat) (f : FS) (a : Act) (w : World) : Prop := a.tmps.size = nt ∧ a.defers = [] ∧ ∃ ε, Slots f.2.1 ε f.1 a ∧ Mem C f.2.1 ε w ∧ HM C f.2.2 f.2.1 ε w
theorem slots_putF {rw rw' : RW} {ε ε' : Env} {g : Nat → Option AV} (hS : Slots rw ε g a) (he : Ext2 rw ε rw' ε') {dst : Option Nat} {v : AV} {V : Value} (hv : VRel rw' ε' v V) (hn : a.tmps.size = nt) (hd : dstOk nt dst = true) :
    Slots rw' ε' (putF g dst v) (a.put dst V) := by
  intro n av h
  cases dst with
  | none => exact (hS n av h).ext2 he
  | some d =>
    have hlt : d < a.tmps.size := by rw [hn]; exact (Nat.ble_eq.mp hd)
    have h : (if n = d then some v else g n) = some av := h
    by_cases hnd : n = d
    · subst hnd
      rw [if_pos rfl] at h
      cases h
      rw [put_getD_same V hlt]
      exact hv
    · rw [if_neg hnd] at h
      rw [put_getD_ne a V hnd]
      exact (hS n av h).ext2 he
theorem wanted_of {opsA : Array Oper} {g : Nat → Option AV} {rw : RW} {ε : Env} (hS : Slots rw ε g a) {b : Bool} (h : wantedE opsA.toList o g = some b) : Region.wanted o (yielded opsA a.tmps) = b := by
  unfold wantedE at h
  split at h
  · rename_i hg
    cases h
    unfold Region.wanted
    rw [hg]
  · rename_i j want hg
    split at h
    · rename_i d hgd
      have hy : ∀ V, a.tmps.getD d undef = V → yielded opsA a.tmps j = (match V with | .bool b => some b | _ => none) := by
        intro V hV
        unfold yielded
        rw [guard_dst hgd]
        simp only [Option.bind_some]
        cases hd : a.tmps[d]? with
        | none =>
          have : a.tmps.getD d undef = undef := by rw [Array.getD_eq_getD_getElem?, hd]; rfl
          rw [this] at hV
          subst hV
          rfl
        | some v =>
          have : a.tmps.getD d undef = v := by rw [Array.getD_eq_getD_getElem?, hd]; rfl
          rw [this] at hV
          subst hV
          cases v <;> rfl
      split at h
      · rename_i c hc
        cases h
        have h1 := hy _ (hS d _ hc)
        unfold Region.wanted
        rw [hg]
        simp only [h1]
        cases c <;> cases want <;> rfl
      · rename_i hc
        cases h
        have h1 := hy _ (hS d _ hc)
        unfold Region.wanted
        rw [hg]
        simp only [h1]
        cases want <;> rfl
      · cases h
    · cases h
theorem runF_sound (hC : CtxOk C) (hvw : ∀ r, ¬ C.vw r) (hF : ∀ f, CallOk C.P C.W0 sg callF f) {opsA : Array Oper} {Q : Exit → Act → World → Prop} {i : Nat} (hi : opsA[i]? = some o) {f f1 : FS} (hR : RelF C nt f a w) (h : runF C.T sg callF nt opsA.toList o f = some f1) {K : Act → World → Prop}
    (hK : ∀ a' w', RelF C nt f1 a' w' → K a' w') : wpOp C.P opsA Q i K a w := by
  obtain ⟨hn, hdf, ε, hS, hM, hH⟩ := hR
  unfold runF at h
  obtain ⟨hd, h⟩ := bif_some h
  split at h
  · rename_i v us h' hr
    cases h
    unfold res at hr
    unfold wpOp
    rw [hi]
    simp only
    split at hr
    · rename_i hw
      rw [wanted_of hS hw]
      simp only [if_true]
      obtain ⟨v', us', h'', h1, h2⟩ := oper2_sound hC hvw hF hM hH hS (K := fun v us h => some (v, us, h)) hr
      cases h1
      exact .inl (h2 _ _ fun V ε' w' hv he hM' hH' => hK _ _ ⟨by rw [put_size, hn], by rw [put_defs, hdf], ε', slots_putF hS he hv hn hd, hM', hH'⟩)
    · rename_i hw
      rw [wanted_of hS hw]
      cases hr
      simp only [Bool.false_eq_true, if_false]
      exact hK _ _ ⟨by rw [put_size, hn], by rw [put_defs, hdf], ε, slots_putF hS (Ext2.refl _ _) rfl hn hd, hM, hH⟩
    · cases hr
  · cases h
def Closed (opsA : Array Oper) (listed : Array Bool) : Prop := ∀ k o, listed.getD k false = true → opsA[k]? = some o → ∀ e ∈ o.after, Region.binds .any e = true → listed.getD e.on false = true
theorem anc_listed {opsA : Array Oper} {listed : Array Bool} (hc : Closed opsA listed) {i j : Nat} (h : Anc opsA.toList i j) : (∀ o, opsA[j]? = some o → ∀ e ∈ o.after, Region.binds .any e = true → listed.getD e.on false = true) → listed.getD i false = true := by
  induction h with
  | one ho he hb hi =>
    intro hj
    rw [Array.getElem?_toList] at ho
    rw [← hi]
    exact hj _ ho _ he hb
  | more ho he hb hi h ih =>
    intro hj
    rw [Array.getElem?_toList] at ho
    have hk := hj _ ho _ he hb
    rw [hi] at hk
    exact ih (fun o' ho' => hc _ o' hk ho')
/-- The operations that are not listed yet, in the text's order. -/
def unl (opsA : Array Oper) (listed : Array Bool) : List Nat := (List.range opsA.size).filter fun i => !listed.getD i true
theorem wpAny_of (hN : NamesOk C.T sg callF) (hC : CtxOk C) (hvw : ∀ r, ¬ C.vw r) (hF : ∀ f, CallOk C.P C.W0 sg callF f) {opsA : Array Oper} {Q : Exit → Act → World → Prop} (hd : drawOk C.T opsA.toList = true) {ff : FS} (hQ : ∀ a' w', RelF C nt ff a' w' → Q .normal a' w') :
    ∀ (fuel : Nat) (listed : Array Bool) (f : FS) (a : Act) (w : World) (rem : List (Nat × Oper)), listed.size = opsA.size → Closed opsA listed → (∀ p ∈ rem, opsA[p.1]? = some p.2 ∧ listed.getD p.1 true = false) → (∀ i o, opsA[i]? = some o → listed.getD i true = false → (i, o) ∈ rem) →
      (rem.map Prod.fst).Pairwise (· < ·) → RelF C nt f a w → seqF C.T sg callF nt opsA.toList (rem.map Prod.snd) f = some ff → rem.length ≤ fuel → wpAny C.P .any opsA Q fuel listed a w := by
  obtain ⟨hpair, hlt⟩ := drawOk_spec hd
  intro fuel
  induction fuel with
  | zero =>
    intro listed f a w rem hsz hcl h1 h2 hs hR hq hl
    have : rem = [] := List.eq_nil_of_length_eq_zero (by omega)
    subst this
    cases hq
    refine ⟨List.eq_nil_iff_forall_not_mem.2 fun j hj => ?_, hQ a w hR⟩
    obtain ⟨hj0, o, ho, _⟩ := mem_ready.1 hj
    have := h2 j o ho hj0
    cases this
  | succ fuel ih =>
    intro listed f a w rem hsz hcl h1 h2 hs hR hq hl
    refine ⟨fun hnil => ?_, fun j hj => ?_⟩
    · cases rem with
      | nil => cases hq; exact hQ a w hR
      | cons p rem =>
        exfalso
        obtain ⟨hp1, hp2⟩ := h1 p (by simp)
        have : p.1 ∈ Region.ready .any opsA listed := by
          refine mem_ready.2 ⟨hp2, p.2, hp1, fun e he hb => ?_⟩
          have hlt' := hlt p.1 p.2 (by rw [Array.getElem?_toList]; exact hp1) e he hb
          have hsize : p.1 < opsA.size := (Array.getElem?_eq_some_iff.1 hp1).1
          have ho : opsA[e.on]? = some opsA[e.on] := Array.getElem?_eq_getElem (by omega)
          cases hl' : listed.getD e.on true with
          | true =>
            have : e.on < listed.size := by omega
            rw [Array.getD_eq_getD_getElem?, Array.getElem?_eq_getElem this] at hl' ⊢
            exact hl'
          | false =>
            have hin := h2 e.on _ ho hl'
            rcases List.mem_cons.1 hin with hin | hin
            · rw [← hin] at hlt'
              exact absurd hlt' (Nat.lt_irrefl _)
            · rw [List.map_cons, List.pairwise_cons] at hs
              have := hs.1 e.on (List.mem_map_of_mem hin)
              omega
        rw [hnil] at this
        cases this
    · obtain ⟨hj0, o, ho, hdeps⟩ := mem_ready.1 hj
      have hin := h2 j o ho hj0
      obtain ⟨pre, post, hrem⟩ := List.append_of_mem hin
      subst hrem
      have hjs : j < opsA.size := (Array.getElem?_eq_some_iff.1 ho).1
      rw [List.map_append, List.map_cons] at hs hq
      have hwf : WfS f.1 f.2.1 := by
        obtain ⟨_, _, ε, hS, _⟩ := hR
        exact fun n av hg => vrel_names (hS n av hg)
      have hfree : f.2.2.ob f.2.2.nx = none := by
        obtain ⟨_, _, ε, _, _, hH⟩ := hR
        cases ho' : f.2.2.ob f.2.2.nx with
        | none => rfl
        | some q =>
          have := (hH.ok.ob _ _ ho').1
          rw [hH.ok.nx] at this
          exact absurd this (Nat.lt_irrefl _)
      obtain ⟨f1, hr1, hq1⟩ := seqF_first hN (pre.map Prod.snd) hwf (fun _ => hfree) (fun x hx => by
        obtain ⟨p, hp, rfl⟩ := List.mem_map.1 hx
        obtain ⟨hp1, hp2⟩ := h1 p (by simp [hp])
        have hlt' : p.1 < j := (List.pairwise_append.1 hs).2.2 p.1 (List.mem_map_of_mem hp) j (by simp)
        refine (hpair p.1 j p.2 o hlt' (by rw [Array.getElem?_toList]; exact hp1) (by rw [Array.getElem?_toList]; exact ho)).resolve_left fun hanc => ?_
        have := anc_listed hcl hanc (fun o' ho' => by rw [ho] at ho'; cases ho'; exact hdeps)
        have hsize : p.1 < listed.size := by omega
        rw [Array.getD_eq_getD_getElem?, Array.getElem?_eq_getElem hsize] at this hp2
        simp only [Option.getD_some] at this hp2
        rw [hp2] at this
        cases this) hq
      refine runF_sound hC hvw hF ho hR hr1 (fun a' w' hR' => ?_)
      refine ih (listed.setIfInBounds j true) f1 a' w' (pre ++ post) (by simp [hsz]) ?_ (fun p hp => ?_) (fun i o' ho' hi => ?_) ?_ hR' ?_ ?_
      · intro k o' hk ho' e he hb
        by_cases hkj : k = j
        · subst hkj
          rw [ho] at ho'
          cases ho'
          exact getD_set_true (hdeps e he hb)
        · rw [getD_set_ne false (Ne.symm hkj)] at hk
          exact getD_set_true (hcl k o' hk ho' e he hb)
      · have hp' : p ∈ pre ++ (j, o) :: post := by
          rcases List.mem_append.1 hp with h | h
          · exact List.mem_append_left _ h
          · exact List.mem_append_right _ (List.mem_cons_of_mem _ h)
        obtain ⟨k1, k2⟩ := h1 p hp'
        refine ⟨k1, ?_⟩
        have hne : p.1 ≠ j := by
          rcases List.mem_append.1 hp with h | h
          · exact Nat.ne_of_lt ((List.pairwise_append.1 hs).2.2 p.1 (List.mem_map_of_mem h) j (by simp))
          · have := (List.pairwise_cons.1 (List.pairwise_append.1 hs).2.1).1 p.1 (List.mem_map_of_mem h)
            exact Nat.ne_of_gt this
        rw [getD_set_ne true (Ne.symm hne)]
        exact k2
      · by_cases hij : i = j
        · subst hij
          have : i < listed.size := by omega
          rw [Array.getD_eq_getD_getElem?, Array.getElem?_setIfInBounds_self_of_lt this] at hi
          cases hi
        · rw [getD_set_ne true (Ne.symm hij)] at hi
          have := h2 i o' ho' hi
          rcases List.mem_append.1 this with h | h
          · exact List.mem_append_left _ h
          · rcases List.mem_cons.1 h with h | h
            · cases h
              exact absurd rfl hij
            · exact List.mem_append_right _ h
      · rw [List.map_append]
        exact hs.sublist (List.Sublist.append_left (List.sublist_cons_self _ _) _)
      · rw [List.map_append]
        exact hq1
      · simp at hl ⊢
        omega
end
end Go.Ev

/- Results tell of names that were used. -/
namespace Go.Ev
open Go.RowKit
section
variable {T : Tab} {sg : FuncId → Sig} {callF : (f : FuncId) → argL (sg f).ps → Option (retL (sg f).rs)}
theorem nilEq_names {op : BinOp} {av : AV} {v : AV} {us : Upd} {h h' : Hp} (hr : nilEq op av (fun v => some (v, ([] : Upd), h)) = some (v, us, h')) : ∀ r, r ∉ names v := by
  unfold nilEq at hr
  intro r hm
  split at hr <;> first
    | (obtain ⟨_, hr⟩ := chk_some hr; cases hr; cases hm; done)
    | (cases hr; cases hm; done)
    | (cases hr; done)
set_option maxHeartbeats 1000000 in
theorem namesOk : NamesOk T sg callF := by
  intro o g rw d h h' v us hw hr
  have old : oldK T sg callF g rw d o h someR = some (v, us, h') → ∀ r ∈ names v, updF rw us r ≠ none := oldK_names hw
  unfold oper2r oper2 at hr
  split at hr
  case h_13 =>
    split at hr
    · split at hr
      · exact fun r hm => absurd hm (nilEq_names (bif_some hr).2 r)
      · cases hr
    · split at hr
      · exact fun r hm => absurd hm (nilEq_names (bif_some hr).2 r)
      · cases hr
    · exact old hr
  case h_18 =>
    split at hr
    · rename_i p _
      cases hm : h.more p with
      | none => rw [hm] at hr; cases hr
      | some b =>
        rw [hm] at hr
        cases b with
        | false =>
          cases hr
          intro r hr
          simp [names, namesC] at hr
        | true =>
          cases hq : h.nxt p with
          | none => rw [hq] at hr; cases hr
          | some q =>
            rw [hq] at hr
            cases hr
            intro r hr
            simp [names, namesC] at hr
    · cases hr
  case h_20 =>
    split at hr
    · split at hr
      · split at hr
        · unfold srcC at hr
          replace hr := (bif_some hr).2
          split at hr
          · rename_i r2 _
            cases hq : h.cs _ r2 with
            | none => rw [hq] at hr; cases hr
            | some q =>
              rw [hq] at hr
              simp only [Option.bind_some] at hr
              replace hr := (chk_some hr).2
              cases hs : h.apc _ _ q.1 q.2 _ _ with
              | none => rw [hs] at hr; cases hr
              | some s => rw [hs] at hr; cases hr; intro r hr; cases hr
          · split at hr
            · replace hr := (bif_some hr).2
              replace hr := (chk_some hr).2
              rename_i z _ _ _ _ _ _
              revert hr
              generalize Hp.apc h _ _ _ _ _ _ = q
              intro hr
              cases q with
              | none => cases hr
              | some s => cases hr; intro r hr; cases hr
            · cases hr
          · cases hr
        · cases hr
      · split at hr
        · split at hr
          · unfold srcC at hr
            replace hr := (bif_some hr).2
            split at hr
            · rename_i r2 _
              cases hq : h.cs _ r2 with
              | none => rw [hq] at hr; cases hr
              | some q =>
                rw [hq] at hr
                simp only [Option.bind_some] at hr
                replace hr := (chk_some hr).2
                cases hs : h.app _ _ q.1 q.2 _ with
                | none => rw [hs] at hr; cases hr
                | some s => rw [hs] at hr; cases hr; intro r hr; cases hr
            · split at hr
              · replace hr := (bif_some hr).2
                replace hr := (chk_some hr).2
                rename_i z _ _ _ _ _ _
                revert hr
                generalize Hp.app h _ _ _ _ _ = q
                intro hr
                cases q with
                | none => cases hr
                | some s => cases hr; intro r hr; cases hr
              · cases hr
            · cases hr
          · cases hr
        · exact old hr
      · cases hr
    · cases hr
  case h_14 =>
    split at hr
    · rename_i l hx
      split at hr
      · rename_i c hc
        cases hr
        intro r hr
        have h1 := acAV_names c r hr
        exact opd_names hw hx r (List.mem_flatMap.2 ⟨c, List.mem_of_getElem? hc, h1⟩)
      · cases hr
    · exact old hr
  case h_21 =>
    rename_i f args ts _
    cases hh : hasHp (sg f).ps with
    | true =>
      rw [hh] at hr
      replace hr : (bif T.rd f then none else hcall sg callF rw d f h someR (toArgs2 T g rw (strip (sg f).ps) args.toList)) = some (v, us, h') := hr
      cases hrd : T.rd f with
      | true => rw [hrd] at hr; cases hr
      | false => rw [hrd] at hr; exact hcall_names hr
    | false => rw [hh] at hr; exact old hr
  case h_22 =>
    split at hr
    · exact dispF_names hr
    · cases hr
  case h_23 =>
    split at hr
    · exact dispI_names hr
    · cases hr
  case h_25 => exact old hr
  case h_24 =>
    split at hr
    · rename_i p hx
      split at hr
      · cases hl : h.rd (.int .i32) p with
        | none => rw [hl] at hr; cases hr
        | some xs => rw [hl] at hr; cases hr; intro r hr; cases hr
      · cases hl : h.rd (.int .u8) p with
        | none => rw [hl] at hr; cases hr
        | some xs => rw [hl] at hr; cases hr; intro r hr; cases hr
      · cases hr
    · split at hr
      · cases hr
        intro r hr
        cases hr
      · exact old hr
    · exact old hr
  case h_1 =>
    split at hr
    · split at hr
      · rename_i p _ _ t _
        cases hl : h.ld t p with
        | none => rw [hl] at hr; cases hr
        | some y =>
          rw [hl] at hr
          cases hr
          exact fun r hm => absurd hm (avOf_names t y r)
      · cases hr
    · exact old hr
  case h_2 =>
    split at hr
    · split at hr
      · split at hr
        · revert hr
          generalize Hp.st h _ _ _ = q
          intro hr
          cases q with
          | none => cases hr
          | some s => cases hr; intro r hr; cases hr
        · cases hr
      · cases hr
    · exact old hr
  case h_6 =>
    split at hr
    · split at hr
      · replace hr := (bif_some hr).2
        split at hr
        · cases hr
          exact fun r hm => absurd hm (avOf_names _ _ r)
        · cases hr
      · cases hr
    · exact old hr
  case h_3 =>
    split at hr
    · replace hr := (chk_some hr).2
      cases hr; intro r hr; cases hr
    · replace hr := (chk_some hr).2
      cases hr; intro r hr; cases hr
    · exact old hr
  case h_4 =>
    split at hr
    · split at hr
      · replace hr := (chk_some (chk_some hr).2).2
        cases hr; intro r hr; cases hr
      · cases hr
    · exact old hr
  case h_5 =>
    split at hr
    · split at hr
      · split at hr
        · replace hr := (chk_some hr).2
          cases hr; intro r hr; cases hr
        · cases hr
      · cases hr
    · exact old hr
  case h_7 =>
    split at hr
    · split at hr
      · replace hr := (chk_some (chk_some (chk_some hr).2).2).2
        cases hr; intro r hr; cases hr
      · split at hr
        · replace hr := (chk_some (chk_some (chk_some (chk_some hr).2).2).2).2
          cases hr; intro r hr; cases hr
        · cases hr
      · cases hr
    · exact old hr
  case h_11 =>
    split at hr
    · exact old hr
    · split at hr
      · replace hr := (chk_some (chk_some (chk_some hr).2).2).2
        cases hr; intro r hr; cases hr
      · cases hr
    · cases hr
  case h_12 =>
    split at hr
    · exact old hr
    · split at hr
      · replace hr := (bif_some hr).2
        cases hr; intro r hr; cases hr
      · cases hr
    · cases hr
  case h_19 =>
    split at hr
    · split at hr
      · split at hr
        · cases hr; intro r hr; cases hr
        · cases hr
      · split at hr
        · cases hr; intro r hr; cases hr
        · cases hr
      · exact old hr
    · cases hr
  all_goals (repeat' (first | exact old hr | (cases hr; done) | (cases hr; intro r hr; cases hr; done) | split at hr))
end
end Go.Ev

/- Code is sound. -/
namespace Go.Ev
open Go.RowKit
def codeOk (T : Tab) : Code → Bool
  | .region _ o d => !d || drawOk T o.toList
  | .seq a b => codeOk T a && codeOk T b
  | .cond _ a b => codeOk T a && codeOk T b
  | .block _ a => codeOk T a
  | .loop a => codeOk T a
  | _ => true
def exitOf : Out → Exit
  | .normal => .normal
  | .exit j => .exit j
  | .ret => .ret
section
variable {C : Ctx} {nt : Nat} {s : St} {w w' : World} {a : Act} {o : Oper} {R : Type} {sg : FuncId → Sig} {callF : (f : FuncId) → argL (sg f).ps → Option (retL (sg f).rs)} {live : Nat → Option (List Nat)}
theorem Rel.drew (hC : CtxOk C) (hR : Rel C nt s a w) : Rel C nt s a { w with drawn := w.drawn + 1 } := by
  obtain ⟨hn, hdf, hk, ε, hS, hM, hH⟩ := hR
  exact ⟨hn, hdf, hk, ε, hS, hM.move hC ⟨rfl, rfl, rfl, Nat.le_refl _, fun _ _ _ => rfl⟩, ⟨hH.ok.move fun _ _ _ _ => rfl, hH.mine, hH.rows, hH.ge⟩⟩
theorem relF_rel {s' : St} (hk : (s'.sl.map Prod.fst).Nodup) (h : RelF C nt (look s'.sl, look s'.rows, s'.hp) a w) : Rel C nt s' a w := ⟨h.1, h.2.1, hk, h.2.2⟩
theorem zip_fst {α : Type} : ∀ (l : List α) (n : Nat), ((List.range' n l.length).zip l).map Prod.fst = List.range' n l.length
  | [], n => rfl
  | x :: l, n => by simp [List.range'_succ, zip_fst l (n + 1)]
theorem zip_snd {α : Type} : ∀ (l : List α) (n : Nat), ((List.range' n l.length).zip l).map Prod.snd = l
  | [], n => rfl
  | x :: l, n => by simp [List.range'_succ, zip_snd l (n + 1)]
theorem zip_mem {α : Type} : ∀ (l : List α) (n : Nat) (p : Nat × α), p ∈ (List.range' n l.length).zip l ↔ ∃ i, p.1 = n + i ∧ l[i]? = some p.2
  | [], n, p => by simp
  | x :: l, n, p => by
    rw [List.length_cons, List.range'_succ, List.zip_cons_cons, List.mem_cons, zip_mem l (n + 1) p]
    constructor
    · rintro (rfl | ⟨i, h1, h2⟩)
      · exact ⟨0, by simp, by simp⟩
      · exact ⟨i + 1, by omega, by simpa using h2⟩
    · rintro ⟨i, h1, h2⟩
      cases i with
      | zero =>
        left
        have h2 : x = p.2 := by simpa using h2
        exact Prod.ext (by simpa using h1) h2.symm
      | succ i => exact .inr ⟨i, by omega, by simpa using h2⟩
theorem region_sound (hvw : ∀ r, ¬ C.vw r) (hC : CtxOk C) (hm : C.P.follows .mixedOrders = true) (hF : ∀ f, CallOk C.P C.W0 sg callF f) {id : Nat} {opsA : Array Oper} {d : Bool} (hd : (!d || drawOk C.T opsA.toList) = true) {Q : Exit → Act → World → Prop} {K : St → Option R} {r : R}
    (hR : Rel C nt s a w) (h : ops C.T sg callF (!d) nt opsA.toList opsA.toList s K = some r) (hQ : ∀ s' a' w', Rel C nt s' a' w' → K s' = some r → Q .normal a' w') : (Code.region id opsA d).wp C.P Q a w := by
  cases d with
  | false => exact wp_region_list (ops_sound hC hvw hF hQ _ s a w hR h)
  | true =>
    have hd : drawOk C.T opsA.toList = true := by simpa using hd
    obtain ⟨s', h1, h2, h3⟩ := ops_seqF _ _ h
    have hk := h3 hR.2.2.1
    have hlen : opsA.toList.length = opsA.size := by simp
    refine wp_region_any hm (wpAny_of namesOk hC hvw hF hd (ff := (look s'.sl, look s'.rows, s'.hp)) (fun a' w' hR' => hQ s' a' w' (relF_rel hk hR') h1) opsA.size (Array.replicate opsA.size false) (look s.sl, look s.rows, s.hp) a _ ((List.range' 0 opsA.toList.length).zip opsA.toList)
      (by simp) (fun k o hk => ?_) (fun p hp => ?_) (fun i o ho hi => ?_) ?_ ?_ ?_ ?_)
    · by_cases h : k < opsA.size <;> simp [h] at hk
    · obtain ⟨i, hi1, hi2⟩ := (zip_mem _ _ _).1 hp
      rw [Nat.zero_add] at hi1
      rw [hi1]
      rw [Array.getElem?_toList] at hi2
      have hlt : i < opsA.size := (Array.getElem?_eq_some_iff.1 hi2).1
      exact ⟨hi2, by simp [hlt]⟩
    · exact (zip_mem _ _ _).2 ⟨i, by simp, by rw [Array.getElem?_toList]; exact ho⟩
    · rw [zip_fst]
      exact List.pairwise_lt_range'
    · have := hR.drew hC
      exact ⟨this.1, this.2.1, this.2.2.2⟩
    · rw [zip_snd]
      exact h2
    · simp
/-- A loop, from its body's beginning on. -/
def LW (P : Program) (c : Code) (Q : Exit → Act → World → Prop) (a : Act) (w : World) : Prop :=
  ∀ (b : Frame) (k : List Item) (cs : List Frame), ∃ e a' w', Q e a' w' ∧ Arrives P (lone (b.at a (.code c :: .inLoop c :: k)) cs w) b k cs e a' w'
theorem LW.wp {P : Program} {c : Code} {Q : Exit → Act → World → Prop} (h : LW P c Q a w) : (Code.loop c).wp P Q a w := by
  intro b k cs
  obtain ⟨e, a', w', hq, harr⟩ := h b k cs
  exact ⟨e, a', w', hq, .of_steps (.one step_loop) harr⟩
theorem LW.of {P : Program} {c : Code} {Q : Exit → Act → World → Prop} (h : c.wp P (Exit.then (LW P c Q) Q) a w) : LW P c Q a w := by
  intro b k cs
  obtain ⟨e, a₁, w₁, hq, harr⟩ := h b (.inLoop c :: k) cs
  cases e with
  | normal =>
    obtain ⟨e₂, a₂, w₂, hq₂, harr₂⟩ := hq b k cs
    exact ⟨e₂, a₂, w₂, hq₂, .of_steps (Steps.trans harr (.one step_inLoop)) harr₂⟩
  | exit id => exact ⟨_, a₁, w₁, hq, .pass (x := .inLoop c) rfl (fun _ _ => .inl (by simp)) harr⟩
  | goto l => exact ⟨_, a₁, w₁, hq, .pass (x := .inLoop c) rfl (fun _ _ => .inl (by simp)) harr⟩
  | ret => exact ⟨_, a₁, w₁, hq, .pass (x := .inLoop c) rfl (fun _ _ => .inl (by simp)) harr⟩
  | panic ch => exact ⟨_, a₁, w₁, hq, .pass (x := .inLoop c) rfl (fun _ _ => .inl (by simp)) harr⟩
  | outgrown => exact ⟨_, a₁, w₁, hq, .pass (x := .inLoop c) rfl (fun _ _ => .inl (by simp)) harr⟩
/-- What must hold behind a piece of code, by what follows. -/
def post (P : Program) (Q : Exit → Act → World → Prop) : List Fr → Exit → Act → World → Prop
  | [] => Q
  | .seq b :: fs => Exit.then (b.wp P (post P Q fs)) (post P Q fs)
  | .block id :: fs => Exit.inBlock id (post P Q fs)
  | .loop a :: fs => Exit.then (LW P a (post P Q fs)) (post P Q fs)
def frOk (T : Tab) : List Fr → Bool
  | [] => true
  | .seq b :: fs => codeOk T b && frOk T fs
  | .block _ :: fs => frOk T fs
  | .loop a :: fs => codeOk T a && frOk T fs
def JOk (C : Ctx) (nt : Nat) (Q : Exit → Act → World → Prop) (r : R) (J : Code → List Fr → St → Option R) : Prop :=
  ∀ c fs s a w, codeOk C.T c = true → frOk C.T fs = true → Rel C nt s a w → J c fs s = some r → c.wp C.P (post C.P Q fs) a w ∧ ∀ b, c = .loop b → LW C.P b (post C.P Q fs) a w
theorem run_sound (hvw : ∀ r, ¬ C.vw r) (hC : CtxOk C) (hm : C.P.follows .mixedOrders = true) (hF : ∀ f, CallOk C.P C.W0 sg callF f) {Q : Exit → Act → World → Prop} {r : R} {J : Code → List Fr → St → Option R} {fin : St → Option R} (hJ : JOk C nt Q r J)
    (hQ : ∀ s a w, Rel C nt s a w → fin s = some r → Q .normal a w ∧ Q .ret a w) : ∀ (n : Nat),
    (∀ c s a w fs, codeOk C.T c = true → frOk C.T fs = true → Rel C nt s a w → run C.T sg callF live nt J fin n (.code c) s fs = some r → c.wp C.P (post C.P Q fs) a w) ∧
    (∀ o s a w fs, frOk C.T fs = true → Rel C nt s a w → run C.T sg callF live nt J fin n (.out o) s fs = some r → post C.P Q fs (exitOf o) a w) := by
  intro n
  induction n with
  | zero => exact ⟨fun c s a w fs _ _ _ h => (by cases h), fun o s a w fs _ _ h => (by cases h)⟩
  | succ n ih =>
    obtain ⟨ih1, ih2⟩ := ih
    refine ⟨fun c s a w fs hok hfs hR h => ?_, fun o s a w fs hfs hR h => ?_⟩
    · unfold run at h
      cases c with
      | skip => exact wp_skip (ih2 .normal s a w fs hfs hR h)
      | region id o d => exact region_sound hvw hC hm hF hok hR h (fun s' a' w' hR' hk => ih2 .normal s' a' w' fs hfs hR' hk)
      | seq x y =>
        simp only [codeOk, Bool.and_eq_true] at hok
        exact wp_seq (ih1 x s a w (.seq y :: fs) hok.1 (by simp only [frOk, Bool.and_eq_true]; exact ⟨hok.2, hfs⟩) hR h)
      | cond c x y =>
        simp only [codeOk, Bool.and_eq_true] at hok
        simp only at h
        split at h
        · rename_i b hb
          obtain ⟨hn, hdf, hk, ε, hS, hM⟩ := id hR
          have hc : a.eval c = .bool b := opd_rel hS hb
          rcases br_some h with ⟨rfl, h⟩ | ⟨rfl, h⟩
          · exact wp_cond_true hc (ih1 x s a w fs hok.1 hfs hR h)
          · exact wp_cond_false hc (ih1 y s a w fs hok.2 hfs hR h)
        · cases h
      | block id x => exact wp_block (ih1 x s a w (.block id :: fs) hok hfs hR h)
      | loop x =>
        simp only at h
        split at h
        · obtain ⟨s2, h1, h2⟩ := cutTo_sound hvw hR h
          exact (hJ (.loop x) fs s2 a w hok hfs h2 h1).1
        · cases h
      | exit id => exact wp_exit (ih2 (.exit id) s a w fs hfs hR h)
      | ret => exact wp_ret (ih2 .ret s a w fs hfs hR h)
      | _ => cases h
    · unfold run at h
      cases fs with
      | nil =>
        cases o with
        | normal => exact (hQ s a w hR h).1
        | ret => exact (hQ s a w hR h).2
        | exit j => cases h
      | cons fr fs =>
        cases fr with
        | seq b =>
          simp only [frOk, Bool.and_eq_true] at hfs
          cases o with
          | normal =>
            simp only at h
            show b.wp C.P (post C.P Q fs) a w
            split at h
            · obtain ⟨s2, h1, h2⟩ := cutTo_sound hvw hR h
              exact (hJ b fs s2 a w hfs.1 hfs.2 h2 h1).1
            · exact ih1 b s a w fs hfs.1 hfs.2 hR h
          | exit j => exact ih2 (.exit j) s a w fs hfs.2 hR h
          | ret => exact ih2 .ret s a w fs hfs.2 hR h
        | block id =>
          cases o with
          | normal => exact ih2 .normal s a w fs hfs hR h
          | ret => exact ih2 .ret s a w fs hfs hR h
          | exit j =>
            simp only at h
            show (if j = id then post C.P Q fs .normal a w else post C.P Q fs (.exit j) a w)
            cases hb : Nat.beq j id with
            | true =>
              rw [hb] at h
              rw [if_pos (Nat.eq_of_beq_eq_true hb)]
              exact ih2 .normal s a w fs hfs hR h
            | false =>
              rw [hb] at h
              rw [if_neg (Nat.ne_of_beq_eq_false hb)]
              exact ih2 (.exit j) s a w fs hfs hR h
        | loop x =>
          simp only [frOk, Bool.and_eq_true] at hfs
          cases o with
          | normal =>
            simp only at h
            show LW C.P x (post C.P Q fs) a w
            split at h
            · obtain ⟨s2, h1, h2⟩ := cutTo_sound hvw hR h
              exact (hJ (.loop x) fs s2 a w hfs.1 hfs.2 h2 h1).2 x rfl
            · cases h
          | exit j => exact ih2 (.exit j) s a w fs hfs.2 hR h
          | ret => exact ih2 .ret s a w fs hfs.2 hR h
theorem jF_sound (hvw : ∀ r, ¬ C.vw r) (hC : CtxOk C) (hm : C.P.follows .mixedOrders = true) (hF : ∀ f, CallOk C.P C.W0 sg callF f) {Q : Exit → Act → World → Prop} {r : R} {fin : St → Option R}
    (hQ : ∀ s a w, Rel C nt s a w → fin s = some r → Q .normal a w ∧ Q .ret a w) : ∀ k, JOk C nt Q r (jF C.T sg callF live nt fin k)
  | 0 => fun c fs s a w _ _ _ h => by cases h
  | k + 1 => fun c fs s a w hok hfs hR h => by
    have ih := jF_sound hvw hC hm hF hQ k
    have hrun := run_sound (live := live) hvw hC hm hF ih hQ steps
    unfold jF at h
    split at h
    · rename_i x
      have hok : codeOk C.T x = true := hok
      have h1 : LW C.P x (post C.P Q fs) a w := LW.of (hrun.1 x s a w (.loop x :: fs) hok (by simp only [frOk, Bool.and_eq_true]; exact ⟨hok, hfs⟩) hR h)
      exact ⟨h1.wp, fun b hb => by cases hb; exact h1⟩
    · rename_i hne
      exact ⟨hrun.1 c s a w fs hok hfs hR h, fun b hb => absurd hb (hne b)⟩
end
end Go.Ev

/- Functions are sound. -/
namespace Go.Ev
open Go.RowKit
section
variable {P : Program} {W0 w w' : World} {a : Act} {R : Type} {sg : FuncId → Sig} {callF : (f : FuncId) → argL (sg f).ps → Option (retL (sg f).rs)} {live : Nat → Option (List Nat)} {S : Nat → Prop} {η : HEnv}
def parSv (p : Option Par) (V : Value) : Value := match p with
  | some (.pt _ _) => toSl V
  | _ => V
def parTy (p : Option Par) : Ty := match p with
  | some (.read t _) => t
  | some (.own t _) => t
  | some (.pt t _) => t
  | _ => .bool
theorem slotsOf_keys : ∀ (ps : List Par) (xs : argL ps) (n : Nat), (slotsOf ps xs n).map Prod.fst = List.range' n ps.length
  | [], _, _ => rfl
  | p :: ps, x, n => by
    have ih := slotsOf_keys ps x.2 (n + 1)
    cases p <;> simp only [slotsOf, List.map_cons, List.length_cons, List.range'_succ] <;> rw [ih]
/-- What a parameter's slot and row are. -/
theorem slotsOf_mem : ∀ (ps : List Par) (xs : argL ps) (Vs : List Value) (n m : Nat) (av : AV), ArgsOk η w S ps xs Vs → (m, av) ∈ slotsOf ps xs n →
    ∃ (i : Nat) (p : Par) (V : Value) (x : p.den), m = n + i ∧ ps[i]? = some p ∧ Vs[i]? = some V ∧ ArgOk η w S p x V ∧ ((∃ t y, av = .v t y ∧ V = t.val y) ∨ av = .op ∨ (av = .sl m ∧ ((∃ t e, p = .read t e) ∨ ∃ t e, p = .own t e)) ∨ (av = .ptr m 0 ∧ ∃ t e, p = .pt t e) ∨ (∀ rw ε, ε.hh = η → VRel rw ε av V))
  | [], _, [], _, _, _, _, h => by cases h
  | [], _, _ :: _, _, _, _, h, _ => h.elim
  | p :: ps, _, [], _, _, _, h, _ => by cases p <;> exact h.elim
  | p :: ps, x, V :: Vs, n, m, av, h, hm => by
    obtain ⟨h1, h2⟩ := h
    have tail : (m, av) ∈ slotsOf ps x.2 (n + 1) → ∃ (i : Nat) (q : Par) (V0 : Value) (x : q.den), m = n + i ∧ (p :: ps)[i]? = some q ∧ (V :: Vs)[i]? = some V0 ∧ ArgOk η w S q x V0 ∧ ((∃ t y, av = .v t y ∧ V0 = t.val y) ∨ av = .op ∨ (av = .sl m ∧ ((∃ t e, q = .read t e) ∨ ∃ t e, q = .own t e)) ∨ (av = .ptr m 0 ∧ ∃ t e, q = .pt t e) ∨ (∀ rw ε, ε.hh = η → VRel rw ε av V0)) := fun ht => by
      obtain ⟨i, p', V', x', e1, e2, e3, e4, e5⟩ := slotsOf_mem ps x.2 Vs (n + 1) m av h2 ht
      exact ⟨i + 1, p', V', x', by omega, by simpa using e2, by simpa using e3, e4, e5⟩
    cases p with
    | v t =>
      rcases List.mem_cons.1 hm with hm | hm
      · cases hm
        exact ⟨0, _, V, x.1, rfl, rfl, rfl, h1, .inl ⟨t, x.1, rfl, h1⟩⟩
      · exact tail hm
    | op =>
      rcases List.mem_cons.1 hm with hm | hm
      · cases hm
        exact ⟨0, _, V, x.1, rfl, rfl, rfl, h1, .inr (.inl rfl)⟩
      · exact tail hm
    | read t e =>
      rcases List.mem_cons.1 hm with hm | hm
      · cases hm
        exact ⟨0, _, V, x.1, rfl, rfl, rfl, h1, .inr (.inr (.inl ⟨rfl, .inl ⟨t, e, rfl⟩⟩))⟩
      · exact tail hm
    | own t e =>
      rcases List.mem_cons.1 hm with hm | hm
      · cases hm
        exact ⟨0, _, V, x.1, rfl, rfl, rfl, h1, .inr (.inr (.inl ⟨rfl, .inr ⟨t, e, rfl⟩⟩))⟩
      · exact tail hm
    | pt t e =>
      rcases List.mem_cons.1 hm with hm | hm
      · cases hm
        exact ⟨0, _, V, x.1, rfl, rfl, rfl, h1, .inr (.inr (.inr (.inl ⟨rfl, t, e, rfl⟩)))⟩
      · exact tail hm
    | hp => exact h1.elim
    | h t =>
      rcases List.mem_cons.1 hm with hm | hm
      · cases hm
        exact ⟨0, .h t, V, x.1, rfl, rfl, rfl, h1, .inr (.inr (.inr (.inr fun rw ε he => avOf_rel (by rw [he]; exact h1))))⟩
      · exact tail hm
    | fn =>
      rcases List.mem_cons.1 hm with hm | hm
      · cases hm
        exact ⟨0, .fn, V, x.1, rfl, rfl, rfl, h1, .inr (.inr (.inr (.inr fun rw ε he => by
          obtain ⟨cs, k1, k2⟩ := h1
          exact ⟨cs, k1, by rw [he]; exact k2⟩)))⟩
      · exact tail hm
theorem rowsOf_mem : ∀ (ps : List Par) (xs : argL ps) (Vs : List Value) (n m : Nat) (y : Option Row), ArgsOk η w S ps xs Vs → (m, y) ∈ rowsOf ps xs n →
    ∃ (i : Nat) (V : Value), m = n + i ∧ Vs[i]? = some V ∧ ((∃ t e xs, ps[i]? = some (.read t e) ∧ ArgOk η w S (.read t e) xs V ∧ y = some ⟨t, e, false, xs⟩) ∨ (∃ t e xs, ps[i]? = some (.own t e) ∧ ArgOk η w S (.own t e) xs V ∧ y = some ⟨t, e, true, xs⟩) ∨ (∃ t e x, ps[i]? = some (.pt t e) ∧ ArgOk η w S (.pt t e) x V ∧ y = some ⟨t, e, false, [x]⟩))
  | [], _, [], _, _, _, _, h => by cases h
  | [], _, _ :: _, _, _, _, h, _ => h.elim
  | p :: ps, _, [], _, _, _, h, _ => by cases p <;> exact h.elim
  | p :: ps, x, V :: Vs, n, m, y, h, hm => by
    obtain ⟨h1, h2⟩ := h
    have tail : (m, y) ∈ rowsOf ps x.2 (n + 1) → ∃ (i : Nat) (V0 : Value), m = n + i ∧ (V :: Vs)[i]? = some V0 ∧ ((∃ t e xs, (p :: ps)[i]? = some (.read t e) ∧ ArgOk η w S (.read t e) xs V0 ∧ y = some ⟨t, e, false, xs⟩) ∨ (∃ t e xs, (p :: ps)[i]? = some (.own t e) ∧ ArgOk η w S (.own t e) xs V0 ∧ y = some ⟨t, e, true, xs⟩) ∨ (∃ t e x, (p :: ps)[i]? = some (.pt t e) ∧ ArgOk η w S (.pt t e) x V0 ∧ y = some ⟨t, e, false, [x]⟩)) := fun ht => by
      obtain ⟨i, V', e1, e2, e3⟩ := rowsOf_mem ps x.2 Vs (n + 1) m y h2 ht
      exact ⟨i + 1, V', by omega, by simpa using e2, by simpa using e3⟩
    cases p with
    | v t => exact tail hm
    | op => exact tail hm
    | read t e =>
      rcases List.mem_cons.1 hm with hm | hm
      · cases hm
        exact ⟨0, V, rfl, rfl, .inl ⟨t, e, x.1, rfl, h1, rfl⟩⟩
      · exact tail hm
    | own t e =>
      rcases List.mem_cons.1 hm with hm | hm
      · cases hm
        exact ⟨0, V, rfl, rfl, .inr (.inl ⟨t, e, x.1, rfl, h1, rfl⟩)⟩
      · exact tail hm
    | pt t e =>
      rcases List.mem_cons.1 hm with hm | hm
      · cases hm
        exact ⟨0, V, rfl, rfl, .inr (.inr ⟨t, e, x.1, rfl, h1, rfl⟩)⟩
      · exact tail hm
    | hp => exact tail hm
    | h t => exact tail hm
    | fn => exact tail hm
theorem rowsOf_used : ∀ (ps : List Par) (xs : argL ps) (n i : Nat) (p : Par), ps[i]? = some p → ((∃ t e, p = .read t e) ∨ (∃ t e, p = .own t e) ∨ ∃ t e, p = .pt t e) → look (rowsOf ps xs n) (n + i) ≠ none
  | [], _, _, _, _, h, _ => by simp at h
  | q :: ps, x, n, 0, p, h, hp => by
    have h : q = p := by simpa using h
    subst h
    rcases hp with ⟨t, e, rfl⟩ | ⟨t, e, rfl⟩ | ⟨t, e, rfl⟩ <;> (simp only [rowsOf, look, Nat.add_zero]; rw [show Nat.beq n n = true from Nat.beq_refl n]; simp)
  | q :: ps, x, n, i + 1, p, h, hp => by
    have ih := rowsOf_used ps x.2 (n + 1) i p (by simpa using h) hp
    rw [show n + 1 + i = n + (i + 1) by omega] at ih
    have hb : Nat.beq n (n + (i + 1)) = false := by
      cases hb : Nat.beq n (n + (i + 1)) with
      | true => have := Nat.eq_of_beq_eq_true hb; omega
      | false => rfl
    cases q <;> simp only [rowsOf, look, hb, cond_false] <;> exact ih
theorem ownVals_mem : ∀ {ps : List Par} {Vs : List Value} {i : Nat} {t : Ty} {e : TypeId} {V : Value}, ps[i]? = some (.own t e) → Vs[i]? = some V → V ∈ ownVals ps Vs
  | [], _, _, _, _, _, h, _ => by simp at h
  | _ :: _, [], _, _, _, _, _, h => by simp at h
  | p :: ps, V :: Vs, 0, t, e, U, h, h' => by
    have h : p = .own t e := by simpa using h
    have h' : V = U := by simpa using h'
    subst h; subst h'
    exact List.mem_cons_self
  | p :: ps, V :: Vs, i + 1, t, e, U, h, h' => by
    have := ownVals_mem (ps := ps) (Vs := Vs) (i := i) (by simpa using h) (by simpa using h')
    cases p <;> simp only [ownVals] <;> first | exact this | exact List.mem_cons_of_mem _ this
theorem ownVals_apart : ∀ {ps : List Par} {Vs : List Value} {i j : Nat} {t t' : Ty} {e e' : TypeId} {V V' : Value}, (ownVals ps Vs).Pairwise apart2 → i < j → ps[i]? = some (.own t e) → Vs[i]? = some V → ps[j]? = some (.own t' e') → Vs[j]? = some V' → apart2 V V'
  | [], _, _, _, _, _, _, _, _, _, _, _, h, _, _, _ => by simp at h
  | _ :: _, [], _, _, _, _, _, _, _, _, _, _, _, h, _, _ => by simp at h
  | p :: ps, V0 :: Vs, i, j + 1, t, t', e, e', V, V', hp, hij, h1, h2, h3, h4 => by
    have h3' : ps[j]? = some (.own t' e') := by simpa using h3
    have h4' : Vs[j]? = some V' := by simpa using h4
    cases i with
    | zero =>
      have h1 : p = .own t e := by simpa using h1
      have h2 : V0 = V := by simpa using h2
      subst h1; subst h2
      exact (List.pairwise_cons.1 hp).1 V' (ownVals_mem h3' h4')
    | succ i =>
      have hp' : (ownVals ps Vs).Pairwise apart2 := by
        cases p <;> simp only [ownVals] at hp <;> first | exact hp | exact (List.pairwise_cons.1 hp).2
      exact ownVals_apart (i := i) (j := j) hp' (by omega) (by simpa using h1) (by simpa using h2) h3' h4'
/-- The state at a function's beginning. -/
theorem entry_rel {T : Tab} {ps : List Par} {xs : argL ps} {Vs : List Value} {nt : Nat} (hn : Vs.length ≤ nt) (hA : ArgsOk η w S ps xs Vs) (hp : (ownVals ps Vs).Pairwise apart2) {hq : Hp} (hO : HpOk η w hq) (hSO : ∀ n, hq.ob n ≠ none → ∀ b, (η.hv n).ownBlock = some b → S b ∧ ∀ V ∈ ownVals ps Vs, V.ownBlock ≠ some b) :
    Rel ⟨P, T, W0, w, fun k => S k ∨ w.heap.size ≤ k, fun _ => False, fun _ => False, η⟩ nt ⟨slotsOf ps xs 0, rowsOf ps xs 0, hq⟩ { tmps := Vs.toArray ++ Array.replicate (nt - Vs.toArray.size) undef, defers := [] } w := by
  have hget : ∀ i V, Vs[i]? = some V → (Vs.toArray ++ Array.replicate (nt - Vs.toArray.size) undef).getD i undef = V := by
    intro i V h
    have hlt : i < Vs.length := (List.getElem?_eq_some_iff.1 h).1
    rw [Array.getD_eq_getD_getElem?, Array.getElem?_append_left (by simpa using hlt)]
    simp [h]
  refine ⟨by simp; omega, rfl, by rw [slotsOf_keys]; exact List.nodup_range', ⟨fun n => parSv ps[n]? (Vs.getD n undef), fun n => parTy ps[n]?, η⟩, ?_, ?_, ?_⟩
  · intro m av h
    obtain ⟨i, p, V, x, e1, e2, e3, e4, e5⟩ := slotsOf_mem ps xs Vs 0 m av hA (look_mem h)
    rw [Nat.zero_add] at e1
    subst e1
    have hu := fun hq => rowsOf_used ps xs 0 m p e2 hq
    rw [Nat.zero_add] at hu
    show VRel _ _ av ((Vs.toArray ++ _).getD m undef)
    rw [hget m V e3]
    have hD : Vs.getD m undef = V := by rw [List.getD_eq_getElem?_getD, e3]; rfl
    rcases e5 with ⟨t, y, rfl, hv⟩ | rfl | ⟨rfl, hq⟩ | ⟨rfl, t, e, rfl⟩ | hrel
    · exact hv
    · exact trivial
    · refine ⟨hu (hq.imp id .inl), ?_⟩
      show V = parSv ps[m]? (Vs.getD m undef)
      rw [e2, hD]
      rcases hq with ⟨t, e, rfl⟩ | ⟨t, e, rfl⟩ <;> rfl
    · obtain ⟨ad, hV, hrd, _⟩ := e4
      refine ⟨hu (.inr (.inr ⟨t, e, rfl⟩)), ad, 1, 1, ?_, Int.le_refl _, by omega, by rw [hV]; simp [Addr.add]⟩
      show parSv ps[m]? (Vs.getD m undef) = _
      rw [e2, hD, hV]
      rfl
    · exact hrel _ _ rfl
  · have info : ∀ r x, row (look (rowsOf ps xs 0)) r = some x → ∃ V, Vs[r]? = some V ∧ ((∃ t e xs, ps[r]? = some (.read t e) ∧ ArgOk η w S (.read t e) xs V ∧ x = ⟨t, e, false, xs⟩) ∨ (∃ t e xs, ps[r]? = some (.own t e) ∧ ArgOk η w S (.own t e) xs V ∧ x = ⟨t, e, true, xs⟩) ∨ (∃ t e x', ps[r]? = some (.pt t e) ∧ ArgOk η w S (.pt t e) x' V ∧ x = ⟨t, e, false, [x']⟩)) := by
      intro r x hr
      obtain ⟨i, V, e1, e2, e3⟩ := rowsOf_mem ps xs Vs 0 r _ hA (row_mem hr)
      rw [Nat.zero_add] at e1
      subst e1
      refine ⟨V, e2, ?_⟩
      rcases e3 with ⟨t, e, ys, h1, h2, h3⟩ | ⟨t, e, ys, h1, h2, h3⟩ | ⟨t, e, ys, h1, h2, h3⟩
      · cases h3; exact .inl ⟨t, e, ys, h1, h2, rfl⟩
      · cases h3; exact .inr (.inl ⟨t, e, ys, h1, h2, rfl⟩)
      · cases h3; exact .inr (.inr ⟨t, e, ys, h1, h2, rfl⟩)
    have svOf : ∀ r V, Vs[r]? = some V → ∀ p, ps[r]? = some p → parSv ps[r]? (Vs.getD r undef) = parSv (some p) V := by
      intro r V h p hp
      rw [hp, List.getD_eq_getElem?_getD, h]
      rfl
    constructor
    · intro r x hr
      obtain ⟨V, hV, hx⟩ := info r x hr
      rcases hx with ⟨t, e, ys, h1, h2, rfl⟩ | ⟨t, e, ys, h1, h2, rfl⟩ | ⟨t, e, ys, h1, h2, rfl⟩
      · refine ⟨by show parTy ps[r]? = t; rw [h1]; rfl, fun h => (by cases h), ?_⟩
        show ReadV w t ys (parSv ps[r]? (Vs.getD r undef))
        rw [svOf r V hV _ h1]
        exact h2.1
      · have hs := svOf r V hV _ h1
        refine ⟨by show parTy ps[r]? = t; rw [h1]; rfl, fun _ => ?_, ?_⟩
        · show OwnV w t e ys (parSv ps[r]? (Vs.getD r undef)) ∧ ∀ g, (parSv ps[r]? (Vs.getD r undef)).ownBlock = some g → _
          rw [hs]
          exact ⟨h2.1, fun g hg => .inl (h2.2 g hg)⟩
        · show ReadV w t ys (parSv ps[r]? (Vs.getD r undef))
          rw [hs]
          exact own_read h2.1
      · refine ⟨by show parTy ps[r]? = t; rw [h1]; rfl, fun h => (by cases h), ?_⟩
        obtain ⟨ad, hVa, hrd, _⟩ := h2
        show ReadV w t [ys] (parSv ps[r]? (Vs.getD r undef))
        rw [svOf r V hV _ h1, hVa]
        exact hrd
    · intro r x r' x' hr ho hr' hne hx' g hg
      obtain ⟨V, hV, hx⟩ := info r x hr
      obtain ⟨V', hV', hx2⟩ := info r' x' hr'
      rcases hx with ⟨t, e, ys, h1, h2, rfl⟩ | ⟨t, e, ys, h1, h2, rfl⟩ | ⟨t, e, ys, h1, h2, rfl⟩
      · cases ho
      · have hs := svOf r V hV _ h1
        have hg : (parSv ps[r]? (Vs.getD r undef)).ownBlock = some g := hg
        rw [hs] at hg
        have hg : V.ownBlock = some g := hg
        show (parSv ps[r']? (Vs.getD r' undef)).ownBlock ≠ some g
        rcases hx2 with ⟨t', e', ys', k1, k2, rfl⟩ | ⟨t', e', ys', k1, k2, rfl⟩ | ⟨t', e', ys', k1, k2, rfl⟩
        · rw [svOf r' V' hV' _ k1]
          intro hg'
          exact k2.2 (hx'.resolve_left (fun h => by cases h)) g hg' (h2.2 g hg)
        · rw [svOf r' V' hV' _ k1]
          rcases Nat.lt_or_gt_of_ne hne with hlt | hlt
          · exact ownVals_apart hp hlt h1 hV k1 hV' g hg
          · intro hg'
            exact ownVals_apart hp hlt k1 hV' h1 hV g hg' hg
        · obtain ⟨ad, hVa, hrd, hS⟩ := k2
          rw [svOf r' V' hV' _ k1, hVa]
          intro hg'
          have : ad.block = g := by simpa [parSv, toSl, Value.ownBlock] using hg'
          rw [this] at hS
          exact hS (h2.2 g hg)
      · cases ho
    · exact Pres.refl _ _
    · exact fun _ _ _ _ _ _ _ h => h
  · refine ⟨hO, fun n hn b hb => .inl (hSO n hn b hb).1, fun n hn b hb r x hr hx hb' => ?_, HEnv.le.refl _⟩
    obtain ⟨q1, q2⟩ := hSO n hn b hb
    obtain ⟨i, V, e1, e2, e3⟩ := rowsOf_mem ps xs Vs 0 r _ hA (row_mem hr)
    rw [Nat.zero_add] at e1
    subst e1
    have hb' : (parSv ps[r]? (Vs.getD r undef)).ownBlock = some b := hb'
    rw [List.getD_eq_getElem?_getD, e2] at hb'
    rcases e3 with ⟨t, e, ys, h1, h2, h3⟩ | ⟨t, e, ys, h1, h2, h3⟩ | ⟨t, e, ys, h1, h2, h3⟩
    · cases h3
      rw [h1] at hb'
      exact h2.2 (hx.resolve_left (fun h => by cases h)) b hb' q1
    · cases h3
      rw [h1] at hb'
      exact q2 V (ownVals_mem h1 e2) hb'
    · cases h3
      rw [h1] at hb'
      obtain ⟨ad, hVa, hrd, hS⟩ := h2
      have hb' : (toSl V).ownBlock = some b := hb'
      rw [hVa] at hb'
      have : ad.block = b := by simpa [toSl, Value.ownBlock] using hb'
      rw [this] at hS
      exact hS q1
end
end Go.Ev

/- Functions are sound: what comes back; the whole. -/
namespace Go.Ev
open Go.RowKit
section
variable {P : Program} {W0 w w' : World} {a : Act} {R : Type} {sg : FuncId → Sig} {callF : (f : FuncId) → argL (sg f).ps → Option (retL (sg f).rs)} {live : Nat → Option (List Nat)} {S : Nat → Prop}
theorem retOf_sound {C : Ctx} (hmine : ∀ k, C.mine k → S k ∨ w.heap.size ≤ k) {rows : List (Nat × Option Row)} {ε : Env} (hM : Mem C (look rows) ε w') {t : RTy} {av : AV} {V : Value} (hv : VRel (look rows) ε av V) {x : t.den} {l : List Nat} (h : retOf rows t av = some (x, l)) :
    RetOk ε.hh w w' S t x V ∧ (∀ U ∈ rowVals [t] [V], ∀ g, U.ownBlock = some g → ∃ r ∈ l, (ε.sv r).ownBlock = some g) ∧ (∀ r ∈ l, ∃ z, row (look rows) r = some z ∧ z.own = true) := by
  unfold retOf at h
  split at h
  · rename_i t av
    split at h
    · rename_i x' hx
      cases h
      unfold toDen at hx
      split at hx
      · rename_i s y
        obtain ⟨e, hy⟩ := cast?_eq (F := Ty.den) hx
        subst e
        subst hy
        exact ⟨hv, fun U hU => by simp [rowVals] at hU, fun r hr => by cases hr⟩
      · cases hx
    · cases h
  · rename_i t e r
    split at h
    · rename_i z hz
      replace h := bif_some h
      obtain ⟨hb, h⟩ := h
      rw [Bool.and_eq_true] at hb
      split at h
      · rename_i xs hxs
        cases h
        obtain ⟨hc, hxs⟩ := cast?_eq (F := fun t => List t.den) hxs
        have he := Nat.eq_of_beq_eq_true hb.2
        have ho := hb.1
        obtain ⟨zt, ze, zo, zx⟩ := z
        have hc : zt = t := hc
        subst hc
        have hxs : zx = x := hxs
        subst hxs
        have he : ze = e := he
        subst he
        obtain ⟨_, rfl⟩ := hv
        obtain ⟨h1, h2⟩ := (hM.ok r _ hz).own ho
        refine ⟨⟨h1, fun g hg => hmine g (h2 g hg)⟩, fun U hU g hg => ?_, fun r' hr' => ?_⟩
        · have : U = ε.sv r := by simpa [rowVals] using hU
          subst this
          exact ⟨r, by simp, hg⟩
        · rw [List.mem_singleton.1 hr']
          exact ⟨_, hz, ho⟩
      · cases h
    · cases h
  · rename_i t e r lo hi
    split at h
    · rename_i z hz
      replace h := bif_some h
      obtain ⟨hb, h⟩ := h
      rw [Bool.and_eq_true] at hb
      split at h
      · rename_i xs hxs
        cases h
        obtain ⟨hc, hxs⟩ := cast?_eq (F := fun t => List t.den) hxs
        have he := Nat.eq_of_beq_eq_true hb.2
        have ho := hb.1
        obtain ⟨zt, ze, zo, zx⟩ := z
        have hc : zt = t := hc
        subst hc
        have hxs : zx = xs := hxs
        subst hxs
        have he : ze = e := he
        subst he
        obtain ⟨_, A, m, c, A', c', hsv, hmc, hV, _, h0h, hhm, hc', _, hz0, hp0⟩ := hv
        have hlo := hp0.1 rfl
        subst hlo
        obtain ⟨rfl, rfl⟩ := hz0 rfl
        obtain ⟨h1, h2⟩ := (hM.ok r _ hz).own ho
        have hm : m = zx.length := by
          have h3 := (hM.ok r _ hz).read
          rw [hsv] at h3
          exact (ReadV.at_ h3).1
        rw [hsv] at h1
        have h4 := own_takeV (m := (hi - 0).toNat) h1 (show (hi - 0).toNat ≤ zx.length by omega)
        rw [← hV, show (hi - 0).toNat = hi.toNat by omega] at h4
        have hbk : V.ownBlock = (ε.sv r).ownBlock := by rw [hV, hsv]; cases A' <;> rfl
        refine ⟨⟨h4, fun g hg => hmine g (h2 g (by rw [← hbk]; exact hg))⟩, fun U hU g hg => ?_, fun r' hr' => ?_⟩
        · have : U = V := by simpa [rowVals] using hU
          subst this
          exact ⟨r, by simp, by rw [← hbk]; exact hg⟩
        · rw [List.mem_singleton.1 hr']
          exact ⟨_, hz, ho⟩
      · cases h
    · cases h
  · rename_i t e t' e'
    cases h
    have hv : V = .slice none 0 0 := hv
    subst hv
    refine ⟨⟨ownV_nil w' t e, fun g hg => by simp [Value.ownBlock] at hg⟩, fun U hU g hg => ?_, fun r hr => by cases hr⟩
    have : U = .slice none 0 0 := by simpa [rowVals] using hU
    subst this
    simp [Value.ownBlock] at hg
  · rename_i t e r
    split at h
    · rename_i z hz
      replace h := bif_some h
      obtain ⟨hb, h⟩ := h
      rw [Bool.and_eq_true] at hb
      split at h
      · rename_i x' hxs
        cases h
        obtain ⟨hc, hxs⟩ := cast?_eq (F := fun t => List t.den) hxs
        have he := Nat.eq_of_beq_eq_true hb.2
        have ho := hb.1
        obtain ⟨zt, ze, zo, zx⟩ := z
        have hc : zt = t := hc
        subst hc
        have hxs : zx = [x] := hxs
        subst hxs
        have he : ze = e := he
        subst he
        obtain ⟨_, ad, n, c, hsv, _, _, hV⟩ := hv
        rw [show Int.toNat (Int.ofNat 0) * (ε.ty r).sz = 0 by simp, Addr.add_zero'] at hV
        obtain ⟨h1, h2⟩ := (hM.ok r _ hz).own ho
        have hm : n = 1 := by
          have h3 := (hM.ok r _ hz).read
          rw [hsv] at h3
          exact (ReadV.at_ h3).1
        subst hm
        rw [hsv] at h1
        refine ⟨⟨ad, c, hV, h1, hmine _ (h2 _ (by rw [hsv]; rfl))⟩, fun U hU g hg => ?_, fun r' hr' => ?_⟩
        · have : U = .slice (some ad) 1 1 := by simpa [rowVals, hV, toSl] using hU
          subst this
          refine ⟨r, by simp, ?_⟩
          rw [hsv]
          exact hg
        · rw [List.mem_singleton.1 hr']
          exact ⟨_, hz, ho⟩
      · cases h
    · cases h
  · split at h
    · rename_i y hy
      cases h
      exact ⟨toH_rel hy hv, fun U hU => by simp [rowVals] at hU, fun r hr => by cases hr⟩
    · cases h
  · cases h
theorem rowVals_cons {t : RTy} (ht : t ≠ .hp) (rs : List RTy) (V : Value) (Vs : List Value) : rowVals (t :: rs) (V :: Vs) = rowVals [t] [V] ++ rowVals rs Vs := by cases t <;> first | rfl | exact absurd rfl ht
theorem retOk_hp {η : HEnv} {t : RTy} {x : t.den} {V : Value} (h : RetOk η w w' S t x V) : t ≠ .hp := by
  intro e
  subst e
  exact h
theorem rowVals_one (t : RTy) (V : Value) : (rowVals [t] [V]).Pairwise apart2 := by cases t <;> simp [rowVals]
theorem rets_sound {C : Ctx} (hmine : ∀ k, C.mine k → S k ∨ w.heap.size ≤ k) {s : St} {ε : Env} (hM : Mem C (look s.rows) ε w') : ∀ {rs : List RTy} {as : List AV} {Vs : List Value} {x : retL rs} {l : List Nat}, rets s rs as = some (x, l) → All2 (VRel (look s.rows) ε) as Vs →
    RetsOk ε.hh w w' S rs x Vs ∧ (rowVals rs Vs).Pairwise apart2 ∧ (∀ U ∈ rowVals rs Vs, ∀ g, U.ownBlock = some g → ∃ r ∈ l, (ε.sv r).ownBlock = some g) ∧ (∀ r ∈ l, ∃ z, row (look s.rows) r = some z ∧ z.own = true)
  | [], as, Vs, x, l, h, hv => by
    match as, Vs, h, hv with
    | [], [], h, _ => cases h; exact ⟨trivial, List.Pairwise.nil, fun U hU => (by cases hU), fun r hr => (by cases hr)⟩
  | [t], as, Vs, x, l, h, hv => by
    match as, Vs, h, hv with
    | [av], [V], h, hv =>
      simp only [rets] at h
      obtain ⟨h1, h2, h3⟩ := retOf_sound hmine hM hv.1 h
      exact ⟨h1, rowVals_one t V, h2, h3⟩
  | t :: u :: rs, as, Vs, x, l, h, hv => by
    match as, Vs, h, hv with
    | av :: ns, V :: Vs, h, hv =>
      simp only [rets] at h
      split at h
      · rename_i y l1 ys l2 hy hys
        obtain ⟨hd, h⟩ := bif_some h
        cases h
        have hd := disj_spec hd
        obtain ⟨h1, h2, h3⟩ := retOf_sound hmine hM hv.1 hy
        obtain ⟨k1, k2, k3, k4⟩ := rets_sound hmine hM hys hv.2
        rw [rowVals_cons (retOk_hp h1)]
        refine ⟨⟨h1, k1⟩, ?_, ?_, ?_⟩
        · rw [List.pairwise_append]
          refine ⟨rowVals_one t V, k2, fun U hU U' hU' g hg hg' => ?_⟩
          obtain ⟨r, hr, hrb⟩ := h2 U hU g hg
          obtain ⟨r', hr', hrb'⟩ := k3 U' hU' g hg'
          obtain ⟨z, hz, ho⟩ := h3 r hr
          obtain ⟨z', hz', ho'⟩ := k4 r' hr'
          exact hM.sep r z r' z' hz ho hz' (fun e => hd r hr (e ▸ hr')) (.inl ho') g hrb hrb'
        · intro U hU g hg
          rcases List.mem_append.1 hU with hU | hU
          · obtain ⟨r, hr, hrb⟩ := h2 U hU g hg
            exact ⟨r, List.mem_append_left _ hr, hrb⟩
          · obtain ⟨r, hr, hrb⟩ := k3 U hU g hg
            exact ⟨r, List.mem_append_right _ hr, hrb⟩
        · intro r hr
          rcases List.mem_append.1 hr with hr | hr
          · exact h3 r hr
          · exact k4 r hr
      · cases h
def rvOf : RV → ResultVar
  | .tmp n => .tmp n
  | .cell n t => .cell n t
theorem resTmps_eq : ∀ {l : List ResultVar} {m : List RV}, resTmps l = some m → l = m.map rvOf
  | [], m, h => by cases h; rfl
  | .tmp t :: l, m, h => by
    unfold resTmps at h
    split at h
    · rename_i m' hm
      cases h
      rw [resTmps_eq hm]
      rfl
    · cases h
  | .cell t u :: l, m, h => by
    unfold resTmps at h
    split at h
    · rename_i m' hm
      cases h
      rw [resTmps_eq hm]
      rfl
    · cases h
/-- What a result's variable holds. -/
def resSem (tmps : Array Value) : ResultVar → Sem Value
  | .tmp t => pure (tmps.getD t undef)
  | .cell a t => do loadVar t (← asAddr (tmps.getD a undef))
theorem run_results {fn : Func} {m : List RV} (h : resTmps fn.results.toList = some m) {tmps : Array Value} {w : World} {Vs : List Value} (hv : (List.mapM (m := Sem) (resSem tmps) (m.map rvOf)).run P w = .ok Vs w) : (results fn tmps).run P w = .ok (retV Vs) w := by
  have he := resTmps_eq h
  have e : results fn tmps = (do
      let vs ← (List.toArray <$> List.mapM (m := Sem) (resSem tmps) (m.map rvOf) : Sem (Array Value))
      pure (if h : vs.size = 1 then vs[0] else .tuple vs)) := by
    rw [← he, ← Array.mapM_eq_mapM_toList]
    rfl
  rw [e, Sem.run_bind, Sem.run_map, hv]
  simp only [Result.andThen, Sem.run_pure]
  congr 1
  match Vs with
  | [] => rfl
  | [n] => rfl
  | n :: n' :: m => simp [retV]
theorem run_mapM_cons {α β : Type} {f : α → Sem β} {x : α} {l : List α} {w : World} {y : β} {ys : List β} (h : (f x).run P w = .ok y w) (hl : (List.mapM f l).run P w = .ok ys w) : (List.mapM f (x :: l)).run P w = .ok (y :: ys) w := by
  simp [List.mapM_cons, Sem.run_bind, Sem.run_pure, Result.andThen, h, hl]
theorem hcells_sound {C : Ctx} (hC : CtxOk C) {s : St} {ε : Env} (hS : Slots (look s.rows) ε (look s.sl) a) (hM : Mem C (look s.rows) ε w) (hH : HM C s.hp (look s.rows) ε w) : ∀ (l : List RV) {K : List AV → Option R} {r : R}, hcells C.T s K l = some r →
    ∃ as Vs, K as = some r ∧ All2 (VRel (look s.rows) ε) as Vs ∧ (List.mapM (m := Sem) (resSem a.tmps) (l.map rvOf)).run C.P w = .ok Vs w
  | [], K, r, h => ⟨[], [], h, trivial, by simp⟩
  | .tmp n :: l, K, r, h => by
    unfold hcells at h
    split at h
    · rename_i av hav
      obtain ⟨as, Vs, h1, h2, h3⟩ := hcells_sound hC hS hM hH l h
      exact ⟨av :: as, _ :: Vs, h1, ⟨hS n av hav, h2⟩, run_mapM_cons (by simp [rvOf, resSem]) h3⟩
    · cases h
  | .cell n ty :: l, K, r, h => by
    unfold hcells at h
    split at h
    · rename_i q i hav
      split at h
      · rename_i y t hy ht
        replace h := bif_some h
        obtain ⟨hb, h⟩ := h
        obtain rfl := Ty.beq_eq hb
        obtain ⟨as, Vs, h1, h2, h3⟩ := hcells_sound hC hS hM hH l h
        have hx := hS n _ hav
        obtain ⟨_, ad, m, c, hv, h0, h1', hV⟩ := hx
        obtain ⟨A, c', hv', hc', hr⟩ := row_slice hM hy
        rw [hv] at hv'
        injection hv' with e1 e2 e3
        subst e2; subst e3
        have hi : i.toNat < y.xs.length := by omega
        obtain ⟨ad', hA, hcell⟩ := hr i.toNat hi
        rw [← e1] at hA
        cases hA
        have hl := run_loadVar (P := C.P) (hC.tab.ty _ _ ht).1 w (ad.add (i.toNat * y.t.sz)) (nth y.t y.xs i) (by rw [nth_eq _ _ _ hi]; exact hcell)
        rw [(hM.ok q y hy).ty] at hV
        exact ⟨_ :: as, y.t.val (nth y.t y.xs i) :: Vs, h1, ⟨rfl, h2⟩, run_mapM_cons (by simp only [rvOf, resSem]; rw [hV]; simp only [asAddr, Sem.run_bind, Sem.run_pure, Result.andThen]; exact hl) h3⟩
      · cases h
    · rename_i p hav
      split at h
      · rename_i t ht
        cases hl : s.hp.ld t p with
        | none => rw [hl] at h; cases h
        | some y =>
          rw [hl] at h
          obtain ⟨as, Vs, h1, h2, h3⟩ := hcells_sound hC hS hM hH l (show hcells C.T s (fun as => K (avOf t y :: as)) l = some r from h)
          obtain ⟨ad, vs, hV, hrel, hcell⟩ := ld_cells hH hl (hrel_pr.1 (hS n _ hav))
          have hlen := hrel.length
          rw [t.cc_length] at hlen
          have hr := run_loadVarH (P := C.P) (hC.tab.hty _ _ ht).1 w ad vs hlen.symm hcell
          have hV : a.tmps.getD n undef = .pointer (some ad) := hV
          exact ⟨_ :: as, t.mkv vs :: Vs, h1, ⟨avOf_rel ⟨vs, hrel, rfl⟩, h2⟩, run_mapM_cons (by simp only [rvOf, resSem]; rw [hV]; simp [asAddr, hr, Result.andThen]) h3⟩
      · cases h
    · cases h
def hpFirst : List RTy → Bool
  | .hp :: _ => true
  | _ => false
theorem stripR_addR : ∀ (rs : List RTy) (h : Hp) (x : retL (stripT rs)), stripR rs (addR rs h x) = x
  | [.hp], _, _ => rfl
  | .hp :: _ :: _, _, _ => rfl
  | [], _, _ => rfl
  | [.v _], _, _ => rfl
  | .v _ :: _ :: _, _, _ => rfl
  | [.sl _ _], _, _ => rfl
  | .sl _ _ :: _ :: _, _, _ => rfl
  | [.pt _ _], _, _ => rfl
  | .pt _ _ :: _ :: _, _, _ => rfl
  | [.h _], _, _ => rfl
  | .h _ :: _ :: _, _, _ => rfl
theorem hpR_first : ∀ {rs : List RTy} (_ : hpFirst rs = true) (h : Hp) (x : retL (stripT rs)), hpR rs (addR rs h x) = h
  | [.hp], _, _, _ => rfl
  | .hp :: _ :: _, _, _, _ => rfl
theorem hpR_none : ∀ {rs : List RTy} (_ : hpFirst rs = false) (x : retL rs), hpR rs x = Hp.empty
  | [], _, _ => rfl
  | [.v _], _, _ => rfl
  | .v _ :: _ :: _, _, _ => rfl
  | [.sl _ _], _, _ => rfl
  | .sl _ _ :: _ :: _, _, _ => rfl
  | [.pt _ _], _, _ => rfl
  | .pt _ _ :: _ :: _, _, _ => rfl
  | [.h _], _, _ => rfl
  | .h _ :: _ :: _, _, _ => rfl
theorem hpA_none : ∀ {ps : List Par} (_ : hasHp ps = false) (x : argL ps), hpA ps x = Hp.empty := by
  intro ps h x
  cases ps with
  | nil => rfl
  | cons p ps => cases p <;> first | rfl | cases h
theorem retsOk_pure {η η' : HEnv} : ∀ {rs : List RTy} {x : retL rs} {Vs : List Value}, pureR rs = true → RetsOk η w w' S rs x Vs → RetsOk η' w w' S rs x Vs
  | [], _, Vs, _, h => by
    match Vs, h with
    | [], _ => trivial
  | [t], x, Vs, hp, h => by
    match Vs, h with
    | [V], h => cases t <;> first | exact h | cases hp
  | t :: u :: l, x, Vs, hp, h => by
    match Vs, h with
    | V :: Vs, h =>
      obtain ⟨h1, h2⟩ := h
      cases t with
      | hp => cases hp
      | h t => cases hp
      | v t => exact ⟨h1, retsOk_pure hp h2⟩
      | sl t e => exact ⟨h1, retsOk_pure hp h2⟩
      | pt t e => exact ⟨h1, retsOk_pure hp h2⟩
theorem stripT_none : ∀ {rs : List RTy}, hpFirst rs = false → stripT rs = rs := by
  intro rs h
  cases rs with
  | nil => rfl
  | cons t rs => cases t <;> first | rfl | cases h
theorem pureR_strip {rs : List RTy} (h : pureR rs = true) : pureR (stripT rs) = true := by
  cases rs with
  | nil => rfl
  | cons t rs => cases t <;> first | exact h | cases h
/-- A function's heap comes back, or it takes none. -/
def sigOk (g : Sig) : Bool := hpFirst g.rs || (pureR g.rs && !hasHp g.ps)
theorem ArgsOk.length {η : HEnv} : ∀ {ps : List Par} {xs : argL ps} {Vs : List Value}, ArgsOk η w S ps xs Vs → Vs.length = ps.length
  | [], _, [], _ => rfl
  | [], _, _ :: _, h => h.elim
  | p :: _, _, [], h => by cases p <;> exact h.elim
  | p :: ps, x, V :: Vs, h => by rw [List.length_cons, List.length_cons, ArgsOk.length h.2]
/-- A function's code does what its evaluation tells. -/
theorem call_of {T : Tab} (hm : P.follows .mixedOrders = true) (ht : TabOk P T) (hF : ∀ g, CallOk P W0 sg callF g) {callF2 : (f : FuncId) → argL (sg f).ps → Option (retL (sg f).rs)} {f : FuncId} {fn : Func} {c : Code} {res : List RV} {k : Nat} (hf : P.funcs[f]? = some fn) (hb : fn.body = some c) (hname : (fn.name == "runtime.NumGoroutine") = false)
    (hres : resTmps fn.results.toList = some res) (hok : codeOk T c = true) (hps : (strip (sg f).ps).length ≤ fn.ntmps) (hsg : sigOk (sg f) = true)
    (h : ∀ xs r, callF2 f xs = some r → run T sg callF live fn.ntmps (jF T sg callF live fn.ntmps (fin T (sg f).rs res) k) (fin T (sg f).rs res) steps (.code c) ⟨slotsOf (strip (sg f).ps) (stripA (sg f).ps xs) 0, rowsOf (strip (sg f).ps) (stripA (sg f).ps xs) 0, hpA (sg f).ps xs⟩ [] = some r) : CallOk P W0 sg callF2 f := by
  intro xs r hr
  refine ⟨fun args w => ?_, fun η w S Vs hB hS hA hp hO hSO => ?_⟩
  · have hn : ¬ fn.name = "runtime.NumGoroutine" := by simpa using hname
    simp [callFunc, hf, hb, hn]
  · let C : Ctx := ⟨P, T, W0, w, fun k => S k ∨ w.heap.size ≤ k, fun _ => False, fun _ => False, η⟩
    have hC : CtxOk C := ⟨ht, fun k hk => .inr hk, fun k hk => hk.elim (hS k) (fun h => Nat.le_trans hB.size h), hB, fun k hk => hk.elim⟩
    have hvw : ∀ r, ¬ C.vw r := fun _ h => h
    have hlen : Vs.length ≤ fn.ntmps := by rw [hA.length]; exact hps
    have hR : Rel C fn.ntmps ⟨slotsOf (strip (sg f).ps) (stripA (sg f).ps xs) 0, rowsOf (strip (sg f).ps) (stripA (sg f).ps xs) 0, hpA (sg f).ps xs⟩ { tmps := Vs.toArray ++ Array.replicate (fn.ntmps - Vs.toArray.size) undef, defers := [] } w := entry_rel hlen hA hp hO hSO
    let R' : Ending → World → Prop := fun e w' => ∃ Rs η', e = .returned (retV Rs) ∧ RetsOk η' w w' S (stripT (sg f).rs) (stripR (sg f).rs r) Rs ∧ (rowVals (stripT (sg f).rs) Rs).Pairwise apart2 ∧ Pres S w w' ∧
        η.le η' ∧ HpOk η' w' (hpR (sg f).rs r) ∧ ∀ n, (hpR (sg f).rs r).ob n ≠ none → ∀ b, (η'.hv n).ownBlock = some b → (S b ∨ w.heap.size ≤ b) ∧ ∀ V ∈ rowVals (stripT (sg f).rs) Rs, V.ownBlock ≠ some b
    have hfin : ∀ s' a' w', Rel C fn.ntmps s' a' w' → fin T (sg f).rs res s' = some r → bodyPost P fn R' .normal a' w' ∧ bodyPost P fn R' .ret a' w' := by
      intro s' a' w' hR' hk
      have hR2 := prepT_sound (heapRs (stripT (sg f).rs) res) hR'
      unfold fin at hk
      generalize prepT (heapRs (stripT (sg f).rs) res) s' = s2 at hR2 hk
      obtain ⟨hn, hdf, _, ε, hSl, hM, hH⟩ := hR2
      obtain ⟨as, Vs', hk, hrel, hrun⟩ := hcells_sound hC hSl hM hH res hk
      unfold finS at hk
      split at hk
      · rename_i x l hx
        injection hk with hk
        obtain ⟨k1, k2, k3, k4⟩ := rets_sound (C := C) (S := S) (w := w) (fun k hk => hk) hM hx hrel
        have hpr : Pres S w w' := hM.pres.mono (fun k hk hm => hm.resolve_right (Nat.not_le.2 hk))
        have e1 : stripR (sg f).rs r = x := by rw [← hk]; exact stripR_addR _ _ _
        have hR3 : R' (.returned (retV Vs')) w' := by
          cases hfst : hpFirst (sg f).rs with
          | true =>
            have e2 : hpR (sg f).rs r = s2.hp := by rw [← hk]; exact hpR_first hfst _ _
            refine ⟨Vs', ε.hh, rfl, by rw [e1]; exact k1, k2, hpr, hH.ge, by rw [e2]; exact hH.ok, ?_⟩
            rw [e2]
            intro n hn b hb
            refine ⟨hH.mine n hn b hb, fun V hV hVb => ?_⟩
            obtain ⟨q, hq, hqb⟩ := k3 V hV b hVb
            obtain ⟨z, hz, hzo⟩ := k4 q hq
            exact hH.rows n hn b hb q z hz (.inl hzo) hqb
          | false =>
            have hs := hsg
            unfold sigOk at hs
            rw [hfst, Bool.false_or, Bool.and_eq_true] at hs
            have e2 : hpR (sg f).rs r = Hp.empty := hpR_none hfst r
            have e3 : hpA (sg f).ps xs = Hp.empty := hpA_none (by simpa using hs.2) xs
            rw [e3] at hO
            refine ⟨Vs', η, rfl, by rw [e1]; exact retsOk_pure (pureR_strip hs.1) k1, k2, hpr, HEnv.le.refl _, by rw [e2]; exact HpOk.empty w' hO.nx.symm, ?_⟩
            rw [e2]
            exact fun n hn => absurd rfl hn
        have : bodyPost P fn R' .normal a' w' := ⟨hdf, _, run_results hres hrun, hR3⟩
        exact ⟨this, this⟩
      · cases hk
    exact calls_of_wp hf hb ((run_sound (live := live) hvw hC hm hF (jF_sound hvw hC hm hF hfin k) hfin steps).1 c _ _ _ [] hok rfl hR (h xs r hr))
end
/-! ### comparisons that the kernel doesn't look into -/
noncomputable def ltI (x y : Int) : Bool := @decide (x < y) (Classical.propDecidable _)
noncomputable def leI (x y : Int) : Bool := @decide (x ≤ y) (Classical.propDecidable _)
noncomputable def eqI (x y : Int) : Bool := @decide (x = y) (Classical.propDecidable _)
noncomputable def nleI (x y : Nat) : Bool := @decide (x ≤ y) (Classical.propDecidable _)
noncomputable def eqS (x y : ByteArray) : Bool := @decide (x.toList = y.toList) (Classical.propDecidable _)
theorem ltI_eq (x y : Int) : ltI x y = decide (x < y) := by by_cases h : x < y <;> simp [ltI, h]
theorem leI_eq (x y : Int) : leI x y = decide (x ≤ y) := by by_cases h : x ≤ y <;> simp [leI, h]
theorem eqI_eq (x y : Int) : eqI x y = decide (x = y) := by by_cases h : x = y <;> simp [eqI, h]
theorem nleI_eq (x y : Nat) : nleI x y = decide (x ≤ y) := by by_cases h : x ≤ y <;> simp [nleI, h]
theorem eqS_eq (x y : ByteArray) : eqS x y = (x.toList == y.toList) := by by_cases h : x.toList = y.toList <;> simp [eqS, h]
noncomputable def i2fI (n : Int) : Nat := floatOfInt .f64 n
noncomputable def f2iOkI (k : IntKind) (b : Nat) : Bool := @decide ((floatToIntVal .f64 b k).isSome = true) (Classical.propDecidable _)
noncomputable def f2iI (k : IntKind) (b : Nat) : Int := (floatToIntVal .f64 b k).getD 0
noncomputable def foI (o : Ordering) (x y : Nat) : Bool := @decide (FloatKind.f64.format.order x y = some o) (Classical.propDecidable _)
noncomputable def faOkI (o : BinOp) (x y : Nat) : Bool := @decide ((floatBits o .f64 x y).isSome = true) (Classical.propDecidable _)
noncomputable def faI (o : BinOp) (x y : Nat) : Nat := (floatBits o .f64 x y).getD 0
theorem i2fI_eq (n : Int) : i2fI n = floatOfInt .f64 n := rfl
theorem f2iI_eq (k : IntKind) (b : Nat) (h : f2iOkI k b = true) : floatToIntVal .f64 b k = some (f2iI k b) := by
  have h : (floatToIntVal .f64 b k).isSome = true := by simpa [f2iOkI] using h
  obtain ⟨n, hn⟩ := Option.isSome_iff_exists.1 h
  simp [f2iI, hn]
theorem foI_eq (o : Ordering) (x y : Nat) : foI o x y = (FloatKind.f64.format.order x y == some o) := by
  by_cases h : FloatKind.f64.format.order x y = some o <;> simp [foI, h]
theorem faI_eq (o : BinOp) (x y : Nat) (h : faOkI o x y = true) : floatBits o .f64 x y = some (faI o x y) := by
  have h : (floatBits o .f64 x y).isSome = true := by simpa [faOkI] using h
  obtain ⟨n, hn⟩ := Option.isSome_iff_exists.1 h
  simp [faI, hn]
end Go.Ev

/- A program's table: what has to be known of it; a function's contract out of its evaluation; an argument that is a slice. -/
namespace Go.Ev
open Go.RowKit Go.ChangeShapes Go.WideShapes Go.Deep
def isAggD : TypeDesc → Bool
  | .struct _ | .array _ _ => true
  | _ => false
def structOf (P : Program) (n : TypeId) : Array Field := match P.underlying n with
  | some (.struct fs) => fs
  | _ => #[]
/-- The methods of an interface type. -/
def ifaceOf (P : Program) (n : TypeId) : Array (String × TypeId) := match P.underlying n with
  | some (.interface ms) => ms
  | _ => #[]
/-- The fields' places and types. -/
def FldT (P : Program) : Nat → List (Nat × TypeId) → Ty → Prop
  | o, [(p, n)], .one a => p = o ∧ SzOk P n a ∧ (a.isStruct = false → BasicOk P n a)
  | o, (p, n) :: l, .pair a b => (p = o ∧ SzOk P n a ∧ (a.isStruct = false → BasicOk P n a)) ∧ FldT P (o + a.sz) l b
  | _, _, _ => False
theorem fldT_at {P : Program} : ∀ {o : Nat} {l : List (Nat × TypeId)} {t : Ty}, FldT P o l t →
    (∀ j s, t.fld j = some s → ∃ p n, l[j]? = some (p, n) ∧ p = o + t.off j ∧ SzOk P n s ∧ (s.isStruct = false → BasicOk P n s)) ∧ (∀ j x, l[j]? = some x → ∃ s, t.fld j = some s)
  | o, [(p, n)], .one a, h => by
    obtain ⟨h1, h2, h3⟩ := h
    refine ⟨fun j s hs => ?_, fun j x hx => ?_⟩
    · cases j with
      | zero =>
        have : a = s := by simpa [Ty.fld] using hs
        subst this
        exact ⟨p, n, rfl, by simp [Ty.off, h1], h2, h3⟩
      | succ j => simp [Ty.fld] at hs
    · cases j with
      | zero => exact ⟨a, rfl⟩
      | succ j => simp at hx
  | o, (p, n) :: l, .pair a b, h => by
    have h' : (p = o ∧ SzOk P n a ∧ (a.isStruct = false → BasicOk P n a)) ∧ FldT P (o + a.sz) l b := by cases l <;> exact h
    obtain ⟨⟨h1, h2, h3⟩, h4⟩ := h'
    obtain ⟨k1, k2⟩ := fldT_at h4
    refine ⟨fun j s hs => ?_, fun j x hx => ?_⟩
    · cases j with
      | zero =>
        have : a = s := by simpa [Ty.fld] using hs
        subst this
        exact ⟨p, n, rfl, by simp [Ty.off, h1], h2, h3⟩
      | succ j =>
        obtain ⟨q, m, e1, e2, e3, e4⟩ := k1 j s hs
        exact ⟨q, m, e1, by rw [e2]; simp only [Ty.off]; omega, e3, e4⟩
    · cases j with
      | zero => exact ⟨a, rfl⟩
      | succ j => exact k2 j x hx
  | _, [], .one _, h => h.elim
  | _, [], .pair _ _, h => h.elim
  | _, _, .int _, h => by unfold FldT at h; split at h <;> simp_all
  | _, _, .bool, h => by unfold FldT at h; split at h <;> simp_all
  | _, _, .str, h => by unfold FldT at h; split at h <;> simp_all
  | _, _, .flt, h => by unfold FldT at h; split at h <;> simp_all
  | _, _, .nils, h => by unfold FldT at h; split at h <;> simp_all
  | _, _, .nile, h => by unfold FldT at h; split at h <;> simp_all
  | _, _ :: _ :: _, .one _, h => h.elim
theorem fieldsOk_of {P : Program} {n : TypeId} {t : Ty} {l : List (Nat × TypeId)} (hl : (structOf P n).toList.map (fun f : Field => (f.offset, f.type)) = l) (h : FldT P 0 l t) : FieldsOk P (structOf P n) t := by
  obtain ⟨k1, k2⟩ := fldT_at h
  have hat : ∀ j, l[j]? = ((structOf P n)[j]?).map (fun f : Field => (f.offset, f.type)) := fun j => by rw [← hl, List.getElem?_map, Array.getElem?_toList]
  refine ⟨fun j s hs => ?_, fun j f hf => k2 j (f.offset, f.type) (by rw [hat, hf]; rfl)⟩
  obtain ⟨p, m, e1, e2, e3, e4⟩ := k1 j s hs
  rw [hat] at e1
  cases hf : (structOf P n)[j]? with
  | none => rw [hf] at e1; cases e1
  | some f =>
    rw [hf] at e1
    simp only [Option.map_some, Option.some.injEq, Prod.mk.injEq] at e1
    obtain ⟨rfl, rfl⟩ := e1
    exact ⟨f, rfl, by omega, e3, e4⟩
theorem szOk_of {P : Program} {n : TypeId} {t : Ty} (h : (P.info? n).map (fun i => (i.zero, i.size, i.bytes)) = some (some (t.val t.zero), t.sz, (((P.info? n).map (·.bytes)).getD 0))) (hb : Nat.ble (((P.info? n).map (·.bytes)).getD 0) 140 = true) (ha : (P.underlying n).map isAggD = some t.isStruct) : SzOk P n t := by
  refine ⟨h, Nat.le_of_ble_eq_true hb, ?_⟩
  cases hu : P.underlying n with
  | none => rw [hu] at ha; cases ha
  | some d =>
    rw [hu] at ha
    simp only [Option.map_some, Option.some.injEq] at ha
    refine ⟨d, rfl, ?_⟩
    rw [← ha]
    unfold isAggD
    cases d <;> rfl
/-! types that may tell of the heap -/
def FldH (P : Program) : Nat → List (Nat × TypeId) → HTy → Prop
  | o, [(p, n)], .one a => p = o ∧ SzH P n a
  | o, (p, n) :: l, .pair a b => (p = o ∧ SzH P n a) ∧ FldH P (o + a.sz) l b
  | _, _, _ => False
theorem fldH_at {P : Program} : ∀ {o : Nat} {l : List (Nat × TypeId)} {t : HTy}, FldH P o l t →
    (∀ j s, t.fld j = some s → ∃ p n, l[j]? = some (p, n) ∧ p = o + t.off j ∧ SzH P n s) ∧ (∀ j x, l[j]? = some x → ∃ s, t.fld j = some s)
  | o, [(p, n)], .one a, h => by
    obtain ⟨h1, h2⟩ := h
    refine ⟨fun j s hs => ?_, fun j x hx => ?_⟩
    · cases j with
      | zero =>
        have : a = s := by simpa [HTy.fld] using hs
        subst this
        exact ⟨p, n, rfl, by simp [HTy.off, h1], h2⟩
      | succ j => simp [HTy.fld] at hs
    · cases j with
      | zero => exact ⟨a, rfl⟩
      | succ j => simp at hx
  | o, (p, n) :: l, .pair a b, h => by
    have h' : (p = o ∧ SzH P n a) ∧ FldH P (o + a.sz) l b := by cases l <;> exact h
    obtain ⟨⟨h1, h2⟩, h4⟩ := h'
    obtain ⟨k1, k2⟩ := fldH_at h4
    refine ⟨fun j s hs => ?_, fun j x hx => ?_⟩
    · cases j with
      | zero =>
        have : a = s := by simpa [HTy.fld] using hs
        subst this
        exact ⟨p, n, rfl, by simp [HTy.off, h1], h2⟩
      | succ j =>
        obtain ⟨q, m, e1, e2, e3⟩ := k1 j s hs
        exact ⟨q, m, e1, by rw [e2]; simp only [HTy.off]; omega, e3⟩
    · cases j with
      | zero => exact ⟨a, rfl⟩
      | succ j => exact k2 j x hx
  | _, [], .one _, h => h.elim
  | _, [], .pair _ _, h => h.elim
  | _, _, .p _, h => by unfold FldH at h; split at h <;> simp_all
  | _, _, .sr, h => by unfold FldH at h; split at h <;> simp_all
  | _, _, .pr, h => by unfold FldH at h; split at h <;> simp_all
  | _, _, .ir, h => by unfold FldH at h; split at h <;> simp_all
  | _, _ :: _ :: _, .one _, h => h.elim
theorem fieldsH_of {P : Program} {n : TypeId} {t : HTy} {l : List (Nat × TypeId)} (hl : (structOf P n).toList.map (fun f : Field => (f.offset, f.type)) = l) (h : FldH P 0 l t) : FieldsH P (structOf P n) t := by
  obtain ⟨k1, k2⟩ := fldH_at h
  have hat : ∀ j, l[j]? = ((structOf P n)[j]?).map (fun f : Field => (f.offset, f.type)) := fun j => by rw [← hl, List.getElem?_map, Array.getElem?_toList]
  refine ⟨fun j s hs => ?_, fun j f hf => k2 j (f.offset, f.type) (by rw [hat, hf]; rfl)⟩
  obtain ⟨p, m, e1, e2, e3⟩ := k1 j s hs
  rw [hat] at e1
  cases hf : (structOf P n)[j]? with
  | none => rw [hf] at e1; cases e1
  | some f =>
    rw [hf] at e1
    simp only [Option.map_some, Option.some.injEq, Prod.mk.injEq] at e1
    obtain ⟨rfl, rfl⟩ := e1
    exact ⟨f, rfl, by omega, e3⟩
/-- A struct of plain parts. -/
def FldP (P : Program) : Nat → List (Nat × TypeId) → Ty → Prop
  | o, [(p, n)], .one a => p = o ∧ SzH P n (.p a)
  | o, (p, n) :: l, .pair a b => (p = o ∧ SzH P n (.p a)) ∧ FldP P (o + a.sz) l b
  | _, _, _ => False
theorem fldP_at {P : Program} : ∀ {o : Nat} {l : List (Nat × TypeId)} {t : Ty}, FldP P o l t →
    (∀ j s, t.fld j = some s → ∃ p n, l[j]? = some (p, n) ∧ p = o + t.off j ∧ SzH P n (.p s)) ∧ (∀ j x, l[j]? = some x → ∃ s, t.fld j = some s)
  | o, [(p, n)], .one a, h => by
    obtain ⟨h1, h2⟩ := h
    refine ⟨fun j s hs => ?_, fun j x hx => ?_⟩
    · cases j with
      | zero =>
        have : a = s := by simpa [Ty.fld] using hs
        subst this
        exact ⟨p, n, rfl, by simp [Ty.off, h1], h2⟩
      | succ j => simp [Ty.fld] at hs
    · cases j with
      | zero => exact ⟨a, rfl⟩
      | succ j => simp at hx
  | o, (p, n) :: l, .pair a b, h => by
    have h' : (p = o ∧ SzH P n (.p a)) ∧ FldP P (o + a.sz) l b := by cases l <;> exact h
    obtain ⟨⟨h1, h2⟩, h4⟩ := h'
    obtain ⟨k1, k2⟩ := fldP_at h4
    refine ⟨fun j s hs => ?_, fun j x hx => ?_⟩
    · cases j with
      | zero =>
        have : a = s := by simpa [Ty.fld] using hs
        subst this
        exact ⟨p, n, rfl, by simp [Ty.off, h1], h2⟩
      | succ j =>
        obtain ⟨q, m, e1, e2, e3⟩ := k1 j s hs
        exact ⟨q, m, e1, by rw [e2]; simp only [Ty.off]; omega, e3⟩
    · cases j with
      | zero => exact ⟨a, rfl⟩
      | succ j => exact k2 j x hx
  | _, [], .one _, h => h.elim
  | _, [], .pair _ _, h => h.elim
  | _, _, .int _, h => by unfold FldP at h; split at h <;> simp_all
  | _, _, .bool, h => by unfold FldP at h; split at h <;> simp_all
  | _, _, .str, h => by unfold FldP at h; split at h <;> simp_all
  | _, _, .flt, h => by unfold FldP at h; split at h <;> simp_all
  | _, _, .nils, h => by unfold FldP at h; split at h <;> simp_all
  | _, _, .nile, h => by unfold FldP at h; split at h <;> simp_all
  | _, _ :: _ :: _, .one _, h => h.elim
theorem fieldsH_ofP {P : Program} {n : TypeId} {t : Ty} {l : List (Nat × TypeId)} (hl : (structOf P n).toList.map (fun f : Field => (f.offset, f.type)) = l) (h : FldP P 0 l t) : FieldsH P (structOf P n) (.p t) := by
  obtain ⟨k1, k2⟩ := fldP_at h
  have hat : ∀ j, l[j]? = ((structOf P n)[j]?).map (fun f : Field => (f.offset, f.type)) := fun j => by rw [← hl, List.getElem?_map, Array.getElem?_toList]
  refine ⟨fun j s hs => ?_, fun j f hf => ?_⟩
  · unfold HTy.fld at hs
    split at hs
    · rename_i s' hs'
      cases hs
      obtain ⟨p, m, e1, e2, e3⟩ := k1 j s' hs'
      rw [hat] at e1
      cases hf : (structOf P n)[j]? with
      | none => rw [hf] at e1; cases e1
      | some f =>
        rw [hf] at e1
        simp only [Option.map_some, Option.some.injEq, Prod.mk.injEq] at e1
        obtain ⟨rfl, rfl⟩ := e1
        exact ⟨f, rfl, by rw [e2]; simp only [HTy.off]; omega, e3⟩
    · cases hs
  · obtain ⟨s, hs⟩ := k2 j (f.offset, f.type) (by rw [hat, hf]; rfl)
    exact ⟨.p s, by unfold HTy.fld; rw [hs]⟩
theorem szH_of {P : Program} {n : TypeId} {t : HTy} (h : (P.info? n).map (fun i => (i.zero, i.size, i.bytes)) = some (some (t.mkv t.zcells), t.sz, (((P.info? n).map (·.bytes)).getD 0))) (hb : Nat.ble (((P.info? n).map (·.bytes)).getD 0) 140 = true) (ha : (P.underlying n).map isAggD = some t.isStruct) : SzH P n t := by
  refine ⟨h, Nat.le_of_ble_eq_true hb, ?_⟩
  cases hu : P.underlying n with
  | none => rw [hu] at ha; cases ha
  | some d =>
    rw [hu] at ha
    simp only [Option.map_some, Option.some.injEq] at ha
    refine ⟨d, rfl, ?_⟩
    rw [← ha]
    unfold isAggD
    cases d <;> rfl
theorem undH_struct {P : Program} {n : TypeId} {t : HTy} (h : ∃ fs, P.underlying n = some (.struct fs) ∧ FieldsH P fs t) (ht : t.isStruct = true) : UndH P n t := by
  refine ⟨fun _ => h, fun e => ?_, fun e => ?_, fun e => ?_⟩ <;> (rw [e] at ht; cases ht)
theorem undH_p {P : Program} {n : TypeId} {t : Ty} (ht : (HTy.p t).isStruct = false) : UndH P n (.p t) := by
  refine ⟨fun h => ?_, fun e => ?_, fun e => ?_, fun e => ?_⟩
  · rw [ht] at h; cases h
  all_goals cases e
theorem undH_sr {P : Program} {n : TypeId} (h : ∃ e, P.underlying n = some (.slice e)) : UndH P n .sr := by
  refine ⟨fun e => ?_, fun e => h, fun e => ?_, fun e => ?_⟩ <;> cases e
theorem undH_pr {P : Program} {n : TypeId} (h : ∃ e, P.underlying n = some (.pointer e)) : UndH P n .pr := by
  refine ⟨fun e => ?_, fun e => ?_, fun e => h, fun e => ?_⟩ <;> cases e
theorem undH_ir {P : Program} {n : TypeId} (h : ∃ ms, P.underlying n = some (.interface ms)) : UndH P n .ir := by
  refine ⟨fun e => ?_, fun e => ?_, fun e => ?_, fun e => h⟩ <;> cases e
theorem eqOk_of {P : Program} {n : TypeId} (h1 : P.stoodInHeld n = false) (h2 : P.eqGuardType P.depth n = false) (h3 : (structOf P n).toList.all (fun f : Field => f.name != "_") = true) : EqOk P n := by
  refine ⟨h1, h2, fun fs hu f hf => ?_⟩
  have : structOf P n = fs := by unfold structOf; rw [hu]
  rw [this, List.all_eq_true] at h3
  have := h3 f (by simpa using hf)
  simpa using this
section
variable {P : Program} {W0 : World} {sg : FuncId → Sig} {callF : (f : FuncId) → argL (sg f).ps → Option (retL (sg f).rs)} {live : Nat → Option (List Nat)}
theorem _root_.Go.Ev.TabOk.loc {P : Program} {T : Tab} (h : TabOk P T) (f : Nat) : TabOk P (T.loc f) := ⟨h.ty, h.sl, h.eq, h.lt, h.le, h.eqI, h.nle, h.eqS, h.i2f, h.f2i, h.fo, h.fa, h.hty, h.hsl, h.meth⟩
def fnOk (T : Tab) (g : Sig) (fn : Func) : Bool := match fn.body, resTmps fn.results.toList with
  | some c, some _ => codeOk T c && !(fn.name == "runtime.NumGoroutine") && Nat.ble (strip g.ps).length fn.ntmps && sigOk g
  | _, _ => false
theorem call_ev {T : Tab} (hm : P.follows .mixedOrders = true) (ht : TabOk P T) (hF : ∀ g, CallOk P W0 sg callF g) {f : FuncId} {fn : Func} {k : Nat} (hf : P.funcs[f]? = some fn) (hok : fnOk T (sg f) fn = true)
    {callF2 : (f : FuncId) → argL (sg f).ps → Option (retL (sg f).rs)} (h : ∀ xs, callF2 f xs = evalF T sg callF live k fn (sg f) xs) : CallOk P W0 sg callF2 f := by
  unfold fnOk at hok
  split at hok
  · rename_i c res hb hres
    rw [Bool.and_eq_true, Bool.and_eq_true, Bool.and_eq_true] at hok
    refine call_of (live := live) (k := k) hm ht hF hf hb (by simpa using hok.1.1.2) hres hok.1.1.1 (Nat.le_of_ble_eq_true hok.1.2) hok.2 fun xs r hr => ?_
    rw [h xs] at hr
    unfold evalF at hr
    rw [hb, hres] at hr
    exact hr
  · cases hok
end
theorem enters_of {P : Program} {f : FuncId} {fn : Func} (hf : P.funcs[f]? = some fn) (hb : fn.body.isSome = true) (hn : (fn.name == "runtime.NumGoroutine") = false) (args : Array Value) (w : World) : (callFunc f args).run P w = .ok (.enter f args) w := by
  obtain ⟨c, hc⟩ := Option.isSome_iff_exists.1 hb
  have hn : ¬ fn.name = "runtime.NumGoroutine" := by simpa using hn
  simp [callFunc, hf, hc, hn]
theorem Pres.of_below {S : Nat → Prop} {w w' : World} (h : Below w.heap.size w w') : Pres S w w' := ⟨h.os, h.tape, h.output, h.size, fun k hk _ => h.block k hk⟩
section
variable {H : Type} {enc : TypeId × Value → H} {P : Program} {w : World} {base : Nat} {spare : Nat → Bool} {held : Bool}
theorem cellsL_get {t : Ty} {xs : List t.den} {j : Nat} {u : Value} (h : (cellsL t xs)[j]? = some u) : ∃ i r, ∃ hi : i < xs.length, j = i * t.sz + r ∧ r < t.sz ∧ (t.cells (xs[i]'hi))[r]? = some u := by
  have hj : j < (cellsL t xs).length := (List.getElem?_eq_some_iff.1 h).1
  rw [cellsL_length] at hj
  have hz : 0 < t.sz := by
    rcases Nat.eq_zero_or_pos t.sz with h0 | h0
    · rw [h0] at hj; omega
    · exact h0
  have hi : j / t.sz < xs.length := (Nat.div_lt_iff_lt_mul hz).2 hj
  refine ⟨j / t.sz, j % t.sz, hi, by rw [Nat.mul_comm]; exact (Nat.div_add_mod j t.sz).symm, Nat.mod_lt _ hz, ?_⟩
  rw [← cellsL_at t xs _ hi, List.getElem?_take_of_lt (Nat.mod_lt _ hz), List.getElem?_drop, Nat.mul_comm, Nat.div_add_mod]
  exact h
theorem cells_length (t : Ty) (x : t.den) : (t.cells x).length = t.sz := by
  have := cellsL_length t [x]
  simpa [cellsL] using this
theorem open_ty (t : Ty) (G : t.den → Prop) {n e : TypeId} {fuel : Nat} {cs : List Value} {x : DataW H × List MemPlace} (ht : P.underlying n = some (.slice e)) (hsz : P.cellsOf e = t.sz)
    (hd : ∀ n cs x, DataW.trod enc P w base spare held n e cs = some x → ∃ y : t.den, cs = t.cells y ∧ G y) (h : DataW.trod enc P w base spare held fuel n cs = some x) :
    ∃ (A : Option Addr) (len c : Nat) (l : List t.den), cs = [.slice A len c] ∧ l.length = len ∧ len ≤ maxLen ∧ ReadV w t l (.slice A len c) ∧ ∀ y ∈ l, G y := by
  rcases open_slice ht h with ⟨rfl, _⟩ | ⟨a, len, cap, m, n, D, Pl, rfl, _, hl, hm, hmm, _, hi⟩
  · exact ⟨none, 0, 0, [], rfl, rfl, Nat.zero_le _, readV_nil w t, fun y hy => by cases hy⟩
  · have hlm : len ≤ m := by rw [hmm]; split <;> omega
    have hex : ∀ i : Fin len, ∃ y : t.den, w.cells? base (a.add (i.1 * P.cellsOf e)) (P.cellsOf e) = some (t.cells y) ∧ G y := fun i => by
      obtain ⟨cs', h1, h2⟩ := hi i.1 (by omega)
      obtain ⟨y, hy, hG⟩ := hd _ _ _ h2
      exact ⟨y, by rw [← hy]; exact h1, hG⟩
    refine ⟨some a, len, cap, List.ofFn fun i => Classical.choose (hex i), rfl, by simp, Nat.le_trans hl hm, ⟨some a, cap, by simp, by simpa using hl, fun j u hu => ⟨a, rfl, ?_⟩⟩, fun y hy => ?_⟩
    · obtain ⟨i, r, hil, rfl, hr, hc⟩ := cellsL_get hu
      have hil' : i < len := by simpa using hil
      rw [List.getElem_ofFn] at hc
      obtain ⟨h1, _⟩ := Classical.choose_spec (hex ⟨i, hil'⟩)
      obtain ⟨_, hcl, hat⟩ := World.cells?_some h1
      have := hat r (by omega)
      rw [← Go.Deep.add_add, ← hsz, this]
      exact hc
    · obtain ⟨i, rfl⟩ := List.mem_ofFn.1 hy
      exact (Classical.choose_spec (hex i)).2
end
theorem len1 {α : Type} {l : List α} (h : l.length = 1) : ∃ a, l = [a] := by
  match l, h with
  | [a], _ => exact ⟨a, rfl⟩
theorem len2 {α : Type} {l : List α} (h : l.length = 2) : ∃ a b, l = [a, b] := by
  match l, h with
  | [a, b], _ => exact ⟨a, b, rfl⟩
theorem len3 {α : Type} {l : List α} (h : l.length = 3) : ∃ a b c, l = [a, b, c] := by
  match l, h with
  | [a, b, c], _ => exact ⟨a, b, c, rfl⟩
theorem len4 {α : Type} {l : List α} (h : l.length = 4) : ∃ a b c d, l = [a, b, c, d] := by
  match l, h with
  | [a, b, c, d], _ => exact ⟨a, b, c, d, rfl⟩
/-- What a fixed-width number's form says. -/
theorem wf_i64 {n : Int} (h : (Lit.int .i64 n).wf = true) : -9223372036854775808 ≤ n ∧ n ≤ 9223372036854775807 := by
  have h' : And (IntKind.i64.min ≤ n) (n ≤ 9223372036854775807) := by simpa [Lit.wf] using h
  exact ⟨h'.1, h'.2⟩
end Go.Ev

