import Derived.Test.YtaabfadjemmibaaDoorQLossLaw
import Derived.Test.YtaabfadjemmibaaDoorPx9
/- Shifted differences lead from the same text to the same text; their edits are of the same types and lengths. -/
namespace Go.Proofs.YtaabfadjemmibaaDoor.P
open Go.RowKit Go.Lib Go.Proofs.YtaabfadjemmibaaDoorW.PrintWords Go.Proofs.YtaabfadjemmibaaDoorX
/-- The edits' types and lengths. -/
def edS (l : List DS) : List (Int × Nat) := l.flatMap fun d => if d.f0 = 0 then [] else [(d.f0, d.f1.size)]
theorem edS_cons (d : DS) (l : List DS) : edS (d :: l) = (if d.f0 = 0 then [] else [(d.f0, d.f1.size)]) ++ edS l := by simp [edS]
theorem specShifted (a b : List DS) (la : a.length ≤ 2147483647) (lb : b.length ≤ 2147483647) (h : edS a = edS b) : Evt (fun k => spec_CleanShifted.f k a b) true := by
  have third : ∀ (d k : Nat), k + d = b.length → edS (b.drop k) = [] → Evt (fun m => spec_CleanShifted.l2 m b (k : Int)) true := by
    intro d
    induction d with
    | zero =>
      intro k hk _
      refine Evt.succ (fun k => by rw [spec_CleanShifted.l2]) ?_
      refine Evt.neg (by omega) ((Evt.ret _).cast ?_)
      simp
      omega
    | succ d ih =>
      intro k hk he
      have hlt : k < b.length := by omega
      rw [List.drop_eq_getElem_cons hlt, edS_cons] at he
      have h0 : b[k].f0 = 0 := by
        by_cases h0 : b[k].f0 = 0
        · exact h0
        · rw [if_neg h0] at he; cases he
      rw [if_pos h0, List.nil_append] at he
      refine Evt.succ (fun k => by rw [spec_CleanShifted.l2]) ?_
      rw [rdS b k hlt, wadd1 k (by omega)]
      exact Evt.pos (by omega) (Evt.pos (by omega) (Evt.pos h0 (ih (k + 1) (by omega) he)))
  have second : ∀ (i : Int) (t : Int) (s : ByteArray) (rest : List (Int × Nat)) (d k : Nat), k + d = b.length → edS (b.drop k) = (t, s.size) :: rest → t ≠ 0 → (∀ k' : Nat, k' ≤ b.length → edS (b.drop k') = rest → Evt (fun m => spec_CleanShifted.l0 m b (k' : Int) a (a.length : Int) (wrap64 (i + 1))) true) → Evt (fun m => spec_CleanShifted.l1 m b (k : Int) a (a.length : Int) i t s) true := by
    intro i t s rest d
    induction d with
    | zero =>
      intro k hk he
      rw [List.drop_eq_nil_of_le (by omega)] at he
      cases he
    | succ d ih =>
      intro k hk he ht hcont
      have hlt : k < b.length := by omega
      rw [List.drop_eq_getElem_cons hlt, edS_cons] at he
      refine Evt.succ (fun k => by rw [spec_CleanShifted.l1]) ?_
      rw [rdS b k hlt, wadd1 k (by omega)]
      refine Evt.pos (by omega) (Evt.pos (by omega) ?_)
      by_cases h0 : b[k].f0 = 0
      · rw [if_pos h0, List.nil_append] at he
        exact Evt.pos h0 (ih (k + 1) (by omega) he ht hcont)
      · rw [if_neg h0] at he
        simp only [List.cons_append, List.nil_append, List.cons.injEq, Prod.mk.injEq] at he
        obtain ⟨⟨e1, e2⟩, e3⟩ := he
        refine Evt.neg h0 (Evt.neg (by omega) (Evt.pos e1 (Evt.pos (by omega) ?_)))
        exact hcont (k + 1) (by omega) e3
  have first : ∀ (d i k : Nat), i + d = a.length → k ≤ b.length → edS (a.drop i) = edS (b.drop k) → Evt (fun m => spec_CleanShifted.l0 m b (k : Int) a (a.length : Int) (i : Int)) true := by
    intro d
    induction d with
    | zero =>
      intro i k hi hk he
      refine Evt.succ (fun k => by rw [spec_CleanShifted.l0]) ?_
      rw [List.drop_eq_nil_of_le (by omega)] at he
      exact Evt.neg (by omega) (third (b.length - k) k (by omega) he.symm)
    | succ d ih =>
      intro i k hi hk he
      have hlt : i < a.length := by omega
      rw [List.drop_eq_getElem_cons hlt, edS_cons] at he
      refine Evt.succ (fun k => by rw [spec_CleanShifted.l0]) ?_
      rw [rdS a i hlt]
      refine Evt.pos (by omega) (Evt.pos (by omega) (Evt.pos (by omega) ?_))
      by_cases h0 : a[i].f0 = 0
      · rw [if_pos h0, List.nil_append] at he
        rw [wadd1 i (by omega)]
        exact Evt.pos h0 (ih (i + 1) k (by omega) hk he)
      · rw [if_neg h0] at he
        refine Evt.neg h0 (second (i : Int) _ _ (edS (a.drop (i + 1))) (b.length - k) k (by omega) he.symm h0 (fun k' hk' he' => ?_))
        rw [wadd1 i (by omega)]
        exact ih (i + 1) k' (by omega) hk' he'.symm
  unfold spec_CleanShifted.f
  exact first a.length 0 0 (by omega) (by omega) (by simpa using h)
theorem side_map (but : Int) (l : List DI) : (∀ y ∈ l, -1 ≤ y.f0 ∧ y.f0 ≤ 1) → sideS but (l.map toS) = sideD but (l.map toG) := by
  induction l with
  | nil => intro _; rfl
  | cons y l ih =>
    intro h
    have := h y (by simp)
    rw [List.map_cons, List.map_cons, sideS_cons, sideD_cons, ih (fun z hz => h z (by simp [hz])), toG_f0 y this.1 this.2]
    rfl
theorem side_back (but : Int) (l : List DD) : (∀ y ∈ l, -1 ≤ y.f0 ∧ y.f0 ≤ 1) → sideS but ((l.map toI).map toS) = sideD but l := by
  induction l with
  | nil => intro _; rfl
  | cons y l ih =>
    intro h
    have := h y (by simp)
    rw [List.map_cons, List.map_cons, sideS_cons, sideD_cons, ih (fun z hz => h z (by simp [hz]))]
    show (if (toI y).f0 = but then [] else B y.f1) ++ _ = _
    rw [toI_f0 y this.1 this.2]
theorem ed_map (l : List DI) : (∀ y ∈ l, -1 ≤ y.f0 ∧ y.f0 ≤ 1) → edS (l.map toS) = edD (l.map toG) := by
  induction l with
  | nil => intro _; rfl
  | cons y l ih =>
    intro h
    have := h y (by simp)
    rw [List.map_cons, List.map_cons, edS_cons, edD_cons, ih (fun z hz => h z (by simp [hz])), toG_f0 y this.1 this.2]
    rfl
theorem ed_back (l : List DD) : (∀ y ∈ l, -1 ≤ y.f0 ∧ y.f0 ≤ 1) → edS ((l.map toI).map toS) = edD l := by
  induction l with
  | nil => intro _; rfl
  | cons y l ih =>
    intro h
    have := h y (by simp)
    rw [List.map_cons, List.map_cons, edS_cons, edD_cons, ih (fun z hz => h z (by simp [hz]))]
    show (if (toI y).f0 = 0 then [] else [((toI y).f0, y.f1.size)]) ++ _ = _
    rw [toI_f0 y this.1 this.2]
theorem totS_toG (l : List DI) : totS (l.map toS) = tot (l.map toG) := by
  induction l with
  | nil => rfl
  | cons y l ih => rw [List.map_cons, List.map_cons, totS_cons, tot_cons, ih]; rfl
theorem totS_toI (l : List DD) : totS ((l.map toI).map toS) = tot l := by
  induction l with
  | nil => rfl
  | cons y l ih => rw [List.map_cons, List.map_cons, totS_cons, tot_cons, ih]; rfl
theorem laws_keeps (l : List DI) (hl : l.length ≤ 9223372036854775807) : Evt (fun k => laws_FnLosslessKeeps.f k l) true := by
  unfold laws_FnLosslessKeeps.f
  obtain ⟨b, hb, hbl⟩ := zzFits3 l hl
  refine Evt.bind hb ?_
  cases b with
  | false => exact Evt.neg (by simp) (Evt.ret _)
  | true =>
  refine Evt.pos rfl ?_
  obtain ⟨c, hc, hok⟩ := cleanASCII l
  refine Evt.bind hc ?_
  cases c with
  | false => exact Evt.neg (by simp) (Evt.bind awake (Evt.ret _))
  | true =>
  have ok := hok rfl
  have hl12 := ok.1
  obtain ⟨ht, hlen⟩ := ok.few
  obtain ⟨r, _, hs, himpl⟩ := implLossless l hl12 (by omega) ok.ascD
  have hty : ∀ y ∈ l, -1 ≤ y.f0 ∧ y.f0 ≤ 1 := fun y hy => ⟨(ok.2 y hy).lo, (ok.2 y hy).hi⟩
  have htr := hs.types ok.types
  have hrl := hs.len
  have hrt := hs.tot
  have hcr : Evt (fun k => laws_cleanOf.f k (r.map toI)) ((r.map toI).map toS) := cleanOf _ (by rw [List.length_map]; omega)
  refine Evt.pos rfl (Evt.obind (cleanOwn l (by omega)) (Evt.bind himpl (Evt.bind awake (Evt.pos rfl (Evt.bind (cleanOf l (by omega)) (Evt.bind hcr ?_))))))
  refine Evt.bind (specKept _ _ (by simp; omega) (by simp; omega) (by rw [totS_toG]; omega) (by rw [totS_toI]; omega) ?_ ?_) (Evt.pos rfl (Evt.pos (by rw [List.length_map]; rw [List.length_map] at hlen hrl; omega) ?_))
  · rw [side_map 1 l hty, side_back 1 r htr]; exact hs.side 1 (by omega)
  · rw [side_map (-1) l hty, side_back (-1) r htr]; exact hs.side (-1) (by omega)
  · refine Evt.bind (cleanOf l (by omega)) (Evt.bind hcr (Evt.bind (specShifted _ _ (by simp; omega) (by simp; omega) ?_) (Evt.ret _)))
    rw [ed_map l hty, ed_back r htr]
    exact hs.ed
end Go.Proofs.YtaabfadjemmibaaDoor.P
namespace Go.Proofs.YtaabfadjemmibaaDoor.Pure
open Go.Proofs.YtaabfadjemmibaaDoorX Go.Proofs.YtaabfadjemmibaaDoor.P
theorem FnLosslessKeeps : ∀ (l0 : List S26), (l0.length ≤ 9223372036854775807 ∧ ∀ y ∈ l0, ((Lit.int .i64 y.f0).wf = true) ∧ (y.f1.size ≤ 9223372036854775807)) → ∃ k, laws_FnLosslessKeeps.f k l0 = some true :=
  fun l h => (laws_keeps l h.1).some_
end Go.Proofs.YtaabfadjemmibaaDoor.Pure
