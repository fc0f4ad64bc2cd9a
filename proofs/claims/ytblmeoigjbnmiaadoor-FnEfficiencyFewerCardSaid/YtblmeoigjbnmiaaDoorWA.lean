import Derived.Test.YtblmeoigjbnmiaaDoorWVC
/- Runs of edits between equalities: which types stand there, and how many edits merging leaves. -/
set_option linter.unusedVariables false
set_option linter.unusedSimpArgs false
namespace Go.Proofs.YtblmeoigjbnmiaaDoor.E
open Go.Ev
def tfl (z : Int) : Bool → List M → Bool
  | b, [] => b
  | b, m :: l => tfl z (if m.1 = 0 then false else (b || decide (m.1 = z))) l
def cf : Bool → Bool → List M → Nat
  | d, i, [] => d.toNat + i.toNat
  | d, i, m :: l => if m.1 = 0 then d.toNat + i.toNat + cf false false l else cf (d || decide (m.1 = -1)) (i || decide (m.1 = 1)) l
def cl : Bool → Bool → List M → Nat
  | _, _, [] => 0
  | d, i, m :: l => if m.1 = 0 then d.toNat + i.toNat + cl false false l else cl (d || decide (m.1 = -1)) (i || decide (m.1 = 1)) l
theorem tfl_app (z : Int) : ∀ (A B : List M) (b : Bool), tfl z b (A ++ B) = tfl z (tfl z b A) B
  | [], B, b => rfl
  | m :: A, B, b => by simp only [List.cons_append, tfl, tfl_app z A B]
theorem cf_app : ∀ (A B : List M) (d i : Bool), cf d i (A ++ B) = cl d i A + cf (tfl (-1) d A) (tfl 1 i A) B
  | [], B, d, i => by simp [cl, tfl]
  | m :: A, B, d, i => by
    simp only [List.cons_append, cf, cl, tfl]
    split
    · rw [cf_app A B]; omega
    · rw [cf_app A B]
theorem toNat_or (a b : Bool) : a.toNat ≤ (a || b).toNat := by cases a <;> cases b <;> simp
theorem cf_full : ∀ (C : List M) (d i : Bool), cf true true C + d.toNat + i.toNat ≤ cf d i C + 2
  | [], d, i => by simp [cf]; omega
  | m :: C, d, i => by
    simp only [cf]
    split
    · simp; omega
    · have ih := cf_full C (d || decide (m.1 = -1)) (i || decide (m.1 = 1))
      have h1 := toNat_or d (decide (m.1 = -1))
      have h2 := toNat_or i (decide (m.1 = 1))
      simp only [Bool.true_or]
      omega
theorem cf_cnt : ∀ (l : List M) (d i : Bool), cf d i l ≤ d.toNat + i.toNat + cnt l
  | [], d, i => by simp [cf, cnt]
  | m :: l, d, i => by
    simp only [cf, cnt]
    split
    · have := cf_cnt l false false
      simp at this
      omega
    · have ih := cf_cnt l (d || decide (m.1 = -1)) (i || decide (m.1 = 1))
      have h1 : (d || decide (m.1 = -1)).toNat + (i || decide (m.1 = 1)).toNat ≤ d.toNat + i.toNat + 1 := by
        by_cases e1 : m.1 = -1
        · have e2 : ¬ m.1 = 1 := by omega
          rw [decide_eq_true e1, decide_eq_false e2]
          cases d <;> cases i <;> simp
        · rw [decide_eq_false e1]
          cases d <;> cases i <;> cases decide (m.1 = 1) <;> simp
      omega
theorem edit_ne {m : M} (h : m.1 = 1 ∨ m.1 = -1) : ¬ m.1 = 0 := by omega
theorem cl_edits : ∀ {B : List M}, Edits B → ∀ d i, cl d i B = 0
  | [], _, _, _ => rfl
  | m :: B, h, d, i => by
    simp only [cl, if_neg (edit_ne (h m (List.mem_cons_self ..)))]
    exact cl_edits (fun x hx => h x (List.mem_cons_of_mem _ hx)) _ _
theorem tfl_true {z : Int} : ∀ {B : List M}, Edits B → tfl z true B = true
  | [], _ => rfl
  | m :: B, h => by
    simp only [tfl, if_neg (edit_ne (h m (List.mem_cons_self ..))), Bool.true_or]
    exact tfl_true (fun x hx => h x (List.mem_cons_of_mem _ hx))
/-- An equality between two runs of three types, or four, is split into two edits. -/
theorem cf_split (A B C : List M) (x : List Int) (hB : Edits B) (pd pi qd qi : Bool) (h1 : pd = true → tfl (-1) false A = true) (h2 : pi = true → tfl 1 false A = true) (h3 : qd = true → tfl (-1) false B = true) (h4 : qi = true → tfl 1 false B = true) (hn : 3 ≤ pd.toNat + pi.toNat + qd.toNat + qi.toNat) :
    cf false false (A ++ (-1, x) :: (1, x) :: (B ++ C)) ≤ cf false false (A ++ (0, x) :: (B ++ C)) := by
  rw [cf_app, cf_app]
  have e1 : cf (tfl (-1) false A) (tfl 1 false A) ((-1, x) :: (1, x) :: (B ++ C)) = cf true true C := by
    simp only [cf, show ¬ ((-1 : Int) = 0) by omega, show ¬ ((1 : Int) = 0) by omega, if_false, decide_true, Bool.or_true, Bool.true_or]
    rw [cf_app, cl_edits hB, tfl_true hB, tfl_true hB, Nat.zero_add]
  have e2 : cf (tfl (-1) false A) (tfl 1 false A) ((0, x) :: (B ++ C)) = (tfl (-1) false A).toNat + (tfl 1 false A).toNat + cf (tfl (-1) false B) (tfl 1 false B) C := by
    simp only [cf, if_true]
    rw [cf_app, cl_edits hB, Nat.zero_add]
  rw [e1, e2]
  have h5 := cf_full C (tfl (-1) false B) (tfl 1 false B)
  have le : ∀ a b : Bool, (a = true → b = true) → a.toNat ≤ b.toNat := by
    intro a b h
    cases a with
    | false => simp
    | true => rw [h rfl]; exact Nat.le_refl _
  have k1 := le _ _ h1
  have k2 := le _ _ h2
  have k3 := le _ _ h3
  have k4 := le _ _ h4
  omega
theorem cntA : ∀ a b : List M, cnt (a ++ b) = cnt a + cnt b
  | [], b => by simp [cnt]
  | m :: a, b => by simp only [List.cons_append, cnt, cntA a b]; omega
theorem cnt_push (D : Dn) (P : List Int) : cnt (toL (pushP D P)) = cnt (toL D) := by
  unfold pushP
  split
  · rfl
  · match D with
    | none => rfl
    | some (D0, e) => simp [toL, cntA, cnt]
def nz (n : Nat) : Bool := decide (n ≠ 0)
theorem step_cf (D : Dn) (R : List M) (x : List Int) (hR : Edits R) : cnt (toL (stepE D R x)) ≤ cnt (toL D) + ((nz (cD R)).toNat + (nz (cI R)).toNat) := by
  have hlen := cDI hR
  unfold stepE
  split
  · rename_i h2
    obtain ⟨d, i, h1, _, _⟩ := nrm_spec R
    rw [toL_some, cntA, cntA, cnt_push, h1]
    unfold mk nz
    by_cases hc : cD R = 0
    · have : cI R ≠ 0 := by omega
      simp [hc, this, cnt]
    · by_cases hn : cI R = 0
      · simp [hc, hn, cnt]
      · simp [hc, hn, cnt]
  · match R, hR with
    | [], _ =>
      match D with
      | none => simp [one, toL, cnt]
      | some (D0, e) => simp [one, toL, cntA, cnt]
    | [m], hR =>
      have hm := hR m (List.mem_cons_self ..)
      have e : one D [m] x = some (toL D ++ [m], x) := one_ne D [m] x (by simp)
      rw [e, toL_some, cntA, cntA]
      rcases hm with hm | hm <;> simp [cnt, hm, nz, cD, cI]
    | _ :: _ :: _, _ =>
      rename_i h2
      simp at h2
theorem nz_snoc {R : List M} {m : M} : nz (cD (R ++ [m])) = (nz (cD R) || decide (m.1 = -1)) ∧ nz (cI (R ++ [m])) = (nz (cI R) || decide (m.1 = 1)) := by
  rw [cD_snoc, cI_snoc]
  unfold nz
  constructor
  · by_cases h : m.1 = -1 <;> simp [h]
  · by_cases h : m.1 = 1 <;> simp [h]
theorem pass1_cf : ∀ (T : List M) (D : Dn) (R : List M), Edits R → Typed T → cnt (pass1 D R (T ++ [(0, [])])) ≤ cnt (toL D) + cf (nz (cD R)) (nz (cI R)) T
  | [], D, R, hR, _ => by
    rw [List.nil_append, pass1, if_pos rfl, pass1, List.append_nil]
    exact step_cf D R [] hR
  | m :: T, D, R, hR, tT => by
    rw [List.cons_append, pass1]
    by_cases hm : m.1 = 0
    · rw [if_pos hm]
      have h1 := pass1_cf T (stepE D R m.2) [] Edits.nil tT.tail
      have h2 := step_cf D R m.2 hR
      simp only [cf, if_pos hm]
      have e : nz (cD []) = false ∧ nz (cI []) = false := ⟨rfl, rfl⟩
      rw [e.1, e.2] at h1
      omega
    · rw [if_neg hm]
      have h1 := pass1_cf T D (R ++ [m]) (hR.snoc ((tT m (List.mem_cons_self ..)).resolve_left hm)) tT.tail
      rw [nz_snoc.1, nz_snoc.2] at h1
      simp only [cf, if_neg hm]
      exact h1
theorem p1_cf (l : List M) (tT : Typed l) (oT : Okm l) : cnt (p1 l) ≤ cf false false l := by
  obtain ⟨D0, e, h1, _⟩ := p1_spec l tT oT
  have h2 := pass1_cf l none [] Edits.nil tT
  rw [h1, cntA] at h2
  have h3 : cnt D0 ≤ cf false false l := by
    have e : nz (cD []) = false ∧ nz (cI []) = false := ⟨rfl, rfl⟩
    rw [e.1, e.2] at h2
    simp [toL, cnt] at h2
    exact h2
  unfold p1
  rw [h1, cutEnd_snoc]
  split
  · exact h3
  · rw [cntA]; simpa [cnt] using h3
theorem dcm_cf : ∀ (n : Nat) (l : List M), Okm l → Typed l → cnt (dcm (n + 1) l) ≤ cf false false l
  | n, l, oT, tT => by
    obtain ⟨_, _, _, _, _, o1, t1, _, _, _⟩ := p1_spec l tT oT
    obtain ⟨_, o2, t2, _, _, _⟩ := p2_spec _ (p1 l) (Nat.le_refl _)
    have h1 := p1_cf l tT oT
    have h2 := (p2_ed _ (p1 l) (Nat.le_refl _)).2
    rw [dcm]
    split
    · cases n with
      | zero => rw [dcm]; omega
      | succ n =>
        have h3 := dcm_cf n (p2 (p1 l)).1 (o2 o1) (t2 t1)
        have h4 := cf_cnt (p2 (p1 l)).1 false false
        simp at h4
        omega
    · omega
end Go.Proofs.YtblmeoigjbnmiaaDoor.E
