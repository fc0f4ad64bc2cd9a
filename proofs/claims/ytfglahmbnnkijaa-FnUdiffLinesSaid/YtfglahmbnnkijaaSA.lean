import Derived.Test.YtfglahmbnnkijaaLA
import Derived.Test.YtfglahmbnnkijaaEvQ0
import Derived.Test.YtfglahmbnnkijaaEvQ1
import Derived.Test.YtfglahmbnnkijaaEvQ2

/- Edits that lie in the heap: read, compared, swapped, sorted. -/
set_option linter.unusedVariables false
set_option linter.unusedSimpArgs false
namespace Go.Ev
/-- Only one object is another one. -/
def Only (n : Nat) (h h' : Hp) : Prop := h'.nx = h.nx ∧ ∀ m, m ≠ n → h'.ob m = h.ob m
theorem Only.refl (n : Nat) (h : Hp) : Only n h h := ⟨rfl, fun _ _ => rfl⟩
theorem Only.trans {n : Nat} {a b c : Hp} (h : Only n a b) (g : Only n b c) : Only n a c := ⟨g.1.trans h.1, fun m hm => (g.2 m hm).trans (h.2 m hm)⟩
theorem Only.keep {n : Nat} {h0 a b : Hp} (h : Only n a b) (k : KeepH h0 a) (hn : h0.nx ≤ n) : KeepH h0 b := ⟨by rw [h.1]; exact k.nx, fun m hm => (h.2 m (by omega)).trans (k.ob m hm)⟩
theorem Only.free {n : Nat} {a b : Hp} (h : Only n a b) (k : FreeH a) (hn : n < a.nx) : FreeH b := fun m hm => by rw [h.1] at hm; exact (h.2 m (by omega)).trans (k m hm)
theorem HO.wr {h : Hp} {e : TypeId} {t : Ty} {n : Nat} {L : List t.den} (ho : HO h e t n L) (i : Nat) (hi : i < L.length) (x : t.den) : ∃ h', Hp.st h (.p t) (.at n (i * t.sz)) x = some h' ∧ HO h' e t n (L.set i x) ∧ Only n h h' := by
  obtain ⟨h', h1, rfl⟩ := ho.st i hi x
  refine ⟨_, h1, ?_, rfl, fun m hm => ?_⟩
  · unfold HO
    rw [set_ob, if_pos rfl]
  · rw [set_ob, if_neg hm]
theorem radr0 (z i n len : Nat) : radr z (Int.toNat (i : Int)) (.at n 0 len) = .at n (i * z) := by
  show Pf.at n (0 + Int.toNat (i : Int) * z) = _
  rw [Nat.zero_add, Int.toNat_natCast]
theorem rlen0 (n k len : Nat) : rlen (.at n k len) = len := rfl
end Go.Ev
namespace Go.Proofs.Ytfglahmbnnkijaa.E
open Go.Ev Go.Lcs
/-- An edit: its start, its end, its text. -/
abbrev Ed := Int × Int × ByteArray
theorem HO.f0 {h : Hp} {e : TypeId} {n : Nat} {L : List TS1.den} (ho : HO h e TS1 n L) (i : Nat) (hi : i < L.length) : Hp.ld h (.p (.int .i64)) (padd 0 (.at n (i * 3))) = some L[i].1 := by
  show Hp.ld h (.p (.int .i64)) (.at n (i * 3 + 0)) = _
  unfold Hp.ld
  simp only [ho.cl]
  rw [show Nat.ble (i * 3 + 0 + (HTy.p (.int .i64)).sz) ((L.map (HTy.cc (.p TS1))).flatten).length = true by rw [flat_len]; exact Nat.ble_eq_true_of_le (by show i * 3 + 0 + 1 ≤ L.length * 3; omega)]
  simp only [cond_true]
  have hd := flat_drop TS1 L i (Nat.le_of_lt hi)
  rw [show TS1.sz = 3 from rfl] at hd
  rw [Nat.add_zero, hd, List.drop_eq_getElem_cons hi, List.map_cons, List.flatten_cons]
  rfl
theorem HO.f1 {h : Hp} {e : TypeId} {n : Nat} {L : List TS1.den} (ho : HO h e TS1 n L) (i : Nat) (hi : i < L.length) : Hp.ld h (.p (.int .i64)) (padd 1 (.at n (i * 3))) = some L[i].2.1 := by
  show Hp.ld h (.p (.int .i64)) (.at n (i * 3 + 1)) = _
  unfold Hp.ld
  simp only [ho.cl]
  rw [show Nat.ble (i * 3 + 1 + (HTy.p (.int .i64)).sz) ((L.map (HTy.cc (.p TS1))).flatten).length = true by rw [flat_len]; exact Nat.ble_eq_true_of_le (by show i * 3 + 1 + 1 ≤ L.length * 3; omega)]
  simp only [cond_true]
  have hd := flat_drop TS1 L i (Nat.le_of_lt hi)
  rw [show TS1.sz = 3 from rfl] at hd
  rw [← List.drop_drop, hd, List.drop_eq_getElem_cons hi, List.map_cons, List.flatten_cons]
  rfl
theorem insV_cons {α : Type} (less : α → α → Bool) (e x : α) (q : List α) : insV less e (x :: q) = if less e x then x :: insV less e q else e :: x :: q := rfl
/-- An edit stands ahead of another one. -/
def eLt (a b : Ed) : Bool := decide (a.1 < b.1) || (decide (a.1 = b.1) && decide (a.2.1 < b.2.1))
theorem EditBefore_ok (K : Nat) (a b : Ed) (hK : 1 ≤ K) : EditBefore K a b = some (eLt a b) := by
  obtain ⟨K, rfl⟩ : ∃ m, K = m + 1 := ⟨K - 1, by omega⟩
  rw [EditBefore_eq]
  unfold eLt
  by_cases h : a.1 < b.1
  · rw [br_lt h, decide_eq_true h]
    rfl
  · rw [br_ge (by omega), decide_eq_false h]
    by_cases h2 : a.1 = b.1
    · rw [br_eq h2, decide_eq_true h2, ltI_eq]
      rfl
    · rw [br_ne h2, decide_eq_false h2]
      rfl
def Small (e : Ed) : Prop := -2147483648 ≤ e.1 ∧ e.1 ≤ 2147483647 ∧ -2147483648 ≤ e.2.1 ∧ e.2.1 ≤ 2147483647 ∧ e.2.2.size ≤ 60
theorem swap_mid {α : Type} (A : List α) (x e : α) (R : List α) (i j : Nat) (hi : i = A.length + 1) (hj : j = A.length) (h1 : i < (A ++ x :: e :: R).length) (h2 : j < (A ++ x :: e :: R).length) :
    ((A ++ x :: e :: R).set i (A ++ x :: e :: R)[j]).set j (A ++ x :: e :: R)[i] = A ++ e :: x :: R := by
  subst hi; subst hj
  have g1 : (A ++ x :: e :: R)[A.length] = x := by simp
  have g2 : (A ++ x :: e :: R)[A.length + 1] = e := by simp [List.getElem_append_right]
  rw [g1, g2]
  apply List.ext_getElem?
  intro k
  simp only [List.getElem?_set, List.getElem?_append, List.length_set, List.length_append, List.length_cons]
  by_cases k1 : k = A.length
  · subst k1
    simp
  · by_cases k2 : k = A.length + 1
    · subst k2
      simp
    · rw [if_neg (by omega), if_neg (by omega)]
      by_cases k3 : k < A.length
      · rw [if_pos k3, if_pos k3]
      · rw [if_neg k3, if_neg k3]
        obtain ⟨m, hm⟩ : ∃ m, k - A.length = m + 2 := ⟨k - A.length - 2, by omega⟩
        rw [hm]
        rfl
end Go.Proofs.Ytfglahmbnnkijaa.E
