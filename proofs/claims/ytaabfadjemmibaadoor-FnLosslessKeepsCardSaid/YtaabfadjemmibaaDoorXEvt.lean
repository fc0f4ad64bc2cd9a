import Derived.Test.YtaabfadjemmibaaDoorWWords
/- Plain laws: functions with a bound on rounds, 'with enough rounds the answer is r'. -/
namespace Go.Proofs.YtaabfadjemmibaaDoorX
open Go.RowKit
/-- With enough rounds, g answers r. -/
def Evt {α : Type} (g : Nat → Option α) (r : α) : Prop := ∃ K, ∀ k, K ≤ k → g k = some r
section
variable {α β : Type} {r : α}
theorem Evt.ret (r : α) : Evt (fun _ => some r) r := ⟨0, fun _ _ => rfl⟩
theorem Evt.of {o : Option α} (h : o = some r) : Evt (fun _ => o) r := ⟨0, fun _ _ => h⟩
theorem Evt.bind {f : Nat → Option α} {g : Nat → α → Option β} {x : α} {y : β} (h1 : Evt f x) (h2 : Evt (fun k => g k x) y) : Evt (fun k => (f k).bind (g k)) y := by
  obtain ⟨K1, h1⟩ := h1
  obtain ⟨K2, h2⟩ := h2
  refine ⟨max K1 K2, fun k hk => ?_⟩
  show (f k).bind (g k) = some y
  rw [h1 k (by omega)]
  exact h2 k (by omega)
theorem Evt.obind {o : Option α} {g : Nat → α → Option β} {x : α} {y : β} (h1 : o = some x) (h2 : Evt (fun k => g k x) y) : Evt (fun k => o.bind (g k)) y := by
  subst h1
  exact h2
theorem Evt.succ {g h : Nat → Option α} (e : ∀ k, g (k + 1) = h k) (H : Evt h r) : Evt g r := by
  obtain ⟨K, H⟩ := H
  refine ⟨K + 1, fun k hk => ?_⟩
  obtain ⟨m, rfl⟩ : ∃ m, k = m + 1 := ⟨k - 1, by omega⟩
  rw [e]
  exact H m (by omega)
theorem Evt.congr {g h : Nat → Option α} (e : ∀ k, g k = h k) (H : Evt h r) : Evt g r := by
  obtain ⟨K, H⟩ := H
  exact ⟨K, fun k hk => (e k).trans (H k hk)⟩
theorem Evt.ite {c : Prop} [Decidable c] {a b : Nat → Option α} (h1 : c → Evt a r) (h2 : ¬ c → Evt b r) : Evt (fun k => if c then a k else b k) r := by
  by_cases hc : c
  · simpa only [if_pos hc] using h1 hc
  · simpa only [if_neg hc] using h2 hc
theorem Evt.pos {c : Prop} [Decidable c] {a b : Nat → Option α} (hc : c) (h : Evt a r) : Evt (fun k => if c then a k else b k) r := by simpa only [if_pos hc] using h
theorem Evt.neg {c : Prop} [Decidable c] {a b : Nat → Option α} (hc : ¬ c) (h : Evt b r) : Evt (fun k => if c then a k else b k) r := by simpa only [if_neg hc] using h
theorem Evt.some_ {g : Nat → Option α} (h : Evt g r) : ∃ k, g k = some r := by
  obtain ⟨K, h⟩ := h
  exact ⟨K, h K (Nat.le_refl _)⟩
theorem Evt.same {g : Nat → Option α} {s : α} (h : Evt g r) (h' : Evt g s) : r = s := by
  obtain ⟨K, h⟩ := h
  obtain ⟨K', h'⟩ := h'
  have h1 := h (max K K') (by omega)
  rw [h' (max K K') (by omega)] at h1
  exact (Option.some.inj h1).symm
theorem Evt.cast {g : Nat → Option α} {s : α} (h : Evt g r) (e : r = s) : Evt g s := e ▸ h
end
theorem wrap64_eq {n : Int} (h0 : -9223372036854775808 ≤ n) (h1 : n ≤ 9223372036854775807) : wrap64 n = n := by
  unfold wrap64
  omega
theorem wadd (a b : Nat) (h : a + b ≤ 4611686018427387904) : wrap64 ((a : Int) + (b : Int)) = ((a + b : Nat) : Int) := by rw [wrap64_eq (by omega) (by omega)]; omega
theorem wadd1 (a : Nat) (h : a ≤ 4611686018427387904) : wrap64 ((a : Int) + 1) = ((a + 1 : Nat) : Int) := by rw [wrap64_eq (by omega) (by omega)]; omega
theorem wsub (a b : Nat) (h : b ≤ a) (h2 : a ≤ 4611686018427387904) : wrap64 ((a : Int) - (b : Int)) = ((a - b : Nat) : Int) := by rw [wrap64_eq (by omega) (by omega)]; omega
theorem wsub1 (a : Nat) (h : 1 ≤ a) (h2 : a ≤ 4611686018427387904) : wrap64 ((a : Int) - 1) = ((a - 1 : Nat) : Int) := by rw [wrap64_eq (by omega) (by omega)]; omega
end Go.Proofs.YtaabfadjemmibaaDoorX
