import Derived.Test.YtfglahmbnnkijaaLW
/- A text's characters; the size of edits; the least size. -/
set_option linter.unusedVariables false
set_option linter.unusedSimpArgs false
namespace Go.Proofs.Ytfglahmbnnkijaa.E
open Go.Ev Go.Lcs Go.Lib
theorem dec_at (s : ByteArray) (i : Nat) : Utf8.decode s i = decodeL (s.data.toList.drop i) := by
  have hsz := szL s
  have e0 : ∀ k, (s.get! (i + k)) = (s.data.toList.drop i).getD k 0 := by
    intro k
    rw [getB, List.getD_eq_getElem?_getD, List.getD_eq_getElem?_getD, List.getElem?_drop]
  rw [decodeL_eq, decode_at, List.length_drop, hsz, ← e0 0, ← e0 1, ← e0 2, ← e0 3]
  rfl
theorem more_at {h : Hp} {n pos : Nat} {s : ByteArray} (ho : h.ob n = some (.iter s pos)) : Hp.more h (.at n 0) = some (decide (pos < s.size)) := by
  simp only [Hp.more, ho]
  cases hb : Nat.blt pos s.size with
  | true => rw [decide_eq_true (by rw [← Nat.blt_eq]; exact hb)]
  | false => rw [decide_eq_false (by rw [← Nat.blt_eq, hb]; exact Bool.false_ne_true)]
theorem nxt_at {h : Hp} {n pos : Nat} {s : ByteArray} (ho : h.ob n = some (.iter s pos)) : Hp.nxt h (.at n 0) = some ((pos : Int), ((decodeL (s.data.toList.drop pos)).1 : Int), h.set n (some (.iter s (pos + (decodeL (s.data.toList.drop pos)).2)))) := by
  simp only [Hp.nxt, ho, dec_at]
/-! ### the size -/
/-! ### the least size -/
theorem ld1 {h : Hp} {n len : Nat} {L : List Int} (ho : HO h 3 (.int .i64) n L) (i : Nat) {v : Int} (hv : L[i]? = some v) : Hp.ld h (.p (.int .i64)) (radr 1 (Int.toNat (i : Int)) (.at n 0 len)) = some v := by
  obtain ⟨hi, rfl⟩ := List.getElem?_eq_some_iff.1 hv
  rw [radr0]
  exact ho.ld i hi
/-- A row as far as K. -/
def RowOk (E : Int → Int → Prop) (i : Nat) (L : List Int) (K : Nat) : Prop := ∀ j, j < K → ∃ n : Nat, L[j]? = some (n : Int) ∧ Dist E i j n ∧ n ≤ i + j
theorem RowOk.put {E : Int → Int → Prop} {i : Nat} {L : List Int} {K : Nat} (h : RowOk E i L K) (n : Nat) (hK : K < L.length) (hd : Dist E i K n) (hn : n ≤ i + K) : RowOk E i (L.set K (n : Int)) (K + 1) := by
  intro j hj
  by_cases e : j = K
  · subst e
    exact ⟨n, by rw [List.getElem?_set_self hK], hd, hn⟩
  · obtain ⟨m, h1, h2, h3⟩ := h j (by omega)
    exact ⟨m, by rw [List.getElem?_set_ne (by omega)]; exact h1, h2, h3⟩
theorem RowOk.set {E : Int → Int → Prop} {i : Nat} {L : List Int} {K : Nat} (h : RowOk E i L K) (x : Int) (k : Nat) (hk : K ≤ k) : RowOk E i (L.set k x) K := by
  intro j hj
  obtain ⟨m, h1, h2, h3⟩ := h j hj
  exact ⟨m, by rw [List.getElem?_set_ne (by omega)]; exact h1, h2, h3⟩
theorem wp1 (j : Nat) (h : j ≤ 100000) : IntKind.wrap IntKind.i64 ((j : Int) + 1) = ((j + 1 : Nat) : Int) := by rw [wrap_id (by omega) (by omega)]; omega
end Go.Proofs.Ytfglahmbnnkijaa.E
