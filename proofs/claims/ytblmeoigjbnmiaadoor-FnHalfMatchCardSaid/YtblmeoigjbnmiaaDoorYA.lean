import Derived.Test.YtblmeoigjbnmiaaDoorV3
/- Texts that lie in the heap. -/
set_option linter.unusedVariables false
set_option linter.unusedSimpArgs false
namespace Go.Proofs.YtblmeoigjbnmiaaDoor.E
open Go.Ev
def cv (x : Int) : Cell := .v (.int .i32 x)
/-- An object that holds characters. -/
def TxO (h : Hp) (n : Nat) (L : List Int) : Prop := h.ob n = some (.cells 21 1 (L.map cv))
theorem decL_cv : ∀ (n : Nat) (L : List Int), n ≤ L.length → decL (.p (.int .i32)) n (L.map cv) = some (L.take n)
  | 0, L, _ => by rw [List.take_zero]; rfl
  | n + 1, [], h => by simp at h
  | n + 1, x :: L, h => by
    have ih := decL_cv n L (by simp at h; omega)
    unfold decL
    have e1 : HTy.dec (.p (.int .i32)) (List.take (HTy.p (.int .i32)).sz (List.map cv (x :: L))) = some x := rfl
    have e2 : List.drop (HTy.p (.int .i32)).sz (List.map cv (x :: L)) = L.map cv := rfl
    rw [e1, e2, ih]
    rfl
theorem cl_tx {h : Hp} {n : Nat} {L : List Int} (ho : TxO h n L) : h.cl n = some (L.map cv) := by
  unfold Hp.cl
  rw [show h.ob n = _ from ho]
theorem rd_tx {h : Hp} {n : Nat} {L : List Int} (ho : TxO h n L) (k len : Nat) (hk : k + len ≤ L.length) : Hp.rd h (.int .i32) (.at n k len) = some ((L.drop k).take len) := by
  unfold Hp.rd
  simp only [cl_tx ho]
  have hb : Nat.ble (k + len * Ty.sz (.int .i32)) (L.map cv).length = true := by
    rw [List.length_map]
    exact Nat.ble_eq_true_of_le (by show k + len * 1 ≤ _; omega)
  rw [hb]
  simp only [cond_true]
  rw [← List.map_drop, decL_cv _ _ (by rw [List.length_drop]; omega)]
theorem rd_all {h : Hp} {n : Nat} {L : List Int} (ho : TxO h n L) : Hp.rd h (.int .i32) (.at n 0 L.length) = some L := by
  rw [rd_tx ho 0 L.length (by omega), List.drop_zero, List.take_length]
theorem cs_tx {h : Hp} {n : Nat} {L : List Int} (ho : TxO h n L) (k len : Nat) (hk : k + len ≤ L.length) : Hp.cs h 1 (.at n k len) = some (((L.drop k).take len).map cv, len) := by
  unfold Hp.cs
  simp only [cl_tx ho]
  rw [show Nat.ble (k + len * 1) (L.map cv).length = true by rw [List.length_map]; exact Nat.ble_eq_true_of_le (by omega)]
  simp only [cond_true]
  rw [← List.map_drop, ← List.map_take, Nat.mul_one]
theorem flat_cv : ∀ L : List Int, (L.map (HTy.p (.int .i32)).cc).flatten = L.map cv
  | [] => rfl
  | x :: L => by rw [List.map_cons, List.flatten_cons, flat_cv L]; rfl
theorem new_tx (h : Hp) (L : List Int) : TxO (Hp.new h 21 (.p (.int .i32)) L) h.nx L := by
  unfold TxO Hp.new
  rw [push_ob, if_pos rfl, flat_cv]
  rfl
theorem TxO.push {h : Hp} {n : Nat} {L : List Int} (ho : TxO h n L) (hn : n < h.nx) (o : Ev.Obj) : TxO (h.push o) n L := by
  unfold TxO
  rw [push_ob, if_neg (by omega)]
  exact ho
/-- What is written over by the same stays. -/
theorem set_same {h : Hp} {n : Nat} {o : Ev.Obj} (ho : h.ob n = some o) : h.set n (some o) = h := by
  have : (h.set n (some o)).ob = h.ob := by
    funext m
    rw [set_ob]
    split
    · rename_i e; rw [e, ho]
    · rfl
  show (⟨h.nx, (h.set n (some o)).ob⟩ : Hp) = h
  rw [this]
theorem app_tx {h : Hp} {n : Nat} {L : List Int} (ho : TxO h n L) (k s p : Nat) (hk : k + s + p ≤ L.length) : Hp.app h 21 1 (((L.drop (k + s)).take p).map cv) p (.at n k s) = some (.at n k (s + p), h) := by
  unfold Hp.app
  simp only [show h.ob n = _ from ho]
  rw [show (Nat.beq 21 21 && Nat.beq 1 1 && Nat.ble (k + s * 1) (L.map cv).length) = true by
    rw [List.length_map]
    simp only [Nat.beq_refl, Bool.true_and]
    exact Nat.ble_eq_true_of_le (by omega)]
  rw [show (Nat.ble (k + (s + p) * 1) (L.map cv).length && (Nat.beq k 0 || Nat.beq 1 1)) = true by
    rw [List.length_map]
    simp only [Nat.beq_refl, Bool.or_true, Bool.and_true]
    exact Nat.ble_eq_true_of_le (by omega)]
  simp only [cond_true]
  have e : (L.map cv).take (k + s * 1) ++ ((L.drop (k + s)).take p).map cv ++ (L.map cv).drop (k + (s + p) * 1) = L.map cv := by
    rw [← List.map_take, ← List.map_drop, ← List.map_append, ← List.map_append]
    congr 1
    have e1 : L.drop (k + (s + p) * 1) = (L.drop (k + s)).drop p := by rw [List.drop_drop]; congr 1; omega
    rw [e1, List.append_assoc, List.take_append_drop, Nat.mul_one, List.take_append_drop]
  rw [e, set_same ho]
theorem rlen_at (n k len : Nat) : rlen (.at n k len) = len := rfl
theorem rcut_at (n k len lo hi : Nat) : rcut 1 lo hi (.at n k len) = .at n (k + lo) (hi - lo) := by
  show Rf.at n (k + lo * 1) (hi - lo) = _
  rw [Nat.mul_one]
end Go.Proofs.YtblmeoigjbnmiaaDoor.E
