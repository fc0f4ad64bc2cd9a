import Derived.Test.YtfglahmbnnkijaaEvL
/- Lists that lie in the heap: read, written, appended to. -/
set_option linter.unusedVariables false
set_option linter.unusedSimpArgs false
namespace Go.Ev
theorem Ty.dec_cells : ∀ (t : Ty) (x : t.den), t.dec (t.cells x) = some x
  | .int k, x => by
    show (bif kbeq k k then some x else none) = some x
    have : kbeq k k = true := by cases k <;> rfl
    rw [this]
    rfl
  | .bool, x => rfl
  | .str, x => rfl
  | .flt, x => rfl
  | .nils, x => rfl
  | .nile, x => rfl
  | .one a, x => Ty.dec_cells a x
  | .pair a b, x => by
    have h1 : (a.cells x.1 ++ b.cells x.2).take a.sz = a.cells x.1 := List.take_left' (a.cells_length x.1)
    have h2 : (a.cells x.1 ++ b.cells x.2).drop a.sz = b.cells x.2 := List.drop_left' (a.cells_length x.1)
    show (match a.dec ((a.cells x.1 ++ b.cells x.2).take a.sz), b.dec ((a.cells x.1 ++ b.cells x.2).drop a.sz) with
      | some x, some y => some (x, y)
      | _, _ => none) = some x
    rw [h1, h2, Ty.dec_cells a x.1, Ty.dec_cells b x.2]
theorem vals_map : ∀ l : List Value, vals (l.map .v) = some l
  | [] => rfl
  | u :: l => by
    show (match vals (l.map Cell.v) with
      | some m => some (u :: m)
      | none => none) = some (u :: l)
    rw [vals_map l]
theorem dec_cc (t : Ty) (x : t.den) : HTy.dec (.p t) (HTy.cc (.p t) x) = some x := by
  show (match vals ((t.cells x).map Cell.v) with
    | some m => t.dec m
    | none => none) = some x
  rw [vals_map]
  exact t.dec_cells x
/-- An object that holds a list. -/
def HO (h : Hp) (e : TypeId) (t : Ty) (n : Nat) (L : List t.den) : Prop := h.ob n = some (.cells e t.sz (L.map (HTy.cc (.p t))).flatten)
theorem flat_len (t : Ty) : ∀ L : List t.den, ((L.map (HTy.cc (.p t))).flatten).length = L.length * t.sz
  | [] => by simp
  | x :: L => by
    rw [List.map_cons, List.flatten_cons, List.length_append, flat_len t L, HTy.cc_length, List.length_cons, Nat.succ_mul]
    show t.sz + L.length * t.sz = _
    omega
theorem flat_drop (t : Ty) : ∀ (L : List t.den) (i : Nat), i ≤ L.length → ((L.map (HTy.cc (.p t))).flatten).drop (i * t.sz) = ((L.drop i).map (HTy.cc (.p t))).flatten
  | L, 0, _ => by rw [Nat.zero_mul, List.drop_zero, List.drop_zero]
  | [], i + 1, h => by simp at h
  | x :: L, i + 1, h => by
    rw [List.map_cons, List.flatten_cons, Nat.succ_mul, Nat.add_comm, ← List.drop_drop]
    have : (HTy.cc (.p t) x ++ (L.map (HTy.cc (.p t))).flatten).drop t.sz = (L.map (HTy.cc (.p t))).flatten := List.drop_left' (HTy.cc_length (.p t) x)
    rw [this, flat_drop t L i (by simp at h; omega)]
    rfl
theorem flat_take (t : Ty) : ∀ (L : List t.den) (i : Nat), i ≤ L.length → ((L.map (HTy.cc (.p t))).flatten).take (i * t.sz) = ((L.take i).map (HTy.cc (.p t))).flatten
  | L, 0, _ => by rw [Nat.zero_mul, List.take_zero, List.take_zero]; rfl
  | [], i + 1, h => by simp at h
  | x :: L, i + 1, h => by
    rw [List.map_cons, List.flatten_cons, Nat.succ_mul, Nat.add_comm, List.take_add]
    have h1 : (HTy.cc (.p t) x ++ (L.map (HTy.cc (.p t))).flatten).take t.sz = HTy.cc (.p t) x := List.take_left' (HTy.cc_length (.p t) x)
    have h2 : (HTy.cc (.p t) x ++ (L.map (HTy.cc (.p t))).flatten).drop t.sz = (L.map (HTy.cc (.p t))).flatten := List.drop_left' (HTy.cc_length (.p t) x)
    rw [h1, h2, flat_take t L i (by simp at h; omega), List.take_succ_cons, List.map_cons, List.flatten_cons]
section
variable {h : Hp} {e : TypeId} {t : Ty} {n : Nat} {L : List t.den}
theorem HO.cl (ho : HO h e t n L) : h.cl n = some (L.map (HTy.cc (.p t))).flatten := by
  unfold Hp.cl
  rw [show h.ob n = _ from ho]
theorem HO.ld (ho : HO h e t n L) (i : Nat) (hi : i < L.length) : Hp.ld h (.p t) (.at n (i * t.sz)) = some L[i] := by
  unfold Hp.ld
  simp only [ho.cl]
  have hz : (HTy.p t).sz = t.sz := rfl
  have hle : i * t.sz + t.sz ≤ L.length * t.sz := by
    have := Nat.mul_le_mul_right t.sz (show i + 1 ≤ L.length from hi)
    rw [Nat.succ_mul] at this
    exact this
  rw [hz, show Nat.ble (i * t.sz + t.sz) ((L.map (HTy.cc (.p t))).flatten).length = true by rw [flat_len]; exact Nat.ble_eq_true_of_le hle]
  simp only [cond_true]
  rw [flat_drop t L i (Nat.le_of_lt hi), List.drop_eq_getElem_cons hi, List.map_cons, List.flatten_cons, List.take_left' (show (HTy.cc (.p t) L[i]).length = t.sz from HTy.cc_length (.p t) _)]
  exact dec_cc t _
theorem HO.cs (ho : HO h e t n L) : Hp.cs h t.sz (.at n 0 L.length) = some ((L.map (HTy.cc (.p t))).flatten, L.length) := by
  unfold Hp.cs
  simp only [ho.cl]
  rw [Nat.zero_add, show Nat.ble (L.length * t.sz) ((L.map (HTy.cc (.p t))).flatten).length = true by rw [flat_len]; exact Nat.ble_eq_true_of_le (Nat.le_refl _)]
  simp only [cond_true, List.drop_zero]
  rw [List.take_of_length_le (by rw [flat_len]; exact Nat.le_refl _)]
theorem HO.st (ho : HO h e t n L) (i : Nat) (hi : i < L.length) (x : t.den) : ∃ h', Hp.st h (.p t) (.at n (i * t.sz)) x = some h' ∧ h' = h.set n (some (.cells e t.sz ((L.set i x).map (HTy.cc (.p t))).flatten)) := by
  refine ⟨_, ?_, rfl⟩
  unfold Hp.st
  simp only [show h.ob n = _ from ho]
  have hz : (HTy.p t).sz = t.sz := rfl
  have hle : i * t.sz + t.sz ≤ L.length * t.sz := by
    have := Nat.mul_le_mul_right t.sz (show i + 1 ≤ L.length from hi)
    rw [Nat.succ_mul] at this
    exact this
  rw [hz, show Nat.ble (i * t.sz + t.sz) ((L.map (HTy.cc (.p t))).flatten).length = true by rw [flat_len]; exact Nat.ble_eq_true_of_le hle]
  simp only [cond_true]
  rw [flat_take t L i (Nat.le_of_lt hi), show i * t.sz + t.sz = (i + 1) * t.sz from (Nat.succ_mul _ _).symm, flat_drop t L (i + 1) hi]
  have : L.set i x = L.take i ++ x :: L.drop (i + 1) := List.set_eq_take_append_cons_drop.trans (if_pos hi)
  rw [this, List.map_append, List.flatten_append, List.map_cons, List.flatten_cons, List.append_assoc]
theorem HO.new (h : Hp) (e : TypeId) (t : Ty) (L : List t.den) : HO (Hp.new h e (.p t) L) e t h.nx L := by
  unfold HO Hp.new
  rw [push_ob, if_pos rfl]
  rfl
theorem HO.push (ho : HO h e t n L) (hn : n ≠ h.nx) (o : Obj) : HO (h.push o) e t n L := by
  unfold HO
  rw [push_ob, if_neg hn]
  exact ho
theorem HO.set (ho : HO h e t n L) {m : Nat} (hn : n ≠ m) (o : Option Obj) : HO (h.set m o) e t n L := by
  unfold HO
  rw [set_ob, if_neg hn]
  exact ho
/-- An append to a whole object, of what is there: the object gives its place to a new one. -/
theorem HO.app (ho : HO h e t n L) (M : List t.den) (hM : M ≠ []) : Hp.app h e t.sz (M.map (HTy.cc (.p t))).flatten M.length (.at n 0 L.length) = some (.at h.nx 0 (L.length + M.length), (h.set n none).push (.cells e t.sz ((L ++ M).map (HTy.cc (.p t))).flatten)) := by
  unfold Hp.app
  simp only [show h.ob n = _ from ho]
  have hpos := t.sz_pos
  have hMl : 0 < M.length := List.length_pos_iff.2 hM
  rw [show (Nat.beq e e && Nat.beq t.sz t.sz && Nat.ble (0 + L.length * t.sz) ((L.map (HTy.cc (.p t))).flatten).length) = true by
    simp only [Nat.beq_refl, Bool.true_and]
    rw [flat_len]
    exact Nat.ble_eq_true_of_le (by omega)]
  simp only [cond_true]
  have hnot : Nat.ble (0 + (L.length + M.length) * t.sz) ((L.map (HTy.cc (.p t))).flatten).length = false := by
    rw [flat_len]
    have h1 : 0 < M.length * t.sz := Nat.mul_pos hMl hpos
    have h2 : (L.length + M.length) * t.sz = L.length * t.sz + M.length * t.sz := Nat.add_mul _ _ _
    cases hb : Nat.ble (0 + (L.length + M.length) * t.sz) (L.length * t.sz) with
    | false => rfl
    | true => have := Nat.le_of_ble_eq_true hb; omega
  rw [hnot]
  simp only [Bool.false_and, cond_false, Nat.beq_refl, cond_true]
  rw [List.take_of_length_le (by rw [flat_len]; exact Nat.le_refl _), List.map_append, List.flatten_append]
end
end Go.Ev
