import Derived.Test.YtaabfadjemmibaaDoorPx0
import Derived.Laws.CopyOwn
import Derived.Laws.IdiomCopy
import Derived.BigCall
import Derived.BigQuiet
import Derived.Deep.RegionLaw
import Derived.BigRegion
/- 'splice': items of a list replaced by others, in the list's own memory. -/
namespace Go.Proofs.YtaabfadjemmibaaDoor.P
open Go.RowKit Go.Proofs.YtaabfadjemmibaaDoorW.PrintWords Go.Proofs.YtaabfadjemmibaaDoorW.PrintLast Go.Proofs.YtaabfadjemmibaaDoorW.PrintMore
open Go.Proofs.YtaabfadjemmibaaDoorX
set_option linter.unusedVariables false
set_option linter.unusedSimpArgs false
/-- The cells of differences. -/
def enc2 (xs : List (S59)) : List Value := xs.flatMap fun x => [.int .i8 x.f0, .string x.f1]
theorem enc2_len (xs : List (S59)) : (enc2 xs).length = xs.length * 2 := by
  induction xs with
  | nil => rfl
  | cons x r ih => rw [enc2, List.flatMap_cons, List.length_append, ← enc2, ih]; simp; omega
theorem enc2_cons (x : S59) (r : List (S59)) : enc2 (x :: r) = [.int .i8 x.f0, .string x.f1] ++ enc2 r := rfl
theorem enc2_append (a b : List (S59)) : enc2 (a ++ b) = enc2 a ++ enc2 b := by simp [enc2]
theorem enc2_take (xs : List (S59)) : ∀ n, (enc2 xs).take (n * 2) = enc2 (xs.take n) := by
  induction xs with
  | nil => intro n; simp [enc2]
  | cons x r ih =>
    intro n
    cases n with
    | zero => simp [enc2]
    | succ n =>
      rw [enc2_cons, List.take_succ_cons, enc2_cons, List.take_append, ← ih n]
      rw [List.take_of_length_le (by simp; omega)]
      congr 2
      simp
      omega
theorem enc2_drop (xs : List (S59)) : ∀ n, (enc2 xs).drop (n * 2) = enc2 (xs.drop n) := by
  induction xs with
  | nil => intro n; simp [enc2]
  | cons x r ih =>
    intro n
    cases n with
    | zero => simp
    | succ n =>
      rw [enc2_cons, List.drop_succ_cons, List.drop_append, ← ih n]
      rw [List.drop_eq_nil_of_le (by simp; omega), List.nil_append]
      congr 1
      simp
      omega
theorem enc2_one (xs : List (S59)) : ∀ u ∈ enc2 xs, u.oneCell' = true := by
  intro u hu
  obtain ⟨x, _, hx⟩ := List.mem_flatMap.1 hu
  rcases List.mem_cons.1 hx with rfl | hx
  · rfl
  · obtain rfl := List.mem_singleton.1 hx
    rfl
theorem reps_enc2 {M : S59 → List Value → Prop} (hM : ∀ x cs, M x cs → cs = [.int .i8 x.f0, .string x.f1]) : ∀ (xs : List (S59)) (inner : List Value), Reps M 2 xs inner → inner = enc2 xs
  | [], inner, h => List.eq_nil_of_length_eq_zero (by rw [h.1]; rfl)
  | x :: r, inner, h => by
    have h0 := hM x _ (h.2 0 x rfl)
    rw [Nat.zero_mul, List.drop_zero] at h0
    have hr : Reps M 2 r (inner.drop 2) := by
      refine ⟨by rw [List.length_drop, h.1, List.length_cons]; omega, fun j p hp => ?_⟩
      have := h.2 (j + 1) p (by simpa using hp)
      rw [List.drop_drop, show 2 + j * 2 = (j + 1) * 2 from by omega]
      exact this
    rw [enc2_cons, ← reps_enc2 hM r _ hr, ← h0, List.take_append_drop]
theorem own_enc2 {w : World} {base : Nat} {ok : Nat → Prop} {v : Value} {xs : List (S59)} (h : Kd.R k59 59 w base ok v xs) : w.ownsRow base 59 2 v xs.length (enc2 xs) := by
  obtain ⟨_, inner, ho, hr⟩ := h
  rw [← reps_enc2 (fun x cs hx => k59_openM hx) xs inner hr]
  exact ho
theorem enc2_get (xs : List (S59)) (j : Nat) (p : S59) (h : xs[j]? = some p) : ((enc2 xs).drop (j * 2)).take 2 = [.int .i8 p.f0, .string p.f1] := by
  rw [enc2_drop]
  obtain ⟨hj, rfl⟩ := List.getElem?_eq_some_iff.1 h
  rw [List.drop_eq_getElem_cons hj, enc2_cons]
  rfl
theorem R_of_enc2 {w : World} {base : Nat} {ok : Nat → Prop} {v : Value} {xs : List (S59)} (hok : ∀ k, v.ownBlock = some k → ok k) (h : w.ownsRow base 59 2 v xs.length (enc2 xs)) : Kd.R k59 59 w base ok v xs :=
  ⟨hok, enc2 xs, h, enc2_len xs, fun j p hp => by have h2 := enc2_get xs j p hp; show k59.M _ _ _ p (((enc2 xs).drop (j * 2)).take 2); rw [h2]; exact k59_mkM _ _ _ p⟩
/-- 'copy' of rows of two cells an element. -/
theorem run_copy2 {P : Program} (w : World) (dT sT ty elem : TypeId) (g o dLen dCap : Nat) (sp : Option Addr) (sLen sCap : Nat) (cur : Array Value) (t : TypeId) (cs : List Value)
    (hu : P.underlying dT = some (.slice elem)) (hs : (P.info? elem).map (·.size) = some 2)
    (hg : w.heap[g]? = some (.cells cur t (0, 0))) (hn : cs.length = Nat.min sLen dLen * 2)
    (hsrc : 0 < cs.length → ∃ a, sp = some a ∧ ∀ j v, cs[j]? = some v → w.cell? (a.add j) = some v) (hfit : o + cs.length ≤ cur.size) (h1 : ∀ v ∈ cs, v.oneCell' = true) :
    (Builtin.copy_ #[dT, sT] ty #[.slice (some ⟨g, o, none⟩) dLen dCap, .slice sp sLen sCap]).run P w =
      .ok (goInt (Nat.min sLen dLen)) (w.setRow g (cur.toList.take o ++ cs ++ cur.toList.drop (o + cs.length)).toArray) := by
  have hst := run_storeCells_at P g o t cs 0 cur w hg (by simpa using hfit) h1
  cases hq : P.info? elem with
  | none => simp [hq] at hs
  | some i =>
    have hi : i.size = 2 := by simpa [hq] using hs
    rcases Nat.eq_zero_or_pos cs.length with h0 | h0
    · obtain rfl : cs = [] := List.eq_nil_of_length_eq_zero h0
      have hm : Nat.min sLen dLen = 0 := by rw [List.length_nil] at hn; omega
      have hl : ∀ b, (loadCells b 0).run P w = .ok #[] w := fun b => by simpa using run_loadCells_list (P := P) w b [] (by simp)
      cases sp <;> simp [Builtin.copy_, run_underlying hu, Builtin.lenOf, Builtin.firstCells, sizeOf, typeInfo, hq, hi, hm, hl, hst]
    · obtain ⟨a, rfl, ha⟩ := hsrc h0
      have hl := run_loadCells_list (P := P) w a cs ha
      simp [Builtin.copy_, run_underlying hu, Builtin.lenOf, Builtin.firstCells, sizeOf, typeInfo, hq, hi, ← hn, hl, hst]
/-- Cells from the i-th element on overwritten. -/
def put2 (cur : List Value) (i : Nat) (cs : List Value) : List Value := cur.take (i * 2) ++ cs ++ cur.drop (i * 2 + cs.length)
theorem put2_nil (cur : List Value) (i : Nat) : put2 cur i [] = cur := by simp [put2]
theorem put2_len (cur : List Value) (i : Nat) (cs : List Value) (h : i * 2 + cs.length ≤ cur.length) : (put2 cur i cs).length = cur.length := by simp [put2]; omega
theorem grownBy_setRow (w : World) (g : Nat) (cs : Array Value) : w.grownBy (w.setRow g cs) (some g) :=
  ⟨rfl, rfl, rfl, by simp, fun k hk hne => setRow_other w g k cs (fun e => hne (by rw [e]))⟩
theorem grownBy_setCell (w : World) (g i : Nat) (u : Value) : w.grownBy (w.setCell ⟨g, i, none⟩ u) (some g) :=
  ⟨rfl, rfl, rfl, by simp [World.setCell], fun k hk hne => Below.heap_setCell w ⟨g, i, none⟩ u k (fun e => hne (by rw [e]))⟩
section
variable {P : Program} {w : World} {ops : Array Oper} {rest : List Oper} {o : Oper} {a : Act} {Q : Exit → Act → World → Prop}
theorem copy2_run (dT ty : TypeId) (elem : TypeId) (hu : P.underlying dT = some (.slice elem)) (hs2 : (P.info? elem).map (·.size) = some 2)
    (g n c i : Nat) (hi : i ≤ n) (hnc : n ≤ c) (m : Nat) (hm : m = n - i) (c' ofs : Nat) (hofs : (c = i ∧ ofs = 0) ∨ ofs = i * 2) (sp : Option Addr) (sLen sCap : Nat)
    (cur : List Value) (t : TypeId) (hg : w.heap[g]? = some (.cells cur.toArray t (0, 0))) (hsz : cur.length = c * 2) (cs : List Value) (hn : cs.length = Nat.min sLen m * 2)
    (hsrc : 0 < cs.length → ∃ ad, sp = some ad ∧ ∀ j v, cs[j]? = some v → w.cell? (ad.add j) = some v) (h1 : ∀ v ∈ cs, v.oneCell' = true) :
    (Builtin.copy_ #[dT, dT] ty #[.slice (some ⟨g, ofs, none⟩) m c', .slice sp sLen sCap]).run P w = .ok (goInt (Nat.min sLen m)) (w.setRow g (put2 cur i cs).toArray) := by
  subst hm
  have hle : cs.length ≤ (n - i) * 2 := by rw [hn]; exact Nat.mul_le_mul_right _ (Nat.min_le_right _ _)
  have hput : (cur.take ofs ++ cs ++ cur.drop (ofs + cs.length)) = put2 cur i cs := by
    rcases hofs with ⟨h2, h3⟩ | h3
    · obtain rfl : cs = [] := List.eq_nil_of_length_eq_zero (by omega)
      simp [put2]
    · rw [h3]; rfl
  have hfit : ofs + cs.length ≤ cur.length := by
    rcases hofs with ⟨h2, h3⟩ | h3
    · omega
    · omega
  have hrun := run_copy2 (P := P) w dT dT ty elem g ofs (n - i) c' sp sLen sCap cur.toArray t cs hu hs2 hg hn hsrc (by simpa using hfit) h1
  rw [List.toList_toArray, hput] at hrun
  exact hrun
theorem wp_copy2 (hgd : o.guard = none) (d s : Operand) (dT : TypeId) (ho : o.op = .call { callee := .builtin .copy, args := #[d, s], argTypes := #[dT, dT] }) (elem : TypeId) (hu : P.underlying dT = some (.slice elem)) (hs2 : (P.info? elem).map (·.size) = some 2)
    (g n c i : Nat) (hi : i ≤ n) (hnc : n ≤ c) (m : Nat) (hm : m = n - i) (c' ofs : Nat) (hofs : (c = i ∧ ofs = 0) ∨ ofs = i * 2) (hd : a.eval d = .slice (some ⟨g, ofs, none⟩) m c') (sp : Option Addr) (sLen sCap : Nat) (hs : a.eval s = .slice sp sLen sCap)
    (cur : List Value) (t : TypeId) (hg : w.heap[g]? = some (.cells cur.toArray t (0, 0))) (hsz : cur.length = c * 2) (cs : List Value) (hn : cs.length = Nat.min sLen m * 2)
    (hsrc : 0 < cs.length → ∃ ad, sp = some ad ∧ ∀ j v, cs[j]? = some v → w.cell? (ad.add j) = some v) (h1 : ∀ v ∈ cs, v.oneCell' = true)
    (h : ∀ w', w'.heap[g]? = some (.cells (put2 cur i cs).toArray t (0, 0)) → w.grownBy w' (some g) → w'.heap.size = w.heap.size → wpList P ops Q rest (a.put o.dst (goInt (Nat.min sLen m))) w') : wpList P ops Q (o :: rest) a w := by
  refine wpList_plain hgd fun K hK => ?_
  have hrun := copy2_run (P := P) (w := w) dT o.type elem hu hs2 g n c i hi hnc m hm c' ofs hofs sp sLen sCap cur t hg hsz cs hn hsrc h1
  unfold Oper.wp
  simp only [execOp, ho, resolve, invoke, builtin]
  simp [hd, hs, hrun, Result.andThen]
  exact hK _ _ (h _ (setRow_heap w g _ _ t _ hg) (grownBy_setRow w g _) (by simp))
theorem step_copy2 {K : Act → World → Prop} {E : Prop} (hgd : o.guard = none) (d s : Operand) (dT : TypeId) (ho : o.op = .call { callee := .builtin .copy, args := #[d, s], argTypes := #[dT, dT] }) (elem : TypeId) (hu : P.underlying dT = some (.slice elem)) (hs2 : (P.info? elem).map (·.size) = some 2)
    (g n c i : Nat) (hi : i ≤ n) (hnc : n ≤ c) (m : Nat) (hm : m = n - i) (c' ofs : Nat) (hofs : (c = i ∧ ofs = 0) ∨ ofs = i * 2) (hd : a.eval d = .slice (some ⟨g, ofs, none⟩) m c') (sp : Option Addr) (sLen sCap : Nat) (hs : a.eval s = .slice sp sLen sCap)
    (cur : List Value) (t : TypeId) (hg : w.heap[g]? = some (.cells cur.toArray t (0, 0))) (hsz : cur.length = c * 2) (cs : List Value) (hn : cs.length = Nat.min sLen m * 2)
    (hsrc : 0 < cs.length → ∃ ad, sp = some ad ∧ ∀ j v, cs[j]? = some v → w.cell? (ad.add j) = some v) (h1 : ∀ v ∈ cs, v.oneCell' = true)
    (h : ∀ w', w'.heap[g]? = some (.cells (put2 cur i cs).toArray t (0, 0)) → w.grownBy w' (some g) → w'.heap.size = w.heap.size → K (a.put o.dst (goInt (Nat.min sLen m))) w') : if Region.wanted o (yielded ops a.tmps) = true then Oper.wp P o a w K Q else E := by
  have hw : Region.wanted o (yielded ops a.tmps) = true := by simp [Region.wanted, hgd]
  rw [if_pos hw]
  have hrun := copy2_run (P := P) (w := w) dT o.type elem hu hs2 g n c i hi hnc m hm c' ofs hofs sp sLen sCap cur t hg hsz cs hn hsrc h1
  unfold Oper.wp
  simp only [execOp, ho, resolve, invoke, builtin]
  simp [hd, hs, hrun, Result.andThen]
  exact h _ (setRow_heap w g _ _ t _ hg) (grownBy_setRow w g _) (by simp)
end
theorem cut_from2 {P : Program} (t e : TypeId) (kl : IntKind) {i0 : TypeInfo} (ht : P.underlying t = some (.slice e)) (hi : P.info? e = some i0) (hsz : i0.size = 2) (g n c i : Nat) (hm : i ≤ n) :
    ∃ ofs, ((c = i ∧ ofs = 0) ∨ ofs = i * 2) ∧ ∀ W : World, (Instr.slice t (.slice (some ⟨g, 0, none⟩) n c) (some (.int kl (i : Int))) none none).run P W = .ok (.slice (some ⟨g, ofs, none⟩) (n - i) (c - i)) W := by
  have h := cut_from (P := P) t e kl ht hi 2 hsz (some ⟨g, 0, none⟩) n c (i : Int) (by omega) (by omega)
  simp only [Int.toNat_natCast] at h
  by_cases hc : c = i
  · refine ⟨0, .inl ⟨hc, rfl⟩, fun W => ?_⟩
    rw [h W, if_pos hc]
  · refine ⟨i * 2, .inr rfl, fun W => ?_⟩
    rw [h W, if_neg hc]
    have : (⟨g, 0, none⟩ : Addr).add (i * 2) = ⟨g, i * 2, none⟩ := by
      unfold Addr.add
      split
      · rename_i h0; rw [h0]
      · simp
    simp [this]
def diffmatchpatch_splice.f (l : List (S59)) (i a : Int) (es : List (S59)) : Option (List (S59)) :=
  if 0 < l.length ∧ 0 ≤ i ∧ 0 ≤ a ∧ i + a ≤ l.length ∧ l.length + es.length ≤ 1000000000 then some (l.take i.toNat ++ es ++ l.drop (i + a).toNat) else none
theorem cells_of_C {w : World} {A : Option Addr} {xs : List (S59)} (h : Kd.C k59 w A xs.length xs) (hp : 0 < (enc2 xs).length) : ∃ ad, A = some ad ∧ ∀ j v, (enc2 xs)[j]? = some v → w.cell? (ad.add j) = some v := by
  rw [enc2_len] at hp
  obtain ⟨ad, rfl, hc⟩ := h.2.2 (by omega)
  refine ⟨ad, rfl, fun j v hj => ?_⟩
  have hjl : j < (enc2 xs).length := (List.getElem?_eq_some_iff.1 hj).1
  rw [enc2_len] at hjl
  have hq : j / 2 < xs.length := by omega
  obtain ⟨c, hcl, hK, hcell⟩ := hc (j / 2) _ (List.getElem?_eq_getElem hq)
  have := hcell (j % 2) v ?_
  · have e : j / 2 * k59.sz + j % 2 = j := by show j / 2 * 2 + j % 2 = j; omega
    rwa [e] at this
  · have h2 := enc2_get xs (j / 2) _ (List.getElem?_eq_getElem hq)
    rw [k59_open hK, ← h2, List.getElem?_take_of_lt (by omega), List.getElem?_drop, show j / 2 * 2 + j % 2 = j from by omega]
    exact hj
set_option maxHeartbeats 4000000 in
set_option maxRecDepth 100000 in
theorem splice_same (P0_ : Nat → Prop) (g c : Nat) (l0 : List (S59)) (i : Nat) (A3 : Option Addr) (c3 : Nat) (l3 : List (S59)) (w0 w : World) (cur : List Value) (hB : Below w0.heap.size w0 w) (hBg : w0.heap.size ≤ g) (hP : P0_ g)
    (hg : w.heap[g]? = some (.cells cur.toArray 59 (0, 0))) (hsz : cur.length = c * 2) (hnc : l0.length ≤ c) (hmax : c ≤ maxLen) (htake : cur.take (l0.length * 2) = enc2 l0) (hr3 : Kd.C k59 w A3 l3.length l3) (hi : i + l3.length ≤ l0.length) (hlim : l0.length + l3.length ≤ 1000000000) :
    Calls Tryd.prog 49 #[.slice (some ⟨g, 0, none⟩) l0.length c, .int .i64 (i : Int), .int .i64 (l3.length : Int), .slice A3 l3.length c3] w fun e w' => e = .returned (.slice (some ⟨g, 0, none⟩) l0.length c) ∧ w'.heap[g]? = some (.cells (put2 cur i (enc2 l3)).toArray 59 (0, 0)) ∧ w.grownBy w' (some g) := by
  obtain ⟨ti, hti, hz⟩ := Option.map_eq_some_iff.1 info59
  simp only [Prod.mk.injEq] at hz
  obtain ⟨ofs, hofs, hcut⟩ := cut_from2 (P := Tryd.prog) 44 59 .i64 Tryd.underlying44 hti hz.2.1 g l0.length c i (by omega)
  have hmin : Nat.min l3.length (l0.length - i) = l3.length := Nat.min_eq_left (by omega)
  go_enter Tryd.func49, Tryd.ntmps49
  go_wp2_with (first | ((with_reducible refine gate_builtin (b := .copy) (xs := #[.tmp 19, .tmp 20]) rfl ?_); refine wp_copy2 rfl (.tmp 19) (.tmp 20) 44 rfl 59 Tryd.underlying44 (by kernel_rfl) g l0.length c i (by omega) hnc _ rfl _ ofs hofs rfl A3 l3.length c3 rfl cur 59 hg hsz (enc2 l3) (by rw [enc2_len, hmin]) (cells_of_C hr3) (enc2_one l3) ?_; intro w1 hg1 hgr1 hsz1))
  go_ret
  exact ⟨rfl, hg1, hgr1⟩
theorem put2_get (cur : List Value) (i : Nat) (cs : List Value) (k : Nat) (hk : i * 2 + cs.length ≤ k) (hfit : i * 2 + cs.length ≤ cur.length) : (put2 cur i cs)[k]? = cur[k]? := by
  unfold put2
  rw [List.getElem?_append_right (by rw [List.length_append, List.length_take]; omega), List.getElem?_drop]
  congr 1
  rw [List.length_append, List.length_take]
  omega
theorem put2_twice (cur : List Value) (l0 l3 : List (S59)) (c i a e1 e3 : Nat) (hsz : cur.length = c * 2) (hnc : l0.length ≤ c) (htake : cur.take (l0.length * 2) = enc2 l0) (hi : i + a ≤ l0.length) (hma : l3.length < a) (he1 : e1 = i + l3.length) (he3 : e3 = l0.length - a + l3.length) :
    (put2 (put2 cur i (enc2 l3)) e1 (enc2 (l0.drop (i + a)))).take (e3 * 2) = enc2 (l0.take i ++ l3 ++ l0.drop (i + a)) := by
  have h1 : cur.take (i * 2) = enc2 (l0.take i) := by rw [← enc2_take, ← htake, List.take_take, Nat.min_eq_left (by omega)]
  have h2 : (put2 cur i (enc2 l3)).take (e1 * 2) = enc2 (l0.take i) ++ enc2 l3 := by
    unfold put2
    rw [h1, List.take_append_of_le_length (by rw [List.length_append, enc2_len, enc2_len, List.length_take]; omega), List.take_of_length_le (by rw [List.length_append, enc2_len, enc2_len, List.length_take]; omega)]
  have h3 : put2 (put2 cur i (enc2 l3)) e1 (enc2 (l0.drop (i + a))) = (enc2 (l0.take i) ++ enc2 l3 ++ enc2 (l0.drop (i + a))) ++ (put2 cur i (enc2 l3)).drop (e1 * 2 + (enc2 (l0.drop (i + a))).length) := by
    rw [← h2]
    rfl
  rw [h3, List.take_append_of_le_length (by simp only [List.length_append, enc2_len, List.length_take, List.length_drop]; omega), List.take_of_length_le (by simp only [List.length_append, enc2_len, List.length_take, List.length_drop]; omega), enc2_append, enc2_append]
set_option maxHeartbeats 4000000 in
set_option maxRecDepth 100000 in
theorem splice_fewer (g c : Nat) (l0 : List (S59)) (i a : Nat) (A3 : Option Addr) (c3 : Nat) (l3 : List (S59)) (w : World) (cur : List Value)
    (hg : w.heap[g]? = some (.cells cur.toArray 59 (0, 0))) (hsz : cur.length = c * 2) (hnc : l0.length ≤ c) (htake : cur.take (l0.length * 2) = enc2 l0) (hr3 : Kd.C k59 w A3 l3.length l3) (hi : i + a ≤ l0.length) (hma : l3.length < a) (hlim : l0.length + l3.length ≤ 1000000000) :
    Calls Tryd.prog 49 #[.slice (some ⟨g, 0, none⟩) l0.length c, .int .i64 (i : Int), .int .i64 (a : Int), .slice A3 l3.length c3] w fun e w' => ∃ cur' : List Value, e = .returned (.slice (some ⟨g, 0, none⟩) (l0.length - a + l3.length) c) ∧ w'.heap[g]? = some (.cells cur'.toArray 59 (0, 0)) ∧ cur'.length = c * 2 ∧ cur'.take ((l0.length - a + l3.length) * 2) = enc2 (l0.take i ++ l3 ++ l0.drop (i + a)) ∧ w.grownBy w' (some g) := by
  obtain ⟨ti, hti, hz⟩ := Option.map_eq_some_iff.1 info59
  simp only [Prod.mk.injEq] at hz
  obtain ⟨ofs, hofs, hcut⟩ := cut_from2 (P := Tryd.prog) 44 59 .i64 Tryd.underlying44 hti hz.2.1 g l0.length c i (by omega)
  obtain ⟨e1, he1⟩ : ∃ e1 : Nat, e1 = i + l3.length := ⟨_, rfl⟩
  obtain ⟨e2, he2⟩ : ∃ e2 : Nat, e2 = i + a := ⟨_, rfl⟩
  have hw1 : IntKind.i64.wrap ((i : Int) + (l3.length : Int)) = (e1 : Int) := (IntWalk.i64_in _ (by omega)).trans (by omega)
  have hw2 : IntKind.i64.wrap ((i : Int) + (a : Int)) = (e2 : Int) := (IntWalk.i64_in _ (by omega)).trans (by omega)
  obtain ⟨e3, he3⟩ : ∃ e3 : Nat, e3 = l0.length - a + l3.length := ⟨_, rfl⟩
  have hw3 : (l0.length : Int) - (a : Int) + (l3.length : Int) = (e3 : Int) := by omega
  obtain ⟨ofs4, hofs4, hcut4⟩ := cut_from2 (P := Tryd.prog) 44 59 .i64 Tryd.underlying44 hti hz.2.1 g l0.length c e3 (by omega)
  have hcutT := cut_to (P := Tryd.prog) 44 59 .i64 Tryd.underlying44 hti (some ⟨g, 0, none⟩) l0.length c (e3 : Int) (by omega) (by omega) hnc
  simp only [Int.toNat_natCast] at hcutT
  have hofs4' : e3 < l0.length → ofs4 = e3 * 2 := fun h => by rcases hofs4 with h | h <;> omega
  obtain ⟨ofs2, hofs2, hcut2⟩ := cut_from2 (P := Tryd.prog) 44 59 .i64 Tryd.underlying44 hti hz.2.1 g l0.length c e1 (by omega)
  obtain ⟨ofs3, hofs3, hcut3⟩ := cut_from2 (P := Tryd.prog) 44 59 .i64 Tryd.underlying44 hti hz.2.1 g l0.length c e2 (by omega)
  have hmin : Nat.min l3.length (l0.length - i) = l3.length := Nat.min_eq_left (by omega)
  have hmin2 : Nat.min (l0.length - e2) (l0.length - e1) = l0.length - e2 := Nat.min_eq_left (by omega)
  have d1 : ((l3.length : Int) == (a : Int)) = false := beq_eq_false_iff_ne.mpr (by omega)
  have d2 : (l3.length == a) = false := beq_eq_false_iff_ne.mpr (by omega)
  have d3 : decide ((l3.length : Int) < (a : Int)) = true := decide_eq_true (by omega)
  have d4 : decide (l3.length < a) = true := decide_eq_true hma
  have hle1 : e1 ≤ l0.length := by omega
  have hn2 : (enc2 (l0.drop (i + a))).length = Nat.min (l0.length - e2) (l0.length - e1) * 2 := by rw [enc2_len, List.length_drop, hmin2, he2]
  have hofs3' : i + a < l0.length → ofs3 = (i + a) * 2 := fun h => by rcases hofs3 with h | h <;> omega
  have HE := Aside0.mk (And.intro he1 he2)
  have HE3 := Aside0.mk he3
  clear he1 he2 hofs3 he3 hofs4
  have hfit1 : i * 2 + (enc2 l3).length ≤ cur.length := by rw [enc2_len]; omega
  go_enter Tryd.func49, Tryd.ntmps49
  go_wp2_with (first | ((with_reducible refine gate_builtin (b := .copy) (xs := #[.tmp 29, .tmp 30]) rfl ?_); refine wp_copy2 rfl (.tmp 29) (.tmp 30) 44 rfl 59 Tryd.underlying44 (by kernel_rfl) g l0.length c i (by omega) hnc _ rfl _ ofs hofs rfl A3 l3.length c3 rfl cur 59 hg hsz (enc2 l3) (by rw [enc2_len, hmin]) (cells_of_C hr3) (enc2_one l3) ?_; intro w1 hg1 hgr1 hsz1))
  have hlen1 : (put2 cur i (enc2 l3)).length = c * 2 := by rw [put2_len _ _ _ hfit1, hsz]
  have hsrc2 : 0 < (enc2 (l0.drop (i + a))).length → ∃ ad, some (⟨g, ofs3, none⟩ : Addr) = some ad ∧ ∀ j v, (enc2 (l0.drop (i + a)))[j]? = some v → w1.cell? (ad.add j) = some v := by
    intro hp
    rw [enc2_len, List.length_drop] at hp
    refine ⟨_, rfl, fun j v hj => ?_⟩
    obtain rfl : ofs3 = (i + a) * 2 := hofs3' (by omega)
    have hjl := (List.getElem?_eq_some_iff.1 hj).1
    rw [enc2_len, List.length_drop] at hjl
    have hadd : (⟨g, (i + a) * 2, none⟩ : Addr).add j = ⟨g, (i + a) * 2 + j, none⟩ := by
      unfold Addr.add
      split
      · rename_i h0; rw [h0]; simp
      · rfl
    rw [hadd, World.cell?, hg1]
    simp only [List.getElem?_toArray, Option.isSome_none, Bool.false_eq_true, if_false]
    rw [put2_get _ _ _ _ (by rw [enc2_len]; omega) hfit1, ← hj, ← enc2_drop, List.getElem?_drop, ← htake, List.getElem?_take_of_lt (by omega)]
  go_region_law (refine step_copy2 rfl (.tmp 37) (.tmp 42) 44 rfl 59 Tryd.underlying44 (by kernel_rfl) g l0.length c e1 hle1 hnc (l0.length - e1) rfl (c - e1) ofs2 hofs2 (by simp [Act.eval, Act.put]) (some ⟨g, ofs3, none⟩) (l0.length - e2) (c - e2) (by simp [Act.eval, Act.put]) (put2 cur i (enc2 l3)) 59 hg1 hlen1 (enc2 (l0.drop (i + a))) hn2 hsrc2 (enc2_one _) ?_; intro w2 hg2 hgr2 hsz2)
  go_wp2
  go_loopg [56] (l0.length + 1) (fun kq v56 w' => ∃ (q : Nat) (cur' : List Value), v56 = .int .i64 (q : Int) ∧ Aside0 (q + kq = l0.length + 1 ∧ q ≤ l0.length - e3) ∧ Aside0 (w'.heap[g]? = some (.cells cur'.toArray 59 (0, 0)) ∧ cur'.length = c * 2 ∧ cur'.take (e3 * 2) = (put2 (put2 cur i (enc2 l3)) e1 (enc2 (l0.drop (i + a)))).take (e3 * 2)) ∧ Aside0 (w.grownBy w' (some g)))
  case atStart => exact ⟨0, _, rfl, ⟨⟨by omega, by omega⟩⟩, ⟨⟨hg2, by rw [put2_len _ _ _ (by rw [hn2, hmin2, hlen1]; have := HE.out; omega), hlen1], rfl⟩⟩, ⟨hgr1.trans ⟨hgr2.os, hgr2.tape, hgr2.output, hgr2.size, hgr2.block⟩⟩⟩
  case round =>
    obtain ⟨q, cur', rfl, HK, HC, HG⟩ := hrel
    cases gk with
    | zero => exact absurd HK.out (by omega)
    | succ k1 =>
      by_cases c3 : q < l0.length - e3
      · have c3b0 : decide ((q : Int) < ((l0.length - e3 : Nat) : Int)) = true := decide_eq_true (by omega)
        have c3b1 : decide (q < l0.length - e3) = true := decide_eq_true c3
        have hof := hofs4' (by omega)
        subst hof
        have hb := HC.out.1
        have hl := HC.out.2.1
        have hx0 : wr.cell? ⟨g, e3 * 2 + q * 2, none⟩ = some (cur'[e3 * 2 + q * 2]'(by omega)) := by
          rw [blk_cell hb]; simp
        have hx1 : wr.cell? ⟨g, e3 * 2 + q * 2 + 1, none⟩ = some (cur'[e3 * 2 + q * 2 + 1]'(by omega)) := by
          rw [blk_cell hb]; simp
        have hf0 := blk_frozen hb (e3 * 2 + q * 2)
        have hf1 := blk_frozen hb (e3 * 2 + q * 2 + 1)
        go_wp2
        go_roundg k1
        case measure => omega
        case rel =>
          refine ⟨q + 1, (cur'.set (e3 * 2 + q * 2) (.int .i8 0)).set (e3 * 2 + q * 2 + 1) (.string ⟨#[]⟩), by simp only [Value.int.injEq, true_and]; omega, ⟨by have := HK.out; omega⟩, ⟨⟨?_, ?_, ?_⟩⟩, ⟨(HG.out.trans (grownBy_setCell _ _ _ _)).trans (grownBy_setCell _ _ _ _)⟩⟩
          · have h5 := blk_set (blk_set hb (e3 * 2 + q * 2) (.int .i8 0)) (e3 * 2 + q * 2 + 1) (.string ⟨#[]⟩)
            simpa only [List.setIfInBounds_toArray] using h5
          · simp [hl]
          · rw [List.take_set_of_le (by omega), List.take_set_of_le (by omega)]
            exact HC.out.2.2
      · have c3b0 : decide ((q : Int) < ((l0.length - e3 : Nat) : Int)) = false := decide_eq_false (by omega)
        have c3b1 : decide (q < l0.length - e3) = false := decide_eq_false c3
        go_wp2
        go_ret
        obtain ⟨he1, he2⟩ := HE.out
        have he3 := HE3.out
        refine ⟨cur', by rw [← he3]; rfl, HC.out.1, HC.out.2.1, ?_, HG.out⟩
        rw [← he3, HC.out.2.2]
        exact put2_twice cur l0 l3 c i a e1 e3 hsz hnc htake (by omega) hma he1 he3
theorem take_put2 (cur : List Value) (i n : Nat) (cs : List Value) (hn : i * 2 + cs.length ≤ n) (hfit : n ≤ cur.length) : (put2 cur i cs).take n = put2 (cur.take n) i cs := by
  unfold put2
  rw [List.take_take, Nat.min_eq_left (by omega), List.take_append, List.length_append, List.length_take, Nat.min_eq_left (by omega)]
  congr 1
  · rw [List.take_of_length_le (by rw [List.length_append, List.length_take]; omega)]
  · rw [List.drop_take]
theorem put2_enc (l : List (S59)) (i : Nat) (m : List (S59)) : put2 (enc2 l) i (enc2 m) = enc2 (l.take i ++ m ++ l.drop (i + m.length)) := by
  unfold put2
  rw [enc2_take, enc2_len, show i * 2 + m.length * 2 = (i + m.length) * 2 by omega, enc2_drop, enc2_append, enc2_append]
/-- Room made at the end, what stands behind moved there, new elements in: the list. -/
theorem splice_list (l0 l3 z : List (S59)) (i a : Nat) (hi : i + a ≤ l0.length) (hma : a < l3.length) (hz : z.length = l3.length - a) :
    (((l0 ++ z).take (i + l3.length) ++ (l0.drop (i + a)) ++ (l0 ++ z).drop (i + l3.length + (l0.drop (i + a)).length)).take i ++ l3 ++ ((l0 ++ z).take (i + l3.length) ++ (l0.drop (i + a)) ++ (l0 ++ z).drop (i + l3.length + (l0.drop (i + a)).length)).drop (i + l3.length)) = l0.take i ++ l3 ++ l0.drop (i + a) := by
  have e1 : (l0 ++ z).drop (i + l3.length + (l0.drop (i + a)).length) = [] := List.drop_eq_nil_of_le (by simp only [List.length_append, List.length_drop]; omega)
  have e2 : ((l0 ++ z).take (i + l3.length)).length = i + l3.length := by simp only [List.length_take, List.length_append]; omega
  rw [e1, List.append_nil]
  congr 1
  · congr 1
    rw [List.take_append_of_le_length (by omega), List.take_take, Nat.min_eq_left (by omega), List.take_append_of_le_length (by omega)]
  · rw [List.drop_append, e2, List.drop_eq_nil_of_le (by omega)]
    simp
theorem replicate_snoc {α : Type} (n : Nat) (x : α) : List.replicate n x ++ [x] = List.replicate (n + 1) x := by
  rw [List.replicate_succ']
set_option maxHeartbeats 4000000 in
set_option maxRecDepth 100000 in
theorem splice_more (P0_ : Nat → Prop) (v0 : Value) (l0 : List (S59)) (i a : Nat) (A3 : Option Addr) (c3 : Nat) (l3 : List (S59)) (w0 w : World) (hB : Below w0.heap.size w0 w) (ho0 : Kd.R k59 59 w w0.heap.size P0_ v0 l0)
    (hr3 : ∀ W', Kept w W' P0_ → Kd.C k59 W' A3 l3.length l3) (hi : i + a ≤ l0.length) (hma : a < l3.length) (hpos : 0 < l0.length) (hlim : l0.length + l3.length ≤ 1000000000) :
    Calls Tryd.prog 49 #[v0, .int .i64 (i : Int), .int .i64 (a : Int), .slice A3 l3.length c3] w fun e w' => ∃ v0_ : Value, e = .returned v0_ ∧ Kd.R k59 59 w' w0.heap.size (fun k_ => (P0_ k_ ∨ w.heap.size ≤ k_)) v0_ (l0.take i ++ l3 ++ l0.drop (i + a)) ∧ Below w0.heap.size w0 w' ∧ Kept w w' P0_ := by
  obtain ⟨ti, hti, hz⟩ := Option.map_eq_some_iff.1 info59
  simp only [Prod.mk.injEq] at hz
  have HO1 := Aside0.mk (show Kd.R k59 59 w w0.heap.size (fun k_ => (P0_ k_ ∨ w.heap.size ≤ k_)) v0 l0 from Kd.R_mono ho0 (fun k_ hk => (.inl hk)))
  have HK := Aside0.mk (Kept.refl w P0_)
  have HB := Aside0.mk hB
  clear hB ho0
  obtain ⟨Ao, co, eo⟩ := Kd.R_slice HO1.out
  subst eo
  have d1 : ((l3.length : Int) == (a : Int)) = false := beq_eq_false_iff_ne.mpr (by omega)
  have d2 : (l3.length == a) = false := beq_eq_false_iff_ne.mpr (by omega)
  have d3 : decide ((l3.length : Int) < (a : Int)) = false := decide_eq_false (by omega)
  have d4 : decide (l3.length < a) = false := decide_eq_false (by omega)
  obtain ⟨nd, hnd⟩ : ∃ nd : Nat, nd = l0.length - a + l3.length := ⟨_, rfl⟩
  have hw3 : (l0.length : Int) - (a : Int) + (l3.length : Int) = (nd : Int) := by omega
  have HND := Aside0.mk hnd
  clear hnd
  go_enter Tryd.func49, Tryd.ntmps49
  go_wp2
  go_loopg [0] (nd - l0.length + 1) (fun kq v0' w' => ∃ (q : Nat), Aside0 (q + kq = nd - l0.length + 1) ∧ Aside0 (q ≤ nd - l0.length) ∧ Aside0 (Kd.R k59 59 w' w0.heap.size (fun k_ => (P0_ k_ ∨ w.heap.size ≤ k_)) v0' (l0 ++ List.replicate q (⟨0, (⟨#[]⟩ : ByteArray)⟩ : S59))) ∧ Aside0 (Kept w w' P0_) ∧ Aside0 (Below w0.heap.size w0 w'))
  case atStart => exact ⟨0, ⟨by omega⟩, ⟨by omega⟩, ⟨by rw [List.replicate_zero, List.append_nil]; exact HO1.out⟩, HK, HB⟩
  case round =>
    clear HO1 HK HB
    obtain ⟨q, HQ, HQ2, HO1, HK, HB⟩ := hrel
    cases gk with
    | zero =>
      exfalso
      have := HQ.out
      have hq2 : q ≤ nd - l0.length := HQ2.out
      omega
    | succ k1 =>
      obtain ⟨Ao', co', eo'⟩ := Kd.R_slice HO1.out
      subst eo'
      by_cases c3 : l0.length + q < nd
      · have c3b0 : decide (((l0 ++ List.replicate q (⟨0, (⟨#[]⟩ : ByteArray)⟩ : S59)).length : Int) < (nd : Int)) = true := decide_eq_true (by rw [List.length_append, List.length_replicate]; omega)
        have c3b1 : decide ((l0 ++ List.replicate q (⟨0, (⟨#[]⟩ : ByteArray)⟩ : S59)).length < nd) = true := decide_eq_true (by rw [List.length_append, List.length_replicate]; omega)
        have LM := Aside0.mk (show ((l0 ++ List.replicate q (⟨0, (⟨#[]⟩ : ByteArray)⟩ : S59)).length + 1) * 24 ≤ 140737488355328 by rw [List.length_append, List.length_replicate]; have := HND.out; omega)
        generalize hlq : l0 ++ List.replicate q (⟨0, (⟨#[]⟩ : ByteArray)⟩ : S59) = lq at HO1 c3b0 c3b1 LM
        have HLQ := Aside0.mk hlq
        have HC3 := Aside0.mk c3
        clear hlq c3
        go_wp2_with (first | ((with_reducible refine gate_builtin (b := .append) (xs := #[.tmp 78, .tmp 80]) rfl ?_); at_builtin; refine Kd.R_append k59 (w0 := w0) w0.heap.size rfl (.tmp 78) (.tmp 80) 44 59 (.agg #[(.int .i8 0), (.string ⟨#[]⟩)]) 24 rfl Tryd.underlying44 info59 rfl (by decide) (by omega) (.slice Ao' lq.length co') lq (⟨0, (⟨#[]⟩ : ByteArray)⟩ : S59) [.int .i8 0, .string (⟨#[]⟩ : ByteArray)] (fun k_ => (P0_ k_ ∨ w.heap.size ≤ k_)) (fun _ => False) rfl rfl ?aP (fun _ hk => hk.elim) ?aF ?aO ?aB ?aS ?aL ?_; (case aP => exact k59_mkM _ _ _ (⟨0, (⟨#[]⟩ : ByteArray)⟩ : S59)); (case aB => exact (by repeat (first | (with_reducible first | exact HB.out | apply below_alloc | apply pw_below_drewN | apply below_drew1) | exact HB.out))); (case aF => exact (fun k_ hk => (.inr (Nat.le_trans HK.out.1 hk)))); (case aO => exact (by (with_reducible repeat (first | apply Kd.R_alloc | apply Kd.R_drewN | apply Kd.R_drew)); exact HO1.out)); (case aS => exact (below_size (by repeat (first | (with_reducible first | exact HB.out | apply below_alloc | apply pw_below_drewN | apply below_drew1) | exact HB.out)))); (case aL => exact LM.out); intro v225 w4 ho hb hg hat; have n0_ := Aside0.mk hb; have n1_ := Aside0.mk (Kept.of_grown (S := P0_) hg (by repeat (first | (with_reducible first | exact HK.out | apply Kept.alloc | apply Kept.drewN | apply Kept.drew) | exact HK.out)) (fun k_ e_ => (HO1.out.1 k_ e_))); have n2_ := Aside0.mk ho; clear HB; clear HK; clear HO1; have HB := n0_; have HK := n1_; have HO1 := n2_; clear n0_ n1_ n2_; clear ho hb hg hat))
        go_roundg k1
        case measure => omega
        case rel =>
          have hlq := HLQ.out
          subst hlq
          have h5 := HO1.out
          rw [List.append_assoc, replicate_snoc] at h5
          exact ⟨q + 1, ⟨by have := HQ.out; omega⟩, ⟨by have := HC3.out; omega⟩, ⟨h5⟩, HK, HB⟩
      · obtain rfl : q = nd - l0.length := by have hq2 : q ≤ nd - l0.length := HQ2.out; have := HND.out; omega
        obtain ⟨z, hz_⟩ : ∃ z, z = List.replicate (nd - l0.length) (⟨0, (⟨#[]⟩ : ByteArray)⟩ : S59) := ⟨_, rfl⟩
        have hzl : z.length = l3.length - a := by rw [hz_, List.length_replicate]; have := HND.out; omega
        rw [← hz_] at HO1 ⊢
        clear hz_ c3 HQ HQ2
        have hlen : (l0 ++ z).length = nd := by rw [List.length_append]; have := HND.out; omega
        have hnc := own_enc2 HO1.out
        rw [hlen] at hnc HO1 ⊢
        have c3b0 : decide ((nd : Int) < (nd : Int)) = false := decide_eq_false (by omega)
        have c3b1 : decide (nd < nd) = false := decide_eq_false (by omega)
        obtain ⟨hn1, hn2⟩ := hnc
        rcases hn2 with ⟨_, h0⟩ | ⟨g, cap, cur, ev, hbase, hg, hncap, hmax, hsz, htake⟩
        · exfalso; have := HND.out; omega
        cases ev
        obtain ⟨cl, rfl⟩ : ∃ cl : List Value, cur = cl.toArray := ⟨cur.toList, by simp⟩
        simp only [List.size_toArray] at hsz
        have hown := HO1.out.1
        clear HO1
        have HW := Aside0.mk (Nat.le_refl wr.heap.size)
        have hnd := HND.out
        obtain ⟨e1, he1⟩ : ∃ e1 : Nat, e1 = i + l3.length := ⟨_, rfl⟩
        obtain ⟨e2, he2⟩ : ∃ e2 : Nat, e2 = i + a := ⟨_, rfl⟩
        have hw1 : IntKind.i64.wrap ((i : Int) + (l3.length : Int)) = (e1 : Int) := (IntWalk.i64_in _ (by omega)).trans (by omega)
        have hw2 : IntKind.i64.wrap ((i : Int) + (a : Int)) = (e2 : Int) := (IntWalk.i64_in _ (by omega)).trans (by omega)
        obtain ⟨ofs, hofs, hcut⟩ := cut_from2 (P := Tryd.prog) 44 59 .i64 Tryd.underlying44 hti hz.2.1 g nd co' i (by omega)
        obtain ⟨ofs2, hofs2, hcut2⟩ := cut_from2 (P := Tryd.prog) 44 59 .i64 Tryd.underlying44 hti hz.2.1 g nd co' e1 (by omega)
        obtain ⟨ofs3, hofs3, hcut3⟩ := cut_from2 (P := Tryd.prog) 44 59 .i64 Tryd.underlying44 hti hz.2.1 g nd co' e2 (by omega)
        have hmin : Nat.min l3.length (nd - i) = l3.length := Nat.min_eq_left (by omega)
        have hmin2 : Nat.min (nd - e2) (nd - e1) = nd - e1 := Nat.min_eq_right (by omega)
        have hle1 : e1 ≤ nd := by omega
        have hn3 : (enc2 (l0.drop (i + a))).length = Nat.min (nd - e2) (nd - e1) * 2 := by rw [enc2_len, List.length_drop, hmin2]; omega
        have hsrc2 : 0 < (enc2 (l0.drop (i + a))).length → ∃ ad, some (⟨g, ofs3, none⟩ : Addr) = some ad ∧ ∀ j v, (enc2 (l0.drop (i + a)))[j]? = some v → wr.cell? (ad.add j) = some v := by
          intro hp
          rw [enc2_len, List.length_drop] at hp
          refine ⟨_, rfl, fun j v hj => ?_⟩
          obtain rfl : ofs3 = e2 * 2 := by omega
          have hjl := (List.getElem?_eq_some_iff.1 hj).1
          rw [enc2_len, List.length_drop] at hjl
          have hadd : (⟨g, e2 * 2, none⟩ : Addr).add j = ⟨g, e2 * 2 + j, none⟩ := by
            unfold Addr.add
            split
            · rename_i h0; rw [h0]; simp
            · rfl
          rw [hadd, World.cell?, hg]
          simp only [List.getElem?_toArray, Option.isSome_none, Bool.false_eq_true, if_false]
          have htake' : cl.take (nd * 2) = enc2 (l0 ++ z) := by simpa using htake
          rw [← hj, ← enc2_drop, List.getElem?_drop, ← List.getElem?_take_of_lt (j := nd * 2) (by omega), htake', enc2_append, List.getElem?_append_left (by rw [enc2_len]; omega), he2]
        have hfit1 : e1 * 2 + (enc2 (l0.drop (i + a))).length ≤ cl.length := by rw [enc2_len, List.length_drop]; omega
        have hofs' : (co' = e1 ∧ ofs2 = 0) ∨ ofs2 = e1 * 2 := hofs2
        have HE := Aside0.mk (And.intro he1 he2)
        clear he1 he2 hofs3 hnd
        go_wp2
        go_region_law (refine step_copy2 rfl (.tmp 87) (.tmp 92) 44 rfl 59 Tryd.underlying44 (by kernel_rfl) g nd co' e1 hle1 hncap (nd - e1) rfl (co' - e1) ofs2 hofs2 (by simp [Act.eval, Act.put]) (some ⟨g, ofs3, none⟩) (nd - e2) (co' - e2) (by simp [Act.eval, Act.put]) cl 59 hg hsz (enc2 (l0.drop (i + a))) hn3 hsrc2 (enc2_one _) ?_; intro w2 hg2 hgr2 hsz2)
        have hlen1 : (put2 cl e1 (enc2 (l0.drop (i + a)))).length = co' * 2 := by rw [put2_len _ _ _ hfit1, hsz]
        have HK2 := Aside0.mk (Kept.of_grown (S := P0_) ⟨hgr2.os, hgr2.tape, hgr2.output, hgr2.size, hgr2.block⟩ HK.out (fun k_ e_ => by cases e_; exact hown g rfl))
        go_wp2_with (first | ((with_reducible refine gate_builtin (b := .copy) (xs := #[.tmp 96, .tmp 97]) rfl ?_); refine wp_copy2 rfl (.tmp 96) (.tmp 97) 44 rfl 59 Tryd.underlying44 (by kernel_rfl) g nd co' i (by omega) hncap _ rfl _ ofs hofs rfl A3 l3.length c3 rfl (put2 cl e1 (enc2 (l0.drop (i + a)))) 59 hg2 hlen1 (enc2 l3) (by rw [enc2_len, hmin]) (cells_of_C (hr3 w2 HK2.out)) (enc2_one l3) ?_; intro w3 hg3 hgr3 hsz3))
        go_ret
        have hnd := HND.out
        obtain ⟨he1, he2⟩ := HE.out
        have hB2 : Below w0.heap.size w0 w2 := HB.out.grown ⟨hgr2.os, hgr2.tape, hgr2.output, hgr2.size, hgr2.block⟩ HB.out.size (fun k_ e_ => by cases e_; exact hbase)
        have hfl : (l0.take i ++ l3 ++ l0.drop (i + a)).length = nd := by simp only [List.length_append, List.length_take, List.length_drop]; omega
        refine ⟨.slice (some ⟨g, 0, none⟩) nd co', rfl, R_of_enc2 hown ⟨by rw [enc2_len], .inr ⟨g, co', _, by rw [hfl], hbase, hg3, by rw [hfl]; exact hncap, hmax, ?_, ?_⟩⟩, hB2.grown hgr3 hB2.size (fun k_ e_ => by cases e_; exact hbase), Kept.of_grown (S := P0_) hgr3 HK2.out (fun k_ e_ => by cases e_; exact hown g rfl)⟩
        · rw [List.size_toArray, put2_len _ _ _ (by rw [enc2_len]; omega), hlen1]
        · rw [List.toList_toArray, hfl, take_put2 _ _ _ _ (by rw [enc2_len]; omega) (by omega), take_put2 _ _ _ _ (by rw [enc2_len, List.length_drop]; omega) (by omega)]
          have htake' : cl.take (nd * 2) = enc2 (l0 ++ z) := by simpa using htake
          rw [htake', put2_enc, put2_enc, he1]
          exact congrArg enc2 (splice_list l0 l3 z i a hi hma hzl)
theorem diffmatchpatch_splice.calls (P0_ : Nat → Prop) (v0 : Value) (l0 : List (S59)) (i a : Int) (A3 : Option Addr) (c3 : Nat) (l3 : List (S59)) (r : List (S59)) (w0 w : World) (hB : Below w0.heap.size w0 w) (ho0 : Kd.R k59 59 w w0.heap.size P0_ v0 l0)
    (hr3 : ∀ W', Kept w W' P0_ → Kd.C k59 W' A3 l3.length l3) (hc3 : l3.length ≤ c3) (h : diffmatchpatch_splice.f l0 i a l3 = some r) :
    Calls Tryd.prog 49 #[v0, .int .i64 i, .int .i64 a, .slice A3 l3.length c3] w fun e w' => ∃ v0_ : Value, e = .returned (v0_) ∧ Kd.R k59 59 w' w0.heap.size (fun k_ => (P0_ k_ ∨ w.heap.size ≤ k_)) v0_ r ∧ Below w0.heap.size w0 w' ∧ Kept w w' (fun k_ => P0_ k_) := by
  unfold diffmatchpatch_splice.f at h
  split at h
  · rename_i hc
    cases h
    obtain ⟨hpos, h0, h1, h2, h3⟩ := hc
    obtain ⟨i, rfl⟩ : ∃ n : Nat, i = (n : Int) := ⟨i.toNat, by omega⟩
    obtain ⟨a, rfl⟩ : ∃ n : Nat, a = (n : Int) := ⟨a.toNat, by omega⟩
    simp only [Int.toNat_natCast, show ((i : Int) + (a : Int)).toNat = i + a from by omega]
    by_cases hm : a < l3.length
    · exact splice_more P0_ v0 l0 i a A3 c3 l3 w0 w hB ho0 hr3 (by omega) hm hpos h3
    have hx := own_enc2 ho0
    obtain ⟨hn1, hn2⟩ := hx
    rcases hn2 with ⟨_, h00⟩ | ⟨g, co, cur, ev, hbase, hg, hncap, hmax, hsz, htake⟩
    · exfalso; omega
    subst ev
    obtain ⟨cl, rfl⟩ : ∃ cl : List Value, cur = cl.toArray := ⟨cur.toList, by simp⟩
    simp only [List.size_toArray] at hsz
    simp only at htake
    have hown := ho0.1
    have htake' : cl.take (l0.length * 2) = enc2 l0 := by simpa using htake
    have hB2 : ∀ {w' : World}, w.grownBy w' (some g) → Below w0.heap.size w0 w' ∧ Kept w w' (fun k_ => P0_ k_) := fun hgr => ⟨hB.grown hgr hB.size (fun k_ e_ => by cases e_; exact hbase), Kept.of_grown (S := P0_) hgr (Kept.refl w P0_) (fun k_ e_ => by cases e_; exact .inl (hown g rfl))⟩
    by_cases hs : l3.length = a
    · subst hs
      refine (splice_same P0_ g co l0 i A3 c3 l3 w0 w cl hB hbase (hown g rfl) hg hsz hncap hmax htake' (hr3 w (Kept.refl _ _)) (by omega) h3).mono fun e w' ⟨he, hg', hgr⟩ => ?_
      have hfl : (l0.take i ++ l3 ++ l0.drop (i + l3.length)).length = l0.length := by simp only [List.length_append, List.length_take, List.length_drop]; omega
      refine ⟨_, he, R_of_enc2 (fun k hk => .inl (hown k hk)) ⟨by rw [enc2_len], .inr ⟨g, co, _, by rw [hfl], hbase, hg', by rw [hfl]; exact hncap, hmax, ?_, ?_⟩⟩, hB2 hgr⟩
      · rw [List.size_toArray, put2_len _ _ _ (by rw [enc2_len]; omega), hsz]
      · rw [List.toList_toArray, hfl, take_put2 _ _ _ _ (by rw [enc2_len]; omega) (by omega), htake', put2_enc]
    · refine (splice_fewer g co l0 i a A3 c3 l3 w cl hg hsz hncap htake' (hr3 w (Kept.refl _ _)) (by omega) (by omega) h3).mono fun e w' ⟨cur', he, hg', hl', ht', hgr⟩ => ?_
      have hfl : (l0.take i ++ l3 ++ l0.drop (i + a)).length = l0.length - a + l3.length := by simp only [List.length_append, List.length_take, List.length_drop]; omega
      refine ⟨_, he, R_of_enc2 (fun k hk => .inl (hown k hk)) ⟨by rw [enc2_len], .inr ⟨g, co, _, by rw [hfl], hbase, hg', by rw [hfl]; omega, hmax, by rw [List.size_toArray, hl'], ?_⟩⟩, hB2 hgr⟩
      rw [List.toList_toArray, hfl, ht']
  · cases h
end Go.Proofs.YtaabfadjemmibaaDoor.P
