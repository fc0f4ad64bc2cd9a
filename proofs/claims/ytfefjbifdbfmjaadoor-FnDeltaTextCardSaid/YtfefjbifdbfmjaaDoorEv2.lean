import Derived.Test.YtfefjbifdbfmjaaDoorEv1
import Derived.Lib.AppendStr
import Derived.Lib.ConvBytes
import Derived.Laws.BytesString
/- An evaluator of the model, and that it is sound: part 2 of 3. -/
set_option linter.unusedVariables false
set_option linter.unusedSimpArgs false
/- Each operation that the evaluator knows does what it says: new rows, appends. -/
namespace Go.Ev
open Go.RowKit
section
variable {C : Ctx} {rw : RW} {ε : Env} {w : World} {g : Nat → Option AV} {a : Act} {o : Oper} {R : Type}
theorem opdDen_rel {T : Tab} (hS : Slots rw ε g a) {t : Ty} {x : Operand} {y : t.den} (h : opdDen T g t x = some y) : a.eval x = t.val y := by
  unfold opdDen at h
  split at h
  · rename_i v hv
    have hr := opd_rel hS hv
    unfold toDen at h
    split at h
    · rename_i s z
      obtain ⟨e, hy⟩ := cast?_eq (F := Ty.den) h
      subst e
      subst hy
      exact hr
    · cases h
  · cases h
/-- The elements of a slice that is written out. -/
theorem fill_elems {T : Tab} (hS : Slots rw ε g a) {t : Ty} : ∀ (ps : List (Nat × Operand)) (k : Nat) (xs : List t.den) (done : List t.den) (cells : Array Value), elems T g t k ps = some xs → done.length = k → cells.toList.take (k * t.sz) = cellsL t done → cells.size = (k + xs.length) * t.sz →
    Instr.fill (fun i => some (i * t.sz, t.sz)) cells (ps.map fun p => (p.1, a.eval p.2)) = some (cellsL t (done ++ xs)).toArray
  | [], k, xs, done, cells, h, hd, ht, hs => by
    cases h
    simp only [List.append_nil, List.length_nil, Nat.add_zero] at hs ⊢
    rw [List.map_nil, Instr.fill, ← ht, List.take_of_length_le (by simp [hs]), Array.toArray_toList]
  | (m, o) :: ps, k, xs, done, cells, h, hd, ht, hs => by
    unfold elems at h
    obtain ⟨hm, h⟩ := bif_some h
    have hm : m = k := Nat.eq_of_beq_eq_true hm
    subst hm
    split at h
    · rename_i y ys hy hys
      cases h
      have hv := opdDen_rel hS hy
      have hle : m * t.sz + t.sz ≤ cells.size := by
        rw [hs, ← Nat.succ_mul]
        exact Nat.mul_le_mul_right _ (by simp)
      rw [List.map_cons, hv, fill_one rfl (by rw [t.val_cells]; simp [t.cells_length]) hle, t.val_cells]
      have e1 : done ++ y :: ys = (done ++ [y]) ++ ys := by simp
      have hl : (cells.toList.take (m * t.sz)).length = m * t.sz := by rw [List.length_take, Array.length_toList]; omega
      rw [e1]
      refine fill_elems hS ps (m + 1) ys (done ++ [y]) _ hys (by simp [hd]) ?_ ?_
      · rw [cellsL_append, ← ht, cellsL_cons, cellsL_nil, List.append_nil]
        show (List.take (m * t.sz) cells.toList ++ t.cells y ++ _).take _ = _
        rw [List.take_left']
        rw [List.length_append, hl, t.cells_length, Nat.add_mul, Nat.one_mul]
      · simp only [List.size_toArray, List.length_append, hl, List.length_drop, Array.length_toList, t.cells_length]
        rw [hs] at hle ⊢
        rw [show m + 1 + ys.length = m + (y :: ys).length by rw [List.length_cons]; omega]
        omega
    · cases h
theorem good_buildSlice (hC : CtxOk C) (hM : Mem C rw ε w) (hS : Slots rw ε g a) {n : TypeId} {m : Nat} {ps : Array (Nat × Operand)} (ho : o.op = .buildSlice n m ps) {t : Ty} {e : TypeId} (ht : C.T.sl n = some (t, e)) {xs : List t.den} (hxs : elems C.T g t 0 ps.toList = some xs) (hm : xs.length = m) (hb : m * t.sz ≤ 100000) {d : Nat} (hd : rw d = none) :
    Good C rw ε a w o (.sl d) [(d, some ⟨t, e, true, xs⟩)] := by
  obtain ⟨hu, hs, _⟩ := hC.tab.sl _ _ _ ht
  obtain ⟨i, hi, hz, hsz, _⟩ := info_of hs
  subst hm
  have hmax : xs.length ≤ maxLen := by
    have := Nat.le_mul_of_pos_right xs.length t.sz_pos
    simp only [maxLen]
    omega
  have key : ∀ c0 : Array Value, c0.size = xs.length * t.sz → Instr.fill (fun i => some (i * t.sz, t.sz)) c0 (List.map (fun x => (x.fst, a.eval x.snd)) ps.toList) = some (cellsL t xs).toArray := by
    intro c0 hc0
    have := fill_elems (T := C.T) hS ps.toList 0 xs [] c0 hxs rfl (by simp [cellsL]) (by rw [hc0, Nat.zero_add])
    simpa using this
  have hrun : (Instr.buildSlice n xs.length (ps.map fun (i, x) => (i, a.eval x))).run C.P w = .ok (.slice (some ⟨w.heap.size, 0, none⟩) xs.length xs.length) (w.alloc (.cells (cellsL t xs).toArray e)) := by
    have h24 : ¬ xs.length * t.sz > 2 ^ 24 := by omega
    by_cases h0 : xs.length * t.sz = 0
    · simp [Instr.buildSlice, run_underlying hu, run_sizeOf hs, h0, Result.andThen, newRow]
      rw [key _ (by simp [h0])]
      simp
    · simp only [gt_iff_lt, Nat.not_lt] at h24
      simp [Instr.buildSlice, run_underlying hu, run_sizeOf hs, h0, Result.andThen, zeroValue, typeInfo, hi, hz, newRow, Nat.not_lt.2 h24]
      rw [key _ (by simp)]
      simp
  refine good_new hC hM hd (w' := w.alloc (.cells (cellsL t xs).toArray e)) (V := .slice (some ⟨w.heap.size, 0, none⟩) xs.length xs.length) ⟨rfl, rfl, rfl, by simp, fun k hk _ => heap_alloc_old w _ k hk⟩ ?_ ?_ ?_
  · have := World.ownsRow_lit (base := 0) (e := e) (size := t.sz) w (cellsL t xs).toArray xs.length (Nat.zero_le _) hmax (by simp [cellsL_length])
    unfold OwnV
    simpa using this
  · intro g' hg'
    have : w.heap.size = g' := by simpa [Value.ownBlock] using hg'
    omega
  · simp [execOp, ho, hrun, Result.andThen]
/-! ### texts and code points -/
theorem runesFrom_all (s : ByteArray) : ∀ (b i : Nat) (acc : Array Value), (∀ v ∈ acc.toList, ∃ n, v = .int .i32 n) → ∀ v ∈ (Conv.runesFrom s b i acc).toList, ∃ n, v = .int .i32 n
  | 0, _, acc, h => by simpa [Conv.runesFrom] using h
  | b + 1, i, acc, h => by
    unfold Conv.runesFrom
    split
    · exact runesFrom_all s b _ _ (by
        intro v hv
        rw [Array.toList_push] at hv
        rcases List.mem_append.1 hv with hv | hv
        · exact h v hv
        · exact ⟨_, List.mem_singleton.1 hv⟩)
    · exact h
theorem cells_intsOf : ∀ (l : List Value), (∀ v ∈ l, ∃ n, v = .int .i32 n) → cellsL (.int .i32) (intsOf l) = l
  | [], _ => rfl
  | v :: l, h => by
    obtain ⟨n, rfl⟩ := h v (by simp)
    show Value.int .i32 n :: cellsL (.int .i32) (intsOf l) = _
    rw [cells_intsOf l (fun v hv => h v (by simp [hv]))]
theorem cells_runes (s : ByteArray) : cellsL (.int .i32) (runesI s) = (Conv.runesFrom s s.size 0 #[]).toList := cells_intsOf _ (runesFrom_all s _ _ _ (by simp))
theorem runes_length (s : ByteArray) : (runesI s).length = (Conv.runesFrom s s.size 0 #[]).size := by
  have := congrArg List.length (cells_runes s)
  rw [cellsL_length] at this
  simpa [Ty.sz] using this
theorem good_runes (hC : CtxOk C) (hM : Mem C rw ε w) {src dst : TypeId} {x : Operand} (ho : o.op = .convert src dst x) {s : ByteArray} (hx : a.eval x = .string s) (hs : C.T.ty src = some .str) {e : TypeId} (hd : C.T.sl dst = some (.int .i32, e)) (hl : (runesI s).length ≤ 70368744177664) {d : Nat} (hn : rw d = none) :
    Good C rw ε a w o (.sl d) [(d, some ⟨.int .i32, e, true, runesI s⟩)] := by
  have hsu : C.P.underlying src = some .string := (hC.tab.ty _ _ hs).2
  obtain ⟨hdu, hse, he⟩ := hC.tab.sl _ _ _ hd
  have he : C.P.underlying e = some (.int .i32) := he
  rw [runes_length] at hl
  have hr := run_runes_of_string (P := C.P) w src dst e s hsu hdu he hl
  have hcm : grownCap w (Conv.runesFrom s s.size 0 #[]).size 0 e ≤ maxLen := grownCap_le_maxLen w _ 0 e (by simp only [maxLen]; omega)
  have hcg := grownCap_ge w (Conv.runesFrom s s.size 0 #[]).size 0 e
  generalize grownCap w (Conv.runesFrom s s.size 0 #[]).size 0 e = cap at hr hcm hcg
  refine good_new hC hM hn (w' := w.drew.alloc (.cells (Conv.runesFrom s s.size 0 #[] ++ Array.replicate (cap - (Conv.runesFrom s s.size 0 #[]).size) (.int .i32 0)) e)) (V := .slice (some ⟨w.heap.size, 0, none⟩) (Conv.runesFrom s s.size 0 #[]).size cap) ⟨rfl, rfl, rfl, by simp, fun k hk _ => heap_alloc_old w.drew _ k hk⟩ ?_ ?_ ?_
  · refine ⟨by rw [cellsL_length], .inr ⟨w.heap.size, cap, _, by rw [runes_length], Nat.zero_le _, heap_alloc_new _ _, by rw [runes_length]; exact hcg, hcm, ?_, ?_⟩⟩
    · simp [Ty.sz]; omega
    · rw [cells_runes, runes_length]
      simp [Ty.sz]
  · intro g' hg'
    have : w.heap.size = g' := by simpa [Value.ownBlock] using hg'
    omega
  · simp [execOp, ho, hx, hr, Result.andThen]
end
end Go.Ev

/- Each operation that the evaluator knows does what it says: appends, lengths, texts of code points. -/
namespace Go.Ev
open Go.RowKit
section
variable {C : Ctx} {rw : RW} {ε : Env} {w : World} {g : Nat → Option AV} {a : Act} {o : Oper} {R : Type}
theorem own_takeV {t : Ty} {e : TypeId} {xs : List t.den} {A : Option Addr} {n c m : Nat} (h : OwnV w t e xs (.slice A n c)) (hm : m ≤ xs.length) : OwnV w t e (xs.take m) (.slice A m c) := by
  have hl : (xs.take m).length = m := by rw [List.length_take]; exact Nat.min_eq_left hm
  have hle := Nat.mul_le_mul_right t.sz hm
  unfold OwnV World.ownsRow
  rw [hl]
  refine ⟨by rw [cellsL_length, hl], ?_⟩
  rcases h.2 with ⟨he, h0⟩ | ⟨g, cap, cur, he, hb, hh, hnc, hcm, hcs, ht⟩
  · injection he with ha _ hc
    subst ha; subst hc
    obtain rfl : m = 0 := by omega
    exact .inl ⟨rfl, rfl⟩
  · injection he with ha _ hc
    subst ha; subst hc
    refine .inr ⟨g, c, cur, rfl, hb, hh, by omega, hcm, hcs, ?_⟩
    rw [cellsL_take, ← ht, List.take_take, Nat.min_eq_left hle]
theorem run_append_none {P : Program} {t ty e : TypeId} {i : TypeInfo} {size : Nat} (ht : P.underlying t = some (.slice e)) (hi : P.info? e = some i) (v : Value) (n c : Nat) (XS : List Value) (hown : w.ownsRow 0 e size v n XS) :
    (Builtin.append_ #[t, t] ty #[v, .slice none 0 c]).run P w = .ok v w := by
  rcases hown.2 with ⟨rfl, rfl⟩ | ⟨g, cap, cur, rfl, _, _, hnc, _⟩
  · simp [Builtin.append_, run_underlying ht, sizeOf, typeInfo, hi, Builtin.lenOf, Builtin.firstCells]
  · simp [Builtin.append_, run_underlying ht, sizeOf, typeInfo, hi, Builtin.lenOf, Builtin.firstCells, hnc, storeCells]
theorem run_app (hC : CtxOk C) {t ty : TypeId} {u : Ty} {e : TypeId} (ht : C.T.sl t = some (u, e)) {xs ys : List u.den} {V X : Value} (ho : OwnV w u e xs V) (hr : ReadV w u ys X) (hb : xs.length + ys.length < 1000000000000) :
    ∃ V' w', (Builtin.append_ #[t, t] ty #[V, X]).run C.P w = .ok V' w' ∧ OwnV w' u e (xs ++ ys) V' ∧ Pres (fun k => some k = V.ownBlock) w w' ∧ ∀ g, V'.ownBlock = some g → some g = V.ownBlock ∨ w.heap.size ≤ g := by
  obtain ⟨hu, hs, _⟩ := hC.tab.sl _ _ _ ht
  obtain ⟨i, hi, hz, hsz, hby⟩ := info_of hs
  obtain ⟨A, c, rfl, hc, hcell⟩ := hr
  cases A with
  | none =>
    have hy : ys = [] := by
      cases ys with
      | nil => rfl
      | cons y ys =>
        obtain ⟨u0, hu0⟩ : ∃ u0, (cellsL u (y :: ys))[0]? = some u0 := ⟨_, List.getElem?_eq_getElem (by rw [cellsL_length]; exact Nat.mul_pos (by simp) u.sz_pos)⟩
        obtain ⟨ad, hA, _⟩ := hcell 0 u0 hu0
        cases hA
    subst hy
    refine ⟨V, w, run_append_none hu hi V xs.length c _ ho, by rw [List.append_nil]; exact ho, Pres.refl _ _, fun g hg => .inl hg.symm⟩
  | some ad =>
    obtain ⟨v', w', hrun, hown, hg, _, hat⟩ := run_append_own_at (P := C.P) w 0 t ty e i (u.val u.zero) u.sz i.bytes hu hi hz hsz rfl (by rw [u.val_cells]; simp [u.cells_length]) u.sz_pos V xs.length _ ho ad ys.length c (cellsL u ys) (cellsL_length _ _)
      (fun j q hq => by
        obtain ⟨ad', hA, h⟩ := hcell j q hq
        cases hA
        exact h) (cellsL_one _ _) (by simp only [maxLen]; omega) (by
          have := Nat.mul_le_mul (Nat.le_of_lt hb) hby
          omega) (Nat.zero_le _)
    refine ⟨v', w', hrun, ?_, Pres.grown hg, fun g hgg => ?_⟩
    · unfold OwnV
      rw [List.length_append, cellsL_append]
      exact hown
    · rcases hat with hat | hat
      · exact .inl (by rw [← hat, hgg])
      · rw [hat] at hgg
        cases hgg
        exact .inr (Nat.le_refl _)
theorem bytesI_cells (s : ByteArray) : cellsL (.int .u8) (bytesI s) = Lib.strCells s := by
  unfold cellsL bytesI Lib.strCells
  rw [List.map_map]
  induction s.data.toList with
  | nil => rfl
  | cons b l ih => rw [List.map_cons, List.map_cons, List.flatten_cons, ih]; rfl
theorem bytesI_length (s : ByteArray) : (bytesI s).length = s.size := by
  unfold bytesI
  rw [List.length_map]
  rfl
theorem run_apps (hC : CtxOk C) {t t' ty : TypeId} {e : TypeId} (ht : C.T.sl t = some (.int .u8, e)) (ht' : C.T.ty t' = some .str) {xs : List Int} {s : ByteArray} {V : Value} (ho : OwnV w (.int .u8) e xs V) (hb : xs.length + s.size < 1000000000000) :
    ∃ V' w', (Builtin.append_ #[t, t'] ty #[V, .string s]).run C.P w = .ok V' w' ∧ OwnV w' (.int .u8) e (xs ++ bytesI s) V' ∧ Pres (fun k => some k = V.ownBlock) w w' ∧ ∀ g, V'.ownBlock = some g → some g = V.ownBlock ∨ w.heap.size ≤ g := by
  obtain ⟨hu, hs, _⟩ := hC.tab.sl _ _ _ ht
  have hu' : C.P.underlying t' = some .string := (hC.tab.ty _ _ ht').2
  obtain ⟨i, hi, hz, hsz, hby⟩ := info_of hs
  have hz : i.zero = some (.int .u8 0) := hz
  have hsz : i.size = 1 := hsz
  have hxl : xs.length = (cellsL (.int .u8) xs).length := by rw [cellsL_length]; exact (Nat.mul_one _).symm
  have hcl := Lib.strCells_length s
  have hlen : (cellsL (.int .u8) (xs ++ bytesI s)).length = (xs ++ bytesI s).length * 1 := cellsL_length (.int .u8) _
  have hn : (xs ++ bytesI s).length = xs.length + s.size := by rw [List.length_append, bytesI_length]
  have hbytes : (xs.length + s.size) * i.bytes ≤ 140737488355328 := by
    have := Nat.mul_le_mul (Nat.le_of_lt hb) hby
    omega
  have grown : ∀ (old : Nat) (arr : Array Value), arr.toList = cellsL (.int .u8) xs ++ Lib.strCells s ++ (Builtin.zeroCells (Value.int .u8 0).cells (grownCap w (xs.length + s.size) old e - (xs.length + s.size))).toList →
      OwnV (w.drew.alloc (.cells arr e)) (.int .u8) e (xs ++ bytesI s) (.slice (some ⟨w.heap.size, 0, none⟩) (xs.length + s.size) (grownCap w (xs.length + s.size) old e)) := by
    intro old arr harr
    have hge := grownCap_ge w (xs.length + s.size) old e
    have hcm : grownCap w (xs.length + s.size) old e ≤ maxLen := grownCap_le_maxLen w (xs.length + s.size) old e (by simp only [maxLen]; omega)
    refine ⟨hlen, .inr ⟨w.heap.size, _, _, by rw [hn], Nat.zero_le _, heap_alloc_new w.drew _, by rw [hn]; exact hge, hcm, ?_, ?_⟩⟩
    · have hz1 : (Value.int IntKind.u8 0).cells.size = 1 := rfl
      have hz2 := size_zeroCells (Value.int IntKind.u8 0).cells (grownCap w (xs.length + s.size) old e - (xs.length + s.size))
      rw [hz1] at hz2
      rw [← Array.length_toList, harr, List.length_append, List.length_append, hcl, ← hxl]
      show _ + (Builtin.zeroCells _ _).size = _ * 1
      omega
    · rw [harr, hn, cellsL_append, bytesI_cells]
      exact List.take_left' (by rw [List.length_append, hcl, ← hxl]; exact (Nat.mul_one _).symm)
  have pres : ∀ (arr : Array Value) (may : Nat → Prop), Pres may w (w.drew.alloc (.cells arr e)) := fun arr may => ⟨rfl, rfl, rfl, by simp, fun k hk _ => heap_alloc_old w.drew _ k hk⟩
  rcases ho.2 with ⟨rfl, h0⟩ | ⟨g, cap, cur, rfl, hbg, hg, hnc, hcm, hcs, htake⟩
  · have hx : xs = [] := List.eq_nil_of_length_eq_zero h0
    subst hx
    by_cases hm : s.size = 0
    · have hb0 : bytesI s = [] := List.eq_nil_of_length_eq_zero (by rw [bytesI_length]; exact hm)
      have hf := Lib.run_firstCells_string (P := C.P) w 1 s
      rw [hm] at hf
      refine ⟨.slice none 0 0, w, ?_, by rw [hb0]; exact World.ownsRow_nil w 0 e 1, Pres.refl _ _, fun g hg => by cases hg⟩
      simp [Builtin.append_, run_underlying hu, run_underlying hu', sizeOf, typeInfo, hi, hsz, Builtin.lenOf, hm, hf]
    · have hr := run_append_nil_string (P := C.P) w t t' ty e i (.int .u8 0) hu hu' hi hz s (by omega) (by omega) (by simp only [List.length_nil, Nat.zero_add] at hbytes; omega)
      have hgr := grown 0 (s.data.map (fun b => Value.int .u8 b.toNat) ++ Builtin.zeroCells (Value.int .u8 0).cells (grownCap w s.size 0 e - s.size)) (by
        rw [Array.toList_append, Array.toList_map]
        simp only [List.length_nil, Nat.zero_add]
        rfl)
      simp only [List.length_nil, Nat.zero_add] at hgr
      exact ⟨_, _, hr, hgr, pres _ _, fun g hg => by cases hg; exact .inr (Nat.le_refl _)⟩
  · have hcs' : cur.size = cap := by
      have : cur.size = cap * 1 := hcs
      omega
    by_cases hroom : xs.length + s.size ≤ cap
    · have hr := Lib.run_append_room_string (P := C.P) w t t' ty e i hu hu' hi hsz g xs.length cap cur hg s hroom (by omega)
      have ht1 : cur.toList.take xs.length = cellsL (.int .u8) xs := by
        have : cur.toList.take (xs.length * 1) = cellsL (.int .u8) xs := htake
        rwa [Nat.mul_one] at this
      refine ⟨_, _, hr, ⟨hlen, .inr ⟨g, cap, _, by rw [hn], hbg, setRow_heap w g cur _ e _ hg, by rw [hn]; exact hroom, hcm, ?_, ?_⟩⟩, ⟨rfl, rfl, rfl, by simp, fun k _ hk => setRow_other w g k _ (fun e => hk (by simp [Value.ownBlock, e]))⟩, fun g' hg' => .inl ?_⟩
      · simp only [List.size_toArray, List.length_append, List.length_take, List.length_drop, Array.length_toList, hcl]
        show _ = _ * 1
        omega
      · rw [hn, cellsL_append, bytesI_cells, ht1]
        exact List.take_left' (by rw [List.length_append, hcl, ← hxl]; exact (Nat.mul_one _).symm)
      · rw [← hg']
        rfl
    · have holds : ∀ j u, (cellsL (.int .u8) xs)[j]? = some u → w.cell? ((⟨g, 0, none⟩ : Addr).add j) = some u := World.ownsRow.cells ho (g := g) rfl
      have hr := Lib.run_append_grow_string (P := C.P) w t t' ty e i (.int .u8 0) hu hu' hi hz ⟨g, 0, none⟩ xs.length cap (cellsL (.int .u8) xs) (by rw [hsz, Nat.mul_one]; exact hxl.symm) holds s (by omega) (by omega) (growslice_fits (by omega) hbytes)
      refine ⟨_, _, hr, grown cap _ ?_, pres _ _, fun g hg => by cases hg; exact .inr (Nat.le_refl _)⟩
      simp
theorem exec_append {t t' : TypeId} {x y : Operand} (ho : o.op = .call { callee := .builtin .append, args := #[x, y], argTypes := #[t, t'] }) {V X V' : Value} {w' : World} (hx : a.eval x = V) (hy : a.eval y = X) (hr : (Builtin.append_ #[t, t'] o.type #[V, X]).run C.P w = .ok V' w') :
    (execOp a.eval o).run C.P w = .ok (.value V') w' := by
  simp [execOp, ho, resolve, invoke, builtin, hx, hy, hr, Result.andThen]
theorem good_append (hC : CtxOk C) (hM : Mem C rw ε w) {t t' : TypeId} {x y : Operand} (ho : o.op = .call { callee := .builtin .append, args := #[x, y], argTypes := #[t, t'] }) {u : Ty} {e : TypeId} (ht : C.T.sl t = some (u, e)) {ys : List u.den} (hrun : ∀ (xs : List u.den) (V : Value), OwnV w u e xs V → xs.length + ys.length < 1000000000000 → ∃ V' w', (Builtin.append_ #[t, t'] o.type #[V, a.eval y]).run C.P w = .ok V' w' ∧ OwnV w' u e (xs ++ ys) V' ∧ Pres (fun k => some k = V.ownBlock) w w' ∧ ∀ g, V'.ownBlock = some g → some g = V.ownBlock ∨ w.heap.size ≤ g) {d : Nat} (hd : rw d = none) {av : AV} (hx : VRel rw ε av (a.eval x)) :
    (∀ r (z : Row) (_ : av = .sl r) (_ : row rw r = some z) (_ : z.own = true) (_ : z.e = e) (xs : List u.den) (_ : ∃ e' : z.t = u, e' ▸ z.xs = xs), xs.length + ys.length < 1000000000000 → Good C rw ε a w o (.sl d) [(r, none), (d, some ⟨u, e, true, xs ++ ys⟩)]) ∧
    (∀ r p hi (z : Row) (_ : av = .cut r p 0 hi) (_ : row rw r = some z) (_ : z.own = true) (_ : z.e = e) (xs : List u.den) (_ : ∃ e' : z.t = u, e' ▸ z.xs = xs), hi + (ys.length : Int) < 1000000000000 → Good C rw ε a w o (.sl d) [(r, none), (d, some ⟨u, e, true, xs.take hi.toNat ++ ys⟩)]) ∧
    (∀ t0 e0, av = .nilS t0 e0 → ys.length < 1000000000000 → Good C rw ε a w o (.sl d) [(d, some ⟨u, e, true, ys⟩)]) := by
  obtain ⟨_, hs, _⟩ := hC.tab.sl _ _ _ ht
  refine ⟨?_, ?_, ?_⟩
  · rintro r ⟨zt, ze, zo, zx⟩ rfl hz hzo hze xs ⟨e', hxs⟩ hb
    have hze : ze = e := hze
    have e' : zt = u := e'
    subst hze; subst e'
    have hxs : zx = xs := hxs
    subst hxs
    obtain ⟨_, hV⟩ := hx
    obtain ⟨ho1, _⟩ := (hM.ok r _ hz).own hzo
    obtain ⟨V', w', hrun, hown, hp, hbl⟩ := hrun _ _ ho1 hb
    exact good_over hC hM hd hz hzo hp hown hbl (exec_append ho hV rfl hrun)
  · rintro r p hi ⟨zt, ze, zo, zx⟩ rfl hz hzo hze xs ⟨e', hxs⟩ hb
    have hze : ze = e := hze
    have e' : zt = u := e'
    subst hze; subst e'
    have hxs : zx = xs := hxs
    subst hxs
    obtain ⟨_, A, m, c, A', c', hv, hmc, hV, _, h0h, hhm, hc', _, hz0, _⟩ := hx
    obtain ⟨rfl, rfl⟩ := hz0 rfl
    obtain ⟨ho1, _⟩ := (hM.ok r _ hz).own hzo
    rw [hv] at ho1
    have hm : m = zx.length := by
      have h1 := (hM.ok r _ hz).read
      rw [hv] at h1
      exact (ReadV.at_ h1).1
    have ho2 := own_takeV (m := (hi - 0).toNat) ho1 (show (hi - 0).toNat ≤ zx.length by omega)
    rw [← hV, show (hi - 0).toNat = hi.toNat by omega] at ho2
    obtain ⟨V', w', hrun, hown, hp, hbl⟩ := hrun _ _ ho2 (by rw [List.length_take]; show min hi.toNat zx.length + ys.length < _; omega)
    have hbk : (a.eval x).ownBlock = (ε.sv r).ownBlock := by rw [hV, hv]; cases A' <;> rfl
    rw [hbk] at hp hbl
    exact good_over hC hM hd hz hzo hp hown hbl (exec_append ho rfl rfl hrun)
  · rintro t0 e0 rfl hb
    have hV : a.eval x = .slice none 0 0 := hx
    have ho1 : OwnV w u e [] (.slice none 0 0) := World.ownsRow_nil w 0 e u.sz
    obtain ⟨V', w', hrun, hown, hp, hbl⟩ := hrun _ _ ho1 (by simpa using hb)
    refine good_new hC hM hd ?_ hown (fun g hg => (hbl g hg).resolve_left (fun h => by cases h)) (exec_append ho hV rfl hrun)
    exact hp.mono (fun k _ hk => by cases hk)
theorem lenOf_eq (hM : Mem C rw ε w) {av : AV} {V : Value} (hv : VRel rw ε av V) {n : Int} (h : lenOf rw av = some n) : ∃ A c m, V = .slice A m c ∧ n = (m : Int) := by
  unfold lenOf at h
  split at h
  · rename_i r
    split at h
    · rename_i x hx
      cases h
      obtain ⟨_, rfl⟩ := hv
      obtain ⟨A, c, hv, _⟩ := row_slice hM hx
      exact ⟨A, c, _, hv, rfl⟩
    · cases h
  · cases h
    obtain ⟨_, A, m, c, A', c', hv, hmc, hV, _, _, _, hc', _, _⟩ := hv
    exact ⟨A', c', _, hV, by omega⟩
  · cases h
    exact ⟨none, 0, 0, hv, rfl⟩
  · cases h
theorem good_len (hC : CtxOk C) (hM : Mem C rw ε w) {t : TypeId} {x : Operand} (ho : o.op = .call { callee := .builtin .len, args := #[x], argTypes := #[t] }) {p : Ty × TypeId} (ht : C.T.sl t = some p) {av : AV} (hx : VRel rw ε av (a.eval x)) {n : Int} (h : lenOf rw av = some n) :
    Good C rw ε a w o (.v (.int .i64) n) [] := by
  obtain ⟨hu, _⟩ := hC.tab.sl _ p.1 p.2 ht
  obtain ⟨A, c, m, hV, rfl⟩ := lenOf_eq hM hx h
  have hr := run_len_slice (P := C.P) w t o.type A m c (by rw [elem_eq hu]; exact hu)
  refine good_pure hM (V := .int .i64 m) ?_ rfl
  simp [execOp, ho, resolve, invoke, builtin, hV, hr, Result.andThen, goInt]
theorem good_slen (hC : CtxOk C) (hM : Mem C rw ε w) {t : TypeId} {x : Operand} (ho : o.op = .call { callee := .builtin .len, args := #[x], argTypes := #[t] }) (ht : C.T.ty t = some .str) {s : ByteArray} (hx : a.eval x = .string s) : Good C rw ε a w o (.v (.int .i64) (s.size : Int)) [] := by
  have hu : C.P.underlying t = some .string := (hC.tab.ty _ _ ht).2
  have hr := run_len_string (P := C.P) w t o.type s hu
  refine good_pure hM (V := .int .i64 s.size) ?_ rfl
  simp [execOp, ho, resolve, invoke, builtin, hx, hr, Result.andThen, goInt]
theorem good_ofRunes (hC : CtxOk C) (hM : Mem C rw ε w) {src dst : TypeId} {x : Operand} (ho : o.op = .convert src dst x) {e : TypeId} (hs : C.T.sl src = some (.int .i32, e)) (hd : C.T.ty dst = some .str) {xs : List Int} (hx : ReadV w (.int .i32) xs (a.eval x)) : Good C rw ε a w o (.v .str (strOfRunes xs)) [] := by
  obtain ⟨hu, hse, he⟩ := hC.tab.sl _ _ _ hs
  have he : C.P.underlying e = some (.int .i32) := he
  have hdu : C.P.underlying dst = some .string := (hC.tab.ty _ _ hd).2
  obtain ⟨A, c, hV, hc, hcell⟩ := hx
  refine good_pure hM (V := .string (strOfRunes xs)) ?_ rfl
  cases A with
  | none =>
    have hy : xs = [] := by
      cases xs with
      | nil => rfl
      | cons y ys =>
        obtain ⟨ad, hA, _⟩ := hcell 0 (.int .i32 y) rfl
        cases hA
    subst hy
    have hr := run_convert_runes_nil (P := C.P) w src dst e ([] : List Int).length c hu he hdu
    simp only [List.length_nil] at hr hV
    simp [execOp, ho, hV, hr, Result.andThen]
    rfl
  | some ad =>
    have hr := run_convert_runes (P := C.P) w src dst e ad xs.length c xs (Nat.le_refl _) hu he hdu (fun j hj => by
      have hq : (cellsL (.int .i32) xs)[j]? = some (.int .i32 (xs.getD j 0)) := by
        have : cellsL (.int .i32) xs = xs.map (Value.int .i32) := by
          clear hj hcell hV hc
          induction xs with
          | nil => rfl
          | cons y ys ih => rw [cellsL_cons, ih]; rfl
        rw [this]
        simp [List.getElem?_eq_getElem hj]
      obtain ⟨ad', hA, h⟩ := hcell j _ hq
      cases hA
      exact h)
    rw [List.take_length] at hr
    simp [execOp, ho, hV, hr, Result.andThen]
    rfl
theorem good_ofBytes (hC : CtxOk C) (hM : Mem C rw ε w) {src dst : TypeId} {x : Operand} (ho : o.op = .convert src dst x) {e : TypeId} (hs : C.T.sl src = some (.int .u8, e)) (hd : C.T.ty dst = some .str) {xs : List Int} (hx : ReadV w (.int .u8) xs (a.eval x)) : Good C rw ε a w o (.v .str (strOfBytes xs)) [] := by
  obtain ⟨hu, hse, he⟩ := hC.tab.sl _ _ _ hs
  have he : C.P.underlying e = some (.int .u8) := he
  have hdu : C.P.underlying dst = some .string := (hC.tab.ty _ _ hd).2
  obtain ⟨A, c, hV, hc, hcell⟩ := hx
  have hcl : cellsL (.int .u8) xs = xs.map (Value.int .u8) := by
    clear hcell hV hc
    induction xs with
    | nil => rfl
    | cons y ys ih => rw [cellsL_cons, ih]; rfl
  have hfold : ∀ (l : List Int) (s : ByteArray), l.foldl (fun r n => r.push (UInt8.ofNat n.toNat)) s = ⟨s.data ++ (l.map fun n => UInt8.ofNat n.toNat).toArray⟩ := by
    intro l
    induction l with
    | nil => intro s; simp
    | cons y ys ih =>
      intro s
      rw [List.foldl_cons, ih]
      apply ByteArray.ext
      simp [ByteArray.push]
  refine good_pure hM (V := .string (strOfBytes xs)) ?_ rfl
  cases A with
  | none =>
    have hy : xs = [] := by
      cases xs with
      | nil => rfl
      | cons y ys =>
        obtain ⟨ad, hA, _⟩ := hcell 0 (.int .u8 y) rfl
        cases hA
    subst hy
    simp [execOp, ho, hV, run_convert_bytes_string w src dst e none _ c hu he hdu, Conv.bytesToString, Result.andThen]
    rfl
  | some ad =>
    have hl := run_loadCells_list (P := C.P) w ad (cellsL (.int .u8) xs) (fun j q hq => by
      obtain ⟨ad', hA, h⟩ := hcell j q hq
      cases hA
      exact h)
    have hlen : (cellsL (.int .u8) xs).length = xs.length := by rw [hcl, List.length_map]
    rw [hlen, hcl] at hl
    have hr := run_bytesToString (P := C.P) w ad xs.length c xs hl
    simp [execOp, ho, hV, run_convert_bytes_string w src dst e (some ad) _ c hu he hdu, hr, Result.andThen]
    rw [hfold]
    unfold strOfBytes
    congr 1
    simp
theorem good_mark (hC : CtxOk C) (hM : Mem C rw ε w) {src : TypeId} {x : Operand} (ho : o.op = .convert src src x) {e e' : TypeId} (hs : C.T.sl src = some (.int .u8, e)) {r : Nat} {y : Int} {xs : List Int} (hr : row rw r = some ⟨.int .u8, e', true, y :: xs⟩) (hx : a.eval x = ε.sv r) :
    Good C rw ε a w o (.sl r) [(r, some ⟨.int .u8, e', false, y :: xs⟩)] := by
  obtain ⟨hu, hse, he⟩ := hC.tab.sl _ _ _ hs
  have he : C.P.underlying e = some (.int .u8) := he
  obtain ⟨hown, hmine⟩ := (hM.ok r _ hr).own rfl
  have hown : OwnV w (.int .u8) e' (y :: xs) (ε.sv r) := hown
  rcases id hown.2 with ⟨_, h0⟩ | ⟨g, cap, cur, hV, hbg, hg, hnc, hcm, hcs, htake⟩
  · simp at h0
  · have hshape : w.shape? g = some (e', cur.size) := by simp [World.shape?, hg]
    have hrun : (convert src src (ε.sv r)).run C.P w = .ok (ε.sv r) (w.freeze ⟨g, cur.size, none⟩ 1) := by
      rw [hV]
      simp [convert, run_underlying hu, run_underlying he, markStringish, hshape, Result.andThen]
    have hgn : (w.freeze ⟨g, cur.size, none⟩ 1).heap[g]? = some (.cells cur e' (cur.size, cur.size + 1)) := by
      have hlt : g < w.heap.size := (Array.getElem?_eq_some_iff.1 hg).1
      simp [World.freeze, Array.getElem?_modify, hg]
    have hold : ∀ k, k ≠ g → (w.freeze ⟨g, cur.size, none⟩ 1).heap[k]? = w.heap[k]? := by
      intro k hk
      simp [World.freeze, Array.getElem?_modify, Ne.symm hk]
    have hcell : ∀ j, (w.freeze ⟨g, cur.size, none⟩ 1).cell? ⟨g, j, none⟩ = w.cell? ⟨g, j, none⟩ := by
      intro j
      simp [World.cell?, hgn, hg]
    have hb : (ε.sv r).ownBlock = some g := by rw [hV]; rfl
    have hp : Pres (fun k => some k = (ε.sv r).ownBlock) w (w.freeze ⟨g, cur.size, none⟩ 1) := by
      refine ⟨rfl, rfl, rfl, by simp [World.freeze], fun k hk hn => hold k ?_⟩
      rintro rfl
      exact hn hb.symm
    have hrd : ReadV (w.freeze ⟨g, cur.size, none⟩ 1) (.int .u8) (y :: xs) (ε.sv r) := by
      obtain ⟨A, c, hA, hc, hcells⟩ := own_read hown
      refine ⟨A, c, hA, hc, fun j u hj => ?_⟩
      obtain ⟨ad, hAd, hcl⟩ := hcells j u hj
      refine ⟨ad, hAd, ?_⟩
      rw [hV] at hA
      injection hA with hA1 _ _
      rw [hAd] at hA1
      cases hA1
      rw [Addr.add_lit] at hcl ⊢
      rw [hcell]
      exact hcl
    intro next Q h
    have hexec : (execOp a.eval o).run C.P w = .ok (.value (ε.sv r)) (w.freeze ⟨g, cur.size, none⟩ 1) := by
      simp [execOp, ho, hx, hrun, Result.andThen]
    refine wp_value hexec (h _ ε _ ⟨?_, rfl⟩ ext_set ?_)
    · show (if r = r then _ else _) ≠ none
      simp
    · rw [show updF rw [(r, some ⟨.int .u8, e', false, y :: xs⟩)] = (fun m => if m = r then some (some ⟨.int .u8, e', false, y :: xs⟩) else rw m) from rfl]
      refine mem_step hC hM (N := fun n => n = r) hp (fun k _ h => hmine k h.symm) (fun n x hn hN => ?_) (fun n x hn hN => ?_) (fun r _ r' _ _ _ h1 h2 hne => absurd (h1.trans h2.symm) hne)
      · have hN' : n ≠ r := hN
        rw [row_put_ne _ _ hN'] at hn
        exact ⟨hn, rfl, rfl, fun hx g hg hg' => hM.sep r _ n x hr rfl hn (Ne.symm hN') hx g hg'.symm hg⟩
      · have hN' : n = r := hN
        subst hN'
        rw [row_put_same] at hn
        cases hn
        exact ⟨⟨(hM.ok n _ hr).ty, fun h => (by cases h), hrd⟩, fun g hg => .inl hg.symm⟩
theorem good_toBytes (hC : CtxOk C) (hM : Mem C rw ε w) {src dst : TypeId} {x : Operand} (ho : o.op = .convert src dst x) {s : ByteArray} (hx : a.eval x = .string s) (hs : C.T.ty src = some .str) {e : TypeId} (hd : C.T.sl dst = some (.int .u8, e)) {d : Nat} (hn : rw d = none) :
    Good C rw ε a w o (.sl d) [(d, some ⟨.int .u8, e, false, bytesI s⟩)] := by
  obtain ⟨hu, hse, he⟩ := hC.tab.sl _ _ _ hd
  have he : C.P.underlying e = some (.int .u8) := he
  have hsu : C.P.underlying src = some .string := (hC.tab.ty _ _ hs).2
  have hr := Lib.run_convert_string_bytes (P := C.P) w src dst e s hsu hu he
  have hV : ∀ g, (Value.slice (some ⟨w.heap.size, 0, none⟩) s.size (grownCap w s.size 0 e)).ownBlock = some g → w.heap.size ≤ g := by
    intro g hg
    cases hg
    exact Nat.le_refl _
  have hrd : ReadV (Lib.bytesWorld w e s) (.int .u8) (bytesI s) (.slice (some ⟨w.heap.size, 0, none⟩) s.size (grownCap w s.size 0 e)) := by
    refine ⟨_, _, by rw [bytesI_length], by rw [bytesI_length]; exact grownCap_ge w s.size 0 e, fun j u hj => ⟨_, rfl, ?_⟩⟩
    rw [bytesI_cells] at hj
    have hj' : j < s.size := by
      have := (List.getElem?_eq_some_iff.1 hj).1
      rwa [Lib.strCells_length] at this
    rw [Addr.add_lit, Nat.zero_add, Lib.bytesWorld_cell w e s j hj']
    rw [← hj]
    unfold Lib.strCells
    have hj2 : j < s.data.toList.length := by rw [Array.length_toList]; exact hj'
    rw [List.getElem?_map, List.getElem?_eq_getElem hj2, List.getD_eq_getElem?_getD, List.getElem?_eq_getElem hj2]
    rfl
  have hp : Pres (fun _ => False) w (Lib.bytesWorld w e s) := ⟨rfl, rfl, rfl, by rw [Lib.bytesWorld_size]; omega, fun k hk _ => Lib.bytesWorld_at_old w e s k hk⟩
  intro next Q h
  have hexec : (execOp a.eval o).run C.P w = .ok (.value (.slice (some ⟨w.heap.size, 0, none⟩) s.size (grownCap w s.size 0 e))) (Lib.bytesWorld w e s) := by
    simp [execOp, ho, hx, hr, Result.andThen]
  refine wp_value hexec (h _ (ε.put d (.slice (some ⟨w.heap.size, 0, none⟩) s.size (grownCap w s.size 0 e)) (.int .u8)) _ ⟨?_, (Env.put_sv_same _ _ _ _).symm⟩ (ext_put hn _ (by simp) _ _) ?_)
  · show (if d = d then _ else _) ≠ none
    simp
  · rw [show updF rw [(d, some ⟨.int .u8, e, false, bytesI s⟩)] = (fun m => if m = d then some (some ⟨.int .u8, e, false, bytesI s⟩) else rw m) from rfl]
    refine mem_step hC hM (N := fun r => r = d) hp (fun _ _ h => h.elim) (fun r x hr hN => ?_) (fun r x hr hN => ?_) (fun r _ r' _ _ _ h1 h2 hne => absurd (h1.trans h2.symm) hne)
    · have hN' : r ≠ d := hN
      rw [row_put_ne rw _ hN'] at hr
      exact ⟨hr, Env.put_sv_ne _ _ _ hN', Env.put_ty_ne _ _ _ hN', fun _ _ _ h => h⟩
    · have hN' : r = d := hN
      subst hN'
      rw [row_put_same] at hr
      cases hr
      rw [Env.put_sv_same]
      refine ⟨⟨Env.put_ty_same _ _ _ _, fun h => (by cases h), ?_⟩, fun g hg => .inr (hV g hg)⟩
      rw [Env.put_sv_same]
      exact hrd
theorem good_extract (hM : Mem C rw ε w) {x : Operand} {j : Nat} (ho : o.op = .extract x j) {l : List AC} (hx : VRel rw ε (.tup l) (a.eval x)) :
    (∀ t y, l[j]? = some (.v t y) → Good C rw ε a w o (.v t y) []) ∧ (∀ r, l[j]? = some (.sl r) → Good C rw ε a w o (.sl r) []) ∧ (∀ r, l[j]? = some (.pt r) → Good C rw ε a w o (.ptr r 0) []) := by
  obtain ⟨hu, hV⟩ := hx
  refine ⟨?_, ?_, ?_⟩
  · intro t y hj
    refine good_pure hM (V := t.val y) ?_ rfl
    simp [execOp, ho, hV, Instr.extract, hj, encC, Result.andThen]
  · intro r hj
    refine good_pure hM (V := ε.sv r) ?_ ⟨hu _ (List.mem_of_getElem? hj), rfl⟩
    simp [execOp, ho, hV, Instr.extract, hj, encC, Result.andThen]
  · intro r hj
    obtain ⟨h1, ad, n, c, hsv, hn⟩ := hu _ (List.mem_of_getElem? hj)
    refine good_pure hM (V := .pointer (some ad)) ?_ ⟨h1, ad, n, c, hsv, Int.le_refl _, by omega, by simp [Addr.add]⟩
    simp [execOp, ho, hV, Instr.extract, hj, encC, hsv, toPt, Result.andThen]
theorem good_nilCheck (hM : Mem C rw ε w) {x : Operand} (ho : o.op = .nilCheck x) :
    (∀ r i, VRel rw ε (.ptr r i) (a.eval x) → Good C rw ε a w o (.ptr r i) []) ∧ (∀ r i j, VRel rw ε (.fptr r i j) (a.eval x) → Good C rw ε a w o (.fptr r i j) []) := by
  constructor
  · intro r i hx
    obtain ⟨_, ad, n, c, _, _, _, hV⟩ := id hx
    exact good_pure hM (V := a.eval x) (by simp [execOp, ho, hV]) hx
  · intro r i j hx
    obtain ⟨_, ad, n, c, _, _, _, _, _, hV⟩ := id hx
    exact good_pure hM (V := a.eval x) (by simp [execOp, ho, hV]) hx
theorem good_alloc (hC : CtxOk C) (hM : Mem C rw ε w) {e : TypeId} (ho : o.op = .alloc e) {t : Ty} (ht : C.T.ty e = some t) {d : Nat} (hd : rw d = none) : Good C rw ε a w o (.ptr d 0) [(d, some ⟨t, e, true, [t.zero]⟩)] := by
  obtain ⟨i, hi, hz, _, _⟩ := info_of (hC.tab.ty _ _ ht).1
  have hcs : cellsL t [t.zero] = t.cells t.zero := by simp [cellsL]
  have hown : OwnV (w.alloc (.cells (t.cells t.zero).toArray e)) t e [t.zero] (.slice (some ⟨w.heap.size, 0, none⟩) 1 1) := by
    have := World.ownsRow_lit (base := 0) (e := e) (size := t.sz) w (t.cells t.zero).toArray 1 (Nat.zero_le _) (by simp [maxLen]) (by simp [t.cells_length])
    unfold OwnV
    rw [hcs]
    simpa using this
  have hb : ∀ g, (Value.slice (some ⟨w.heap.size, 0, none⟩) 1 1).ownBlock = some g → w.heap.size ≤ g := by
    intro g hg
    have : w.heap.size = g := by simpa [Value.ownBlock] using hg
    omega
  have hp : Pres (fun _ => False) w (w.alloc (.cells (t.cells t.zero).toArray e)) := ⟨rfl, rfl, rfl, by simp, fun k hk _ => heap_alloc_old w _ k hk⟩
  intro next Q h
  refine wp_value (V := .pointer (some ⟨w.heap.size, 0, none⟩)) (w' := w.alloc (.cells (t.cells t.zero).toArray e)) ?_ (h _ (ε.put d (.slice (some ⟨w.heap.size, 0, none⟩) 1 1) t) _ ⟨?_, ⟨w.heap.size, 0, none⟩, 1, 1, Env.put_sv_same _ _ _ _, Int.le_refl _, by omega, by simp [Addr.add]⟩ (ext_put hd _ (by simp) _ t) (mem_new hC hM hd hp hown hb))
  · simp [execOp, ho, Instr.alloc, zeroValue, typeInfo, hi, hz, newVar, newRow, t.val_cells, Result.andThen]
  · show (if d = d then _ else _) ≠ none
    simp
theorem read_len {u : Ty} {ys : List u.den} {c : Nat} {X : Value} (h : ReadV w u ys X) (hX : X = .slice none ys.length c) : ys = [] := by
  obtain ⟨A, c', hv, _, hcell⟩ := h
  rw [hX] at hv
  injection hv with h1 _ _
  subst h1
  cases ys with
  | nil => rfl
  | cons y ys =>
    obtain ⟨u0, hu0⟩ : ∃ u0, (cellsL u (y :: ys))[0]? = some u0 := ⟨_, List.getElem?_eq_getElem (by rw [cellsL_length]; exact Nat.mul_pos (by simp) u.sz_pos)⟩
    obtain ⟨ad, hA, _⟩ := hcell 0 u0 hu0
    cases hA
/-- 'copy' into a row of one's own, from its place lo on. -/
theorem run_copyL (hC : CtxOk C) {t t' ty : TypeId} {u : Ty} {e : TypeId} (ht : C.T.sl t = some (u, e)) {xs ys : List u.den} {X : Value} {A : Option Addr} {len c : Nat} (ho : OwnV w u e xs (.slice A len c)) (hr : ReadV w u ys X) {A' : Option Addr} {c' lo n : Nat} (hn : lo + n ≤ xs.length)
    (hA : 0 < n → ∃ ad, A = some ad ∧ A' = some (ad.add (lo * u.sz))) :
    ∃ w', (Builtin.copy_ #[t, t'] ty #[.slice A' n c', X]).run C.P w = .ok (.int .i64 (Nat.min ys.length n : Nat)) w' ∧ OwnV w' u e (cpL xs ys lo n) (.slice A len c) ∧ Pres (fun k => some k = (Value.slice A len c).ownBlock) w w' := by
  obtain ⟨hu, hs, _⟩ := hC.tab.sl _ _ _ ht
  obtain ⟨B, cB, rfl, hcB, hcell⟩ := id hr
  have hcpl : cpL xs ys lo n = xs.take lo ++ ys.take (Nat.min ys.length n) ++ xs.drop (lo + Nat.min ys.length n) := rfl
  generalize hm : Nat.min ys.length n = m at *
  have hm1 : m ≤ ys.length := by rw [← hm]; exact Nat.min_le_left _ _
  have hm2 : m ≤ n := by rw [← hm]; exact Nat.min_le_right _ _
  have hlenT : (ys.take m).length = m := by rw [List.length_take]; exact Nat.min_eq_left hm1
  by_cases h0 : m = 0
  · subst h0
    have he : cpL xs ys lo n = xs := by rw [hcpl]; simp
    refine ⟨w, ?_, by rw [he]; exact ho, Pres.refl _ _⟩
    have hl : ∀ (x : Addr), (loadCells x 0).run C.P w = .ok #[] w := fun x => by simpa using run_loadCells_list (P := C.P) w x [] (by simp)
    cases A' <;> cases B <;> simp [Builtin.copy_, run_underlying hu, Builtin.lenOf, Builtin.firstCells, run_sizeOf hs, hm, storeCells, hl, Result.andThen, goInt]
  · obtain ⟨ad, rfl, rfl⟩ := hA (by omega)
    cases B with
    | none =>
      have := read_len hr rfl
      subst this
      simp at hm1
      exact absurd hm1 h0
    | some b =>
      obtain ⟨g', rfl, rfl⟩ := own_form ho
      have hcs : (cellsL u (ys.take m)).length = m * u.sz := by rw [cellsL_length, hlenT]
      have hload := run_loadCells_list (P := C.P) w b (cellsL u (ys.take m)) (fun j v hv => by
        rw [cellsL_take, List.getElem?_take] at hv
        split at hv
        · obtain ⟨ad', hA', h⟩ := hcell j v hv
          cases hA'
          exact h
        · cases hv)
      rw [hcs] at hload
      have hle : (lo + m) * u.sz ≤ xs.length * u.sz := Nat.mul_le_mul_right _ (by omega)
      rw [Nat.add_mul] at hle
      obtain ⟨w', hst, hown, hp⟩ := own_store (P := C.P) ho (lo * u.sz) (cellsL u (ys.take m)) (by rw [hcs]; exact hle) (cellsL_one _ _)
      refine ⟨w', ?_, ?_, hp.mono (fun k _ hk => by rw [hk]; rfl)⟩
      · rw [Addr.add_lit, Nat.zero_add]
        simp [Builtin.copy_, run_underlying hu, Builtin.lenOf, Builtin.firstCells, run_sizeOf hs, hm, hload, hst, Result.andThen, goInt]
      · have hlen2 : (cpL xs ys lo n).length = xs.length := by
          rw [hcpl]
          simp only [List.length_append, List.length_take, List.length_drop, hlenT]
          omega
        unfold OwnV
        rw [hlen2, hcpl, cellsL_append, cellsL_append, cellsL_drop, Nat.add_mul, cellsL_take u xs lo]
        rw [hcs] at hown
        exact hown
theorem exec_copy {t t' : TypeId} {x y : Operand} (ho : o.op = .call { callee := .builtin .copy, args := #[x, y], argTypes := #[t, t'] }) {V X V' : Value} {w' : World} (hx : a.eval x = V) (hy : a.eval y = X) (hr : (Builtin.copy_ #[t, t'] o.type #[V, X]).run C.P w = .ok V' w') :
    (execOp a.eval o).run C.P w = .ok (.value V') w' := by
  simp [execOp, ho, resolve, invoke, builtin, hx, hy, hr, Result.andThen]
theorem good_copy (hC : CtxOk C) (hM : Mem C rw ε w) {t t' : TypeId} {x y : Operand} (ho : o.op = .call { callee := .builtin .copy, args := #[x, y], argTypes := #[t, t'] }) {u : Ty} {e : TypeId} (ht : C.T.sl t = some (u, e)) {ys : List u.den} (hy : ReadV w u ys (a.eval y)) {av : AV} (hx : VRel rw ε av (a.eval x)) :
    (∀ r (z : Row) (_ : av = .sl r) (_ : row rw r = some z) (_ : z.own = true) (_ : z.e = e) (xs : List u.den) (_ : ∃ e' : z.t = u, e' ▸ z.xs = xs), Good C rw ε a w o (.v (.int .i64) (Nat.min ys.length xs.length : Int)) [(r, some ⟨u, e, true, cpL xs ys 0 xs.length⟩)]) ∧
    (∀ r p lo hi (z : Row) (_ : av = .cut r p lo hi) (_ : row rw r = some z) (_ : z.own = true) (_ : z.e = e) (xs : List u.den) (_ : ∃ e' : z.t = u, e' ▸ z.xs = xs), Good C rw ε a w o (.v (.int .i64) (Nat.min ys.length (Int.toNat (hi - lo)) : Int)) [(r, some ⟨u, e, true, cpL xs ys lo.toNat (Int.toNat (hi - lo))⟩)]) := by
  constructor
  · rintro r ⟨zt, ze, zo, zx⟩ rfl hz hzo hze xs ⟨e', hxs⟩
    have hze : ze = e := hze
    have e' : zt = u := e'
    subst hze; subst e'
    have hxs : zx = xs := hxs
    subst hxs
    obtain ⟨_, hV⟩ := hx
    obtain ⟨ho1, _⟩ := (hM.ok r _ hz).own hzo
    obtain ⟨A, c, hv, hc, hr⟩ := row_slice hM hz
    rw [hv] at ho1 hV
    obtain ⟨w', hrun, hown, hp⟩ := run_copyL (ty := o.type) (t' := t') hC ht (lo := 0) (n := zx.length) (c' := c) (A' := A) ho1 hy (show 0 + zx.length ≤ zx.length by omega) (fun h0 => by
      obtain ⟨ad, hA, _⟩ := hr 0 h0
      exact ⟨ad, hA, by rw [hA]; simp [Addr.add]⟩)
    intro next Q h
    refine wp_value (exec_copy ho hV rfl hrun) (h _ ε w' rfl ext_set (mem_set hC hM hz hzo ?_ ?_))
    · rw [hv]; exact hp
    · rw [hv]; exact hown
  · rintro r p lo hi ⟨zt, ze, zo, zx⟩ rfl hz hzo hze xs ⟨e', hxs⟩
    have hze : ze = e := hze
    have e' : zt = u := e'
    subst hze; subst e'
    have hxs : zx = xs := hxs
    subst hxs
    obtain ⟨_, A, m, c, A', c', hv, hmc, hV, hl0, hlh, hhm, hc', hne, _⟩ := hx
    obtain ⟨ho1, _⟩ := (hM.ok r _ hz).own hzo
    rw [hv] at ho1
    have hm : m = zx.length := by
      have h1 := (hM.ok r _ hz).read
      rw [hv] at h1
      exact (ReadV.at_ h1).1
    obtain ⟨w', hrun, hown, hp⟩ := run_copyL (ty := o.type) (t' := t') hC ht (lo := lo.toNat) (n := (hi - lo).toNat) (c' := c') (A' := A') ho1 hy (show lo.toNat + (hi - lo).toNat ≤ zx.length by omega) (fun h0 => by
      obtain ⟨ad, hA, hA'⟩ := hne (by omega)
      exact ⟨ad, hA, by rw [hA', (hM.ok r _ hz).ty]⟩)
    intro next Q h
    refine wp_value (exec_copy ho hV rfl hrun) (h _ ε w' rfl ext_set (mem_set hC hM hz hzo ?_ ?_))
    · rw [hv]; exact hp
    · rw [hv]; exact hown
theorem good_box (hC : CtxOk C) (hM : Mem C rw ε w) {e : TypeId} {x : Operand} (ho : o.op = .box e x) {t : Ty} (ht : C.T.ty e = some t) {y : t.den} (hx : a.eval x = t.val y) {d : Nat} (hd : rw d = none) : Good C rw ε a w o (.ptr d 0) [(d, some ⟨t, e, true, [y]⟩)] := by
  have hs := (hC.tab.ty _ _ ht).1
  have hcs : cellsL t [y] = t.cells y := by simp [cellsL]
  have hown : OwnV (w.alloc (.cells (t.cells y).toArray e)) t e [y] (.slice (some ⟨w.heap.size, 0, none⟩) 1 1) := by
    have := World.ownsRow_lit (base := 0) (e := e) (size := t.sz) w (t.cells y).toArray 1 (Nat.zero_le _) (by simp [maxLen]) (by simp [t.cells_length])
    unfold OwnV
    rw [hcs]
    simpa using this
  have hb : ∀ g, (Value.slice (some ⟨w.heap.size, 0, none⟩) 1 1).ownBlock = some g → w.heap.size ≤ g := by
    intro g hg
    have : w.heap.size = g := by simpa [Value.ownBlock] using hg
    omega
  have hp : Pres (fun _ => False) w (w.alloc (.cells (t.cells y).toArray e)) := ⟨rfl, rfl, rfl, by simp, fun k hk _ => heap_alloc_old w _ k hk⟩
  intro next Q h
  refine wp_value (V := .pointer (some ⟨w.heap.size, 0, none⟩)) (w' := w.alloc (.cells (t.cells y).toArray e)) ?_ (h _ (ε.put d (.slice (some ⟨w.heap.size, 0, none⟩) 1 1) t) _ ⟨?_, ⟨w.heap.size, 0, none⟩, 1, 1, Env.put_sv_same _ _ _ _, Int.le_refl _, by omega, by simp [Addr.add]⟩ (ext_put hd _ (by simp) _ t) (mem_new hC hM hd hp hown hb))
  · simp [execOp, ho, hx, Instr.box, newVar, newRow, t.val_cells, Result.andThen]
  · show (if d = d then _ else _) ≠ none
    simp
theorem good_index (hC : CtxOk C) (hM : Mem C rw ε w) {t : TypeId} {x i : Operand} (ho : o.op = .index t x i) (ht : C.T.ty t = some .str) {s : ByteArray} (hx : a.eval x = .string s) {k : IntKind} {n : Int} (hi : a.eval i = .int k n) (h0 : 0 ≤ n) (h1 : n < (s.size : Int)) : Good C rw ε a w o (.v (.int .u8) (bt s n)) [] := by
  have hu : C.P.underlying t = some .string := (hC.tab.ty _ _ ht).2
  have hr := run_index_string (P := C.P) w t s k n hu
  rw [dif_pos ⟨h0, h1⟩] at hr
  refine good_pure hM (V := .int .u8 (bt s n)) ?_ rfl
  have hb : bt s n = ((s[n.toNat]'(by omega)).toNat : Int) := by
    unfold bt
    rw [dif_pos (by omega)]
  rw [hb]
  simp [execOp, ho, hx, hi, hr, Result.andThen]
theorem good_substr (hC : CtxOk C) (hM : Mem C rw ε w) {t : TypeId} {x : Operand} {L H : Option Operand} (ho : o.op = .slice t x L H none) (ht : C.T.ty t = some .str) {s : ByteArray} (hx : a.eval x = .string s) {lo hi : Int} (h0 : 0 ≤ lo) (h1 : lo ≤ hi) (h2 : hi ≤ (s.size : Int))
    (hL : (∃ k, L.map a.eval = some (.int k lo)) ∨ (L.map a.eval = none ∧ lo = 0)) (hH : (∃ k, H.map a.eval = some (.int k hi)) ∨ (H.map a.eval = none ∧ hi = (s.size : Int))) : Good C rw ε a w o (.v .str (s.extract lo.toNat hi.toNat)) [] := by
  have hu : C.P.underlying t = some .string := (hC.tab.ty _ _ ht).2
  refine good_pure hM (V := .string (s.extract lo.toNat hi.toNat)) ?_ rfl
  have hr : (Instr.sliceAt t (.string s) (L.map a.eval) (H.map a.eval) none).run C.P w = .ok (.string (s.extract lo.toNat hi.toNat)) w := by
    rw [run_sliceAt_string w t _ _ _ _ hu]
    rcases hL with ⟨kl, hL⟩ | ⟨hL, rfl⟩
    · rcases hH with ⟨kh, hH⟩ | ⟨hH, rfl⟩
      · rw [hL, hH]; exact run_slice_string w t s kl kh lo hi hu h0 h1 h2
      · rw [hL, hH]; exact run_slice_string_l w t s hu kl lo h0 h1
    · rcases hH with ⟨kh, hH⟩ | ⟨hH, rfl⟩
      · rw [hL, hH]; exact run_slice_string_h w t s hu kh hi h1 h2
      · rw [hL, hH]; exact run_slice_string_all w t s hu
  simp [execOp, ho, hx, hr, Result.andThen]
theorem good_convInt (hC : CtxOk C) (hM : Mem C rw ε w) {src dst : TypeId} {x : Operand} (ho : o.op = .convert src dst x) {t : Ty} (hs : C.T.ty src = some t) {k j : IntKind} (hd : C.T.ty dst = some (.int k)) {n : Int} (hx : a.eval x = .int j n) : Good C rw ε a w o (.v (.int k) (k.wrap n)) [] := by
  have hdu : C.P.underlying dst = some (.int k) := (hC.tab.ty _ _ hd).2
  obtain ⟨d, hsu, _⟩ := (hC.tab.ty _ _ hs).1.agg
  refine good_pure hM (V := .int k (k.wrap n)) ?_ rfl
  have hr : (convert src dst (.int j n)).run C.P w = .ok (.int k (k.wrap n)) w := by
    simp [convert, run_underlying hsu, run_underlying hdu, Conv.intToInt]
  simp [execOp, ho, hx, hr, Result.andThen]
theorem good_i2f (hC : CtxOk C) (hM : Mem C rw ε w) {src dst : TypeId} {x : Operand} (ho : o.op = .convert src dst x) {t : Ty} (hs : C.T.ty src = some t) {j : IntKind} (hd : C.T.ty dst = some .flt) {n : Int} (hx : a.eval x = .int j n) : Good C rw ε a w o (.v .flt (C.T.i2f n)) [] := by
  have hdu : C.P.underlying dst = some (.float .f64) := (hC.tab.ty _ _ hd).2
  obtain ⟨d, hsu, _⟩ := (hC.tab.ty _ _ hs).1.agg
  refine good_pure hM (V := .float .f64 (C.T.i2f n)) ?_ rfl
  have hr := run_convert_int_float (P := C.P) w src dst j .f64 n (by rw [hsu]; rfl) hdu
  rw [← hC.tab.i2f] at hr
  simp [execOp, ho, hx, hr, Result.andThen]
theorem good_f2i (hC : CtxOk C) (hM : Mem C rw ε w) {src dst : TypeId} {x : Operand} (ho : o.op = .convert src dst x) {t : Ty} (hs : C.T.ty src = some t) {k : IntKind} (hd : C.T.ty dst = some (.int k)) {n : Nat} (hx : a.eval x = .float .f64 n) (hk : C.T.f2iOk k n = true) : Good C rw ε a w o (.v (.int k) (C.T.f2i k n)) [] := by
  have hdu : C.P.underlying dst = some (.int k) := (hC.tab.ty _ _ hd).2
  obtain ⟨d, hsu, _⟩ := (hC.tab.ty _ _ hs).1.agg
  refine good_pure hM (V := .int k (C.T.f2i k n)) ?_ rfl
  have hr := run_convert_float_int (P := C.P) w src dst .f64 k n _ (by rw [hsu]; rfl) hdu (hC.tab.f2i k n hk)
  simp [execOp, ho, hx, hr, Result.andThen]
theorem cellsL_rep (t : Ty) (x : t.den) : ∀ (n j : Nat), (cellsL t (List.replicate n x))[j]? = if j < n * t.sz then (t.cells x)[j % t.sz]? else none
  | 0, j => by simp [cellsL]
  | n + 1, j => by
    have hp := t.sz_pos
    have hl := t.cells_length x
    rw [List.replicate_succ, cellsL_cons, List.getElem?_append, hl]
    by_cases h : j < t.sz
    · rw [if_pos h, if_pos (by rw [Nat.add_mul]; omega), Nat.mod_eq_of_lt h]
    · rw [if_neg h, cellsL_rep t x n (j - t.sz), ← Nat.mod_eq_sub_mod (by omega)]
      by_cases h2 : j - t.sz < n * t.sz
      · rw [if_pos h2, if_pos (by rw [Nat.add_mul]; omega)]
      · rw [if_neg h2, if_neg (by rw [Nat.add_mul]; omega)]
theorem made_take (t : Ty) (x : t.den) (l c : Nat) (h : l ≤ c) : (madeCells (t.cells x).toArray (c * t.sz)).toList.take (l * t.sz) = cellsL t (List.replicate l x) := by
  apply List.ext_getElem?
  intro j
  have hp := t.sz_pos
  have hlc := Nat.mul_le_mul_right t.sz h
  rw [cellsL_rep, List.getElem?_take]
  by_cases hj : j < l * t.sz
  · rw [if_pos hj, if_pos hj]
    have hm : j % t.sz < t.sz := Nat.mod_lt _ hp
    have hjc : j < c * t.sz := by omega
    simp [madeCells, hjc, t.cells_length, hm]
  · rw [if_neg hj, if_neg hj]
theorem good_make (hC : CtxOk C) (hM : Mem C rw ε w) {t : TypeId} {x y : Operand} (ho : o.op = .makeSlice t x y) {u : Ty} {e : TypeId} (ht : C.T.sl t = some (u, e)) {kl kc : IntKind} {l c : Int} (hx : a.eval x = .int kl l) (hy : a.eval y = .int kc c) (h0 : 0 ≤ l) (h1 : l ≤ c) (h2 : c < 1000000000000) {d : Nat} (hd : rw d = none) :
    Good C rw ε a w o (.sl d) [(d, some ⟨u, e, true, List.replicate l.toNat u.zero⟩)] := by
  obtain ⟨hu, hs, _⟩ := hC.tab.sl _ _ _ ht
  obtain ⟨i, hi, hz, hsz, hb⟩ := info_of hs
  have hb' : (i.bytes : Int) * c ≤ 281474976710656 := by
    have h3 : (i.bytes : Int) * c ≤ 140 * c := Int.mul_le_mul_of_nonneg_right (by omega) (by omega)
    omega
  have hr := run_make (P := C.P) w t e i _ hu hi hz kl kc l c h0 h1 hb' (by omega)
  refine good_new hC hM hd (w' := w.alloc (.cells (madeCells (u.val u.zero).cells (c.toNat * i.size)) e)) (V := .slice (some ⟨w.heap.size, 0, none⟩) l.toNat c.toNat) ⟨rfl, rfl, rfl, by simp, fun k hk _ => heap_alloc_old w _ k hk⟩ ?_ ?_ ?_
  · refine ⟨by rw [cellsL_length], .inr ⟨w.heap.size, c.toNat, _, by rw [List.length_replicate], Nat.zero_le _, heap_alloc_new _ _, by rw [List.length_replicate]; omega, by simp only [maxLen]; omega, by rw [size_madeCells, hsz], ?_⟩⟩
    rw [List.length_replicate, hsz, u.val_cells]
    exact made_take u u.zero l.toNat c.toNat (by omega)
  · intro g' hg'
    have : w.heap.size = g' := by simpa [Value.ownBlock] using hg'
    omega
  · simp [execOp, ho, hx, hy, hr, Result.andThen]
theorem maxI_run (hC : CtxOk C) (hS : Slots rw ε g a) {k : IntKind} : ∀ (l : List Operand) (x n : Int), maxI C.T g k x l = some n → ((l.map a.eval).foldlM Builtin.max2 (.int k x)).run C.P w = .ok (.int k n) w
  | [], x, n, h => by cases h; rfl
  | o :: l, x, n, h => by
    unfold maxI at h
    split at h
    · rename_i j y hy
      obtain ⟨hk, h⟩ := bif_some h
      cases kbeq_eq hk
      have hv : a.eval o = .int k y := opd_rel hS hy
      rw [hC.tab.lt] at h
      rw [List.map_cons, List.foldlM_cons, hv, Sem.run_bind]
      have e : (Builtin.max2 (.int k x) (.int k y)).run C.P w = .ok (.int k (bif decide (x < y) then y else x)) w := by
        by_cases c : x < y <;> simp [Builtin.max2, c]
      rw [e]
      exact maxI_run hC hS l _ _ h
    · cases h
theorem minI_run (hC : CtxOk C) (hS : Slots rw ε g a) {k : IntKind} : ∀ (l : List Operand) (x n : Int), minI C.T g k x l = some n → ((l.map a.eval).foldlM Builtin.min2 (.int k x)).run C.P w = .ok (.int k n) w
  | [], x, n, h => by cases h; rfl
  | o :: l, x, n, h => by
    unfold minI at h
    split at h
    · rename_i j y hy
      obtain ⟨hk, h⟩ := bif_some h
      cases kbeq_eq hk
      have hv : a.eval o = .int k y := opd_rel hS hy
      rw [hC.tab.lt] at h
      rw [List.map_cons, List.foldlM_cons, hv, Sem.run_bind]
      have e : (Builtin.min2 (.int k x) (.int k y)).run C.P w = .ok (.int k (bif decide (y < x) then y else x)) w := by
        by_cases c : y < x <;> simp [Builtin.min2, c]
      rw [e]
      exact minI_run hC hS l _ _ h
    · cases h
theorem good_max (hC : CtxOk C) (hM : Mem C rw ε w) (hS : Slots rw ε g a) {args : Array Operand} {ts : Array TypeId} (ho : o.op = .call { callee := .builtin .max, args := args, argTypes := ts }) {x : Operand} {l : List Operand} (ha : args.toList = x :: l) {k : IntKind} {n m : Int} (hx : a.eval x = .int k n) (hm : maxI C.T g k n l = some m) : Good C rw ε a w o (.v (.int k) m) [] := by
  refine good_pure hM (V := .int k m) ?_ rfl
  have e : (args.map a.eval).toList = .int k n :: l.map a.eval := by rw [Array.toList_map, ha, List.map_cons, hx]
  have hr : (Builtin.max_ ts o.type (args.map a.eval)).run C.P w = .ok (.int k m) w := by
    unfold Builtin.max_
    rw [e]
    exact maxI_run hC hS l n m hm
  simp [execOp, ho, resolve, invoke, builtin, hr, Result.andThen]
theorem good_min (hC : CtxOk C) (hM : Mem C rw ε w) (hS : Slots rw ε g a) {args : Array Operand} {ts : Array TypeId} (ho : o.op = .call { callee := .builtin .min, args := args, argTypes := ts }) {x : Operand} {l : List Operand} (ha : args.toList = x :: l) {k : IntKind} {n m : Int} (hx : a.eval x = .int k n) (hm : minI C.T g k n l = some m) : Good C rw ε a w o (.v (.int k) m) [] := by
  refine good_pure hM (V := .int k m) ?_ rfl
  have e : (args.map a.eval).toList = .int k n :: l.map a.eval := by rw [Array.toList_map, ha, List.map_cons, hx]
  have hr : (Builtin.min_ ts o.type (args.map a.eval)).run C.P w = .ok (.int k m) w := by
    unfold Builtin.min_
    rw [e]
    exact minI_run hC hS l n m hm
  simp [execOp, ho, resolve, invoke, builtin, hr, Result.andThen]
end
end Go.Ev

/- Calls: what is handed over and what comes back. -/
namespace Go.Ev
open Go.RowKit
def ArgOk (w : World) (S : Nat → Prop) : (p : Par) → p.den → Value → Prop
  | .v t, x, V => V = t.val x
  | .op, _, _ => True
  | .read t _, xs, V => ReadV w t xs V ∧ (xs ≠ [] → ∀ g, V.ownBlock = some g → ¬ S g)
  | .own t e, xs, V => OwnV w t e xs V ∧ ∀ g, V.ownBlock = some g → S g
  | .pt t _, x, V => ∃ ad, V = .pointer (some ad) ∧ ReadV w t [x] (.slice (some ad) 1 1) ∧ ¬ S ad.block
def ArgsOk (w : World) (S : Nat → Prop) : (ps : List Par) → argL ps → List Value → Prop
  | [], _, [] => True
  | p :: ps, x, V :: Vs => ArgOk w S p x.1 V ∧ ArgsOk w S ps x.2 Vs
  | _, _, _ => False
def ownVals : List Par → List Value → List Value
  | .own _ _ :: ps, V :: Vs => V :: ownVals ps Vs
  | _ :: ps, _ :: Vs => ownVals ps Vs
  | _, _ => []
def apart2 (V V' : Value) : Prop := ∀ g, V.ownBlock = some g → V'.ownBlock ≠ some g
/-- What comes back: new values; rows in blocks that were given away, or new ones. -/
def RetOk (w w' : World) (S : Nat → Prop) : (t : RTy) → t.den → Value → Prop
  | .v t, x, V => V = t.val x
  | .sl t e, xs, V => OwnV w' t e xs V ∧ ∀ g, V.ownBlock = some g → S g ∨ w.heap.size ≤ g
  | .pt t e, x, V => ∃ ad c, V = .pointer (some ad) ∧ OwnV w' t e [x] (.slice (some ad) 1 c) ∧ (S ad.block ∨ w.heap.size ≤ ad.block)
def RetsOk (w w' : World) (S : Nat → Prop) : (rs : List RTy) → retL rs → List Value → Prop
  | [], _, [] => True
  | [t], x, [V] => RetOk w w' S t x V
  | t :: r :: l, x, V :: Vs => RetOk w w' S t x.1 V ∧ RetsOk w w' S (r :: l) x.2 Vs
  | _, _, _ => False
def toSl : Value → Value
  | .pointer A => .slice A 1 1
  | v => v
def rowVals : List RTy → List Value → List Value
  | .pt _ _ :: rs, V :: Vs => toSl V :: rowVals rs Vs
  | .sl _ _ :: rs, V :: Vs => V :: rowVals rs Vs
  | .v _ :: rs, _ :: Vs => rowVals rs Vs
  | _, _ => []
def retV : List Value → Value
  | [V] => V
  | l => .tuple l.toArray
/-- A function does what its table says. -/
def CallOk (P : Program) (W0 : World) (sg : FuncId → Sig) (callF : (f : FuncId) → argL (sg f).ps → Option (retL (sg f).rs)) (f : FuncId) : Prop :=
  ∀ xs r, callF f xs = some r → (∀ args w, (callFunc f args).run P w = .ok (.enter f args) w) ∧
    ∀ (w : World) (S : Nat → Prop) (Vs : List Value), Below W0.heap.size W0 w → (∀ g, S g → W0.heap.size ≤ g) → ArgsOk w S (sg f).ps xs Vs → (ownVals (sg f).ps Vs).Pairwise apart2 →
      Calls P f Vs.toArray w fun e w' => ∃ Rs, e = .returned (retV Rs) ∧ RetsOk w w' S (sg f).rs r Rs ∧ (rowVals (sg f).rs Rs).Pairwise apart2 ∧ Pres S w w'
theorem mem_iff (n : Nat) : ∀ l : List Nat, mem n l = true ↔ n ∈ l
  | [] => by simp [mem]
  | m :: l => by
    have ih := mem_iff n l
    unfold mem
    cases hb : Nat.beq m n with
    | true =>
      have := Nat.eq_of_beq_eq_true hb
      simp [this]
    | false =>
      have : m ≠ n := Nat.ne_of_beq_eq_false hb
      simp only [cond_false, ih, List.mem_cons]
      constructor
      · exact .inr
      · rintro (h | h)
        · exact absurd h.symm this
        · exact h
theorem disj_spec : ∀ {l m : List Nat}, disj l m = true → ∀ n ∈ l, n ∉ m
  | [], _, _, _, h => by cases h
  | x :: l, m, h, n, hn => by
    unfold disj at h
    cases hb : mem x m with
    | true => rw [hb] at h; cases h
    | false =>
      rw [hb] at h
      rcases List.mem_cons.1 hn with rfl | hn
      · intro hm
        rw [(mem_iff n m).2 hm] at hb
        cases hb
      · exact disj_spec (l := l) h n hn
theorem mem_given {us : Upd} {n : Nat} : n ∈ given us ↔ ∃ x, (n, x) ∈ us := by
  induction us with
  | nil => simp [given]
  | cons p us ih =>
    obtain ⟨m, x⟩ := p
    simp only [given, List.mem_cons, ih, Prod.mk.injEq]
    constructor
    · rintro (rfl | ⟨y, h⟩)
      · exact ⟨x, .inl ⟨rfl, rfl⟩⟩
      · exact ⟨y, .inr h⟩
    · rintro ⟨y, ⟨rfl, rfl⟩ | h⟩
      · exact .inl rfl
      · exact .inr ⟨y, h⟩
theorem given_append (us vs : Upd) : given (us ++ vs) = given us ++ given vs := by
  induction us with
  | nil => rfl
  | cons p us ih => obtain ⟨m, x⟩ := p; simp [given, ih]
theorem updF_append (rw : RW) (us vs : Upd) : updF rw (us ++ vs) = updF (updF rw us) vs := by
  induction us generalizing rw with
  | nil => rfl
  | cons p us ih => obtain ⟨m, x⟩ := p; exact ih _
theorem updF_notin (rw : RW) (us : Upd) {n : Nat} (h : n ∉ given us) : updF rw us n = rw n := by
  induction us generalizing rw with
  | nil => rfl
  | cons p us ih =>
    obtain ⟨m, x⟩ := p
    simp only [given, List.mem_cons, not_or] at h
    show updF _ us n = _
    rw [ih _ h.2]
    simp [h.1]
theorem updF_in (rw : RW) (us : Upd) {n : Nat} {x : Option Row} (h : (n, x) ∈ us) (hd : (given us).Nodup) : updF rw us n = some x := by
  induction us generalizing rw with
  | nil => cases h
  | cons p us ih =>
    obtain ⟨m, y⟩ := p
    simp only [given, List.nodup_cons] at hd
    show updF _ us n = _
    rcases List.mem_cons.1 h with h | h
    · cases h
      rw [updF_notin _ _ hd.1]
      simp
    · exact ih _ h hd.2
theorem updF_used (rw : RW) (us : Upd) {n : Nat} (h : rw n ≠ none ∨ n ∈ given us) : updF rw us n ≠ none := by
  induction us generalizing rw with
  | nil =>
    rcases h with h | h
    · exact h
    · cases h
  | cons p us ih =>
    obtain ⟨m, y⟩ := p
    show updF _ us n ≠ _
    refine ih _ ?_
    rcases h with h | h
    · left
      show (if n = m then _ else _) ≠ none
      split
      · simp
      · exact h
    · simp only [given, List.mem_cons] at h
      rcases h with rfl | h
      · left
        show (if n = n then _ else _) ≠ none
        simp
      · exact .inr h
theorem updF_kill (rw : RW) (us : Upd) (hn : ∀ m x, (m, x) ∈ us → x = none) {n : Nat} (h : n ∈ given us) : updF rw us n = some none := by
  induction us generalizing rw with
  | nil => cases h
  | cons p us ih =>
    obtain ⟨m, y⟩ := p
    have hy : y = none := hn m y (by simp)
    subst hy
    show updF _ us n = _
    by_cases hin : n ∈ given us
    · exact ih _ (fun m x hm => hn m x (List.mem_cons_of_mem _ hm)) hin
    · rw [updF_notin _ _ hin]
      simp only [given, List.mem_cons] at h
      simp [h.resolve_right hin]
section
variable {C : Ctx} {rw : RW} {ε : Env} {w w' : World} {g : Nat → Option AV} {a : Act} {o : Oper} {R : Type}
theorem argRow_sl {x : Operand} {r : Nat} {T : Tab} (h : opd T g 0 x = some (.sl r)) : argRow g x = [r] := by
  cases x with
  | tmp t =>
    have h : g t = some (.sl r) := h
    unfold argRow
    simp only [h]
  | const v =>
    have h : constV T 0 v = some (.sl r) := h
    unfold constV at h
    split at h <;> first | cases h | skip
    all_goals (split at h <;> first | cases h | skip)
    all_goals (split at h <;> cases h)
  | global _ => cases h
  | func _ => cases h
theorem argRow_cut {x : Operand} {r : Nat} {p : Bool} {lo hi : Int} {T : Tab} (h : opd T g 0 x = some (.cut r p lo hi)) : argRow g x = [r] := by
  cases x with
  | tmp t =>
    have h : g t = some (.cut r p lo hi) := h
    unfold argRow
    simp only [h]
  | const v =>
    have h : constV T 0 v = some (.cut r p lo hi) := h
    unfold constV at h
    split at h <;> first | cases h | skip
    all_goals (split at h <;> first | cases h | skip)
    all_goals (split at h <;> cases h)
  | global _ => cases h
  | func _ => cases h
theorem argRow_ptr {x : Operand} {r : Nat} {i : Int} {T : Tab} (h : opd T g 0 x = some (.ptr r i)) : argRow g x = [r] := by
  cases x with
  | tmp t =>
    have h : g t = some (.ptr r i) := h
    unfold argRow
    simp only [h]
  | const v =>
    have h : constV T 0 v = some (.ptr r i) := h
    unfold constV at h
    split at h <;> first | cases h | skip
    all_goals (split at h <;> first | cases h | skip)
    all_goals (split at h <;> cases h)
  | global _ => cases h
  | func _ => cases h
theorem ownV_nil (w : World) (t : Ty) (e : TypeId) : OwnV w t e [] (.slice none 0 0) := World.ownsRow_nil w 0 e t.sz
theorem readV_nil (w : World) (t : Ty) : ReadV w t [] (.slice none 0 0) := ⟨none, 0, rfl, Nat.le_refl _, fun j u hu => by simp [cellsL] at hu⟩
/-- One argument. -/
theorem toArg_sound (hM : Mem C rw ε w) (hS : Slots rw ε g a) {p : Par} {x : Operand} {y : p.den} {us : Upd} (h : toArg C.T g rw p x = some (y, us)) :
    (us = [] ∨ ∃ r z, us = [(r, none)] ∧ row rw r = some z ∧ z.own = true ∧ argRow g x = [r]) ∧
    (∀ S : Nat → Prop, (∀ r ∈ given us, ∀ b, (ε.sv r).ownBlock = some b → S b) → (∀ r ∈ argRow g x, r ∉ given us → ∀ z, row rw r = some z → z.xs ≠ [] → ∀ b, (ε.sv r).ownBlock = some b → ¬ S b) → ArgOk w S p y (a.eval x)) ∧
    (∀ t e, p = .own t e → ∀ b, (a.eval x).ownBlock = some b → ∃ r ∈ given us, (ε.sv r).ownBlock = some b) := by
  cases p with
  | v t =>
    simp only [toArg] at h
    split at h
    · rename_i y' hy
      cases h
      exact ⟨.inl rfl, fun S _ _ => opdDen_rel hS hy, fun t e h => by cases h⟩
    · cases h
  | op =>
    simp only [toArg] at h
    cases h
    exact ⟨.inl rfl, fun S _ _ => trivial, fun t e h => by cases h⟩
  | pt t e =>
    simp only [toArg] at h
    split at h
    · rename_i r i hav
      split at h
      · rename_i z hz
        obtain ⟨_, h⟩ := bif_some h
        split at h
        · rename_i xs hxs
          cases h
          obtain ⟨hc, hxs⟩ := cast?_eq (F := fun t => List t.den) hxs
          obtain ⟨zt, ze, zo, zx⟩ := z
          have hc : zt = t := hc
          subst hc
          have hxs : zx = xs := hxs
          subst hxs
          obtain ⟨hu, ad, n, c, hsv, h0, h1, hV⟩ := opd_rel hS hav
          obtain ⟨A, c', hv', hc', hr⟩ := row_slice hM hz
          rw [hsv] at hv'
          injection hv' with e1 e2 e3
          subst e3
          have hi : i.toNat < zx.length := by
            have : n = zx.length := e2
            omega
          obtain ⟨ad', hA, hcell⟩ := hr i.toNat hi
          rw [← e1] at hA
          cases hA
          rw [(hM.ok r _ hz).ty] at hV
          have hbl : (ad.add (i.toNat * zt.sz)).block = ad.block := by unfold Addr.add; split <;> rfl
          refine ⟨.inl rfl, fun S _ h2 => ⟨_, hV, ⟨_, 1, rfl, Nat.le_refl _, fun j u hu => ⟨_, rfl, ?_⟩⟩, ?_⟩, fun t e h => by cases h⟩
          · have hu : (zt.cells (nth zt zx i) ++ [])[j]? = some u := hu
            rw [List.append_nil, nth_eq _ _ _ hi] at hu
            exact hcell j u hu
          · rw [hbl]
            refine h2 r (by rw [argRow_ptr hav]; simp) (by simp [given]) _ hz ?_ ad.block (by rw [hsv]; rfl)
            intro h0'
            have h0' : zx = [] := h0'
            rw [h0'] at hi
            simp at hi
        · cases h
      · cases h
    · cases h
  | read t e =>
    simp only [toArg] at h
    split at h
    · cases h
      exact ⟨.inl rfl, fun S _ _ => ⟨readV_nil w t, fun h => absurd rfl h⟩, fun t e h => by cases h⟩
    · split at h
      · rename_i av hav
        split at h
        · rename_i z hz
          obtain ⟨_, h⟩ := bif_some h
          split at h
          · rename_i xs hxs
            cases h
            obtain ⟨hr, hform⟩ := listOf_read hM (opd_rel hS hav) hz
            have hF : z.xs ≠ [] → ∀ b, (a.eval x).ownBlock = some b → ∃ r ∈ argRow g x, ∃ z', row rw r = some z' ∧ z'.xs ≠ [] ∧ (ε.sv r).ownBlock = some b := by
              intro hne b hb
              rcases hform with ⟨r, rfl, hrow⟩ | ⟨r, p, lo, hi, x', rfl, hrow, rfl⟩ | ⟨t', e', rfl, rfl⟩
              · have hv := opd_rel hS hav
                rw [hv.2] at hb
                exact ⟨r, by rw [argRow_sl hav]; simp, _, hrow, hne, hb⟩
              · obtain ⟨_, A, m, c, A', c', hv, hmc, hV, hl0, hlh, hhm, hc', hne', hz0⟩ := opd_rel hS hav
                have hlt : lo < hi := by
                  by_cases hlt : lo < hi
                  · exact hlt
                  · refine absurd ?_ hne
                    show (x'.xs.drop lo.toNat).take (hi.toNat - lo.toNat) = []
                    rw [show hi.toNat - lo.toNat = 0 by omega, List.take_zero]
                obtain ⟨ad, hA, hA'⟩ := hne' hlt
                refine ⟨r, by rw [argRow_cut hav]; simp, _, hrow, ?_, ?_⟩
                · have h1 := (hM.ok r _ hrow).read
                  rw [hv] at h1
                  have := (ReadV.at_ h1).1
                  intro h0
                  rw [h0] at this
                  simp at this
                  omega
                · rw [hV, hA'] at hb
                  rw [hv, hA]
                  have hbl : (ad.add (lo.toNat * (ε.ty r).sz)).block = ad.block := by unfold Addr.add; split <;> rfl
                  simp only [Value.ownBlock, hbl] at hb ⊢
                  exact hb
              · exact absurd rfl hne
            obtain ⟨hc, hxs⟩ := cast?_eq (F := fun t => List t.den) hxs
            obtain ⟨zt, ze, zo, zx⟩ := z
            have hc : zt = t := hc
            subst hc
            have hxs : zx = y := hxs
            subst hxs
            refine ⟨.inl rfl, fun S _ h2 => ⟨hr, fun hne b hb => ?_⟩, fun t e h => by cases h⟩
            obtain ⟨r, hrx, z', hrow, hz', hb'⟩ := hF hne b hb
            exact h2 r hrx (by simp [given]) z' hrow hz' b hb'
          · cases h
        · cases h
      · cases h
  | own t e =>
    simp only [toArg] at h
    split at h
    · cases h
      refine ⟨.inl rfl, fun S _ _ => ⟨ownV_nil w t e, fun b hb => ?_⟩, fun t e h b hb => ?_⟩
      · simp [Act.eval, Value.ownBlock] at hb
      · simp [Act.eval, Value.ownBlock] at hb
    · split at h
      · rename_i r hav
        split at h
        · rename_i z hz
          obtain ⟨ho, h⟩ := bif_some h
          obtain ⟨he, h⟩ := bif_some h
          split at h
          · rename_i xs hxs
            cases h
            obtain ⟨hc, hxs⟩ := cast?_eq (F := fun t => List t.den) hxs
            have he := Nat.eq_of_beq_eq_true he
            obtain ⟨zt, ze, zo, zx⟩ := z
            have hc : zt = t := hc
            subst hc
            have hxs : zx = y := hxs
            subst hxs
            have he : ze = e := he
            subst he
            have hv := opd_rel hS hav
            refine ⟨.inr ⟨r, _, rfl, hz, ho, argRow_sl hav⟩, fun S h1 _ => ?_, fun t e h b hb => ?_⟩
            · show OwnV w zt ze zx (a.eval x) ∧ _
              rw [hv.2]
              exact ⟨((hM.ok r _ hz).own ho).1, fun b hb => h1 r (by simp [given]) b hb⟩
            · rw [hv.2] at hb
              exact ⟨r, by simp [given], hb⟩
          · cases h
        · cases h
      · rename_i t' e' hav
        cases h
        have hv : a.eval x = .slice none 0 0 := opd_rel hS hav
        refine ⟨.inl rfl, fun S _ _ => ?_, fun t e h b hb => ?_⟩
        · show OwnV w t e [] (a.eval x) ∧ _
          rw [hv]
          exact ⟨ownV_nil w t e, fun b hb => by simp [Value.ownBlock] at hb⟩
        · rw [hv] at hb
          simp [Value.ownBlock] at hb
      · cases h
end
end Go.Ev

/- Calls, put together. -/
namespace Go.Ev
open Go.RowKit
section
variable {C : Ctx} {rw : RW} {ε : Env} {w w' : World} {g : Nat → Option AV} {a : Act} {o : Oper} {R : Type}
theorem toArgs_sound (hM : Mem C rw ε w) (hS : Slots rw ε g a) : ∀ {ps : List Par} {l : List Operand} {ys : argL ps} {us : Upd} {rs : List Nat}, toArgs C.T g rw ps l = some (ys, us, rs) →
    (∀ m x, (m, x) ∈ us → x = none ∧ m ∈ rs ∧ ∃ z, row rw m = some z ∧ z.own = true) ∧
    (∀ S : Nat → Prop, (∀ r ∈ given us, ∀ b, (ε.sv r).ownBlock = some b → S b) → (∀ r ∈ rs, r ∉ given us → ∀ z, row rw r = some z → z.xs ≠ [] → ∀ b, (ε.sv r).ownBlock = some b → ¬ S b) → ArgsOk w S ps ys (l.map a.eval)) ∧
    (∀ V ∈ ownVals ps (l.map a.eval), ∀ b, V.ownBlock = some b → ∃ r ∈ given us, (ε.sv r).ownBlock = some b) ∧
    (ownVals ps (l.map a.eval)).Pairwise apart2 := by
  intro ps
  induction ps with
  | nil =>
    intro l ys us rs h
    cases l with
    | nil =>
      cases h
      exact ⟨fun m x hm => (by cases hm), fun S _ _ => trivial, fun V hV => (by cases hV), List.Pairwise.nil⟩
    | cons x l => cases h
  | cons p ps ih =>
    intro l ys us rs h
    cases l with
    | nil => cases h
    | cons x l =>
      simp only [toArgs] at h
      split at h
      · rename_i y us1 ys1 vs rs1 h1 h2
        obtain ⟨hd, h⟩ := bif_some h
        cases h
        rw [Bool.and_eq_true] at hd
        have hd1 := disj_spec hd.1
        have hd2 := disj_spec hd.2
        obtain ⟨k1, k2, k3⟩ := toArg_sound hM hS h1
        obtain ⟨i1, i2, i3, i4⟩ := ih h2
        have hgv : ∀ r ∈ given vs, r ∈ rs1 := fun r hr => by
          obtain ⟨x', hx'⟩ := mem_given.1 hr
          exact (i1 r x' hx').2.1
        refine ⟨?_, ?_, ?_, ?_⟩
        · intro m x' hm
          rcases List.mem_append.1 hm with hm | hm
          · rcases k1 with rfl | ⟨r, z, rfl, hz, hzo, hr⟩
            · cases hm
            · rcases List.mem_singleton.1 hm with hm
              cases hm
              exact ⟨rfl, by rw [hr]; simp, z, hz, hzo⟩
          · obtain ⟨j1, j2, j3⟩ := i1 m x' hm
            exact ⟨j1, List.mem_append_right _ j2, j3⟩
        · intro S hS1 hS2
          rw [given_append] at hS1 hS2
          refine ⟨k2 S (fun r hr => hS1 r (List.mem_append_left _ hr)) (fun r hr hn z hz hx => ?_), i2 S (fun r hr => hS1 r (List.mem_append_right _ hr)) (fun r hr hn z hz hx => ?_)⟩
          · refine hS2 r (List.mem_append_left _ hr) ?_ z hz hx
            intro hm
            rcases List.mem_append.1 hm with hm | hm
            · exact hn hm
            · exact hd2 r hr hm
          · refine hS2 r (List.mem_append_right _ hr) ?_ z hz hx
            intro hm
            rcases List.mem_append.1 hm with hm | hm
            · exact hd1 r hm hr
            · exact hn hm
        · intro V hV b hb
          rw [given_append]
          rw [List.map_cons] at hV
          have hV : V = a.eval x ∧ (∃ t e, p = .own t e) ∨ V ∈ ownVals ps (l.map a.eval) := by
            cases p <;> simp only [ownVals] at hV <;> first | exact .inr hV | skip
            rcases List.mem_cons.1 hV with h | h
            · exact .inl ⟨h, _, _, rfl⟩
            · exact .inr h
          rcases hV with ⟨rfl, t, e, rfl⟩ | hV
          · obtain ⟨r, hr, hb'⟩ := k3 t e rfl b hb
            exact ⟨r, List.mem_append_left _ hr, hb'⟩
          · obtain ⟨r, hr, hb'⟩ := i3 V hV b hb
            exact ⟨r, List.mem_append_right _ hr, hb'⟩
        · rw [List.map_cons]
          have key : ∀ t e, p = .own t e → (a.eval x :: ownVals ps (l.map a.eval)).Pairwise apart2 := by
            intro t e hp
            refine List.Pairwise.cons (fun V' hV' b hb hb' => ?_) i4
            obtain ⟨r, hr, hrb⟩ := k3 t e hp b hb
            obtain ⟨r', hr', hrb'⟩ := i3 V' hV' b hb'
            have hne : r ≠ r' := by
              rintro rfl
              exact hd1 r hr (hgv r hr')
            obtain ⟨x1, hx1⟩ := mem_given.1 hr
            obtain ⟨x2, hx2⟩ := mem_given.1 hr'
            obtain ⟨_, _, z2, hz2, ho2⟩ := i1 r' x2 hx2
            rcases k1 with rfl | ⟨r0, z, rfl, hz, hzo, _⟩
            · cases hr
            · have : r = r0 := by simpa [given] using hr
              subst this
              exact hM.sep r z r' z2 hz hzo hz2 hne (.inl ho2) b hrb hrb'
          cases p <;> simp only [ownVals] <;> first | exact i4 | exact key _ _ rfl
      · cases h
/-- The parts of a result. -/
theorem parts_sound {S : Nat → Prop} : ∀ {rs : List RTy} {r : retL rs} {Rs : List Value} {n : Nat} {cs : List AC} {vs : Upd}, parts n rs r = (cs, vs) → RetsOk w w' S rs r Rs → (rowVals rs Rs).Pairwise apart2 → ∀ ε : Env,
    ∃ ε' : Env, (∀ m, m ∉ given vs → ε'.sv m = ε.sv m ∧ ε'.ty m = ε.ty m) ∧ cs.map (encC ε') = Rs ∧ (given vs).Nodup ∧ (∀ m ∈ given vs, n ≤ m ∧ ∃ V ∈ rowVals rs Rs, (ε'.sv m).ownBlock = V.ownBlock) ∧
      (∀ c ∈ cs, (match c with | .v _ _ => True | .sl m => m ∈ given vs | .pt m => m ∈ given vs ∧ ∃ ad n c, ε'.sv m = .slice (some ad) n c ∧ 0 < n)) ∧
      (∀ m x, (m, x) ∈ vs → ∃ z, x = some z ∧ z.own = true ∧ ε'.ty m = z.t ∧ OwnV w' z.t z.e z.xs (ε'.sv m) ∧ ∀ b, (ε'.sv m).ownBlock = some b → S b ∨ w.heap.size ≤ b) ∧
      (∀ m ∈ given vs, ∀ m' ∈ given vs, m ≠ m' → apart2 (ε'.sv m) (ε'.sv m'))
  | [], r, Rs, n, cs, vs, h, hr, _, ε => by
    cases h
    cases Rs with
    | nil => exact ⟨ε, fun _ _ => ⟨rfl, rfl⟩, rfl, List.nodup_nil, fun m hm => (by cases hm), fun c hc => (by cases hc), fun m x hm => (by cases hm), fun m hm => (by cases hm)⟩
    | cons V Vs => exact hr.elim
  | [.v t], r, Rs, n, cs, vs, h, hr, _, ε => by
    cases h
    match Rs, hr with
    | [V], hr =>
      have hr : V = t.val r := hr
      subst hr
      exact ⟨ε, fun _ _ => ⟨rfl, rfl⟩, rfl, List.nodup_nil, fun m hm => (by cases hm), fun c hc => (by rw [List.mem_singleton.1 hc]; trivial), fun m x hm => (by cases hm), fun m hm => (by cases hm)⟩
  | [.sl t e], r, Rs, n, cs, vs, h, hr, _, ε => by
    cases h
    match Rs, hr with
    | [V], hr =>
      obtain ⟨h1, h3⟩ := hr
      refine ⟨ε.put n V t, fun m hm => ?_, ?_, ?_, fun m hm => ?_, fun c hc => ?_, fun m x hm => ?_, fun m hm m' hm' hne => ?_⟩
      · have : m ≠ n := by simpa [given] using hm
        exact ⟨Env.put_sv_ne _ _ _ this, Env.put_ty_ne _ _ _ this⟩
      · simp [encC, Env.put_sv_same]
      · simp [given]
      · have : m = n := by simpa [given] using hm
        subst this
        exact ⟨Nat.le_refl _, V, by simp [rowVals], by rw [Env.put_sv_same]⟩
      · rw [List.mem_singleton.1 hc]
        simp [given]
      · rcases List.mem_singleton.1 hm with hm
        cases hm
        exact ⟨_, rfl, rfl, Env.put_ty_same _ _ _ _, by rw [Env.put_sv_same]; exact h1, by rw [Env.put_sv_same]; exact h3⟩
      · have e1 : m = n := by simpa [given] using hm
        have e2 : m' = n := by simpa [given] using hm'
        exact absurd (e1.trans e2.symm) hne
  | [.pt t e], r, Rs, n, cs, vs, h, hr, _, ε => by
    cases h
    match Rs, hr with
    | [V], hr =>
      obtain ⟨ad, c0, rfl, h1, h3⟩ := hr
      refine ⟨ε.put n (.slice (some ad) 1 c0) t, fun m hm => ?_, ?_, ?_, fun m hm => ?_, fun c hc => ?_, fun m x hm => ?_, fun m hm m' hm' hne => ?_⟩
      · have : m ≠ n := by simpa [given] using hm
        exact ⟨Env.put_sv_ne _ _ _ this, Env.put_ty_ne _ _ _ this⟩
      · simp [encC, Env.put_sv_same, toPt]
      · simp [given]
      · have : m = n := by simpa [given] using hm
        subst this
        exact ⟨Nat.le_refl _, .slice (some ad) 1 1, by simp [rowVals, toSl], by rw [Env.put_sv_same]; rfl⟩
      · rw [List.mem_singleton.1 hc]
        exact ⟨by simp [given], ad, 1, c0, Env.put_sv_same _ _ _ _, Nat.one_pos⟩
      · rcases List.mem_singleton.1 hm with hm
        cases hm
        refine ⟨_, rfl, rfl, Env.put_ty_same _ _ _ _, by rw [Env.put_sv_same]; exact h1, ?_⟩
        rw [Env.put_sv_same]
        intro b hb
        have : ad.block = b := by simpa [Value.ownBlock] using hb
        subst this
        exact h3
      · have e1 : m = n := by simpa [given] using hm
        have e2 : m' = n := by simpa [given] using hm'
        exact absurd (e1.trans e2.symm) hne
  | .v t :: r0 :: l, r, Rs, n, cs, vs, h, hr, hp, ε => by
    match Rs, hr with
    | V :: Vs, hr =>
      obtain ⟨h1, h2⟩ := hr
      have h1 : V = t.val r.1 := h1
      subst h1
      unfold parts at h
      cases hq : parts n (r0 :: l) r.2 with
      | mk cs1 vs1 =>
        rw [hq] at h
        cases h
        obtain ⟨ε', g1, g3, g4, g5, g6, g7, g8⟩ := parts_sound hq h2 hp ε
        refine ⟨ε', g1, by rw [List.map_cons, g3]; rfl, g4, g5, fun c hc => ?_, g7, g8⟩
        rcases List.mem_cons.1 hc with rfl | hc
        · trivial
        · exact g6 c hc
  | .sl t e :: r0 :: l, r, Rs, n, cs, vs, h, hr, hp, ε => by
    match Rs, hr with
    | V :: Vs, hr =>
      obtain ⟨⟨h1, h3⟩, h4⟩ := hr
      unfold parts at h
      cases hq : parts (n + 100000) (r0 :: l) r.2 with
      | mk cs1 vs1 =>
        rw [hq] at h
        cases h
        have hp : (V :: rowVals (r0 :: l) Vs).Pairwise apart2 := hp
        rw [List.pairwise_cons] at hp
        obtain ⟨ε', g1, g3, g4, g5, g6, g7, g8⟩ := parts_sound hq h4 hp.2 ε
        have hn : n ∉ given vs1 := fun hm => by have := (g5 n hm).1; omega
        have hne : ∀ m ∈ given vs1, m ≠ n := fun m hm e => hn (e ▸ hm)
        refine ⟨ε'.put n V t, fun m hm => ?_, ?_, ?_, fun m hm => ?_, fun c hc => ?_, fun m x hm => ?_, fun m hm m' hm' hne' => ?_⟩
        · simp only [given, List.mem_cons, not_or] at hm
          rw [Env.put_sv_ne _ _ _ hm.1, Env.put_ty_ne _ _ _ hm.1]
          exact g1 m hm.2
        · rw [List.map_cons]
          congr 1
          · exact Env.put_sv_same _ _ _ _
          · rw [← g3]
            apply List.map_congr_left
            intro c hc
            cases c with
            | v t x => rfl
            | sl m => exact Env.put_sv_ne _ _ _ (hne m (g6 (.sl m) hc))
            | pt m => exact congrArg toPt (Env.put_sv_ne _ _ _ (hne m (g6 (.pt m) hc).1))
        · simp only [given, List.nodup_cons]
          exact ⟨hn, g4⟩
        · simp only [given, List.mem_cons] at hm
          rcases hm with rfl | hm
          · exact ⟨Nat.le_refl _, V, by simp [rowVals], by rw [Env.put_sv_same]⟩
          · refine ⟨by have := (g5 m hm).1; omega, ?_⟩
            rw [Env.put_sv_ne _ _ _ (hne m hm)]
            obtain ⟨V', hV', he'⟩ := (g5 m hm).2
            exact ⟨V', List.mem_cons_of_mem _ hV', he'⟩
        · rcases List.mem_cons.1 hc with rfl | hc
          · simp [given]
          · have := g6 c hc
            cases c with
            | v t x => trivial
            | sl m => exact List.mem_cons_of_mem _ this
            | pt m =>
              refine ⟨List.mem_cons_of_mem _ this.1, ?_⟩
              rw [Env.put_sv_ne _ _ _ (hne m this.1)]
              exact this.2
        · rcases List.mem_cons.1 hm with hm | hm
          · cases hm
            exact ⟨_, rfl, rfl, Env.put_ty_same _ _ _ _, by rw [Env.put_sv_same]; exact h1, by rw [Env.put_sv_same]; exact h3⟩
          · have hin : m ∈ given vs1 := mem_given.2 ⟨x, hm⟩
            obtain ⟨z, j1, j2, j3, j4, j6⟩ := g7 m x hm
            rw [Env.put_sv_ne _ _ _ (hne m hin), Env.put_ty_ne _ _ _ (hne m hin)]
            exact ⟨z, j1, j2, j3, j4, j6⟩
        · simp only [given, List.mem_cons] at hm hm'
          rcases hm with rfl | hm
          · rcases hm' with rfl | hm'
            · exact absurd rfl hne'
            · rw [Env.put_sv_same, Env.put_sv_ne _ _ _ (hne m' hm')]
              obtain ⟨V', hV', he'⟩ := (g5 m' hm').2
              intro b hb
              rw [he']
              exact hp.1 _ hV' b hb
          · rcases hm' with rfl | hm'
            · rw [Env.put_sv_same, Env.put_sv_ne _ _ _ (hne m hm)]
              intro b hb hb'
              obtain ⟨V', hV', he'⟩ := (g5 m hm).2
              rw [he'] at hb
              exact hp.1 _ hV' b hb' hb
            · rw [Env.put_sv_ne _ _ _ (hne m hm), Env.put_sv_ne _ _ _ (hne m' hm')]
              exact g8 m hm m' hm' hne'
  | .pt t e :: r0 :: l, r, Rs, n, cs, vs, h, hr, hp, ε => by
    match Rs, hr with
    | V :: Vs, hr =>
      obtain ⟨⟨ad, c0, rfl, h1, h3⟩, h4⟩ := hr
      unfold parts at h
      cases hq : parts (n + 100000) (r0 :: l) r.2 with
      | mk cs1 vs1 =>
        rw [hq] at h
        cases h
        have hp : (Value.slice (some ad) 1 1 :: rowVals (r0 :: l) Vs).Pairwise apart2 := hp
        rw [List.pairwise_cons] at hp
        obtain ⟨ε', g1, g3, g4, g5, g6, g7, g8⟩ := parts_sound hq h4 hp.2 ε
        have hn : n ∉ given vs1 := fun hm => by have := (g5 n hm).1; omega
        have hne : ∀ m ∈ given vs1, m ≠ n := fun m hm e => hn (e ▸ hm)
        refine ⟨ε'.put n (.slice (some ad) 1 c0) t, fun m hm => ?_, ?_, ?_, fun m hm => ?_, fun c hc => ?_, fun m x hm => ?_, fun m hm m' hm' hne' => ?_⟩
        · simp only [given, List.mem_cons, not_or] at hm
          rw [Env.put_sv_ne _ _ _ hm.1, Env.put_ty_ne _ _ _ hm.1]
          exact g1 m hm.2
        · rw [List.map_cons]
          congr 1
          · show toPt _ = _
            rw [Env.put_sv_same]
            rfl
          · rw [← g3]
            apply List.map_congr_left
            intro c hc
            cases c with
            | v t x => rfl
            | sl m => exact Env.put_sv_ne _ _ _ (hne m (g6 (.sl m) hc))
            | pt m => exact congrArg toPt (Env.put_sv_ne _ _ _ (hne m (g6 (.pt m) hc).1))
        · simp only [given, List.nodup_cons]
          exact ⟨hn, g4⟩
        · simp only [given, List.mem_cons] at hm
          rcases hm with rfl | hm
          · exact ⟨Nat.le_refl _, .slice (some ad) 1 1, by simp [rowVals, toSl], by rw [Env.put_sv_same]; rfl⟩
          · refine ⟨by have := (g5 m hm).1; omega, ?_⟩
            rw [Env.put_sv_ne _ _ _ (hne m hm)]
            obtain ⟨V', hV', he'⟩ := (g5 m hm).2
            exact ⟨V', List.mem_cons_of_mem _ hV', he'⟩
        · rcases List.mem_cons.1 hc with rfl | hc
          · exact ⟨by simp [given], ad, 1, c0, Env.put_sv_same _ _ _ _, Nat.one_pos⟩
          · have := g6 c hc
            cases c with
            | v t x => trivial
            | sl m => exact List.mem_cons_of_mem _ this
            | pt m =>
              refine ⟨List.mem_cons_of_mem _ this.1, ?_⟩
              rw [Env.put_sv_ne _ _ _ (hne m this.1)]
              exact this.2
        · rcases List.mem_cons.1 hm with hm | hm
          · cases hm
            refine ⟨_, rfl, rfl, Env.put_ty_same _ _ _ _, by rw [Env.put_sv_same]; exact h1, ?_⟩
            rw [Env.put_sv_same]
            intro b hb
            have : ad.block = b := by simpa [Value.ownBlock] using hb
            subst this
            exact h3
          · have hin : m ∈ given vs1 := mem_given.2 ⟨x, hm⟩
            obtain ⟨z, j1, j2, j3, j4, j6⟩ := g7 m x hm
            rw [Env.put_sv_ne _ _ _ (hne m hin), Env.put_ty_ne _ _ _ (hne m hin)]
            exact ⟨z, j1, j2, j3, j4, j6⟩
        · simp only [given, List.mem_cons] at hm hm'
          rcases hm with rfl | hm
          · rcases hm' with rfl | hm'
            · exact absurd rfl hne'
            · rw [Env.put_sv_same, Env.put_sv_ne _ _ _ (hne m' hm')]
              obtain ⟨V', hV', he'⟩ := (g5 m' hm').2
              intro b hb
              rw [he']
              exact hp.1 _ hV' b hb
          · rcases hm' with rfl | hm'
            · rw [Env.put_sv_same, Env.put_sv_ne _ _ _ (hne m hm)]
              intro b hb hb'
              obtain ⟨V', hV', he'⟩ := (g5 m hm).2
              rw [he'] at hb
              exact hp.1 _ hV' b hb' hb
            · rw [Env.put_sv_ne _ _ _ (hne m hm), Env.put_sv_ne _ _ _ (hne m' hm')]
              exact g8 m hm m' hm' hne'
theorem allNew_spec {vs : Upd} (h : allNew rw vs = true) : ∀ m ∈ given vs, rw m = none := by
  induction vs with
  | nil => intro m hm; cases hm
  | cons p vs ih =>
    obtain ⟨n, x⟩ := p
    unfold allNew at h
    rw [Bool.and_eq_true] at h
    intro m hm
    simp only [given, List.mem_cons] at hm
    rcases hm with rfl | hm
    · exact isNew_eq h.1
    · exact ih h.2 m hm
theorem resOf_rel {rw' : RW} {ε' : Env} {cs : List AC} {Rs : List Value} (hu' : ∀ c ∈ cs, ACUsed rw' ε' c) (h : cs.map (encC ε') = Rs) : VRel rw' ε' (resOf cs) (retV Rs) := by
  subst h
  cases cs with
  | nil => exact ⟨hu', rfl⟩
  | cons c l =>
    cases l with
    | nil =>
      cases c with
      | v t x => rfl
      | sl r => exact ⟨hu' (.sl r) (by simp), rfl⟩
      | pt r =>
        obtain ⟨h1, ad, n, c, hsv, hn⟩ := hu' (.pt r) (by simp)
        refine ⟨h1, ad, n, c, hsv, Int.le_refl _, by omega, ?_⟩
        show toPt (ε'.sv r) = _
        rw [hsv]
        simp [toPt, Addr.add]
    | cons c' l =>
      have h1 : resOf (c :: c' :: l) = .tup (c :: c' :: l) := by cases c <;> rfl
      rw [h1]
      exact ⟨hu', rfl⟩
theorem good_call (hC : CtxOk C) (hM : Mem C rw ε w) (hS : Slots rw ε g a) {sg : FuncId → Sig} {callF : (f : FuncId) → argL (sg f).ps → Option (retL (sg f).rs)} {f : FuncId} (hf : CallOk C.P C.W0 sg callF f) {args : Array Operand} {ts : Array TypeId}
    (ho : o.op = .call { callee := .value (.func f), args, argTypes := ts }) {ys : argL (sg f).ps} {us : Upd} {rs : List Nat} (ha : toArgs C.T g rw (sg f).ps args.toList = some (ys, us, rs)) {r : retL (sg f).rs} (hr : callF f ys = some r) {d : Nat} {cs : List AC} {vs : Upd} (hp : parts d (sg f).rs r = (cs, vs)) (hnew : allNew rw vs = true) :
    Good C rw ε a w o (resOf cs) (us ++ vs) := by
  obtain ⟨k1, k2, k3, k4⟩ := toArgs_sound hM hS ha
  have hnewS := allNew_spec hnew
  have hus : ∀ m x, (m, x) ∈ us → x = none := fun m x hm => (k1 m x hm).1
  have hgu : ∀ m ∈ given us, ∃ z, row rw m = some z ∧ z.own = true := fun m hm => by
    obtain ⟨x, hx⟩ := mem_given.1 hm
    exact (k1 m x hx).2.2
  let S : Nat → Prop := fun b => ∃ r ∈ given us, (ε.sv r).ownBlock = some b
  have hSm : ∀ b, S b → C.mine b := by
    rintro b ⟨r, hr, hb⟩
    obtain ⟨z, hz, hzo⟩ := hgu r hr
    exact ((hM.ok r z hz).own hzo).2 b hb
  have hfar : ∀ r z, row rw r = some z → r ∉ given us → (z.own = true ∨ z.xs ≠ []) → ∀ b, (ε.sv r).ownBlock = some b → ¬ S b := by
    rintro r z hz hn hx b hb ⟨r', hr', hb'⟩
    obtain ⟨z', hz', hzo'⟩ := hgu r' hr'
    exact hM.sep r' z' r z hz' hzo' hz (fun e => hn (e ▸ hr')) hx b hb' hb
  have hargs := k2 S (fun r hr b hb => ⟨r, hr, hb⟩) (fun r _ hn z hz hx b hb => hfar r z hz hn (.inr hx) b hb)
  have hbelow : Below C.W0.heap.size C.W0 w := hC.below.trans (hM.pres.below hC.base hC.below.size)
  obtain ⟨henters, hcalls⟩ := hf ys r hr
  have hcall := hcalls w S _ hbelow (fun b hb => hC.base b (hSm b hb)) hargs k4
  intro next Q hn
  have hexec : (execOp a.eval o).run C.P w = .ok (.enter f (args.toList.map a.eval).toArray) w := by
    have := henters (args.map a.eval) w
    simp [execOp, ho, resolve, Deferred.ofValue, invoke, Act.eval, Result.andThen]
    simp [this]
    apply Array.ext'
    simp
  unfold Oper.wp
  rw [hexec, Oper.upon_enter]
  refine hcall.mono ?_
  rintro e w' ⟨Rs, rfl, h1, h2, h3⟩
  obtain ⟨ε', g1, g3, g4, g5, g6, g7, g8⟩ := parts_sound hp h1 h2 ε
  have hupd : updF rw (us ++ vs) = updF (updF rw us) vs := updF_append _ _ _
  have hdis : ∀ m ∈ given vs, m ∉ given us := fun m hm hm' => by
    obtain ⟨z, hz, _⟩ := hgu m hm'
    exact row_used hz (hnewS m hm)
  have husedU : ∀ m, rw m ≠ none → m ∉ given vs := fun m hm hm' => hm (hnewS m hm')
  refine hn (retV Rs) ε' w' (resOf_rel (fun c hc => ?_) g3) ⟨fun m hm => updF_used _ _ (.inl hm), fun m hm => (g1 m (husedU m hm)).1, fun m hm => (g1 m (husedU m hm)).2⟩ ?_
  · have hin : ∀ m, m ∈ given vs → updF rw (us ++ vs) m ≠ none := fun m hm => updF_used _ _ (.inr (by rw [given_append]; exact List.mem_append_right _ hm))
    have := g6 c hc
    cases c with
    | v t x => trivial
    | sl m => exact hin m this
    | pt m => exact ⟨hin m this.1, this.2⟩
  · rw [hupd]
    have rowOld : ∀ m, m ∉ given vs → row (updF (updF rw us) vs) m = row (updF rw us) m := fun m hm => by unfold row; rw [updF_notin _ _ hm]
    have rowNew : ∀ m x, (m, x) ∈ vs → row (updF (updF rw us) vs) m = x := fun m x hm => by
      unfold row
      rw [updF_in _ _ hm g4]
      cases x <;> rfl
    refine mem_step hC hM (N := fun m => m ∈ given vs) h3 (fun k _ h => hSm k h) (fun m x hrow hN => ?_) (fun m x hrow hN => ?_) (fun m x m' x' _ _ hN hN' hne => g8 m hN m' hN' hne)
    · rw [rowOld m hN] at hrow
      have hnu : m ∉ given us := fun hm => by
        unfold row at hrow
        rw [updF_kill _ _ hus hm] at hrow
        cases hrow
      have hrow' : row rw m = some x := by
        unfold row at hrow ⊢
        rw [updF_notin _ _ hnu] at hrow
        exact hrow
      exact ⟨hrow', (g1 m hN).1, (g1 m hN).2, hfar m x hrow' hnu⟩
    · obtain ⟨x', hx'⟩ := mem_given.1 hN
      rw [rowNew m x' hx'] at hrow
      subst hrow
      obtain ⟨z, j1, j2, j3, j4, j6⟩ := g7 m _ hx'
      cases j1
      refine ⟨⟨j3, fun _ => ⟨j4, fun b hb => ?_⟩, own_read j4⟩, j6⟩
      rcases j6 b hb with h | h
      · exact hSm b h
      · exact hC.new b (Nat.le_trans hM.pres.size h)
end
end Go.Ev

/- One operation of the evaluator, put together. -/
namespace Go.Ev
open Go.RowKit
section
variable {C : Ctx} {rw : RW} {ε : Env} {w w' : World} {g : Nat → Option AV} {a : Act} {o : Oper} {R : Type} {sg : FuncId → Sig} {callF : (f : FuncId) → argL (sg f).ps → Option (retL (sg f).rs)}
theorem loOf_rel {T : Tab} (hS : Slots rw ε g a) {L : Option Operand} {lo : Int} (hlo : loOf T g L = some lo) : (∃ k, L.map a.eval = some (.int k lo)) ∨ (L.map a.eval = none ∧ lo = 0) := by
  cases L with
  | none => cases hlo; exact .inr ⟨rfl, rfl⟩
  | some l =>
    obtain ⟨k, hk⟩ := opdInt_rel hS (show opdInt T g l = some lo from hlo)
    exact .inl ⟨k, by rw [Option.map_some, hk]⟩
theorem hiOf_rel {T : Tab} (hS : Slots rw ε g a) {H : Option Operand} {n hi : Int} (hlo : hiOf T g H n = some hi) : (∃ k, H.map a.eval = some (.int k hi)) ∨ (H.map a.eval = none ∧ hi = n) := by
  cases H with
  | none => cases hlo; exact .inr ⟨rfl, rfl⟩
  | some l =>
    obtain ⟨k, hk⟩ := opdInt_rel hS (show opdInt T g l = some hi from hlo)
    exact .inl ⟨k, by rw [Option.map_some, hk]⟩
theorem list1 {α : Type} {l : Array α} {x : α} (h : l.toList = [x]) : l = #[x] := by apply Array.ext'; simpa using h
theorem list2 {α : Type} {l : Array α} {x y : α} (h : l.toList = [x, y]) : l = #[x, y] := by apply Array.ext'; simpa using h
theorem oper_sound (hC : CtxOk C) (hF : ∀ f, CallOk C.P C.W0 sg callF f) (hM : Mem C rw ε w) (hS : Slots rw ε g a) {d : Nat} {K : AV → Upd → Option R} {r : R} (h : oper C.T sg callF g rw d o K = some r) :
    ∃ v us, K v us = some r ∧ Good C rw ε a w o v us := by
  unfold oper at h
  split at h
  · rename_i x hop
    split at h
    · rename_i av hx
      exact ⟨_, _, h, good_pure hM (V := a.eval x) (by simp [execOp, hop]) (opd_rel hS hx)⟩
    · cases h
  · rename_i x hop
    split at h
    · rename_i av hx
      exact ⟨_, _, h, good_pure hM (V := a.eval x) (by simp [execOp, hop]) (opd_rel hS hx)⟩
    · cases h
  · rename_i c x y hop
    split at h
    · rename_i c' xv yv hc hx hy
      have hc' : a.eval c = .bool c' := opd_rel hS hc
      cases c' with
      | true => exact ⟨_, _, h, good_pure hM (V := a.eval x) (by simp [execOp, hop, hc', asBool, Result.andThen]) (opd_rel hS hx)⟩
      | false => exact ⟨_, _, h, good_pure hM (V := a.eval y) (by simp [execOp, hop, hc', asBool, Result.andThen]) (opd_rel hS hy)⟩
    · cases h
  · rename_i op xt x y yt hop
    split at h
    · rename_i av bv hx hy
      obtain ⟨v, V, hk, hv, hr⟩ := binV_sound hC (x := x) (y := y) (w := w) (opd_rel hS hx) (opd_rel hS hy) h
      refine ⟨_, _, hk, good_pure hM (V := V) ?_ hv⟩
      have he : execOp a.eval o = (do pure (Next.value (← (do eqGuard op xt x y (a.eval x) (a.eval y); binOp op xt (a.eval x) (a.eval y)))) : Sem Next) := by
        unfold execOp
        rw [hop]
      rw [he, Sem.run_bind, hr]
      rfl
    · cases h
  · rename_i op t x hop
    split at h
    · rename_i b hx
      have hx' : a.eval x = .bool b := opd_rel hS hx
      exact ⟨_, _, h, good_pure hM (V := .bool (!b)) (by simp [execOp, hop, hx', Op.unary, Result.andThen]) rfl⟩
    · rename_i k n hx
      have hx' : a.eval x = .int k n := opd_rel hS hx
      exact ⟨_, _, h, good_pure hM (V := .int k (k.wrap (0 - n))) (by simp [execOp, hop, hx', Op.unary, Op.intArith, Result.andThen]) rfl⟩
    · cases h
  · rename_i t ps hop
    split at h
    · rename_i ty ht
      split at h
      · rename_i z hz
        obtain ⟨hst, hz⟩ := bif_some hz
        exact ⟨_, _, h, good_build hC hM hS hop ht hst hz⟩
      · cases h
    · cases h
  · rename_i t n ps hop
    split at h
    · rename_i ty e ht
      split at h
      · rename_i xs hxs
        obtain ⟨hb, h⟩ := bif_some h
        rw [Bool.and_eq_true, Bool.and_eq_true] at hb
        exact ⟨_, _, h, good_buildSlice hC hM hS hop ht hxs (Nat.eq_of_beq_eq_true hb.1.1) (Nat.le_of_ble_eq_true hb.2) (isNew_eq hb.1.2)⟩
      · cases h
    · cases h
  · rename_i e x hop
    split at h
    · rename_i ty t y ht hx
      obtain ⟨hb, h⟩ := bif_some h
      rw [Bool.and_eq_true] at hb
      have hb1 := Ty.beq_eq hb.1
      have hx' : a.eval x = t.val y := opd_rel hS hx
      rw [hb1] at ht
      exact ⟨_, _, h, good_box hC hM hop ht hx' (isNew_eq hb.2)⟩
    · cases h
  · rename_i e hop
    split at h
    · rename_i ty ht
      obtain ⟨hn, h⟩ := bif_some h
      exact ⟨_, _, h, good_alloc hC hM hop ht (isNew_eq hn)⟩
    · cases h
  · rename_i x hop
    split at h
    · rename_i q i hx
      exact ⟨_, _, h, (good_nilCheck hM hop).1 q i (opd_rel hS hx)⟩
    · rename_i q i j hx
      exact ⟨_, _, h, (good_nilCheck hM hop).2 q i j (opd_rel hS hx)⟩
    · cases h
  · rename_i t x i hop
    split at h
    · rename_i ty e av n ht hx hi
      obtain ⟨k, hi'⟩ := opdInt_rel hS hi
      split at h
      · rename_i q
        split at h
        · rename_i y hy
          obtain ⟨hb, h⟩ := bif_some h
          obtain ⟨h0, h⟩ := chk_some h
          obtain ⟨h1, h⟩ := chk_some h
          exact ⟨_, _, h, (good_indexAddr hC hM hop ht (opd_rel hS hx) hi' ((by simpa [hC.tab.lt, hC.tab.le, hC.tab.eqI, hC.tab.nle] using h0))).1 q y rfl hy (ty_eq hb) ((by simpa [hC.tab.lt, hC.tab.le, hC.tab.eqI, hC.tab.nle] using h1))⟩
        · cases h
      · rename_i q p lo hi''
        split at h
        · rename_i y hy
          obtain ⟨hb, h⟩ := bif_some h
          obtain ⟨h0, h⟩ := chk_some h
          obtain ⟨h1, h⟩ := chk_some h
          exact ⟨_, _, h, (good_indexAddr hC hM hop ht (opd_rel hS hx) hi' ((by simpa [hC.tab.lt, hC.tab.le, hC.tab.eqI, hC.tab.nle] using h0))).2 q p lo hi'' y rfl hy (ty_eq hb) ((by simpa [hC.tab.lt, hC.tab.le, hC.tab.eqI, hC.tab.nle] using h1))⟩
        · cases h
      · cases h
    · cases h
  · rename_i t x i hop
    split at h
    · rename_i s n ht hx hi
      obtain ⟨k, hi'⟩ := opdInt_rel hS hi
      obtain ⟨h0, h⟩ := chk_some h
      obtain ⟨h1, h⟩ := chk_some h
      exact ⟨_, _, h, good_index hC hM hop ht (opd_rel hS hx) hi' ((by simpa [hC.tab.lt, hC.tab.le, hC.tab.eqI, hC.tab.nle] using h0)) ((by simpa [hC.tab.lt, hC.tab.le, hC.tab.eqI, hC.tab.nle] using h1))⟩
    · cases h
  · rename_i s x j hop
    split at h
    · rename_i ty q i ht hx
      split at h
      · rename_i y hy
        obtain ⟨hb, h⟩ := bif_some h
        split at h
        · rename_i f hf
          exact ⟨_, _, h, good_fieldAddr hC hM hop ht hf (opd_rel hS hx) hy (ty_eq hb)⟩
        · cases h
      · cases h
    · cases h
  · rename_i s x j hop
    split at h
    · rename_i ty t y ht hx
      obtain ⟨hb, h⟩ := bif_some h
      have hb := Ty.beq_eq hb
      subst hb
      split at h
      · rename_i f hf
        have hx' : a.eval x = ty.val y := opd_rel hS hx
        refine ⟨_, _, h, good_pure hM (V := (ty.get j y).1.val (ty.get j y).2) ?_ rfl⟩
        simp [execOp, hop, hx', run_field hC ht hf y w, Result.andThen]
      · cases h
    · cases h
  · rename_i s x hop
    split at h
    · rename_i ty q i ht hx
      split at h
      · rename_i y hy
        obtain ⟨hb, h⟩ := bif_some h
        exact ⟨_, _, h, good_load hC hM hop ht (opd_rel hS hx) hy (ty_eq hb)⟩
      · cases h
    · rename_i ty q i j ht hx
      split at h
      · rename_i y hy
        obtain ⟨hb, h⟩ := bif_some h
        exact ⟨_, _, h, good_fload hC hM hop ht (opd_rel hS hx) hy (Ty.beq_eq hb)⟩
      · cases h
    · cases h
  · rename_i s x y hop
    split at h
    · rename_i ty q i t v ht hx hy
      split at h
      · rename_i z hz
        obtain ⟨hb, h⟩ := bif_some h
        rw [Bool.and_eq_true] at hb
        split at h
        · rename_i v' hv'
          obtain ⟨hc, hv'⟩ := cast?_eq (F := Ty.den) hv'
          have hv : a.eval y = t.val v := opd_rel hS hy
          subst hc
          subst hv'
          exact ⟨_, _, h, good_store hC hM hop ht (opd_rel hS hx) hz hb.1 (ty_eq hb.2) hv⟩
        · cases h
      · cases h
    · rename_i ty q i j t v ht hx hy
      split at h
      · rename_i z hz
        obtain ⟨hb, h⟩ := bif_some h
        rw [Bool.and_eq_true] at hb
        have hb2 := Ty.beq_eq hb.2
        subst hb2
        split at h
        · rename_i v' hv'
          exact ⟨_, _, h, good_fstore hC hM hop ht (opd_rel hS hx) hz hb.1 (opd_rel hS hy) hv'⟩
        · cases h
      · cases h
    · cases h
  · rename_i t x L H hop
    split at h
    · rename_i s lo hx hlo
      split at h
      · rename_i hi ht hhi
        obtain ⟨h0, h⟩ := chk_some h
        obtain ⟨h1, h⟩ := chk_some h
        obtain ⟨h2, h⟩ := chk_some h
        exact ⟨_, _, h, good_substr hC hM hop ht (opd_rel hS hx) ((by simpa [hC.tab.lt, hC.tab.le, hC.tab.eqI, hC.tab.nle] using h0)) ((by simpa [hC.tab.lt, hC.tab.le, hC.tab.eqI, hC.tab.nle] using h1)) ((by simpa [hC.tab.lt, hC.tab.le, hC.tab.eqI, hC.tab.nle] using h2)) (loOf_rel hS hlo) (hiOf_rel hS hhi)⟩
      · cases h
    · rename_i q lo hx hlo
      split at h
      · rename_i ty e y ht hy
        split at h
        · rename_i hi hhi
          obtain ⟨hb, h⟩ := bif_some h
          obtain ⟨h0, h⟩ := chk_some h
          obtain ⟨h1, h⟩ := chk_some h
          obtain ⟨h2, h⟩ := chk_some h
          exact ⟨_, _, h, (good_cut hC hM hop ht (opd_rel hS hx) ((by simpa [hC.tab.lt, hC.tab.le, hC.tab.eqI, hC.tab.nle] using h0)) ((by simpa [hC.tab.lt, hC.tab.le, hC.tab.eqI, hC.tab.nle] using h1)) (loOf_rel hS hlo)).1 q y rfl hy (ty_eq hb) ((by simpa [hC.tab.lt, hC.tab.le, hC.tab.eqI, hC.tab.nle] using h2)) (hiOf_rel hS hhi)⟩
        · cases h
      · cases h
    · rename_i q p l0 h0' lo hx hlo
      split at h
      · rename_i ty e y ht hy
        split at h
        · rename_i hi hhi
          obtain ⟨hb, h⟩ := bif_some h
          obtain ⟨h0, h⟩ := chk_some h
          obtain ⟨h1, h⟩ := chk_some h
          obtain ⟨h2, h⟩ := chk_some h
          exact ⟨_, _, h, (good_cut hC hM hop ht (opd_rel hS hx) ((by simpa [hC.tab.lt, hC.tab.le, hC.tab.eqI, hC.tab.nle] using h0)) ((by simpa [hC.tab.lt, hC.tab.le, hC.tab.eqI, hC.tab.nle] using h1)) (loOf_rel hS hlo)).2 q p l0 h0' y rfl hy (ty_eq hb) ((by simpa [hC.tab.lt, hC.tab.le, hC.tab.eqI, hC.tab.nle] using h2)) (hiOf_rel hS hhi)⟩
        · cases h
      · cases h
    · cases h
  · rename_i src dst x hop
    split at h
    · rename_i s hx
      split at h
      · rename_i e hs hd
        obtain ⟨hn, h⟩ := bif_some h
        obtain ⟨hl, h⟩ := chk_some h
        exact ⟨_, _, h, good_runes hC hM hop (opd_rel hS hx) hs hd ((by simpa [hC.tab.lt, hC.tab.le, hC.tab.eqI, hC.tab.nle] using hl)) (isNew_eq hn)⟩
      · rename_i e hs hd
        obtain ⟨hn, h⟩ := bif_some h
        exact ⟨_, _, h, good_toBytes hC hM hop (opd_rel hS hx) hs hd (isNew_eq hn)⟩
      · cases h
    · rename_i j n hx
      split at h
      · rename_i t k hs hd
        exact ⟨_, _, h, good_convInt hC hM hop hs hd (opd_rel hS hx)⟩
      · rename_i t hs hd
        exact ⟨_, _, h, good_i2f hC hM hop hs hd (opd_rel hS hx)⟩
      · cases h
    · rename_i n hx
      split at h
      · rename_i k hs hd
        obtain ⟨hk, h⟩ := chk_some h
        exact ⟨_, _, h, good_f2i hC hM hop hs hd (opd_rel hS hx) hk⟩
      · cases h
    · rename_i av _ _ _ hx
      split at h
      · rename_i e e' o' xs hn hs hd hl
        exact ⟨_, _, h, good_ofRunes hC hM hop hs hd (listOf_read hM (opd_rel hS hx) hl).1⟩
      · rename_i e e' o' xs hn hs hd hl
        exact ⟨_, _, h, good_ofBytes hC hM hop hs hd (listOf_read hM (opd_rel hS hx) hl).1⟩
      · rename_i e e' y xs hn hs hd hl
        split at h
        · rename_i q
          obtain ⟨hb, h2⟩ := bif_some h
          clear h
          have hsd := Nat.eq_of_beq_eq_true hb
          subst hsd
          exact ⟨_, _, h2, good_mark hC hM hop hs hl (opd_rel hS hx).2⟩
        · cases h
      · cases h
    · cases h
  · rename_i x j hop
    split at h
    · rename_i l hx
      split at h
      · rename_i t y hj
        exact ⟨_, _, h, (good_extract hM hop (opd_rel hS hx)).1 t y hj⟩
      · rename_i q hj
        exact ⟨_, _, h, (good_extract hM hop (opd_rel hS hx)).2.1 q hj⟩
      · rename_i q hj
        exact ⟨_, _, h, (good_extract hM hop (opd_rel hS hx)).2.2 q hj⟩
      · cases h
    · cases h
  · rename_i args ts hop
    split at h
    · rename_i x t ha ht'
      obtain rfl := list1 ha
      obtain rfl := list1 ht'
      split at h
      · rename_i s hx
        split at h
        · rename_i ht
          exact ⟨_, _, h, good_slen hC hM hop ht (opd_rel hS hx)⟩
        · cases h
      · rename_i av _ hx
        split at h
        · rename_i p n ht hn
          exact ⟨_, _, h, good_len hC hM hop ht (opd_rel hS hx) hn⟩
        · cases h
      · cases h
    · cases h
  · rename_i args ts hop
    split at h
    · rename_i x y t t' ha ht'
      obtain rfl := list2 ha
      obtain rfl := list2 ht'
      split at h
      · rename_i av bv ty e hx hy ht
        replace h := bif_some h
        obtain ⟨hb, h⟩ := h
        have hd := isNew_eq hb
        split at h
        · rename_i z hz
          split at h
          · rename_i ys hys
            have hys' : ∀ (xs : List ty.den) (V : Value), OwnV w ty e xs V → xs.length + ys.length < 1000000000000 → ∃ V' w', (Builtin.append_ #[t, t'] o.type #[V, a.eval y]).run C.P w = .ok V' w' ∧ OwnV w' ty e (xs ++ ys) V' ∧ Pres (fun k => some k = V.ownBlock) w w' ∧ ∀ g, V'.ownBlock = some g → some g = V.ownBlock ∨ w.heap.size ≤ g := by
              obtain ⟨hc, hys⟩ := cast?_eq (F := fun t => List t.den) hys
              unfold appOf at hz
              split at hz
              · rename_i s
                split at hz
                · rename_i hst
                  cases hz
                  have hc : Ty.int .u8 = ty := hc
                  subst hc
                  have hys : bytesI s = ys := hys
                  subst hys
                  intro xs V ho hb'
                  rw [show a.eval y = .string s from opd_rel hS hy]
                  exact run_apps hC ht hst ho (by rw [bytesI_length] at hb'; exact hb')
                · cases hz
              · obtain ⟨htt, hz2⟩ := bif_some hz
                clear hz
                have htt := Nat.eq_of_beq_eq_true htt
                subst htt
                have hrd := (listOf_read hM (opd_rel hS hy) hz2).1
                obtain ⟨zt, ze, zo, zx⟩ := z
                have hc : zt = ty := hc
                subst hc
                have hys : zx = ys := hys
                subst hys
                intro xs V ho hb'
                exact run_app hC ht ho hrd hb'
            have hg := good_append hC hM hop ht hys' hd (opd_rel hS hx)
            split at h
            · rename_i q
              split at h
              · rename_i u hu
                replace h := bif_some h
                obtain ⟨hb', h⟩ := h
                rw [Bool.and_eq_true] at hb'
                split at h
                · rename_i xs hxs
                  replace h := chk_some h
                  obtain ⟨hl, h⟩ := h
                  simp only [hC.tab.lt, hC.tab.le, hC.tab.eqI, hC.tab.nle] at hl
                  have hl := of_decide_eq_true hl
                  exact ⟨_, _, h, hg.1 q u rfl hu hb'.1 (Nat.eq_of_beq_eq_true hb'.2) xs (cast?_eq (F := fun t => List t.den) hxs) (by omega)⟩
                · cases h
              · cases h
            · rename_i q p lo hi
              split at h
              · rename_i u hu
                replace h := bif_some h
                obtain ⟨hb', h⟩ := h
                rw [Bool.and_eq_true] at hb'
                replace h := chk_some h
                obtain ⟨hlo, h⟩ := h
                simp only [hC.tab.lt, hC.tab.le, hC.tab.eqI, hC.tab.nle] at hlo
                have hlo := of_decide_eq_true hlo
                subst hlo
                split at h
                · rename_i xs hxs
                  replace h := chk_some h
                  obtain ⟨hl, h⟩ := h
                  simp only [hC.tab.lt, hC.tab.le, hC.tab.eqI, hC.tab.nle] at hl
                  have hl := of_decide_eq_true hl
                  exact ⟨_, _, h, hg.2.1 q p hi u rfl hu hb'.1 (Nat.eq_of_beq_eq_true hb'.2) xs (cast?_eq (F := fun t => List t.den) hxs) (by omega)⟩
                · cases h
              · cases h
            · obtain ⟨hl, h⟩ := chk_some h
              simp only [hC.tab.lt, hC.tab.le, hC.tab.eqI, hC.tab.nle] at hl
              have hl := of_decide_eq_true hl
              exact ⟨_, _, h, hg.2.2 _ _ rfl (by omega)⟩
            · cases h
          · cases h
        · cases h
      · cases h
    · cases h
  · rename_i args ts hop
    split at h
    · rename_i x y t t' ha ht'
      obtain rfl := list2 ha
      obtain rfl := list2 ht'
      split at h
      · rename_i av bv ty e hx hy ht
        split at h
        · rename_i z hz
          have hrd := (listOf_read hM (opd_rel hS hy) hz).1
          split at h
          · rename_i ys hys
            have hys' : ReadV w ty ys (a.eval y) := by
              obtain ⟨hc, hys⟩ := cast?_eq (F := fun t => List t.den) hys
              obtain ⟨zt, ze, zo, zx⟩ := z
              have hc : zt = ty := hc
              subst hc
              have hys : zx = ys := hys
              subst hys
              exact hrd
            have hg := good_copy hC hM hop ht hys' (opd_rel hS hx)
            split at h
            · rename_i q
              split at h
              · rename_i u hu
                replace h := bif_some h
                obtain ⟨hb', h⟩ := h
                rw [Bool.and_eq_true] at hb'
                split at h
                · rename_i xs hxs
                  exact ⟨_, _, h, hg.1 q u rfl hu hb'.1 (Nat.eq_of_beq_eq_true hb'.2) xs (cast?_eq (F := fun t => List t.den) hxs)⟩
                · cases h
              · cases h
            · rename_i q p lo hi
              split at h
              · rename_i u hu
                replace h := bif_some h
                obtain ⟨hb', h⟩ := h
                rw [Bool.and_eq_true] at hb'
                split at h
                · rename_i xs hxs
                  exact ⟨_, _, h, hg.2 q p lo hi u rfl hu hb'.1 (Nat.eq_of_beq_eq_true hb'.2) xs (cast?_eq (F := fun t => List t.den) hxs)⟩
                · cases h
              · cases h
            · cases h
          · cases h
        · cases h
      · cases h
    · cases h
  · rename_i f args ts hop
    replace h := (bif_some h).2
    split at h
    · rename_i ys us rs ha
      cases hr : callF f ys with
      | none => rw [hr] at h; cases h
      | some rr =>
        rw [hr] at h
        simp only [Option.bind_some] at h
        replace h := bif_some h
        obtain ⟨hn, h⟩ := h
        exact ⟨_, _, h, good_call hC hM hS (hF f) hop ha hr rfl hn⟩
    · cases h
  · rename_i t x y hop
    split at h
    · rename_i ty e l c ht hl hc
      obtain ⟨hn, h⟩ := bif_some h
      obtain ⟨h0, h⟩ := chk_some h
      obtain ⟨h1, h⟩ := chk_some h
      obtain ⟨h2, h⟩ := chk_some h
      obtain ⟨kl, hl'⟩ := opdInt_rel hS hl
      obtain ⟨kc, hc'⟩ := opdInt_rel hS hc
      exact ⟨_, _, h, good_make hC hM hop ht hl' hc' ((by simpa [hC.tab.lt, hC.tab.le, hC.tab.eqI, hC.tab.nle] using h0)) ((by simpa [hC.tab.lt, hC.tab.le, hC.tab.eqI, hC.tab.nle] using h1)) (by rw [hC.tab.lt] at h2; exact of_decide_eq_true h2) (isNew_eq hn)⟩
    · cases h
  · rename_i args ts hop
    split at h
    · rename_i x l ha
      split at h
      · rename_i k n hx
        split at h
        · rename_i m hm
          exact ⟨_, _, h, good_max hC hM hS hop ha (opd_rel hS hx) hm⟩
        · cases h
      · cases h
    · cases h
  · rename_i args ts hop
    split at h
    · rename_i x l ha
      split at h
      · rename_i k n hx
        split at h
        · rename_i m hm
          exact ⟨_, _, h, good_min hC hM hS hop ha (opd_rel hS hx) hm⟩
        · cases h
      · cases h
    · cases h
  · cases h
end
end Go.Ev

