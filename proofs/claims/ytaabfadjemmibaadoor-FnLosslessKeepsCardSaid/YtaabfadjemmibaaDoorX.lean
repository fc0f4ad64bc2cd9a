import Derived.Test.YtaabfadjemmibaaDoorWWords
import Derived.Laws.IdiomStrings
import Derived.Laws.Cover4
/-
Words of this session, beside the printer's: '[]rune(s)' makes a row of the call's own; 'string(l)' of a list of code points.
-/
namespace Go.Proofs.YtaabfadjemmibaaDoorX
open Go.RowKit Go.Proofs.YtaabfadjemmibaaDoorW.PrintWords

/-- The numbers of a list of values. -/
def intsOf (l : List Value) : List Int := l.map fun v => match v with | .int _ n => n | _ => 0
/-- The code points of a text, as '[]rune(s)' has them. -/
def runesI (s : ByteArray) : List Int := intsOf (Conv.runesFrom s s.size 0 #[]).toList
/-- The text of code points, as 'string(l)' has it. -/
def strOfRunes (l : List Int) : ByteArray := runesBytes l

theorem runesFrom_all (s : ByteArray) : ∀ (b i : Nat) (acc : Array Value), (∀ v ∈ acc.toList, ∃ n, v = .int .i32 n) → ∀ v ∈ (Conv.runesFrom s b i acc).toList, ∃ n, v = .int .i32 n
  | 0, _, acc, h => by simpa [Conv.runesFrom] using h
  | b + 1, i, acc, h => by
    unfold Conv.runesFrom
    split
    · exact runesFrom_all s b _ _ (by
        intro v hv
        rw [Array.toList_push] at hv
        rcases List.mem_append.1 hv with hv | hv
        · exact h v hv
        · exact ⟨_, List.mem_singleton.1 hv⟩)
    · exact h
theorem nums_intsOf (l : List Value) (h : ∀ v ∈ l, ∃ n, v = .int .i32 n) : nums .i32 (intsOf l) = l := by
  unfold nums intsOf
  rw [List.map_map]
  conv => rhs; rw [← List.map_id l]
  apply List.map_congr_left
  intro v hv
  obtain ⟨n, rfl⟩ := h v hv
  rfl
theorem nums_runesI (s : ByteArray) : nums .i32 (runesI s) = (Conv.runesFrom s s.size 0 #[]).toList := nums_intsOf _ (runesFrom_all s _ _ _ (by simp))
theorem runesI_length (s : ByteArray) : (runesI s).length = (Conv.runesFrom s s.size 0 #[]).size := by
  have := congrArg List.length (nums_runesI s)
  simpa [nums] using this
theorem runesI_length_le (s : ByteArray) : (runesI s).length ≤ s.size := by
  rw [runesI_length]
  have := size_runesFrom s s.size 0 #[]
  simpa using this

section
variable {P : Program} {ops : Array Oper} {rest : List Oper} {o : Oper} {a : Act} {Q : Exit → Act → World → Prop}
theorem Kd.R_runes {w0 W : World} (base e : Nat) (hgd : o.guard = none) {N : Tmp} (_hd : o.dst = some N) (src dst : TypeId) (x : Operand) (ho : o.op = .convert src dst x) (s : ByteArray) (hx : a.eval x = .string s)
    (hs : P.underlying src = some .string) (ht : P.underlying dst = some (.slice e)) (he : P.underlying e = some (.int .i32)) (_hinfo : (P.info? e).map (fun i => (i.zero, i.size, i.bytes)) = some (some (.int .i32 0), 1, 4))
    {ok okp : Nat → Prop} (_hok : ∀ k, okp k → ok k) (hfresh : ok W.heap.size) (hl : (runesI s).length ≤ 70368744177664) (HB : Below base w0 W) (hbase : base ≤ W.heap.size)
    (h : ∀ v1 w1, (Kd.int .i32).R e w1 base ok v1 (runesI s) → Below base w0 w1 → W.grownBy w1 none → (∃ b, v1.ownBlock = some b ∧ W.heap.size ≤ b) → wpList P ops Q rest (a.put o.dst v1) w1) : wpList P ops Q (o :: rest) a W := by
  have hr := run_runes_of_string (P := P) W src dst e s hs ht he (by rw [← runesI_length]; exact hl)
  have hcm : grownCap W (Conv.runesFrom s s.size 0 #[]).size 0 e ≤ maxLen := grownCap_le_maxLen W _ 0 e (by rw [← runesI_length]; simp only [maxLen]; omega)
  have hcg := grownCap_ge W (Conv.runesFrom s s.size 0 #[]).size 0 e
  generalize hcap : grownCap W (Conv.runesFrom s s.size 0 #[]).size 0 e = cap at hr hcm hcg
  refine Kd.event_run hgd (w1 := W.drew.alloc (.cells (Conv.runesFrom s s.size 0 #[] ++ Array.replicate (cap - (Conv.runesFrom s s.size 0 #[]).size) (.int .i32 0)) e)) (v := .slice (some ⟨W.heap.size, 0, none⟩) (Conv.runesFrom s s.size 0 #[]).size cap) ?_ (h _ _ (Kd.R_of_own (enc := Value.int .i32) (h1 := fun _ => rfl) ?_ ?_) ((below_drew HB).alloc hbase _) ?_ ⟨W.heap.size, by simp [Value.ownBlock], Nat.le_refl _⟩)
  · simp [execOp, ho, hx, hr]
  · refine ⟨by simp [encs], .inr ⟨W.heap.size, cap, _, ?_, hbase, heap_alloc_new _ _, ?_, hcm, ?_, ?_⟩⟩
    · rw [runesI_length]
    · rw [runesI_length]; exact hcg
    · simp; omega
    · have h1 : encs (Value.int .i32) (runesI s) = (Conv.runesFrom s s.size 0 #[]).toList := nums_runesI s
      rw [h1, runesI_length]
      simp
  · intro k hk
    have : W.heap.size = k := by simpa [Value.ownBlock] using hk
    subst this
    exact hfresh
  · exact ⟨rfl, rfl, rfl, by simp, fun k hk _ => heap_alloc_old W.drew _ hk⟩
end

theorem Kd.R_ne_gb {α : Type} {d : Kd α} {e base : Nat} {ok : Nat → Prop} {v : Value} {xs : List α} {w : World} (h : d.R e w base ok v xs) {g : Nat} (hg : g = w.heap.size) : some g ≠ v.ownBlock := by
  subst hg
  exact Kd.R_ne_new h 0
theorem cut_0to {P : Program} (t e : TypeId) (kh : IntKind) {i : TypeInfo} (ht : P.underlying t = some (.slice e)) (hi : P.info? e = some i) (A : Option Addr) (n c : Nat) (j : Int) (h0 : 0 ≤ j) (hm : j ≤ n) (hc : n ≤ c) :
    ∀ W : World, (Instr.slice t (.slice A n c) (some (.int .i64 0)) (some (.int kh j)) none).run P W = .ok (.slice A j.toNat c) W := by
  intro W
  rw [cut_mid t e .i64 kh ht hi i.size rfl A n c 0 j (Int.le_refl 0) h0 hm hc W]
  have h1 : (A.map (·.add (Int.toNat 0 * i.size))) = A := by
    cases A with
    | none => rfl
    | some a => simp [Addr.add]
  rw [h1]
  simp
/-! ### Floats, as the model has them: a whole number written as one, and back; comparisons -/
def i2f (n : Int) : Nat := FloatKind.f64.nearest n
def f2i (b : Nat) : Int := ((FloatKind.f64.decode b).toInt .zero).getD 0
def f2iOk (b : Nat) : Bool := match (FloatKind.f64.decode b).toInt .zero with
  | some n => decide (IntKind.i64.min ≤ n ∧ n ≤ IntKind.i64.max)
  | none => false
def fcmp (x y : Nat) : Option Ordering := FloatKind.f64.format.order x y
def flt (x y : Nat) : Bool := fcmp x y == some .lt
def fle (x y : Nat) : Bool := fcmp x y == some .lt || fcmp x y == some .eq
def fgt (x y : Nat) : Bool := fcmp x y == some .gt
def fge (x y : Nat) : Bool := fcmp x y == some .gt || fcmp x y == some .eq
def feq (x y : Nat) : Bool := fcmp x y == some .eq
def fne (x y : Nat) : Bool := fcmp x y != some .eq
section
variable {P : Program}
theorem run_i2f {src dst : TypeId} (hs : P.underlying src = some (.int .i64)) (hd : P.underlying dst = some (.float .f64)) (n : Int) : ∀ w : World, (convert src dst (.int .i64 n)).run P w = .ok (.float .f64 (i2f n)) w := by
  intro w
  simp [convert, run_underlying hs, run_underlying hd, Conv.intToFloat, i2f, Sem.run_pure]
theorem run_f2i {src dst : TypeId} (hs : P.underlying src = some (.float .f64)) (hd : P.underlying dst = some (.int .i64)) (b : Nat) (h : f2iOk b = true) : ∀ w : World, (convert src dst (.float .f64 b)).run P w = .ok (.int .i64 (f2i b)) w := by
  intro w
  unfold f2iOk at h
  unfold f2i
  split at h
  · rename_i n hn
    have h' := of_decide_eq_true h
    simp [convert, run_underlying hs, run_underlying hd, Conv.floatToInt, hn, h', Sem.run_pure]
    intro hlt
    have h2 : n ≤ 9223372036854775807 := h'.2
    omega
  · cases h
theorem run_fle {t : TypeId} (_ht : P.underlying t = some (.float .f64)) (x y : Nat) : ∀ w : World, (binOp .leq t (.float .f64 x) (.float .f64 y)).run P w = .ok (.bool (fle x y)) w := by
  intro w
  simp [binOp, Op.floatCmp, fle, fcmp, Sem.run_pure]
theorem run_flt {t : TypeId} (_ht : P.underlying t = some (.float .f64)) (x y : Nat) : ∀ w : World, (binOp .lss t (.float .f64 x) (.float .f64 y)).run P w = .ok (.bool (flt x y)) w := by
  intro w
  simp [binOp, Op.floatCmp, flt, fcmp, Sem.run_pure]
theorem run_fge {t : TypeId} (_ht : P.underlying t = some (.float .f64)) (x y : Nat) : ∀ w : World, (binOp .geq t (.float .f64 x) (.float .f64 y)).run P w = .ok (.bool (fge x y)) w := by
  intro w
  simp [binOp, Op.floatCmp, fge, fcmp, Sem.run_pure]
theorem run_fgt {t : TypeId} (_ht : P.underlying t = some (.float .f64)) (x y : Nat) : ∀ w : World, (binOp .gtr t (.float .f64 x) (.float .f64 y)).run P w = .ok (.bool (fgt x y)) w := by
  intro w
  simp [binOp, Op.floatCmp, fgt, fcmp, Sem.run_pure]
/-- A sum, difference, product, quotient of two floats, where it is no NaN. -/
def fop (op : Nat) (x y : Nat) : Option Nat := match op with
  | 0 => FloatKind.f64.format.add x y
  | 1 => FloatKind.f64.format.sub x y
  | 2 => FloatKind.f64.format.mul x y
  | _ => FloatKind.f64.format.div x y
def fval (op : Nat) (x y : Nat) : Nat := (fop op x y).getD 0
theorem run_fquo {t : TypeId} (_ht : P.underlying t = some (.float .f64)) (x y : Nat) (h : (fop 3 x y).isSome = true) : ∀ w : World, (binOp .quo t (.float .f64 x) (.float .f64 y)).run P w = .ok (.float .f64 (fval 3 x y)) w := by
  intro w
  obtain ⟨r, hr⟩ := Option.isSome_iff_exists.1 h
  have hr' : FloatKind.f64.format.div x y = some r := hr
  simp [binOp, Op.floatArith, fval, fop, hr', Sem.run_pure]
theorem run_fadd {t : TypeId} (_ht : P.underlying t = some (.float .f64)) (x y : Nat) (h : (fop 0 x y).isSome = true) : ∀ w : World, (binOp .add t (.float .f64 x) (.float .f64 y)).run P w = .ok (.float .f64 (fval 0 x y)) w := by
  intro w
  obtain ⟨r, hr⟩ := Option.isSome_iff_exists.1 h
  have hr' : FloatKind.f64.format.add x y = some r := hr
  simp [binOp, Op.floatArith, fval, fop, hr', Sem.run_pure]
end
section
variable {P : Program} {ops : Array Oper} {rest : List Oper} {o : Oper} {a : Act} {Q : Exit → Act → World → Prop}
/-- 'make([]T, 0, n)'. -/
theorem Kd.R_make0 {α : Type} (d : Kd α) {w0 W : World} (base e : Nat) (hgd : o.guard = none) {N : Tmp} (_hd : o.dst = some N) (t : TypeId) (x y : Operand) (ho : o.op = .makeSlice t x y) (n : Int) (hx : a.eval x = .int .i64 0) (hy : a.eval y = .int .i64 n)
    (ht : P.underlying t = some (.slice e)) (z : Value) (bytes : Nat) (hinfo : (P.info? e).map (fun i => (i.zero, i.size, i.bytes)) = some (some z, d.sz, bytes)) (hb0 : 0 < bytes)
    {ok okp : Nat → Prop} (_hok : ∀ k, okp k → ok k) (hfresh : ok W.heap.size) (h0 : 0 ≤ n) (hl : n.toNat * bytes ≤ 281474976710656) (HB : Below base w0 W) (hbase : base ≤ W.heap.size)
    (h : ∀ v1 w1, d.R e w1 base ok v1 ([] : List α) → Below base w0 w1 → W.grownBy w1 none → (∃ b, v1.ownBlock = some b ∧ W.heap.size ≤ b) → wpList P ops Q rest (a.put o.dst v1) w1) : wpList P ops Q (o :: rest) a W := by
  obtain ⟨m, rfl⟩ := Int.eq_ofNat_of_zero_le h0
  simp only [Int.toNat_natCast] at hl
  obtain ⟨i0, hi, hzz⟩ := Option.map_eq_some_iff.1 hinfo
  simp only [Prod.mk.injEq] at hzz
  obtain ⟨hz0, hz1, hz2⟩ := hzz
  have hm : m ≤ 281474976710656 := Nat.le_trans (Nat.le_mul_of_pos_right _ hb0) hl
  have hr := run_make (P := P) W t e i0 z ht hi hz0 .i64 .i64 (0 : Int) (m : Int) (by omega) (by omega)
    (by
      have h3 : ((i0.bytes * m : Nat) : Int) ≤ 281474976710656 := by rw [hz2, Nat.mul_comm]; omega
      rwa [Int.natCast_mul] at h3) (by omega)
  simp only [Int.toNat_natCast, Int.toNat_zero] at hr
  rw [hz1] at hr
  refine Kd.event_run hgd (w1 := W.alloc (.cells (madeCells z.cells (m * d.sz)) e)) (v := .slice (some ⟨W.heap.size, 0, none⟩) 0 m) ?_ (h _ _ ⟨fun k hk => ?_, [], ⟨by simp, .inr ⟨W.heap.size, m, _, rfl, hbase, heap_alloc_new _ _, Nat.zero_le _, by simp only [maxLen]; omega, by simp [size_madeCells], by simp⟩⟩, Reps.none _ _⟩ (HB.alloc hbase _) (World.grownBy_alloc W _ none) ⟨W.heap.size, by simp [Value.ownBlock], Nat.le_refl _⟩)
  · simp [execOp, ho, hx, hy, hr]
  · have : W.heap.size = k := by simpa [Value.ownBlock] using hk
    subst this
    exact hfresh
end
theorem Kd.Q_append_rows {α : Type} (d : Kd α) {Rr : α → List Value → Prop} {P : Program} {ops : Array Oper} {rest : List Oper} {o : Oper} {a : Act} {Q : Exit → Act → World → Prop} {w0 W : World} (base : Nat) (hgd : o.guard = none) (s x : Operand) (t e : TypeId) (z : Value) (bytes : Nat)
    (ho : o.op = .call { callee := .builtin .append, args := #[s, x], argTypes := #[t, t] })
    (ht : P.underlying t = some (.slice e)) (hinfo : (P.info? e).map (fun i => (i.zero, i.size, i.bytes)) = some (some z, d.sz, bytes)) (hz : z.cells.size = d.sz) (hs0 : 0 < d.sz) (hb0 : 0 < bytes)
    (v : Value) (xs ys : List α) (A : Option Addr) (m c : Nat) (ok okp : Nat → Prop) (hs : a.eval s = v) (hx : a.eval x = .slice A m c)
    (HO : d.Q e W base ok v xs) (HR : ReadsRow Rr d.sz W A m ys) (hKM : ∀ x cs, Rr x cs → d.M W base okp x cs) (hokp : ∀ k, okp k → ok k ∧ some k ≠ v.ownBlock) (hfresh : ∀ k, W.heap.size ≤ k → ok k)
    (HB : Below base w0 W) (hbase : base ≤ W.heap.size) (hl : (xs.length + m) * bytes ≤ 140737488355328)
    (h : ∀ v1 w1, d.Q e w1 base ok v1 (xs ++ ys) → Below base w0 w1 → W.grownBy w1 v.ownBlock → (v1.ownBlock = v.ownBlock ∨ ∃ b, v1.ownBlock = some b ∧ W.heap.size ≤ b) → wpList P ops Q rest (a.put o.dst v1) w1) :
    wpList P ops Q (o :: rest) a W := by
  obtain ⟨i0, hi, hzz⟩ := Option.map_eq_some_iff.1 hinfo
  simp only [Prod.mk.injEq] at hzz
  obtain ⟨hz0, hz1, hz2⟩ := hzz
  have hm : ys.length = m := HR.1
  have hlen : xs.length + m ≤ 140737488355328 := Nat.le_trans (Nat.le_mul_of_pos_right _ hb0) hl
  obtain ⟨hok, inner, hown, hr⟩ := HO
  have hrun : ∃ v1 w1, (Builtin.append_ #[t, t] o.type #[v, .slice A m c]).run P W = .ok v1 w1 ∧ d.Q e w1 base ok v1 (xs ++ ys) ∧ W.grownBy w1 v.ownBlock ∧ (v1.ownBlock = v.ownBlock ∨ ∃ b, v1.ownBlock = some b ∧ W.heap.size ≤ b) := by
    rcases Nat.eq_zero_or_pos m with h0 | h0
    · subst h0
      obtain rfl : ys = [] := List.eq_nil_of_length_eq_zero hm
      refine ⟨v, W, ?_, by rw [List.append_nil]; exact ⟨hok, inner, hown, hr⟩, World.grownBy.refl W _, .inl rfl⟩
      have hl0 : ∀ b, (loadCells b 0).run P W = .ok #[] W := fun b => by simpa using run_loadCells_list (P := P) W b [] (by simp)
      rcases hown.2 with ⟨hn, A', rfl, _⟩ | ⟨g, off, cap, cur, rfl, _, _, hnc, _⟩
      · cases A <;> cases A' <;> simp [hl0, Result.andThen, Builtin.append_, run_underlying ht, sizeOf, typeInfo, hi, Builtin.lenOf, Builtin.firstCells, storeCells]
      · cases A <;> simp [hl0, Result.andThen, Builtin.append_, run_underlying ht, sizeOf, typeInfo, hi, Builtin.lenOf, Builtin.firstCells, hnc, storeCells]
    · obtain ⟨ad, rfl, _⟩ := HR.2.2 h0
      obtain ⟨news, hnr, hnc⟩ := ReadsRow.inner_ HR
      have hnM : Reps (d.M W base okp) d.sz ys news := hnr.imp_ (fun p c hp => hKM p c hp)
      have hone : ∀ u ∈ news, u.oneCell' = true := by
        intro u hu
        obtain ⟨q, hq, rfl⟩ := List.mem_iff_getElem.1 hu
        have hql : q / d.sz < ys.length := by
          rw [Nat.div_lt_iff_lt_mul hs0]
          rw [← hnM.1]
          exact hq
        have hc := hnM.2 (q / d.sz) _ (List.getElem?_eq_getElem hql)
        refine d.K_one (d.K_of_M hc) _ ?_
        rw [List.mem_iff_getElem?]
        refine ⟨q % d.sz, ?_⟩
        rw [List.getElem?_take, if_pos (Nat.mod_lt _ hs0), List.getElem?_drop, Nat.mul_comm, Nat.div_add_mod, List.getElem?_eq_getElem hq]
      obtain ⟨v1, w1, hrun, h2, hg, hat'⟩ := q_append (P := P) W base t o.type e i0 z d.sz bytes ht hi hz0 hz1 hz2 hz hs0 v xs.length inner hown ad m c news (by rw [hnM.1, hm]) hnc hone h0 (by simp only [maxLen]; omega) hl hbase
      have hne : ∀ k, some k ≠ v.ownBlock → k < W.heap.size → some k ≠ v1.ownBlock := by
        intro k hk hlt
        rcases hat' with hat | ⟨b, hb, hle⟩
        · rw [hat]; exact hk
        · rw [hb]
          intro he
          injection he with he
          omega
      have step : ∀ {q : α} {c : List Value} {o : Nat → Prop}, d.M W base o q c → (∀ k, o k → ok k ∧ some k ≠ v.ownBlock) → d.M w1 base (fun k => ok k ∧ some k ≠ v1.ownBlock) q c := by
        intro q c o hq ho
        have h1 := d.M_move (w1 := w1) (fun k hk => hg.block k hk.2.2.1 (ho k hk.1).2) (d.M_bound hq)
        exact d.M_mono (fun k hk => ⟨(ho k hk.1).1, hne k (ho k hk.1).2 hk.2.2.1⟩) h1
      refine ⟨v1, w1, hrun, ⟨fun k hk => ?_, inner ++ news, by rw [List.length_append, hm]; exact h2, Kd.reps_append (hr.imp_ (fun _ _ hq => step hq (fun _ hk => hk))) (hnM.imp_ (fun _ _ hq => step hq hokp))⟩, hg, hat'⟩
      rcases hat' with hat | ⟨b, hb, hle⟩
      · exact hok k (hat ▸ hk)
      · rw [hb] at hk
        injection hk with hk
        exact hfresh k (by omega)
  obtain ⟨v1, w1, hrun, hq1, hg, hat⟩ := hrun
  refine wpList_plain hgd fun K hK => ?_
  unfold Oper.wp execOp
  simp only [ho, resolve, invoke, builtin, Sem.run_bind, Sem.run_pure, Result.andThen_ok, List.map_toArray, List.map_cons, List.map_nil, hs, hx, hrun]
  exact hK _ _ (h v1 w1 hq1 (HB.grown hg hbase (fun k hk => (q_typed hown k hk).1)) hg hat)

theorem runes_string_of_cells {P : Program} {w : World} {src dst e : TypeId} {n c : Nat} {A : Option Addr} {xs : List Int} (hs : P.underlying src = some (.slice e)) (he : P.underlying e = some (.int .i32)) (hd : P.underlying dst = some .string)
    (h : ReadsInt w .i32 A n xs) : (convert src dst (.slice A n c)).run P w = .ok (.string (strOfRunes xs)) w := by
  obtain ⟨hn, hm, hc⟩ := h
  rcases A with _ | ad
  · have h0 : n = 0 := by
      rcases Nat.eq_zero_or_pos n with h | h
      · exact h
      · obtain ⟨_, e, _⟩ := hc h; cases e
    subst h0
    obtain rfl : xs = [] := List.eq_nil_of_length_eq_zero hn
    exact run_convert_runes_nil w src dst e 0 c hs he hd
  · have hcell : ∀ j, j < xs.length → w.cell? (ad.add j) = some (.int .i32 (xs.getD j 0)) := by
      intro j hj
      obtain ⟨ad', e, hc'⟩ := hc (by omega)
      cases e
      exact hc' j (by omega)
    have := run_convert_runes (P := P) w src dst e ad n c xs (by omega) hs he hd hcell
    rwa [List.take_of_length_le (by omega)] at this
theorem own_runes_string {P : Program} {w : World} {base n : Nat} {e' src dst e : TypeId} {v : Value} {xs : List Int} (hs : P.underlying src = some (.slice e)) (he : P.underlying e = some (.int .i32)) (hd : P.underlying dst = some .string)
    (h : w.ownsRow base e' 1 v n (nums .i32 xs)) : (convert src dst v).run P w = .ok (.string (strOfRunes xs)) w := by
  have hl : xs.length = n := by have := h.1; simp [nums] at this; exact this
  rcases h.2 with ⟨rfl, rfl⟩ | ⟨g, cap, cur, rfl, _, _, hnc, hcm, _⟩
  · obtain rfl : xs = [] := List.eq_nil_of_length_eq_zero hl
    exact run_convert_runes_nil w src dst e 0 0 hs he hd
  · refine runes_string_of_cells hs he hd ⟨hl, by simp only [maxLen] at hcm; omega, fun _ => ⟨_, rfl, fun i hi => ?_⟩⟩
    exact h.cells (g := g) rfl i (.int .i32 (xs.getD i 0)) (by simp [nums, List.getElem?_eq_getElem (show i < xs.length by omega), List.getD_eq_getElem?_getD])
theorem Kd.C_runes_string {P : Program} {w : World} {src dst e : TypeId} {A : Option Addr} {n c : Nat} {xs : List Int} (hs : P.underlying src = some (.slice e)) (he : P.underlying e = some (.int .i32)) (hd : P.underlying dst = some .string)
    (h : (Kd.int .i32).C w A n xs) : (convert src dst (.slice A n c)).run P w = .ok (.string (strOfRunes xs)) w :=
  runes_string_of_cells hs he hd (by
    have h' := Kd.reads_of_C (enc := Value.int .i32) (d := (0 : Int)) (h1 := fun _ => rfl) h
    exact ⟨h'.1, h'.2.1, fun hn => h'.2.2 hn⟩)
/-- So many of n have come up, in their order. -/
abbrev tf (k n : Nat) : Array Bool := (List.replicate k true ++ List.replicate (n - k) false).toArray
end Go.Proofs.YtaabfadjemmibaaDoorX
