import Derived.Test.YtfefjbifdbfmjaaDoorEv2
import Derived.Deep.Slices
import Derived.ProofKit
import Derived.ChangeOld
/- An evaluator of the model, and that it is sound: part 3 of 3. -/
set_option linter.unusedVariables false
set_option linter.unusedSimpArgs false
/-
The evaluator of regions, code and functions: the definitions.
-/
namespace Go.Ev
section
variable (T : Tab) (sg : FuncId → Sig) (callF : (f : FuncId) → argL (sg f).ps → Option (retL (sg f).rs)) {R : Type}
def putS (sl : List (Nat × AV)) (dst : Option Nat) (v : AV) : List (Nat × AV) := match dst with
  | some d => set sl d v
  | none => sl
def dstOk (nt : Nat) : Option Nat → Bool
  | some d => Nat.blt d nt
  | none => true
def dstN : Option Nat → Nat
  | some d => d
  | none => 0
def step (nt : Nat) (s : St) (o : Oper) (K : St → Option R) : Option R :=
  bif dstOk nt o.dst then oper T sg callF (look s.sl) (look s.rows) (dstN o.dst) o fun v us => K ⟨putS s.sl o.dst v, upd s.rows us⟩ else none
def skipS (nt : Nat) (s : St) (o : Oper) (K : St → Option R) : Option R :=
  bif dstOk nt o.dst then K ⟨putS s.sl o.dst .u, s.rows⟩ else none
def nthO : List Oper → Nat → Option Oper
  | [], _ => none
  | o :: _, 0 => some o
  | _ :: l, n + 1 => nthO l n
def guardS (all : List Oper) (j : Nat) : Option Nat := match nthO all j with
  | some o => o.dst
  | none => none
def ops (nt : Nat) (all : List Oper) (l : List Oper) (s : St) (K : St → Option R) : Option R :=
  match l with
  | [] => K s
  | o :: l => match o.guard with
    | none => step T sg callF nt s o fun s => ops nt all l s K
    | some (j, want) => (match guardS all j with
      | some d => (match look s.sl d with
          | some (.v .bool b) => (match want with
            | true => br b (step T sg callF nt ⟨set s.sl d (.v .bool true), s.rows⟩ o fun s => ops nt all l s K) (skipS nt ⟨set s.sl d (.v .bool false), s.rows⟩ o fun s => ops nt all l s K)
            | false => br b (skipS nt ⟨set s.sl d (.v .bool true), s.rows⟩ o fun s => ops nt all l s K) (step T sg callF nt ⟨set s.sl d (.v .bool false), s.rows⟩ o fun s => ops nt all l s K))
          | some .u => skipS nt s o fun s => ops nt all l s K
          | _ => none)
      | none => none)
/-- What is live, in the order of the list. -/
def only {α : Type} : List Nat → List (Nat × α) → List (Nat × α)
  | [], _ => []
  | n :: lv, l => bif mem n lv then only lv l else (match look l n with
    | some a => (n, a) :: only lv l
    | none => only lv l)
/-- Rows named anew by the first temporary that holds them; a part of a row becomes a row that is read. -/
def ren (m : List (Nat × Nat)) (r : Nat) : Option Nat := match m with
  | [] => none
  | (a, b) :: l => bif Nat.beq a r then some b else ren l r
/-- Is a part of the row kept ahead of the row itself? -/
def isCut (r : Nat) : List (Nat × AV) → Bool
  | [] => false
  | (_, .cut q _ _ _) :: l => bif Nat.beq q r then true else isCut r l
  | (_, .sl q) :: l => bif Nat.beq q r then false else isCut r l
  | (_, .ptr q _) :: l => bif Nat.beq q r then false else isCut r l
  | _ :: l => isCut r l
/-- How many slots speak of a row. -/
def speaks (r : Nat) : AV → Bool
  | .sl q => Nat.beq q r
  | .cut q _ _ _ => Nat.beq q r
  | .ptr q _ => Nat.beq q r
  | _ => false
def cnt (r : Nat) : List (Nat × AV) → Nat
  | [] => 0
  | (_, av) :: l => bif speaks r av then cnt r l + 1 else cnt r l
/-- all: all slots that stay; m: which row has which new name. -/
def keep (rows : List (Nat × Option Row)) (all : List (Nat × AV)) : List (Nat × AV) → List (Nat × Nat) → Option (List (Nat × AV) × List (Nat × Option Row))
  | [], _ => some ([], [])
  | (n, .sl r) :: l, m => (match ren m r with
    | some q => (match keep rows all l m with
      | some (sl, rs) => some ((n, .sl q) :: sl, rs)
      | none => none)
    | none => (match row (look rows) r, keep rows all l ((r, n) :: m) with
      | some w, some (sl, rs) => some ((n, .sl n) :: sl, (n, some ⟨w.t, w.e, bif isCut r all then false else w.own, w.xs⟩) :: rs)
      | _, _ => none))
  | (n, .ptr r i) :: l, m => (match ren m r with
    | some q => (match keep rows all l m with
      | some (sl, rs) => some ((n, .ptr q i) :: sl, rs)
      | none => none)
    | none => (match row (look rows) r, keep rows all l ((r, n) :: m) with
      | some w, some (sl, rs) => some ((n, .ptr n i) :: sl, (n, some ⟨w.t, w.e, bif isCut r all then false else w.own, w.xs⟩) :: rs)
      | _, _ => none))
  | (n, .cut r p lo hi) :: l, m => (match ren m r with
    | some q => (match keep rows all l m with
      | some (sl, rs) => some ((n, .cut q p lo hi) :: sl, rs)
      | none => none)
    | none => (match row (look rows) r, keep rows all l m with
      | some w, some (sl, rs) => bif w.own && p && Nat.beq (cnt r all) 1 then some ((n, .sl n) :: sl, (n, some ⟨w.t, w.e, true, w.xs.take hi.toNat⟩) :: rs)
        else some ((n, .sl n) :: sl, (n, some ⟨w.t, w.e, false, (w.xs.drop lo.toNat).take (hi.toNat - lo.toNat)⟩) :: rs)
      | _, _ => none))
  | (n, .v t x) :: l, m => (match keep rows all l m with
      | some (sl, rs) => some ((n, .v t x) :: sl, rs)
      | none => none)
  | (n, .op) :: l, m => (match keep rows all l m with
      | some (sl, rs) => some ((n, .op) :: sl, rs)
      | none => none)
  | (n, .nilP) :: l, m => (match keep rows all l m with
      | some (sl, rs) => some ((n, .nilP) :: sl, rs)
      | none => none)
  | (n, .nilS t e) :: l, m => (match keep rows all l m with
      | some (sl, rs) => some ((n, .sl n) :: sl, (n, some ⟨t, e, true, []⟩) :: rs)
      | none => none)
  | (_, _) :: _, _ => none
def cutTo (lv : List Nat) (s : St) (K : St → Option R) : Option R := match keep s.rows (only lv s.sl) (only lv s.sl) [] with
  | some (sl, rows) => K ⟨sl, rows⟩
  | none => none
inductive Out where
  | normal | exit (id : Nat) | ret
variable (live : Nat → Option (List Nat))
def reg : Code → Nat
  | .region id _ _ => id
  | .seq a _ => reg a
  | .block _ a => reg a
  | .loop _ => 1000000
  | .scope a => reg a
  | .cond _ a _ => reg a
  | _ => 1000000
/-- What follows a piece of code. -/
inductive Fr where
  | seq (b : Code) | block (id : Nat) | loop (a : Code)
inductive Task where
  | code (c : Code) | out (o : Out)
/-- The evaluation of code; J: where ways meet, and loops. -/
def run (nt : Nat) (J : Code → List Fr → St → Option R) (fin : St → Option R) : Nat → Task → St → List Fr → Option R
  | 0, _, _, _ => none
  | n + 1, .code c, s, fs => (match c with
    | .skip => run nt J fin n (.out .normal) s fs
    | .region _ o _ => ops T sg callF nt o.toList o.toList s (fun s => run nt J fin n (.out .normal) s fs)
    | .seq a b => run nt J fin n (.code a) s (.seq b :: fs)
    | .cond c a b => (match opd T (look s.sl) 0 c with
      | some (.v .bool c) => br c (run nt J fin n (.code a) s fs) (run nt J fin n (.code b) s fs)
      | _ => none)
    | .block id a => run nt J fin n (.code a) s (.block id :: fs)
    | .loop a => (match live (reg a + 10000) with
      | some lv => cutTo lv s (J (.loop a) fs)
      | none => none)
    | .exit id => run nt J fin n (.out (.exit id)) s fs
    | .ret => run nt J fin n (.out .ret) s fs
    | _ => none)
  | n + 1, .out o, s, fs => (match fs with
    | [] => (match o with
      | .exit _ => none
      | _ => fin s)
    | .seq b :: fs => (match o with
      | .normal => (match live (reg b) with
        | some lv => cutTo lv s (J b fs)
        | none => run nt J fin n (.code b) s fs)
      | o => run nt J fin n (.out o) s fs)
    | .block id :: fs => (match o with
      | .exit j => bif Nat.beq j id then run nt J fin n (.out .normal) s fs else run nt J fin n (.out (.exit j)) s fs
      | o => run nt J fin n (.out o) s fs)
    | .loop a :: fs => (match o with
      | .normal => (match live (reg a + 10000) with
        | some lv => cutTo lv s (J (.loop a) fs)
        | none => none)
      | o => run nt J fin n (.out o) s fs))
def steps : Nat := 400
/-- A place: with k rounds. -/
def jF (nt : Nat) (fin : St → Option R) : Nat → Code → List Fr → St → Option R
  | 0, _, _, _ => none
  | k + 1, c, fs, s => (match c with
    | .loop a => run T sg callF live nt (jF nt fin k) fin steps (.code a) s (.loop a :: fs)
    | c => run T sg callF live nt (jF nt fin k) fin steps (.code c) s fs)
/-! ### places in code -/
inductive Dir where
  | l | r | b | lp
def stepC : Dir → Code → Code
  | .l, .seq a _ => a
  | .r, .seq _ b => b
  | .l, .cond _ a _ => a
  | .r, .cond _ _ b => b
  | .b, .block _ a => a
  | .lp, .loop a => a
  | _, c => c
def stepF : Dir → Code → List Fr → List Fr
  | .l, .seq _ b, fs => .seq b :: fs
  | .b, .block id _, fs => .block id :: fs
  | .lp, .loop a, fs => .loop a :: fs
  | _, _, fs => fs
noncomputable def subC (p : List Dir) : Code → Code := List.rec (motive := fun _ => Code → Code) (fun c => c) (fun d _ ih c => ih (stepC d c)) p
noncomputable def subF (p : List Dir) : Code → List Fr → List Fr :=
  List.rec (motive := fun _ => Code → List Fr → List Fr) (fun _ fs => fs) (fun d _ ih c fs => ih (stepC d c) (stepF d c fs)) p
/-! ### functions -/
def slotsOf : (ps : List Par) → argL ps → Nat → List (Nat × AV)
  | [], _, _ => []
  | .v t :: ps, x, n => (n, .v t x.1) :: slotsOf ps x.2 (n + 1)
  | .op :: ps, x, n => (n, .op) :: slotsOf ps x.2 (n + 1)
  | .read _ _ :: ps, x, n => (n, .sl n) :: slotsOf ps x.2 (n + 1)
  | .own _ _ :: ps, x, n => (n, .sl n) :: slotsOf ps x.2 (n + 1)
  | .pt _ _ :: ps, x, n => (n, .ptr n 0) :: slotsOf ps x.2 (n + 1)
def rowsOf : (ps : List Par) → argL ps → Nat → List (Nat × Option Row)
  | [], _, _ => []
  | .v _ :: ps, x, n => rowsOf ps x.2 (n + 1)
  | .op :: ps, x, n => rowsOf ps x.2 (n + 1)
  | .read t e :: ps, x, n => (n, some ⟨t, e, false, x.1⟩) :: rowsOf ps x.2 (n + 1)
  | .own t e :: ps, x, n => (n, some ⟨t, e, true, x.1⟩) :: rowsOf ps x.2 (n + 1)
  | .pt t e :: ps, x, n => (n, some ⟨t, e, false, [x.1]⟩) :: rowsOf ps x.2 (n + 1)
/-- A result that is handed back, and the row that goes with it. -/
def retOf (rows : List (Nat × Option Row)) : (t : RTy) → AV → Option (t.den × List Nat)
  | .v t, a => (match toDen t a with
    | some x => some (x, [])
    | none => none)
  | .sl t e, .sl r => (match row (look rows) r with
    | some w => bif w.own && Nat.beq w.e e then (match cast? (F := fun t => List t.den) w.t t w.xs with
      | some xs => some (xs, [r])
      | none => none) else none
    | none => none)
  | .sl t e, .cut r true _ hi => (match row (look rows) r with
    | some w => bif w.own && Nat.beq w.e e then (match cast? (F := fun t => List t.den) w.t t w.xs with
      | some xs => some (xs.take hi.toNat, [r])
      | none => none) else none
    | none => none)
  | .sl _ _, .nilS _ _ => some ([], [])
  | .pt t e, .ptr r (.ofNat 0) => (match row (look rows) r with
    | some w => bif w.own && Nat.beq w.e e then (match cast? (F := fun t => List t.den) w.t t w.xs with
      | some [x] => some (x, [r])
      | _ => none) else none
    | none => none)
  | _, _ => none
def rets (s : St) : (rs : List RTy) → List Nat → Option (retL rs × List Nat)
  | [], [] => some ((), [])
  | [t], [n] => (match look s.sl n with
    | some a => retOf s.rows t a
    | none => none)
  | t :: u :: rs, n :: ns => (match look s.sl n with
    | some a => (match retOf s.rows t a, rets s (u :: rs) ns with
      | some (x, l), some (y, m) => bif disj l m then some ((x, y), l ++ m) else none
      | _, _ => none)
    | none => none)
  | _, _ => none
def resTmps : List ResultVar → Option (List Nat)
  | [] => some []
  | .tmp t :: l => (match resTmps l with
    | some m => some (t :: m)
    | none => none)
  | _ :: _ => none
/-- A function's end. -/
def fin (rs : List RTy) (res : List Nat) (s : St) : Option (retL rs) := match rets s rs res with
  | some (x, _) => some x
  | none => none
def evalF (k : Nat) (fn : Func) (g : Sig) (xs : argL g.ps) : Option (retL g.rs) := match fn.body, resTmps fn.results.toList with
  | some c, some res => run T sg callF live fn.ntmps (jF T sg callF live fn.ntmps (fin g.rs res) k) (fin g.rs res) steps (.code c) ⟨slotsOf g.ps xs 0, rowsOf g.ps xs 0⟩ []
  | _, _ => none
/-- A function's code from a place on. -/
noncomputable def jumpF (k : Nat) (fn : Func) (rs : List RTy) (p : List Dir) (s : St) : Option (retL rs) := match fn.body, resTmps fn.results.toList with
  | some c, some res => jF T sg callF live fn.ntmps (fin rs res) k (subC p c) (subF p c []) s
  | _, _ => none
end
end Go.Ev

/- Regions in the text's order. -/
namespace Go.Ev
open Go.RowKit
theorem look_set {α : Type} (l : List (Nat × α)) (n : Nat) (a : α) (m : Nat) : look (set l n a) m = if m = n then some a else look l m := by
  induction l with
  | nil =>
    simp only [set, look]
    by_cases h : m = n
    · subst h; simp
    · have : Nat.beq n m = false := by
        cases hb : Nat.beq n m with
        | true => exact absurd (Nat.eq_of_beq_eq_true hb).symm h
        | false => rfl
      simp [this, h]
  | cons p l ih =>
    obtain ⟨k, b⟩ := p
    unfold set
    cases hb : Nat.beq k n with
    | true =>
      have hk := Nat.eq_of_beq_eq_true hb
      subst hk
      simp only [cond_true, look]
      by_cases h : m = k
      · subst h; simp
      · have : Nat.beq k m = false := by
          cases hb' : Nat.beq k m with
          | true => exact absurd (Nat.eq_of_beq_eq_true hb').symm h
          | false => rfl
        simp [this, h]
    | false =>
      have hk : k ≠ n := Nat.ne_of_beq_eq_false hb
      simp only [cond_false, look, ih]
      cases hb' : Nat.beq k m with
      | true =>
        have := Nat.eq_of_beq_eq_true hb'
        subst this
        simp [hk]
      | false => rfl
theorem keys_set {α : Type} (l : List (Nat × α)) (n : Nat) (a : α) : (l.map Prod.fst).Nodup → ((set l n a).map Prod.fst).Nodup ∧ ∀ m, m ∈ (set l n a).map Prod.fst → m = n ∨ m ∈ l.map Prod.fst := by
  induction l with
  | nil => intro _; simp [set]
  | cons p l ih =>
    obtain ⟨k, b⟩ := p
    intro h
    simp only [List.map_cons, List.nodup_cons] at h
    unfold set
    cases hb : Nat.beq k n with
    | true =>
      have hk := Nat.eq_of_beq_eq_true hb
      subst hk
      simp only [cond_true, List.map_cons, List.nodup_cons]
      exact ⟨h, fun m hm => .inr hm⟩
    | false =>
      have hk : k ≠ n := Nat.ne_of_beq_eq_false hb
      obtain ⟨h1, h2⟩ := ih h.2
      simp only [cond_false, List.map_cons, List.nodup_cons]
      refine ⟨⟨fun hm => ?_, h1⟩, fun m hm => ?_⟩
      · rcases h2 k hm with h3 | h3
        · exact hk h3
        · exact h.1 h3
      · rcases List.mem_cons.1 hm with rfl | hm
        · exact .inr (by simp)
        · rcases h2 m hm with h3 | h3
          · exact .inl h3
          · exact .inr (List.mem_cons_of_mem _ h3)
theorem look_upd (us : Upd) : ∀ (l : List (Nat × Option Row)), look (upd l us) = updF (look l) us := by
  induction us with
  | nil => intro l; rfl
  | cons p us ih =>
    obtain ⟨n, x⟩ := p
    intro l
    show look (upd (set l n x) us) = updF _ us
    rw [ih]
    congr 1
    funext m
    exact look_set l n x m
def Rel (C : Ctx) (nt : Nat) (s : St) (a : Act) (w : World) : Prop :=
  a.tmps.size = nt ∧ a.defers = [] ∧ (s.sl.map Prod.fst).Nodup ∧ ∃ ε, Slots (look s.rows) ε (look s.sl) a ∧ Mem C (look s.rows) ε w
theorem putS_keys {sl : List (Nat × AV)} (dst : Option Nat) (v : AV) (h : (sl.map Prod.fst).Nodup) : ((putS sl dst v).map Prod.fst).Nodup := by
  cases dst with
  | none => exact h
  | some d => exact (keys_set sl d v h).1
theorem put_size (a : Act) (dst : Option Nat) (V : Value) : (a.put dst V).tmps.size = a.tmps.size := by cases dst <;> simp [Act.put]
theorem put_defs (a : Act) (dst : Option Nat) (V : Value) : (a.put dst V).defers = a.defers := by cases dst <;> rfl
theorem put_getD_same {a : Act} {d : Nat} (V : Value) (h : d < a.tmps.size) : (a.put (some d) V).tmps.getD d undef = V := by
  simp [Act.put, Array.getD, h]
theorem put_getD_ne (a : Act) {d n : Nat} (V : Value) (h : n ≠ d) : (a.put (some d) V).tmps.getD n undef = a.tmps.getD n undef := by
  simp [Act.put, Array.getElem?_setIfInBounds_ne (Ne.symm h)]
theorem slots_put {rw rw' : RW} {ε ε' : Env} {sl : List (Nat × AV)} {a : Act} (hS : Slots rw ε (look sl) a) (he : Ext rw ε rw' ε') {dst : Option Nat} {v : AV} {V : Value} (hv : VRel rw' ε' v V) {nt : Nat} (hn : a.tmps.size = nt) (hd : dstOk nt dst = true) :
    Slots rw' ε' (look (putS sl dst v)) (a.put dst V) := by
  intro n av h
  cases dst with
  | none => exact (hS n av h).ext he
  | some d =>
    have hlt : d < a.tmps.size := by rw [hn]; exact (Nat.ble_eq.mp hd)
    rw [show putS sl (some d) v = set sl d v from rfl, look_set] at h
    by_cases hnd : n = d
    · subst hnd
      rw [if_pos rfl] at h
      cases h
      rw [put_getD_same V hlt]
      exact hv
    · rw [if_neg hnd] at h
      rw [put_getD_ne a V hnd]
      exact (hS n av h).ext he
section
variable {C : Ctx} {nt : Nat} {s : St} {w w' : World} {a : Act} {o : Oper} {R : Type} {sg : FuncId → Sig} {callF : (f : FuncId) → argL (sg f).ps → Option (retL (sg f).rs)}
theorem step_sound (hC : CtxOk C) (hF : ∀ f, CallOk C.P C.W0 sg callF f) (hR : Rel C nt s a w) {K : St → Option R} {r : R} (h : step C.T sg callF nt s o K = some r) :
    ∃ s', K s' = some r ∧ ∀ (next : Act → World → Prop) (Q : Exit → Act → World → Prop), (∀ a' w', Rel C nt s' a' w' → next a' w') → o.wp C.P a w next Q := by
  obtain ⟨hn, hdf, hk, ε, hS, hM⟩ := hR
  unfold step at h
  obtain ⟨hd, h⟩ := bif_some h
  obtain ⟨v, us, h1, h2⟩ := oper_sound hC hF hM hS h
  refine ⟨_, h1, fun next Q hnext => h2 next Q fun V ε' w' hv he hM' => hnext _ _ ⟨by rw [put_size, hn], by rw [put_defs, hdf], putS_keys _ _ hk, ε', ?_, ?_⟩⟩
  · simp only [look_upd]
    exact slots_put hS he hv hn hd
  · simp only [look_upd]
    exact hM'
theorem skip_sound (hR : Rel C nt s a w) {dst : Option Nat} (hd : dstOk nt dst = true) : Rel C nt ⟨putS s.sl dst .u, s.rows⟩ (a.put dst undef) w := by
  obtain ⟨hn, hdf, hk, ε, hS, hM⟩ := hR
  exact ⟨by rw [put_size, hn], by rw [put_defs, hdf], putS_keys _ _ hk, ε, slots_put hS (Ext.refl _ _) rfl hn hd, hM⟩
theorem refine_sound (hR : Rel C nt s a w) {d : Nat} {av : AV} (h : look s.sl d = some av) : Rel C nt ⟨set s.sl d av, s.rows⟩ a w := by
  obtain ⟨hn, hdf, hk, ε, hS, hM⟩ := hR
  refine ⟨hn, hdf, (keys_set _ _ _ hk).1, ε, ?_, hM⟩
  have : look (set s.sl d av) = look s.sl := by
    funext m
    rw [look_set]
    split
    · rename_i e
      rw [e, h]
    · rfl
  show Slots _ _ (look (set s.sl d av)) a
  rw [this]
  exact hS
theorem nthO_eq : ∀ (l : List Oper) (j : Nat), nthO l j = l[j]?
  | [], j => by simp [nthO]
  | o :: l, 0 => rfl
  | o :: l, j + 1 => by rw [nthO, nthO_eq l j]; simp
theorem guard_dst {ops : Array Oper} {j d : Nat} (h : guardS ops.toList j = some d) : (ops[j]?).bind (·.dst) = some d := by
  unfold guardS at h
  rw [nthO_eq, Array.getElem?_toList] at h
  cases hj : ops[j]? with
  | none => rw [hj] at h; cases h
  | some o => rw [hj] at h; exact h
theorem yielded_bool (hR : Rel C nt s a w) {ops : Array Oper} {j d : Nat} (hg : guardS ops.toList j = some d) {b : Bool} (h : look s.sl d = some (.v .bool b)) : yielded ops a.tmps j = some b := by
  obtain ⟨hn, hdf, hk, ε, hS, hM⟩ := hR
  have hv : a.tmps.getD d undef = .bool b := hS d _ h
  unfold yielded
  rw [guard_dst hg]
  simp only [Option.bind_some]
  cases hd : a.tmps[d]? with
  | none =>
    have : a.tmps.getD d undef = undef := by rw [Array.getD_eq_getD_getElem?, hd]; rfl
    rw [this] at hv
    cases hv
  | some v =>
    have : a.tmps.getD d undef = v := by rw [Array.getD_eq_getD_getElem?, hd]; rfl
    rw [this] at hv
    rw [hv]
theorem yielded_undef (hR : Rel C nt s a w) {ops : Array Oper} {j d : Nat} (hg : guardS ops.toList j = some d) (h : look s.sl d = some .u) : yielded ops a.tmps j = none := by
  obtain ⟨hn, hdf, hk, ε, hS, hM⟩ := hR
  have hv : a.tmps.getD d undef = undef := hS d _ h
  unfold yielded
  rw [guard_dst hg]
  simp only [Option.bind_some]
  cases hd : a.tmps[d]? with
  | none => rfl
  | some v =>
    have : a.tmps.getD d undef = v := by rw [Array.getD_eq_getD_getElem?, hd]; rfl
    rw [this] at hv
    rw [hv]
    rfl
theorem br_some {c : Bool} {x y : Option R} {r : R} (h : br c x y = some r) : (c = true ∧ x = some r) ∨ (c = false ∧ y = some r) := by
  cases c
  · exact .inr ⟨rfl, h⟩
  · exact .inl ⟨rfl, h⟩
/-- Whether an operation is wanted, and what it leads to. -/
theorem op_cases (hC : CtxOk C) (hF : ∀ f, CallOk C.P C.W0 sg callF f) (hR : Rel C nt s a w) {opsA : Array Oper} {l : List Oper} {K : St → Option R} {r : R} (h : ops C.T sg callF nt opsA.toList (o :: l) s K = some r) :
    ∃ s1, Rel C nt s1 a w ∧ ((Region.wanted o (yielded opsA a.tmps) = true ∧ step C.T sg callF nt s1 o (fun s => ops C.T sg callF nt opsA.toList l s K) = some r) ∨
      (Region.wanted o (yielded opsA a.tmps) = false ∧ dstOk nt o.dst = true ∧ ops C.T sg callF nt opsA.toList l ⟨putS s1.sl o.dst .u, s1.rows⟩ K = some r)) := by
  unfold ops at h
  split at h
  · rename_i hg
    exact ⟨s, hR, .inl ⟨by unfold Region.wanted; rw [hg], h⟩⟩
  · rename_i j want hg
    split at h
    · rename_i d hgd
      split at h
      · rename_i b hb
        have hy := yielded_bool hR hgd hb
        have hw : ∀ c, (want == b) = c → Region.wanted o (yielded opsA a.tmps) = c := by
          intro c hc
          unfold Region.wanted
          rw [hg]
          simp only [hy]
          rw [← hc]
          cases b <;> cases want <;> rfl
        have hRf := refine_sound hR hb
        cases want with
        | true =>
          rcases br_some h with ⟨rfl, h⟩ | ⟨rfl, h⟩
          · exact ⟨_, hRf, .inl ⟨hw true rfl, h⟩⟩
          · obtain ⟨hd, h⟩ := bif_some (show (bif dstOk nt o.dst then _ else none) = some r from h)
            exact ⟨_, hRf, .inr ⟨hw false rfl, hd, h⟩⟩
        | false =>
          rcases br_some h with ⟨rfl, h⟩ | ⟨rfl, h⟩
          · obtain ⟨hd, h⟩ := bif_some (show (bif dstOk nt o.dst then _ else none) = some r from h)
            exact ⟨_, hRf, .inr ⟨hw false rfl, hd, h⟩⟩
          · exact ⟨_, hRf, .inl ⟨hw true rfl, h⟩⟩
      · rename_i hu
        have hy := yielded_undef hR hgd hu
        obtain ⟨hd, h⟩ := bif_some (show (bif dstOk nt o.dst then _ else none) = some r from h)
        exact ⟨s, hR, .inr ⟨by unfold Region.wanted; rw [hg]; simp only [hy]; cases want <;> rfl, hd, h⟩⟩
      · cases h
    · cases h
theorem ops_sound (hC : CtxOk C) (hF : ∀ f, CallOk C.P C.W0 sg callF f) {opsA : Array Oper} {Q : Exit → Act → World → Prop} {K : St → Option R} {r : R} (hQ : ∀ s' a' w', Rel C nt s' a' w' → K s' = some r → Q .normal a' w') :
    ∀ (l : List Oper) (s : St) (a : Act) (w : World), Rel C nt s a w → ops C.T sg callF nt opsA.toList l s K = some r → wpList C.P opsA Q l a w
  | [], s, a, w, hR, h => hQ s a w hR h
  | o :: l, s, a, w, hR, h => by
    obtain ⟨s1, hR1, hcase⟩ := op_cases hC hF hR h
    unfold wpList
    rcases hcase with ⟨hw, h1⟩ | ⟨hw, hd, h1⟩
    · rw [if_pos hw]
      obtain ⟨s2, h2, h3⟩ := step_sound hC hF hR1 h1
      exact .inl (h3 _ _ fun a' w' hR' => ops_sound hC hF hQ l s2 a' w' hR' h2)
    · rw [if_neg (by rw [hw]; simp)]
      exact ops_sound hC hF hQ l _ _ _ (skip_sound hR1 hd) h1
end
end Go.Ev

/- A state cut to what lives on: rows named anew. -/
namespace Go.Ev
open Go.RowKit
theorem look_mem {α : Type} {l : List (Nat × α)} {n : Nat} {x : α} (h : look l n = some x) : (n, x) ∈ l := by
  induction l with
  | nil => cases h
  | cons p l ih =>
    obtain ⟨k, b⟩ := p
    unfold look at h
    cases hb : Nat.beq k n with
    | true =>
      rw [hb] at h
      have hk := Nat.eq_of_beq_eq_true hb
      subst hk
      cases h
      simp
    | false =>
      rw [hb] at h
      exact List.mem_cons_of_mem _ (ih h)
theorem look_of_mem {α : Type} {l : List (Nat × α)} (hk : (l.map Prod.fst).Nodup) {n : Nat} {x : α} (h : (n, x) ∈ l) : look l n = some x := by
  induction l with
  | nil => cases h
  | cons p l ih =>
    obtain ⟨k, b⟩ := p
    simp only [List.map_cons, List.nodup_cons] at hk
    unfold look
    rcases List.mem_cons.1 h with h | h
    · cases h
      rw [show Nat.beq n n = true from Nat.beq_refl n]
      rfl
    · have hne : k ≠ n := by
        rintro rfl
        exact hk.1 (List.mem_map_of_mem h)
      rw [show Nat.beq k n = false by
        cases hb : Nat.beq k n with
        | true => exact absurd (Nat.eq_of_beq_eq_true hb) hne
        | false => rfl]
      exact ih hk.2 h
theorem only_mem {α : Type} : ∀ (lv : List Nat) (l : List (Nat × α)) (n : Nat) (x : α), (n, x) ∈ only lv l → look l n = some x ∧ n ∈ lv
  | [], _, _, _, h => by cases h
  | m :: lv, l, n, x, h => by
    unfold only at h
    have tail : (n, x) ∈ only lv l → look l n = some x ∧ n ∈ m :: lv := fun h => ⟨(only_mem lv l n x h).1, List.mem_cons_of_mem _ (only_mem lv l n x h).2⟩
    cases hm : mem m lv with
    | true => rw [hm] at h; exact tail h
    | false =>
      rw [hm] at h
      simp only [cond_false] at h
      split at h
      · rename_i a ha
        rcases List.mem_cons.1 h with h | h
        · cases h
          exact ⟨ha, by simp⟩
        · exact tail h
      · exact tail h
theorem only_keys {α : Type} : ∀ (lv : List Nat) (l : List (Nat × α)), ((only lv l).map Prod.fst).Nodup
  | [], _ => List.nodup_nil
  | m :: lv, l => by
    have ih := only_keys lv l
    unfold only
    cases hm : mem m lv with
    | true => exact ih
    | false =>
      simp only [cond_false]
      split
      · rename_i a ha
        rw [List.map_cons, List.nodup_cons]
        refine ⟨fun hc => ?_, ih⟩
        obtain ⟨⟨n, x⟩, hx, he⟩ := List.mem_map.1 hc
        have he : n = m := he
        subst he
        have := (only_mem lv l n x hx).2
        rw [(mem_iff n lv).2 this] at hm
        cases hm
      · exact ih
/-- A part that is kept ahead of its row is seen. -/
theorem isCut_true {r : Nat} {n : Nat} {p : Bool} {lo hi : Int} {post : List (Nat × AV)} : ∀ {pre : List (Nat × AV)}, (∀ k av, (k, av) ∈ pre → av ≠ .sl r ∧ ∀ i, av ≠ .ptr r i) → isCut r (pre ++ (n, .cut r p lo hi) :: post) = true
  | [], _ => by
    show (bif Nat.beq r r then true else isCut r post) = true
    rw [show Nat.beq r r = true from Nat.beq_refl r]
    rfl
  | (k, av) :: pre, h => by
    have ih := isCut_true (r := r) (n := n) (p := p) (lo := lo) (hi := hi) (post := post) (pre := pre) (fun k av hm => h k av (List.mem_cons_of_mem _ hm))
    obtain ⟨h1, h2⟩ := h k av (by simp)
    rw [List.cons_append]
    cases av <;> first | exact ih | skip
    · rename_i q
      unfold isCut
      cases hb : Nat.beq q r with
      | true => exact absurd (by rw [Nat.eq_of_beq_eq_true hb]) h1
      | false => exact ih
    · rename_i q _ _ _
      unfold isCut
      cases hb : Nat.beq q r with
      | true => rfl
      | false => exact ih
    · rename_i q i
      unfold isCut
      cases hb : Nat.beq q r with
      | true => exact absurd (by rw [Nat.eq_of_beq_eq_true hb]) (h2 i)
      | false => exact ih
theorem ren_mem {r q : Nat} : ∀ {m : List (Nat × Nat)}, ren m r = some q → (r, q) ∈ m
  | [], h => by cases h
  | (a, b) :: l, h => by
    unfold ren at h
    cases hb : Nat.beq a r with
    | true =>
      rw [hb] at h
      have := Nat.eq_of_beq_eq_true hb
      subst this
      cases h
      simp
    | false =>
      rw [hb] at h
      exact List.mem_cons_of_mem _ (ren_mem h)
/-- From which row a kept slot's row comes. -/
def srcOf : Option AV → Option Nat
  | some (.sl r) => some r
  | some (.ptr r _) => some r
  | _ => none
section
variable {C : Ctx} {nt : Nat} {s : St} {w w' : World} {a : Act} {R : Type}
/-- What the new names stand for. -/
def cutEnv (ε : Env) (all : List (Nat × AV)) (a : Act) : Env where
  sv n := match look all n with
    | some (.sl r) => ε.sv r
    | some (.ptr r _) => ε.sv r
    | _ => a.tmps.getD n undef
  ty n := match look all n with
    | some (.sl r) => ε.ty r
    | some (.ptr r _) => ε.ty r
    | some (.cut r _ _ _) => ε.ty r
    | some (.nilS t _) => t
    | _ => .bool
/-- What a kept row is. -/
inductive Kept (rows : List (Nat × Option Row)) (all : List (Nat × AV)) (n : Nat) (y : Row) : Prop where
  | whole (r : Nat) (x : Row) (h : srcOf (look all n) = some r) (hx : row (look rows) r = some x) (hy : y = ⟨x.t, x.e, bif isCut r all then false else x.own, x.xs⟩)
  | pre (r : Nat) (lo hi : Int) (x : Row) (h : look all n = some (.cut r true lo hi)) (hone : cnt r all = 1) (hx : row (look rows) r = some x) (ho : x.own = true) (hy : y = ⟨x.t, x.e, true, x.xs.take hi.toNat⟩)
  | part (r : Nat) (p : Bool) (lo hi : Int) (x : Row) (h : look all n = some (.cut r p lo hi)) (hc : isCut r all = true) (hx : row (look rows) r = some x) (hy : y = ⟨x.t, x.e, false, (x.xs.drop lo.toNat).take (hi.toNat - lo.toNat)⟩)
  | empty (t : Ty) (e : TypeId) (h : look all n = some (.nilS t e)) (hy : y = ⟨t, e, true, []⟩)
theorem keep_sound {rows : List (Nat × Option Row)} {all : List (Nat × AV)} (hall : (all.map Prod.fst).Nodup) {ε : Env} (hV : ∀ n av, look all n = some av → VRel (look rows) ε av (a.tmps.getD n undef)) :
    ∀ (l : List (Nat × AV)) (m : List (Nat × Nat)) (sl : List (Nat × AV)) (rs : List (Nat × Option Row)), (∀ p ∈ l, p ∈ all) → (l.map Prod.fst).Nodup → (∃ pre, all = pre ++ l ∧ ∀ k av, (k, av) ∈ pre → ∀ r, (av = .sl r ∨ ∃ i, av = .ptr r i) → ren m r ≠ none) → (∀ p ∈ m, srcOf (look all p.2) = some p.1) → keep rows all l m = some (sl, rs) →
      sl.map Prod.fst = l.map Prod.fst ∧ (∀ q ∈ rs.map Prod.fst, q ∈ l.map Prod.fst) ∧ (rs.map Prod.fst).Nodup ∧
      (∀ n x, (n, x) ∈ rs → ∃ y, x = some y ∧ Kept rows all n y) ∧
      (∀ n ∈ rs.map Prod.fst, ∀ r, srcOf (look all n) = some r → ren m r = none) ∧
      (∀ n ∈ rs.map Prod.fst, ∀ n' ∈ rs.map Prod.fst, n ≠ n' → ∀ r, srcOf (look all n) = some r → srcOf (look all n') ≠ some r) ∧
      (∀ rw' : RW, (∀ q ∈ rs.map Prod.fst, rw' q ≠ none) → (∀ p ∈ m, rw' p.2 ≠ none) → ∀ n av, (n, av) ∈ sl → VRel rw' (cutEnv ε all a) av (a.tmps.getD n undef)) := by
  intro l
  induction l with
  | nil =>
    intro m sl rs _ _ _ _ h
    cases h
    exact ⟨rfl, fun q hq => (by cases hq), List.nodup_nil, fun n x hm => (by cases hm), fun n hn => (by cases hn), fun n hn => (by cases hn), fun _ _ _ n av hm => (by cases hm)⟩
  | cons p l ih =>
    obtain ⟨n, av⟩ := p
    intro m sl rs hl hk hpre hm h
    obtain ⟨pre, hpa, hpm⟩ := hpre
    simp only [List.map_cons, List.nodup_cons] at hk
    have hlook : look all n = some av := look_of_mem hall (hl _ (by simp))
    have hv := hV n av hlook
    have hl' : ∀ p ∈ l, p ∈ all := fun p hp => hl p (List.mem_cons_of_mem _ hp)
    -- a slot without a row of its own
    have plain : ∀ (av' : AV), (∀ r, (av = .sl r ∨ ∃ i, av = .ptr r i) → ren m r ≠ none) → (∀ sl1, keep rows all l m = some (sl1, rs) → sl = (n, av') :: sl1 → (∀ rw' : RW, (∀ p ∈ m, rw' p.2 ≠ none) → VRel rw' (cutEnv ε all a) av' (a.tmps.getD n undef)) →
        sl.map Prod.fst = ((n, av) :: l).map Prod.fst ∧ (∀ q ∈ rs.map Prod.fst, q ∈ ((n, av) :: l).map Prod.fst) ∧ (rs.map Prod.fst).Nodup ∧
        (∀ n x, (n, x) ∈ rs → ∃ y, x = some y ∧ Kept rows all n y) ∧
        (∀ n ∈ rs.map Prod.fst, ∀ r, srcOf (look all n) = some r → ren m r = none) ∧
        (∀ n ∈ rs.map Prod.fst, ∀ n' ∈ rs.map Prod.fst, n ≠ n' → ∀ r, srcOf (look all n) = some r → srcOf (look all n') ≠ some r) ∧
        (∀ rw' : RW, (∀ q ∈ rs.map Prod.fst, rw' q ≠ none) → (∀ p ∈ m, rw' p.2 ≠ none) → ∀ n av, (n, av) ∈ sl → VRel rw' (cutEnv ε all a) av (a.tmps.getD n undef))) := by
      intro av' hown sl1 h1 hsl hav
      have hpre' : ∃ pre, all = pre ++ l ∧ ∀ k av, (k, av) ∈ pre → ∀ r, (av = .sl r ∨ ∃ i, av = .ptr r i) → ren m r ≠ none := by
        refine ⟨pre ++ [(n, av)], by rw [hpa]; simp, fun k av0 hmem r hr => ?_⟩
        rcases List.mem_append.1 hmem with hmem | hmem
        · exact hpm k av0 hmem r hr
        · cases List.mem_singleton.1 hmem
          exact hown r hr
      obtain ⟨i1, i2, i3, i4, i5, i6, i7⟩ := ih m sl1 rs hl' hk.2 hpre' hm h1
      subst hsl
      refine ⟨by simp [i1], fun q hq => List.mem_cons_of_mem _ (i2 q hq), i3, i4, i5, i6, fun rw' hr hm' n' av'' hmem => ?_⟩
      rcases List.mem_cons.1 hmem with hmem | hmem
      · cases hmem
        exact hav rw' hm'
      · exact i7 rw' hr hm' n' av'' hmem
    -- a slot with a row of its own
    have fresh : ∀ (av' : AV) (y : Row) (m' : List (Nat × Nat)), (∀ sl1 rs1, keep rows all l m' = some (sl1, rs1) → sl = (n, av') :: sl1 → rs = (n, some y) :: rs1 → Kept rows all n y →
        ((m' = m ∧ srcOf (look all n) = none ∧ srcOf (some av) = none) ∨ ∃ r, m' = (r, n) :: m ∧ srcOf (look all n) = some r ∧ ren m r = none) → (∀ rw' : RW, rw' n ≠ none → VRel rw' (cutEnv ε all a) av' (a.tmps.getD n undef)) →
        sl.map Prod.fst = ((n, av) :: l).map Prod.fst ∧ (∀ q ∈ rs.map Prod.fst, q ∈ ((n, av) :: l).map Prod.fst) ∧ (rs.map Prod.fst).Nodup ∧
        (∀ n x, (n, x) ∈ rs → ∃ y, x = some y ∧ Kept rows all n y) ∧
        (∀ n ∈ rs.map Prod.fst, ∀ r, srcOf (look all n) = some r → ren m r = none) ∧
        (∀ n ∈ rs.map Prod.fst, ∀ n' ∈ rs.map Prod.fst, n ≠ n' → ∀ r, srcOf (look all n) = some r → srcOf (look all n') ≠ some r) ∧
        (∀ rw' : RW, (∀ q ∈ rs.map Prod.fst, rw' q ≠ none) → (∀ p ∈ m, rw' p.2 ≠ none) → ∀ n av, (n, av) ∈ sl → VRel rw' (cutEnv ε all a) av (a.tmps.getD n undef))) := by
      intro av' y m' sl1 rs1 h1 hsl hrs hkept hm2 hav
      have hm' : ∀ p ∈ m', srcOf (look all p.2) = some p.1 := by
        rcases hm2 with ⟨rfl, _⟩ | ⟨r, rfl, hr, _⟩
        · exact hm
        · intro p hp
          rcases List.mem_cons.1 hp with rfl | hp
          · exact hr
          · exact hm p hp
      have hpre' : ∃ pre, all = pre ++ l ∧ ∀ k av, (k, av) ∈ pre → ∀ r, (av = .sl r ∨ ∃ i, av = .ptr r i) → ren m' r ≠ none := by
        refine ⟨pre ++ [(n, av)], by rw [hpa]; simp, fun k av0 hmem r hr => ?_⟩
        have old : ren m r ≠ none → ren m' r ≠ none := by
          intro h0
          rcases hm2 with ⟨rfl, _⟩ | ⟨r', rfl, _, _⟩
          · exact h0
          · unfold ren
            cases Nat.beq r' r with
            | true => simp
            | false => exact h0
        rcases List.mem_append.1 hmem with hmem | hmem
        · exact old (hpm k av0 hmem r hr)
        · cases List.mem_singleton.1 hmem
          rcases hm2 with ⟨rfl, _, h0⟩ | ⟨r', rfl, h0, _⟩
          · rcases hr with rfl | ⟨i, rfl⟩ <;> cases h0
          · have : r' = r := by
              rw [hlook] at h0
              rcases hr with rfl | ⟨i, rfl⟩ <;> (cases h0; rfl)
            subst this
            unfold ren
            rw [show Nat.beq r' r' = true from Nat.beq_refl r']
            simp
      obtain ⟨i1, i2, i3, i4, i5, i6, i7⟩ := ih m' sl1 rs1 hl' hk.2 hpre' hm' h1
      have hren : ∀ r, ren m' r = none → ren m r = none := by
        intro r hr
        rcases hm2 with ⟨rfl, _⟩ | ⟨r', rfl, _, _⟩
        · exact hr
        · unfold ren at hr
          cases hb : Nat.beq r' r with
          | true => rw [hb] at hr; cases hr
          | false => rw [hb] at hr; exact hr
      have hne : ∀ n' ∈ rs1.map Prod.fst, ∀ r, srcOf (look all n) = some r → srcOf (look all n') ≠ some r := by
        intro n' hn' r hr hr'
        have h5 := i5 n' hn' r hr'
        rcases hm2 with ⟨rfl, h0, _⟩ | ⟨r', rfl, h0, _⟩
        · rw [h0] at hr; cases hr
        · rw [h0] at hr
          cases hr
          unfold ren at h5
          rw [show Nat.beq r r = true from Nat.beq_refl r] at h5
          cases h5
      subst hsl; subst hrs
      refine ⟨by simp [i1], fun q hq => ?_, ?_, fun n' x hx => ?_, fun n' hn' r hr => ?_, fun n1 hn1 n2 hn2 hne' r hr => ?_, fun rw' hr hm3 n' av'' hmem => ?_⟩
      · rw [List.map_cons] at hq ⊢
        rcases List.mem_cons.1 hq with rfl | hq
        · exact List.mem_cons_self
        · exact List.mem_cons_of_mem _ (i2 q hq)
      · rw [List.map_cons, List.nodup_cons]
        exact ⟨fun hc => hk.1 (i2 n hc), i3⟩
      · rcases List.mem_cons.1 hx with hx | hx
        · cases hx
          exact ⟨y, rfl, hkept⟩
        · exact i4 n' x hx
      · rw [List.map_cons] at hn'
        rcases List.mem_cons.1 hn' with rfl | hn'
        · rcases hm2 with ⟨rfl, h0, _⟩ | ⟨r', rfl, h0, h00⟩
          · rw [h0] at hr; cases hr
          · rw [h0] at hr
            cases hr
            exact h00
        · exact hren r (i5 n' hn' r hr)
      · rw [List.map_cons] at hn1 hn2
        rcases List.mem_cons.1 hn1 with e1 | k1
        · rcases List.mem_cons.1 hn2 with e2 | k2
          · exact absurd (e1.trans e2.symm) hne'
          · rw [e1] at hr
            exact hne n2 k2 r hr
        · rcases List.mem_cons.1 hn2 with e2 | k2
          · intro hr'
            rw [e2] at hr'
            exact hne n1 k1 r hr' hr
          · exact i6 n1 k1 n2 k2 hne' r hr
      · have hn0 : rw' n ≠ none := hr n (by simp)
        rcases List.mem_cons.1 hmem with hmem | hmem
        · cases hmem
          exact hav rw' hn0
        · refine i7 rw' (fun q hq => hr q (by rw [List.map_cons]; exact List.mem_cons_of_mem _ hq)) (fun p hp => ?_) n' av'' hmem
          rcases hm2 with ⟨rfl, _⟩ | ⟨r', rfl, _, _⟩
          · exact hm3 p hp
          · rcases List.mem_cons.1 hp with rfl | hp
            · exact hn0
            · exact hm3 p hp
    cases av with
    | v t x =>
      simp only [keep] at h
      split at h
      · rename_i sl1 rs1 h1
        cases h
        exact plain (.v t x) (fun r hr => by rcases hr with hr | ⟨i, hr⟩ <;> cases hr) sl1 h1 rfl (fun rw' _ => hv)
      · cases h
    | op =>
      simp only [keep] at h
      split at h
      · rename_i sl1 rs1 h1
        cases h
        exact plain .op (fun r hr => by rcases hr with hr | ⟨i, hr⟩ <;> cases hr) sl1 h1 rfl (fun rw' _ => trivial)
      · cases h
    | nilP =>
      simp only [keep] at h
      split at h
      · rename_i sl1 rs1 h1
        cases h
        exact plain .nilP (fun r hr => by rcases hr with hr | ⟨i, hr⟩ <;> cases hr) sl1 h1 rfl (fun rw' _ => hv)
      · cases h
    | sl r =>
      have hsrc : srcOf (look all n) = some r := by rw [hlook]; rfl
      simp only [keep] at h
      split at h
      · rename_i q hq
        split at h
        · rename_i sl1 rs1 h1
          cases h
          have hqm := ren_mem hq
          refine plain (.sl q) (fun r' hr => by rcases hr with hr | ⟨i', hr⟩ <;> cases hr <;> (rw [hq]; simp)) sl1 h1 rfl (fun rw' hm' => ⟨hm' _ hqm, ?_⟩)
          have hs := hm _ hqm
          rw [hv.2]
          unfold cutEnv
          simp only at hs ⊢
          cases hl : look all q with
          | none => rw [hl] at hs; cases hs
          | some avq =>
            rw [hl] at hs
            cases avq <;> first | (cases hs; done) | skip
            · cases hs; rfl
            · cases hs; rfl
        · cases h
      · rename_i hq
        split at h
        · rename_i x sl1 rs1 hx h1
          cases h
          refine fresh (.sl n) _ ((r, n) :: m) sl1 rs1 h1 rfl rfl (.whole r x hsrc hx rfl) (.inr ⟨r, rfl, hsrc, hq⟩) (fun rw' hn' => ⟨hn', ?_⟩)
          rw [hv.2]
          unfold cutEnv
          simp only [hlook]
        · cases h
    | ptr r i =>
      have hsrc : srcOf (look all n) = some r := by rw [hlook]; rfl
      obtain ⟨hu, ad, k, c, hsv, h0, h1', hV'⟩ := hv
      simp only [keep] at h
      split at h
      · rename_i q hq
        split at h
        · rename_i sl1 rs1 h1
          cases h
          have hqm := ren_mem hq
          have hs := hm _ hqm
          refine plain (.ptr q i) (fun r' hr => by rcases hr with hr | ⟨i', hr⟩ <;> cases hr <;> (rw [hq]; simp)) sl1 h1 rfl (fun rw' hm' => ⟨hm' _ hqm, ad, k, c, ?_, h0, h1', ?_⟩)
          · unfold cutEnv
            simp only at hs ⊢
            cases hl : look all q with
            | none => rw [hl] at hs; cases hs
            | some avq =>
              rw [hl] at hs
              cases avq <;> first | (cases hs; done) | skip
              · cases hs; exact hsv
              · cases hs; exact hsv
          · rw [hV']
            unfold cutEnv
            simp only at hs ⊢
            cases hl : look all q with
            | none => rw [hl] at hs; cases hs
            | some avq =>
              rw [hl] at hs
              cases avq <;> first | (cases hs; done) | skip
              · cases hs; rfl
              · cases hs; rfl
        · cases h
      · rename_i hq
        split at h
        · rename_i x sl1 rs1 hx h1
          cases h
          refine fresh (.ptr n i) _ ((r, n) :: m) sl1 rs1 h1 rfl rfl (.whole r x hsrc hx rfl) (.inr ⟨r, rfl, hsrc, hq⟩) (fun rw' hn' => ⟨hn', ad, k, c, ?_, h0, h1', ?_⟩)
          · unfold cutEnv
            simp only [hlook]
            exact hsv
          · rw [hV']
            unfold cutEnv
            simp only [hlook]
        · cases h
    | cut r p lo hi =>
      simp only [keep] at h
      split at h
      · rename_i q hq
        split at h
        · rename_i sl1 rs1 h1
          cases h
          have hqm := ren_mem hq
          have hs := hm _ hqm
          obtain ⟨hu, hcut⟩ := hv
          refine plain (.cut q p lo hi) (fun r hr => by rcases hr with hr | ⟨i, hr⟩ <;> cases hr) sl1 h1 rfl (fun rw' hm' => ⟨hm' _ hqm, ?_⟩)
          have e1 : (cutEnv ε all a).sv q = ε.sv r ∧ (cutEnv ε all a).ty q = ε.ty r := by
            unfold cutEnv
            simp only at hs ⊢
            cases hl : look all q with
            | none => rw [hl] at hs; cases hs
            | some avq =>
              rw [hl] at hs
              cases avq <;> first | (cases hs; done) | skip
              · cases hs; exact ⟨rfl, rfl⟩
              · cases hs; exact ⟨rfl, rfl⟩
          unfold CutOf
          rw [e1.1, e1.2]
          exact hcut
        · cases h
      · rename_i hq
        split at h
        · rename_i x sl1 rs1 hx h1
          have hcut : isCut r all = true := by
            rw [hpa]
            refine isCut_true (fun k av0 hmem => ⟨fun e => ?_, fun i e => ?_⟩)
            · exact hpm k av0 hmem r (.inl e) hq
            · exact hpm k av0 hmem r (.inr ⟨i, e⟩) hq
          cases hc : (x.own && p && Nat.beq (cnt r all) 1) with
          | true =>
            rw [hc] at h
            simp only [cond_true] at h
            cases h
            rw [Bool.and_eq_true, Bool.and_eq_true] at hc
            have hp := hc.1.2
            subst hp
            refine fresh (.sl n) _ m sl1 rs1 h1 rfl rfl (.pre r lo hi x hlook (Nat.eq_of_beq_eq_true hc.2) hx hc.1.1 rfl) (.inl ⟨rfl, by rw [hlook]; rfl, rfl⟩) (fun rw' hn' => ⟨hn', ?_⟩)
            unfold cutEnv
            simp only [hlook]
          | false =>
            rw [hc] at h
            simp only [cond_false] at h
            cases h
            refine fresh (.sl n) _ m sl1 rs1 h1 rfl rfl (.part r p lo hi x hlook hcut hx rfl) (.inl ⟨rfl, by rw [hlook]; rfl, rfl⟩) (fun rw' hn' => ⟨hn', ?_⟩)
            unfold cutEnv
            simp only [hlook]
        · cases h
    | nilS t e =>
      simp only [keep] at h
      split at h
      · rename_i sl1 rs1 h1
        cases h
        refine fresh (.sl n) _ m sl1 rs1 h1 rfl rfl (.empty t e hlook rfl) (.inl ⟨rfl, by rw [hlook]; rfl, rfl⟩) (fun rw' hn' => ⟨hn', ?_⟩)
        unfold cutEnv
        simp only [hlook]
      · cases h
    | fptr r i j => simp only [keep] at h; cases h
    | u => simp only [keep] at h; cases h
    | tup l => simp only [keep] at h; cases h
end
end Go.Ev

/- A state cut to what lives on is a state of the same world. -/
namespace Go.Ev
open Go.RowKit
section
variable {C : Ctx} {nt : Nat} {s : St} {w w' : World} {a : Act} {R : Type}
theorem src_env {ε : Env} {all : List (Nat × AV)} {n r : Nat} (h : srcOf (look all n) = some r) : (cutEnv ε all a).sv n = ε.sv r ∧ (cutEnv ε all a).ty n = ε.ty r := by
  unfold cutEnv
  cases hl : look all n with
  | none => rw [hl] at h; cases h
  | some av =>
    rw [hl] at h
    cases av <;> first | (cases h; done) | skip
    · cases h; simp only [hl]; exact ⟨trivial, trivial⟩
    · cases h; simp only [hl]; exact ⟨trivial, trivial⟩
theorem row_mem {rs : List (Nat × Option Row)} {n : Nat} {y : Row} (h : row (look rs) n = some y) : (n, some y) ∈ rs := by
  unfold row at h
  split at h
  · rename_i x hx
    cases h
    exact look_mem hx
  · cases h
theorem cnt_one {r : Nat} : ∀ {l : List (Nat × AV)} {p : Nat × AV}, p ∈ l → speaks r p.2 = true → 1 ≤ cnt r l
  | (k, av) :: l, p, h, hs => by
    unfold cnt
    rcases List.mem_cons.1 h with h | h
    · subst h
      have hs : speaks r av = true := hs
      rw [hs]
      simp
    · have := cnt_one h hs
      cases speaks r av <;> simp <;> omega
theorem cnt_two {r : Nat} : ∀ {l : List (Nat × AV)} {n n' : Nat} {av av' : AV}, (n, av) ∈ l → (n', av') ∈ l → n ≠ n' → speaks r av = true → speaks r av' = true → cnt r l ≠ 1
  | (k, bv) :: l, n, n', av, av', h1, h2, hne, s1, s2 => by
    unfold cnt
    rcases List.mem_cons.1 h1 with e1 | h1
    · cases e1
      rcases List.mem_cons.1 h2 with e2 | h2
      · cases e2
        exact absurd rfl hne
      · have := cnt_one h2 s2
        rw [s1]
        simp
        omega
    · rcases List.mem_cons.1 h2 with e2 | h2
      · cases e2
        have := cnt_one h1 s1
        rw [s2]
        simp
        omega
      · have := cnt_two h1 h2 hne s1 s2
        have h3 := cnt_one h1 s1
        cases speaks r bv <;> simp <;> omega
theorem cutTo_sound (hR : Rel C nt s a w) {lv : List Nat} {K : St → Option R} {r : R} (h : cutTo lv s K = some r) : ∃ s', K s' = some r ∧ Rel C nt s' a w := by
  obtain ⟨hn, hdf, hk, ε, hS, hM⟩ := hR
  unfold cutTo at h
  split at h
  · rename_i sl rs hkeep
    refine ⟨_, h, hn, hdf, ?_⟩
    have hall : ((only lv s.sl).map Prod.fst).Nodup := only_keys lv s.sl
    have hV : ∀ n av, look (only lv s.sl) n = some av → VRel (look s.rows) ε av (a.tmps.getD n undef) := fun n av hl => hS n av (only_mem lv s.sl n av (look_mem hl)).1
    obtain ⟨i1, i2, i3, i4, i5, i6, i7⟩ := keep_sound (a := a) hall hV (only lv s.sl) [] sl rs (fun p hp => hp) hall ⟨[], rfl, fun k av hm => (by cases hm)⟩ (fun p hp => by cases hp) hkeep
    generalize only lv s.sl = all at *
    have hused : ∀ q ∈ rs.map Prod.fst, look rs q ≠ none := by
      intro q hq
      obtain ⟨⟨q', x⟩, hx, rfl⟩ := List.mem_map.1 hq
      rw [look_of_mem i3 hx]
      simp
    have hkept : ∀ n y, row (look rs) n = some y → n ∈ rs.map Prod.fst ∧ Kept s.rows all n y := by
      intro n y hy
      have hm := row_mem hy
      obtain ⟨y', e, hk'⟩ := i4 n _ hm
      cases e
      exact ⟨List.mem_map_of_mem hm, hk'⟩
    have cutv : ∀ n r p lo hi, look all n = some (.cut r p lo hi) → (cutEnv ε all a).sv n = a.tmps.getD n undef ∧ (cutEnv ε all a).ty n = ε.ty r := by
      intro n r p lo hi hl
      unfold cutEnv
      simp only [hl]
      exact ⟨trivial, trivial⟩
    have prev : ∀ n r lo hi x, look all n = some (.cut r true lo hi) → row (look s.rows) r = some x → x.own = true → (cutEnv ε all a).ty n = ε.ty r ∧ ((cutEnv ε all a).sv n).ownBlock = (ε.sv r).ownBlock ∧ OwnV w x.t x.e (x.xs.take hi.toNat) ((cutEnv ε all a).sv n) := by
      intro n r lo hi x hl hx ho
      obtain ⟨e1, e2⟩ := cutv n r true lo hi hl
      obtain ⟨_, A, m, c, A', c', hv, hmc, hV', hl0, hlh, hhm, hc', _, hz0, hp0⟩ := hV n _ hl
      have hlo := hp0 rfl
      subst hlo
      obtain ⟨rfl, rfl⟩ := hz0 rfl
      obtain ⟨h1, h2⟩ := (hM.ok r x hx).own ho
      have hm : m = x.xs.length := by
        have h3 := (hM.ok r x hx).read
        rw [hv] at h3
        exact (ReadV.at_ h3).1
      rw [hv] at h1
      have h4 := own_takeV (m := (hi - 0).toNat) h1 (by omega)
      rw [← hV', show (hi - 0).toNat = hi.toNat by omega] at h4
      exact ⟨e2, by rw [e1, hV', hv]; cases A' <;> rfl, by rw [e1]; exact h4⟩
    have two : ∀ n n' av av' r, look all n = some av → look all n' = some av' → n ≠ n' → speaks r av = true → speaks r av' = true → cnt r all ≠ 1 := fun n n' av av' r h1 h2 hne k1 k2 => cnt_two (look_mem h1) (look_mem h2) hne k1 k2
    have srcS : ∀ n r, srcOf (look all n) = some r → ∃ av, look all n = some av ∧ speaks r av = true := by
      intro n r h
      cases hl : look all n with
      | none => rw [hl] at h; cases h
      | some av =>
        rw [hl] at h
        refine ⟨av, rfl, ?_⟩
        cases av <;> first | (cases h; done) | (cases h; exact Nat.beq_refl _)
    refine ⟨by rw [i1]; exact hall, cutEnv ε all a, fun n av hl => i7 _ hused (fun p hp => by cases hp) n av (look_mem hl), ?_⟩
    constructor
    · intro n y hy
      obtain ⟨hin, hkp⟩ := hkept n y hy
      cases hkp with
      | whole r x hsrc hx hyx =>
        obtain ⟨e1, e2⟩ := src_env (a := a) (ε := ε) hsrc
        have hok := hM.ok r x hx
        subst hyx
        refine ⟨e2.trans hok.ty, fun ho => ?_, ?_⟩
        · have ho : (bif isCut r all then false else x.own) = true := ho
          cases hc : isCut r all with
          | true => rw [hc] at ho; cases ho
          | false =>
            rw [hc] at ho
            rw [e1]
            exact hok.own ho
        · rw [e1]
          exact hok.read
      | pre r lo hi x hl hone hx ho hyx =>
        obtain ⟨e2, eb, hown⟩ := prev n r lo hi x hl hx ho
        subst hyx
        refine ⟨e2.trans (hM.ok r x hx).ty, fun _ => ⟨hown, fun g hg => ?_⟩, own_read hown⟩
        exact ((hM.ok r x hx).own ho).2 g (by rw [← eb]; exact hg)
      | part r p lo hi x hl hcut hx hyx =>
        obtain ⟨e1, e2⟩ := cutv n r p lo hi hl
        have hv := hV n _ hl
        have hrd := (listOf_read hM hv (show listOf (look s.rows) (.cut r p lo hi) = some y by unfold listOf; simp only [hx, hyx])).1
        subst hyx
        refine ⟨e2.trans (hM.ok r x hx).ty, fun ho => (by cases ho), ?_⟩
        rw [e1]
        exact hrd
      | empty t e hl hyx =>
        have hv : a.tmps.getD n undef = .slice none 0 0 := hV n _ hl
        have e1 : (cutEnv ε all a).sv n = .slice none 0 0 := by unfold cutEnv; simp only [hl]; exact hv
        have e2 : (cutEnv ε all a).ty n = t := by unfold cutEnv; simp only [hl]
        subst hyx
        refine ⟨e2, fun _ => ?_, ?_⟩
        · rw [e1]
          exact ⟨ownV_nil w t e, fun g hg => by simp [Value.ownBlock] at hg⟩
        · rw [e1]
          exact readV_nil w t
    · intro n y n' y' hy ho hy' hne hy2 g hg
      obtain ⟨hin, hkp⟩ := hkept n y hy
      obtain ⟨hin', hkp'⟩ := hkept n' y' hy'
      cases hkp with
      | part r p lo hi x hl hcut hx hyx => subst hyx; cases ho
      | pre r lo hi x hl hone hx ho0 hyx =>
        obtain ⟨_, eb, _⟩ := prev n r lo hi x hl hx ho0
        rw [eb] at hg
        have sp : speaks r (.cut r true lo hi) = true := Nat.beq_refl r
        cases hkp' with
        | whole r' x' hsrc' hx' hyx' =>
          obtain ⟨e1', _⟩ := src_env (a := a) (ε := ε) hsrc'
          obtain ⟨av', hl', hs'⟩ := srcS n' r' hsrc'
          rw [e1']
          have hrr : r ≠ r' := by
            rintro rfl
            exact two n n' _ _ r hl hl' hne sp hs' hone
          refine hM.sep r x r' x' hx ho0 hx' hrr ?_ g hg
          subst hyx'
          rcases hy2 with h | h
          · have h : (bif isCut r' all then false else x'.own) = true := h
            cases hc' : isCut r' all with
            | true => rw [hc'] at h; cases h
            | false => rw [hc'] at h; exact .inl h
          · exact .inr h
        | pre r' lo' hi' x' hl' hone' hx' ho' hyx' =>
          obtain ⟨_, eb', _⟩ := prev n' r' lo' hi' x' hl' hx' ho'
          rw [eb']
          have hrr : r ≠ r' := by
            rintro rfl
            exact two n n' _ _ r hl hl' hne sp (Nat.beq_refl r) hone
          exact hM.sep r x r' x' hx ho0 hx' hrr (.inl ho') g hg
        | part r' p' lo' hi' x' hl' hcut' hx' hyx' =>
          obtain ⟨e1', _⟩ := cutv n' r' p' lo' hi' hl'
          rw [e1']
          have hrr : r ≠ r' := by
            rintro rfl
            exact two n n' _ _ r hl hl' hne sp (Nat.beq_refl r) hone
          subst hyx'
          have hne' : (x'.xs.drop lo'.toNat).take (hi'.toNat - lo'.toNat) ≠ [] := hy2.resolve_left (fun h => by cases h)
          obtain ⟨_, A, m, c, A', c', hv, hmc, hV', hl0, hlh, hhm, hc', hne2, _, _⟩ := hV n' _ hl'
          have hlt : lo' < hi' := by
            by_cases hlt : lo' < hi'
            · exact hlt
            · rw [show hi'.toNat - lo'.toNat = 0 by omega, List.take_zero] at hne'
              exact absurd rfl hne'
          obtain ⟨ad, hA, hA'⟩ := hne2 hlt
          have hx0 : x'.xs ≠ [] := by
            intro h0
            rw [h0] at hne'
            simp at hne'
          have h3 := hM.sep r x r' x' hx ho0 hx' hrr (.inr hx0) g hg
          rw [hv, hA] at h3
          rw [hV', hA']
          have hbl : (ad.add (lo'.toNat * (ε.ty r').sz)).block = ad.block := by unfold Addr.add; split <;> rfl
          simp only [Value.ownBlock, hbl] at h3 ⊢
          exact h3
        | empty t e hl' hyx' =>
          have hv : a.tmps.getD n' undef = .slice none 0 0 := hV n' _ hl'
          have e1' : (cutEnv ε all a).sv n' = .slice none 0 0 := by unfold cutEnv; simp only [hl']; exact hv
          rw [e1']
          simp [Value.ownBlock]
      | empty t e hl hyx =>
        have hv : a.tmps.getD n undef = .slice none 0 0 := hV n _ hl
        have e1 : (cutEnv ε all a).sv n = .slice none 0 0 := by unfold cutEnv; simp only [hl]; exact hv
        rw [e1] at hg
        simp [Value.ownBlock] at hg
      | whole r x hsrc hx hyx =>
        obtain ⟨e1, e2⟩ := src_env (a := a) (ε := ε) hsrc
        rw [e1] at hg
        subst hyx
        have ho : (bif isCut r all then false else x.own) = true := ho
        cases hc : isCut r all with
        | true => rw [hc] at ho; cases ho
        | false =>
          rw [hc] at ho
          have ho : x.own = true := ho
          cases hkp' with
          | whole r' x' hsrc' hx' hyx' =>
            obtain ⟨e1', _⟩ := src_env (a := a) (ε := ε) hsrc'
            rw [e1']
            have hrr : r ≠ r' := by
              rintro rfl
              exact i6 n hin n' hin' hne r hsrc hsrc'
            refine hM.sep r x r' x' hx ho hx' hrr ?_ g hg
            subst hyx'
            rcases hy2 with h | h
            · have h : (bif isCut r' all then false else x'.own) = true := h
              cases hc' : isCut r' all with
              | true => rw [hc'] at h; cases h
              | false => rw [hc'] at h; exact .inl h
            · exact .inr h
          | pre r' lo' hi' x' hl' hone' hx' ho' hyx' =>
            obtain ⟨_, eb', _⟩ := prev n' r' lo' hi' x' hl' hx' ho'
            obtain ⟨av0, hl0, hs0⟩ := srcS n r hsrc
            rw [eb']
            have hrr : r ≠ r' := by
              rintro rfl
              exact two n' n _ _ r hl' hl0 (Ne.symm hne) (Nat.beq_refl r) hs0 hone'
            exact hM.sep r x r' x' hx ho hx' hrr (.inl ho') g hg
          | part r' p lo hi x' hl hcut hx' hyx' =>
            obtain ⟨e1', _⟩ := cutv n' r' p lo hi hl
            rw [e1']
            have hrr : r ≠ r' := by
              rintro rfl
              rw [hc] at hcut
              cases hcut
            subst hyx'
            have hne' : (x'.xs.drop lo.toNat).take (hi.toNat - lo.toNat) ≠ [] := hy2.resolve_left (fun h => by cases h)
            obtain ⟨_, A, m, c, A', c', hv, hmc, hV', hl0, hlh, hhm, hc', hne2, _, _⟩ := hV n' _ hl
            have hlt : lo < hi := by
              by_cases hlt : lo < hi
              · exact hlt
              · rw [show hi.toNat - lo.toNat = 0 by omega, List.take_zero] at hne'
                exact absurd rfl hne'
            obtain ⟨ad, hA, hA'⟩ := hne2 hlt
            have hx0 : x'.xs ≠ [] := by
              intro h0
              rw [h0] at hne'
              simp at hne'
            have h3 := hM.sep r x r' x' hx ho hx' hrr (.inr hx0) g hg
            rw [hv, hA] at h3
            rw [hV', hA']
            have hbl : (ad.add (lo.toNat * (ε.ty r').sz)).block = ad.block := by unfold Addr.add; split <;> rfl
            simp only [Value.ownBlock, hbl] at h3 ⊢
            exact h3
          | empty t e hl hyx' =>
            have hv : a.tmps.getD n' undef = .slice none 0 0 := hV n' _ hl
            have e1' : (cutEnv ε all a).sv n' = .slice none 0 0 := by unfold cutEnv; simp only [hl]; exact hv
            rw [e1']
            simp [Value.ownBlock]
    · exact hM.pres
  · cases h
end
end Go.Ev

/- Which operations may change places. -/
namespace Go.Ev
open Go.RowKit
section
variable (T : Tab) (sg : FuncId → Sig) (callF : (f : FuncId) → argL (sg f).ps → Option (retL (sg f).rs)) {R : Type}
abbrev oper1 (g : Nat → Option AV) (rw : RW) (d : Nat) (o : Oper) : Option (AV × Upd) := oper T sg callF g rw d o fun v us => some (v, us)
/-- Operations that read no row. -/
def noRow (o : Oper) : Bool := match o.op with
  | .move _ | .assign _ | .pick .. | .binOp .. | .unOp .. | .build .. | .extract .. | .field .. | .index .. | .nilCheck _ => true
  | .call { callee := .builtin .max, .. } => true
  | .call { callee := .builtin .min, .. } => true
  | _ => false
/-- Operations that change no row. -/
def quiet (o : Oper) : Bool := match o.op with
  | .move _ | .assign _ | .pick .. | .binOp .. | .unOp .. | .build .. | .extract .. | .field .. | .index .. | .nilCheck _
  | .load .. | .indexAddr .. | .fieldAddr .. | .slice _ _ _ _ none => true
  | .convert src dst _ => (match T.ty src, T.ty dst with
    | some .str, _ => false
    | none, none => false
    | _, _ => true)
  | .call { callee := .builtin .len, .. } => true
  | .call { callee := .builtin .max, .. } => true
  | .call { callee := .builtin .min, .. } => true
  | _ => false
end
section
variable {T : Tab} {sg : FuncId → Sig} {callF : (f : FuncId) → argL (sg f).ps → Option (retL (sg f).rs)} {R : Type} {g g' : Nat → Option AV} {rw rw' : RW} {d d' : Nat} {o : Oper} {l0 : List Operand}
theorem br_bind {α β : Type} (c : Bool) (x y : Option α) (f : α → Option β) : (br c x y).bind f = br c (x.bind f) (y.bind f) := by cases c <;> rfl
theorem chk_bind {α β : Type} (c : Bool) (x : Option α) (f : α → Option β) : (chk c x).bind f = chk c (x.bind f) := by cases c <;> rfl
theorem bif_bind {α β : Type} (c : Bool) (x : Option α) (f : α → Option β) : (bif c then x else none).bind f = (bif c then x.bind f else none) := by cases c <;> rfl
theorem binV_param {S : Type} (nc : Bool) (xt : TypeId) (op : BinOp) (a b : AV) (K : AV → Option S) (f : S → Option R) : binV T nc xt op a b (fun v => (K v).bind f) = (binV T nc xt op a b K).bind f := by
  unfold binV
  split
  · split
    · rw [chk_bind]
    · rw [bif_bind]
      congr 1
      split
      · rfl
      · split
        · rfl
        · split
          · rw [chk_bind]
          · split <;> rfl
  · split
    · rfl
    · split
      · rw [chk_bind]
      · rfl
  · split <;> rfl
  · split
    · rfl
    · rw [chk_bind]
  · split <;> rfl
  · split <;> rfl
  · split
    · rw [bif_bind]
      congr 1
      split
      · split <;> rfl
      · rfl
    · rfl
  · rfl
set_option maxHeartbeats 1000000 in
theorem oper_param (K : AV → Upd → Option R) : oper T sg callF g rw d o K = (oper1 T sg callF g rw d o).bind fun p => K p.1 p.2 := by
  unfold oper1 oper
  split
  case h_4 =>
    split
    · exact binV_param (S := AV × Upd) _ _ _ _ _ (fun v => some (v, [])) (fun p => K p.1 p.2)
    · rfl
  case h_23 =>
    rw [bif_bind]
    congr 1
    split
    · rename_i ds us rs ha
      cases callF _ ds with
      | none => rfl
      | some r =>
        show (bif _ then _ else none) = Option.bind (bif _ then _ else none) _
        rw [bif_bind]
        rfl
    · rfl
  all_goals (repeat' (first | (simp only [Option.bind_some, Option.bind_none]; done) | (rw [bif_bind]; congr 1; done) | (rw [bif_bind]; congr 1) | (rw [chk_bind]; congr 1; done) | (rw [chk_bind]; congr 1) | (rw [br_bind]; simp only [Option.bind_some]; done) | split))
theorem buildT_congr (h : ∀ ty x, x ∈ l0 → opd T g ty x = opd T g' ty x) {t : Ty} : ∀ (ps : List (Nat × Operand)) (x : t.den), (∀ p ∈ ps, p.2 ∈ l0) → buildT T g t ps x = buildT T g' t ps x
  | [], _, _ => rfl
  | (j, o) :: ps, x, hp => by
    unfold buildT
    rw [h 0 o (hp (j, o) (by simp))]
    split
    · split
      · exact buildT_congr h ps _ (fun p hq => hp p (List.mem_cons_of_mem _ hq))
      · rfl
    · rfl
theorem opdDen_congr {x : Operand} (h : opd T g 0 x = opd T g' 0 x) (t : Ty) : opdDen T g t x = opdDen T g' t x := by unfold opdDen; rw [h]
theorem opdInt_congr {x : Operand} (h : opd T g 0 x = opd T g' 0 x) : opdInt T g x = opdInt T g' x := by unfold opdInt; rw [h]
theorem elems_congr (h : ∀ ty x, x ∈ l0 → opd T g ty x = opd T g' ty x) {t : Ty} : ∀ (ps : List (Nat × Operand)) (n : Nat), (∀ p ∈ ps, p.2 ∈ l0) → elems T g t n ps = elems T g' t n ps
  | [], _, _ => rfl
  | (j, o) :: ps, n, hp => by
    unfold elems
    rw [opdDen_congr (h 0 o (hp (j, o) (by simp))), elems_congr h ps (n + 1) (fun p hq => hp p (List.mem_cons_of_mem _ hq))]
theorem toArg_congr {p : Par} {x : Operand} (h : opd T g 0 x = opd T g' 0 x) : toArg T g rw p x = toArg T g' rw p x := by
  unfold toArg
  cases p with
  | v t => simp only [opdDen_congr h]
  | op => rfl
  | pt t e => simp only [h]
  | read t e =>
    dsimp only
    split
    · rfl
    · simp only [h]
  | own t e =>
    dsimp only
    split
    · rfl
    · simp only [h]
theorem argRow_congr {x : Operand} (h : ∀ t, x = .tmp t → g t = g' t) : argRow g x = argRow g' x := by
  cases x with
  | tmp t => unfold argRow; simp only [h t rfl]
  | _ => rfl
theorem toArgs_congr : ∀ (ps : List Par) (l : List Operand), (∀ x ∈ l, opd T g 0 x = opd T g' 0 x) → toArgs T g rw ps l = toArgs T g' rw ps l
  | [], [], _ => rfl
  | [], _ :: _, _ => rfl
  | _ :: _, [], _ => rfl
  | p :: ps, x :: l, h => by
    have h1 := h x (by simp)
    unfold toArgs
    rw [toArg_congr h1, toArgs_congr ps l (fun y hy => h y (List.mem_cons_of_mem _ hy)), argRow_congr (g := g) (g' := g') (fun t ht => by subst ht; exact h1)]
theorem loOf_congr {x : Option Operand} (h : ∀ y, x = some y → opd T g 0 y = opd T g' 0 y) : loOf T g x = loOf T g' x := by
  cases x with
  | none => rfl
  | some y => exact opdInt_congr (h y rfl)
theorem hiOf_congr {x : Option Operand} (h : ∀ y, x = some y → opd T g 0 y = opd T g' 0 y) (n : Int) : hiOf T g x n = hiOf T g' x n := by
  cases x with
  | none => rfl
  | some y => exact opdInt_congr (h y rfl)
theorem maxI_congr {k : IntKind} : ∀ (l : List Operand) (x : Int), (∀ y ∈ l, opd T g 0 y = opd T g' 0 y) → maxI T g k x l = maxI T g' k x l
  | [], _, _ => rfl
  | o :: l, x, h => by
    unfold maxI
    rw [h o (by simp)]
    split
    · rw [maxI_congr l _ (fun y hy => h y (List.mem_cons_of_mem _ hy))]
    · rfl
theorem minI_congr {k : IntKind} : ∀ (l : List Operand) (x : Int), (∀ y ∈ l, opd T g 0 y = opd T g' 0 y) → minI T g k x l = minI T g' k x l
  | [], _, _ => rfl
  | o :: l, x, h => by
    unfold minI
    rw [h o (by simp)]
    split
    · rw [minI_congr l _ (fun y hy => h y (List.mem_cons_of_mem _ hy))]
    · rfl
/-- What an operation does hangs on its operands alone. -/
theorem oper_opd (h : ∀ ty x, x ∈ o.op.operands → opd T g ty x = opd T g' ty x) (K : AV → Upd → Option R) : oper T sg callF g rw d o K = oper T sg callF g' rw d o K := by
  unfold oper
  split
  · rename_i x hop
    rw [h _ x (by rw [hop]; simp [Op.operands])]
  · rename_i x hop
    rw [h _ x (by rw [hop]; simp [Op.operands])]
  · rename_i c x y hop
    rw [h _ c (by rw [hop]; simp [Op.operands]), h _ x (by rw [hop]; simp [Op.operands]), h _ y (by rw [hop]; simp [Op.operands])]
  · rename_i op xt x y yt hop
    rw [h _ x (by rw [hop]; simp [Op.operands]), h _ y (by rw [hop]; simp [Op.operands])]
  · rename_i op t x hop
    rw [h _ x (by rw [hop]; simp [Op.operands])]
  · rename_i t ps hop
    have e : ∀ (ty : Ty), buildT T g ty ps.toList ty.zero = buildT T g' ty ps.toList ty.zero := fun ty => buildT_congr (l0 := o.op.operands.toList) (fun ty x hx => h ty x (by simpa using hx)) _ _ (fun p hp => by
      rw [hop]
      simp only [Op.operands, List.mem_map]
      exact ⟨p, hp, rfl⟩)
    simp only [e]
  · rename_i t n ps hop
    have e : ∀ (ty : Ty), elems T g ty 0 ps.toList = elems T g' ty 0 ps.toList := fun ty => elems_congr (l0 := o.op.operands.toList) (fun ty x hx => h ty x (by simpa using hx)) _ _ (fun p hp => by
      rw [hop]
      simp only [Op.operands, List.mem_map]
      exact ⟨p, hp, rfl⟩)
    simp only [e]
  · rename_i e x hop
    rw [h _ x (by rw [hop]; simp [Op.operands])]
  · rfl
  · rename_i x hop
    rw [h _ x (by rw [hop]; simp [Op.operands])]
  · rename_i t x i hop
    rw [h _ x (by rw [hop]; simp [Op.operands]), opdInt_congr (h 0 i (by rw [hop]; simp [Op.operands]))]
  · rename_i t x i hop
    rw [h _ x (by rw [hop]; simp [Op.operands]), opdInt_congr (h 0 i (by rw [hop]; simp [Op.operands]))]
  · rename_i s x j hop
    rw [h _ x (by rw [hop]; simp [Op.operands])]
  · rename_i s x j hop
    rw [h _ x (by rw [hop]; simp [Op.operands])]
  · rename_i s x hop
    rw [h _ x (by rw [hop]; simp [Op.operands])]
  · rename_i s x y hop
    rw [h _ x (by rw [hop]; simp [Op.operands]), h _ y (by rw [hop]; simp [Op.operands])]
  · rename_i t x lo hi hop
    have e1 := loOf_congr (T := T) (g := g) (g' := g') (x := lo) (fun y hy => h 0 y (by rw [hop, hy]; simp [Op.operands]))
    have e2 := hiOf_congr (T := T) (g := g) (g' := g') (x := hi) (fun y hy => h 0 y (by rw [hop, hy]; simp [Op.operands]))
    rw [h _ x (by rw [hop]; simp [Op.operands]), e1]
    simp only [e2]
  · rename_i src dst x hop
    rw [h _ x (by rw [hop]; simp [Op.operands])]
  · rename_i x j hop
    rw [h _ x (by rw [hop]; simp [Op.operands])]
  · rename_i args ts hop
    split
    · rename_i x t ha ht
      rw [h _ x (by rw [hop, list1 ha]; simp [Op.operands, Call.operands])]
    · rfl
  · rename_i args ts hop
    split
    · rename_i x y t t' ha ht
      rw [h _ x (by rw [hop, list2 ha]; simp [Op.operands, Call.operands]), h _ y (by rw [hop, list2 ha]; simp [Op.operands, Call.operands])]
    · rfl
  · rename_i args ts hop
    split
    · rename_i x y t t' ha ht
      rw [h _ x (by rw [hop, list2 ha]; simp [Op.operands, Call.operands]), h _ y (by rw [hop, list2 ha]; simp [Op.operands, Call.operands])]
    · rfl
  · rename_i f args ts hop
    rw [toArgs_congr (sg f).ps args.toList (fun x hx => h 0 x (by
      rw [hop]
      simp only [Op.operands, Call.operands, Array.mem_append]
      exact .inr (by simpa using hx)))]
  · rename_i t l c hop
    rw [opdInt_congr (h 0 l (by rw [hop]; simp [Op.operands])), opdInt_congr (h 0 c (by rw [hop]; simp [Op.operands]))]
  · rename_i args ts hop
    split
    · rename_i x l ha
      have hh : ∀ y ∈ x :: l, opd T g 0 y = opd T g' 0 y := fun y hy => h 0 y (by
        rw [hop]
        simp only [Op.operands, Call.operands, Array.mem_append]
        exact .inr (by rw [← ha] at hy; simpa using hy))
      rw [hh x (by simp)]
      split
      · rw [maxI_congr l _ (fun y hy => hh y (List.mem_cons_of_mem _ hy))]
      · rfl
    · rfl
  · rename_i args ts hop
    split
    · rename_i x l ha
      have hh : ∀ y ∈ x :: l, opd T g 0 y = opd T g' 0 y := fun y hy => h 0 y (by
        rw [hop]
        simp only [Op.operands, Call.operands, Array.mem_append]
        exact .inr (by rw [← ha] at hy; simpa using hy))
      rw [hh x (by simp)]
      split
      · rw [minI_congr l _ (fun y hy => hh y (List.mem_cons_of_mem _ hy))]
      · rfl
    · rfl
  · rfl
theorem oper_noRow (hn : noRow o = true) (K : AV → Upd → Option R) : oper T sg callF g rw d o K = oper T sg callF g rw' d o K := by
  unfold noRow at hn
  unfold oper
  split at hn <;> first | (cases hn; done) | skip
  all_goals (rename_i hop; simp only [hop])
theorem quiet_nil (hq : quiet T o = true) {v : AV} {us : Upd} (h : oper1 T sg callF g rw d o = some (v, us)) : us = [] := by
  have key : oper T sg callF g rw d o (fun v us => some (v, us)) = oper T sg callF g rw d o (fun v _ => some (v, [])) := by
    unfold quiet at hq
    unfold oper
    split at hq <;> first | (cases hq; done) | skip
    case h_15 =>
      rename_i src dst x hop
      simp only [hop]
      split
      · split
        · rename_i hs _
          rw [hs] at hq
          cases hq
        · rename_i hs _
          rw [hs] at hq
          cases hq
        · rfl
      · rfl
      · rfl
      · split
        · rfl
        · rfl
        · rename_i h1 h2 h3 h4
          rw [h1, h3] at hq
          cases hq
        · rfl
      · rfl
    all_goals (rename_i hop; simp only [hop])
  rw [show oper T sg callF g rw d o (fun v us => some (v, us)) = some (v, us) from h, oper_param, show oper1 T sg callF g rw d o = some (v, us) from h] at key
  injection key with key
  injection key
/-! ### operations that make a row -/
/-- Operations that make one row and read none. -/
def makes (T : Tab) (o : Oper) : Bool := o.dst.isSome && (match o.op with
  | .box .. | .alloc _ | .buildSlice .. | .makeSlice .. => true
  | .convert src _ _ => (match T.ty src with
    | some .str => true
    | _ => false)
  | _ => false)
/-- Operations that make one row. -/
def mk1 (T : Tab) (o : Oper) : Bool := o.dst.isSome && (match o.op with
  | .call { callee := .value (.func f), .. } => T.rd f
  | _ => false)
theorem isNew_of {rw : RW} {d : Nat} (h : rw d = none) : isNew rw d = true := by unfold isNew; rw [h]
theorem makes_spec (hm : makes T o = true) {v : AV} {us : Upd} (h : oper1 T sg callF g rw d o = some (v, us)) :
    ∃ x, us = [(d, some x)] ∧ rw d = none ∧ ∀ rw', rw' d = none → oper1 T sg callF g rw' d o = some (v, us) := by
  unfold makes at hm
  rw [Bool.and_eq_true] at hm
  replace hm := hm.2
  unfold oper1 oper at h ⊢
  split at hm
  · rename_i e x hop
    simp only [hop] at h ⊢
    split at h
    · rename_i h1 h2
      obtain ⟨hb, h⟩ := bif_some h
      rw [Bool.and_eq_true] at hb
      cases h
      refine ⟨_, rfl, isNew_eq hb.2, fun rw' h' => ?_⟩
      rw [isNew_of h', hb.1]
      rfl
    · cases h
  · rename_i e hop
    simp only [hop] at h ⊢
    split at h
    · rename_i h1
      obtain ⟨hb, h⟩ := bif_some h
      cases h
      refine ⟨_, rfl, isNew_eq hb, fun rw' h' => ?_⟩
      rw [isNew_of h']
      rfl
    · cases h
  · rename_i t n ps hop
    simp only [hop] at h ⊢
    split at h
    · rename_i h1
      split at h
      · rename_i h2
        obtain ⟨hb, h⟩ := bif_some h
        rw [Bool.and_eq_true, Bool.and_eq_true] at hb
        cases h
        refine ⟨_, rfl, isNew_eq hb.1.2, fun rw' h' => ?_⟩
        rw [isNew_of h', hb.1.1, hb.2]
        rfl
      · cases h
    · cases h
  · rename_i t l c hop
    simp only [hop] at h ⊢
    split at h
    · rename_i h1 h2 h3
      obtain ⟨hb, h⟩ := bif_some h
      obtain ⟨c1, h⟩ := chk_some h
      obtain ⟨c2, h⟩ := chk_some h
      obtain ⟨c3, h⟩ := chk_some h
      cases h
      refine ⟨_, rfl, isNew_eq hb, fun rw' h' => ?_⟩
      rw [isNew_of h', c1, c2, c3]
      rfl
    · cases h
  · rename_i src dst x hop
    simp only [hop] at h ⊢
    split at hm
    · rename_i hs
      simp only [hs] at h ⊢
      split at h
      · rename_i s hx
        split at h
        · rename_i h1
          obtain ⟨hb, h⟩ := bif_some h
          obtain ⟨c1, h⟩ := chk_some h
          cases h
          refine ⟨_, rfl, isNew_eq hb, fun rw' h' => ?_⟩
          rw [isNew_of h', c1]
          rfl
        · obtain ⟨hb, h⟩ := bif_some h
          cases h
          refine ⟨_, rfl, isNew_eq hb, fun rw' h' => ?_⟩
          rw [isNew_of h']
          rfl
        · cases h
      · cases h
      · cases h
      · cases h
      · cases h
    · cases hm
  · cases hm
def namesC : AC → List Nat
  | .v _ _ => []
  | .sl r => [r]
  | .pt r => [r]
def names : AV → List Nat
  | .sl r => [r]
  | .cut r _ _ _ => [r]
  | .ptr r _ => [r]
  | .fptr r _ _ => [r]
  | .tup l => l.flatMap namesC
  | _ => []
/-- The slots speak of rows that were used. -/
def WfS (g : Nat → Option AV) (rw : RW) : Prop := ∀ n av, g n = some av → ∀ r ∈ names av, rw r ≠ none
theorem opd_names (hw : WfS g rw) {ty : TypeId} {x : Operand} {av : AV} (h : opd T g ty x = some av) : ∀ r ∈ names av, rw r ≠ none := by
  cases x with
  | tmp t => exact hw t av h
  | const c =>
    have h : constV T ty c = some av := h
    unfold constV at h
    split at h <;> first | (cases h; intro r hr; cases hr; done) | (cases h; done) | skip
    all_goals (split at h <;> first | (cases h; intro r hr; cases hr; done) | (cases h; done) | skip)
    all_goals (split at h <;> first | (cases h; intro r hr; cases hr; done) | (cases h; done))
  | global _ => cases h
  | func _ => cases h
theorem parts_names : ∀ (rs : List RTy) (r : retL rs) (n : Nat), ∀ c ∈ (parts n rs r).1, ∀ m ∈ namesC c, m ∈ given (parts n rs r).2
  | [], _, _, c, hc, _, _ => by cases hc
  | [.v t], x, n, c, hc, m, hm => by
    rw [List.mem_singleton.1 hc] at hm
    cases hm
  | [.sl t e], x, n, c, hc, m, hm => by
    rw [List.mem_singleton.1 hc] at hm
    simpa [parts, given, namesC] using hm
  | [.pt t e], x, n, c, hc, m, hm => by
    rw [List.mem_singleton.1 hc] at hm
    simpa [parts, given, namesC] using hm
  | .v t :: r0 :: l, x, n, c, hc, m, hm => by
    rcases List.mem_cons.1 hc with hc | hc
    · rw [hc] at hm
      cases hm
    · exact parts_names (r0 :: l) x.2 n c hc m hm
  | .sl t e :: r0 :: l, x, n, c, hc, m, hm => by
    rcases List.mem_cons.1 hc with hc | hc
    · rw [hc] at hm
      have : m = n := by simpa [namesC] using hm
      subst this
      exact List.mem_cons_self
    · exact List.mem_cons_of_mem _ (parts_names (r0 :: l) x.2 (n + 100000) c hc m hm)
  | .pt t e :: r0 :: l, x, n, c, hc, m, hm => by
    rcases List.mem_cons.1 hc with hc | hc
    · rw [hc] at hm
      have : m = n := by simpa [namesC] using hm
      subst this
      exact List.mem_cons_self
    · exact List.mem_cons_of_mem _ (parts_names (r0 :: l) x.2 (n + 100000) c hc m hm)
theorem given_app (us vs : Upd) {r : Nat} (h : r ∈ given vs) : r ∈ given (us ++ vs) := by
  induction us with
  | nil => exact h
  | cons u us ih => exact List.mem_cons_of_mem _ ih
theorem resOf_names (l : List AC) : ∀ r ∈ names (resOf l), r ∈ l.flatMap namesC := by
  intro r hr
  unfold resOf at hr
  split at hr
  · cases hr
  · simpa [names, namesC] using hr
  · simpa [names, namesC] using hr
  · exact hr
theorem row_same {rw rw' : RW} (hr : ∀ r, rw r ≠ none → rw' r = rw r) {r : Nat} (h : rw r ≠ none) : row rw' r = row rw r := by unfold row; rw [hr r h]
theorem lenOf_same {rw rw' : RW} (hr : ∀ r, rw r ≠ none → rw' r = rw r) {av : AV} (h : ∀ r ∈ names av, rw r ≠ none) : lenOf rw' av = lenOf rw av := by
  cases av <;> first | rfl | skip
  rename_i r
  unfold lenOf
  simp only [row_same hr (h r (by simp [names]))]
theorem listOf_same {rw rw' : RW} (hr : ∀ r, rw r ≠ none → rw' r = rw r) {av : AV} (h : ∀ r ∈ names av, rw r ≠ none) : listOf rw' av = listOf rw av := by
  cases av <;> first | rfl | skip
  · rename_i r
    unfold listOf
    simp only [row_same hr (h r (by simp [names]))]
  · rename_i r p lo hi
    unfold listOf
    simp only [row_same hr (h r (by simp [names]))]
theorem quiet_same (hq : quiet T o = true) (hw : WfS g rw) (hr : ∀ r, rw r ≠ none → rw' r = rw r) (K : AV → Upd → Option R) : oper T sg callF g rw' d o K = oper T sg callF g rw d o K := by
  have key : ∀ x ty av, opd T g ty x = some av → ∀ r ∈ names av, row rw' r = row rw r := fun x ty av hx r hrn => row_same hr (opd_names hw hx r hrn)
  unfold quiet at hq
  split at hq <;> first | (cases hq; done) | skip
  all_goals (rename_i hop; first | (refine oper_noRow ?_ K; unfold noRow; rw [hop]; done) | skip)
  · rename_i s x
    unfold oper
    simp only [hop]
    split
    · rename_i ht hx
      rw [row_same hr (opd_names hw hx _ (by simp [names]))]
    · rename_i ht hx
      rw [row_same hr (opd_names hw hx _ (by simp [names]))]
    · rfl
  · rename_i t x i
    unfold oper
    simp only [hop]
    split
    · rename_i ht hx hi
      split
      · rw [row_same hr (opd_names hw hx _ (by simp [names]))]
      · rw [row_same hr (opd_names hw hx _ (by simp [names]))]
      · rfl
    · rfl
  · rename_i s x j
    unfold oper
    simp only [hop]
    split
    · rename_i ht hx
      rw [row_same hr (opd_names hw hx _ (by simp [names]))]
    · rfl
  · rename_i t x lo hi
    unfold oper
    simp only [hop]
    split
    · rfl
    · rename_i hx hlo
      rw [row_same hr (opd_names hw hx _ (by simp [names]))]
    · rename_i hx hlo
      rw [row_same hr (opd_names hw hx _ (by simp [names]))]
    · rfl
  · rename_i src dst x
    unfold oper
    simp only [hop]
    have hs : T.ty src = some .str → False := fun hs => by
      rw [hs] at hq
      cases hq
    · clear hq
      split
      · split
        · rename_i h1 h2
          exact absurd h1 hs
        · rename_i h1 h2
          exact absurd h1 hs
        · rfl
      · rfl
      · rfl
      · rename_i hx
        rw [listOf_same hr (opd_names hw hx)]
      · rfl
  · rename_i args ts
    unfold oper
    simp only [hop]
    split
    · rename_i x t ha ht
      split
      · rfl
      · rename_i hx
        rw [lenOf_same hr (opd_names hw hx)]
      · rfl
    · rfl
theorem nil_names {av : AV} {rw : RW} {us : Upd} (h : ∀ r ∈ names av, rw r ≠ none) : ∀ r ∈ names av, updF rw us r ≠ none := fun r hr => updF_used rw us (.inl (h r hr))
theorem binV_v (nc : Bool) (xt : TypeId) (op : BinOp) (a b : AV) {v : AV} {us : Upd} (h : binV T nc xt op a b (fun v => some (v, ([] : Upd))) = some (v, us)) : ∃ t x, v = .v t x := by
  unfold binV at h
  split at h
  · split at h
    · obtain ⟨_, h⟩ := chk_some h
      cases h; exact ⟨_, _, rfl⟩
    · obtain ⟨_, h⟩ := bif_some h
      split at h
      · cases h; exact ⟨_, _, rfl⟩
      · split at h
        · cases h; exact ⟨_, _, rfl⟩
        · split at h
          · obtain ⟨_, h⟩ := chk_some h
            cases h; exact ⟨_, _, rfl⟩
          · split at h
            · cases h; exact ⟨_, _, rfl⟩
            · cases h
  · split at h
    · cases h; exact ⟨_, _, rfl⟩
    · split at h
      · obtain ⟨_, h⟩ := chk_some h
        cases h; exact ⟨_, _, rfl⟩
      · cases h
  · split at h
    · cases h; exact ⟨_, _, rfl⟩
    · cases h; exact ⟨_, _, rfl⟩
    · cases h
  · split at h
    · cases h; exact ⟨_, _, rfl⟩
    · obtain ⟨_, h⟩ := chk_some h
      cases h; exact ⟨_, _, rfl⟩
  · split at h
    · cases h; exact ⟨_, _, rfl⟩
    · cases h; exact ⟨_, _, rfl⟩
    · cases h
  · split at h
    · cases h; exact ⟨_, _, rfl⟩
    · cases h; exact ⟨_, _, rfl⟩
    · cases h
  · split at h
    · obtain ⟨_, h⟩ := bif_some h
      split at h
      · split at h
        · cases h; exact ⟨_, _, rfl⟩
        · cases h; exact ⟨_, _, rfl⟩
        · cases h
      · cases h
    · cases h
  · cases h
set_option maxHeartbeats 2000000 in
theorem oper_names (hw : WfS g rw) {v : AV} {us : Upd} (h : oper1 T sg callF g rw d o = some (v, us)) : ∀ r ∈ names v, updF rw us r ≠ none := by
  have hnew : ∀ (q : Nat) (us : Upd), d ∈ given us → q = d → updF rw us q ≠ none := fun q us hq e => by rw [e]; exact updF_used rw _ (.inr hq)
  unfold oper1 oper at h
  split at h
  case h_3 =>
    split at h
    · rename_i c x y hc hx hy
      cases c with
      | false => cases h; exact opd_names hw hy
      | true => cases h; exact opd_names hw hx
    · cases h
  case h_4 =>
    split at h
    · obtain ⟨t, x, rfl⟩ := binV_v _ _ _ _ _ h
      intro r hr; cases hr
    · cases h
  case h_23 =>
    replace h := (bif_some h).2
    split at h
    · rename_i ds us0 rs ha
      cases hc : callF _ ds with
      | none => rw [hc] at h; cases h
      | some rr =>
        rw [hc] at h
        simp only [Option.bind_some] at h
        replace h := bif_some h
        obtain ⟨_, h⟩ := h
        cases h
        intro r hr
        obtain ⟨c, hc, hrc⟩ := List.mem_flatMap.1 (resOf_names _ r hr)
        exact updF_used rw _ (.inr (given_app _ _ (parts_names _ _ _ c hc r hrc)))
    · cases h
  case h_19 =>
    split at h
    · rename_i l hx
      have hn := opd_names hw hx
      split at h <;> cases h
      · intro r hr; cases hr
      · rename_i q hq
        intro r hr
        rw [List.mem_singleton.1 hr]
        exact hn q (List.mem_flatMap.2 ⟨_, List.mem_of_getElem? hq, by simp [namesC]⟩)
      · rename_i q hq
        intro r hr
        rw [List.mem_singleton.1 hr]
        exact hn q (List.mem_flatMap.2 ⟨_, List.mem_of_getElem? hq, by simp [namesC]⟩)
    · cases h
  all_goals (repeat' (first
    | (cases h; done)
    | (replace h := bif_some h; replace h := h.2)
    | (replace h := chk_some h; replace h := h.2)
    | (cases h; intro r hr; cases hr; done)
    | (cases h; rename_i hx; exact opd_names hw hx)
    | (cases h; intro r hr; rw [List.mem_singleton.1 hr]; refine updF_used rw _ (.inr ?_); simp [given]; done)
    | (cases h; intro r hr; refine opd_names hw ‹opd T g _ _ = some _› r ?_; simpa [names] using hr; done)
    | split at h))
end
end Go.Ev

/- Regions that draw their order. -/
namespace Go.Ev
open Go.RowKit
def opnds : Op → List Operand
  | .pick c a b => [c, a, b]
  | .build _ ps | .buildSlice _ _ ps => ps.toList.map (·.2)
  | .call { callee := .builtin _, args, .. } => args.toList
  | .call { callee := .value f, args, .. } => f :: args.toList
  | .move x | .assign x | .box _ x | .load _ x | .nilCheck x | .unOp _ _ x | .convert _ _ x | .fieldAddr _ x _ | .field _ x _ | .extract x _ => [x]
  | .store _ a v | .binOp _ _ a v _ | .indexAddr _ a v | .index _ a v => [a, v]
  | op => op.operands.toList
theorem opnds_eq (op : Op) : op.operands.toList = opnds op := by
  unfold opnds
  split <;> simp [Op.operands, Call.operands]
def tmpsOf : List Operand → List Nat
  | [] => []
  | .tmp t :: l => t :: tmpsOf l
  | _ :: l => tmpsOf l
theorem mem_tmpsOf {t : Nat} : ∀ {l : List Operand}, Operand.tmp t ∈ l → t ∈ tmpsOf l
  | x :: l, h => by
    rcases List.mem_cons.1 h with h | h
    · subst h
      exact List.mem_cons_self
    · have := mem_tmpsOf h
      cases x <;> first | exact this | exact List.mem_cons_of_mem _ this
/-- What an operation looks at: its operands, its guard. -/
def looks (all : List Oper) (o : Oper) : List Nat := (match o.guard with
  | some (j, _) => (match guardS all j with
    | some d => [d]
    | none => [])
  | none => []) ++ tmpsOf (opnds o.op)
def dstIn (d : Option Nat) (l : List Nat) : Bool := match d with
  | some d => mem d l
  | none => false
def dstEq : Option Nat → Option Nat → Bool
  | some d, some e => Nat.beq d e
  | _, _ => false
def swapOk (T : Tab) (all : List Oper) (x y : Oper) : Bool :=
  !dstIn x.dst (looks all y) && !dstIn y.dst (looks all x) && !dstEq x.dst y.dst && (noRow x || noRow y || (quiet T x && quiet T y) || (makes T x && quiet T y) || (quiet T x && makes T y) || (makes T x && makes T y) || (mk1 T x && quiet T y) || (quiet T x && mk1 T y))
def maskOf (acc : List Nat) : List Edge → Nat → Nat
  | [], s => s
  | e :: l, s => maskOf acc l (bif Region.binds .any e then (s ||| 2 ^ e.on) ||| acc.getD e.on 0 else s)
def depsLt (n : Nat) : List Edge → Bool
  | [] => true
  | e :: l => (!Region.binds .any e || Nat.blt e.on n) && depsLt n l
def pairsOk (T : Tab) (all : List Oper) : List Oper → Nat → Nat → Oper → Bool
  | [], _, _, _ => true
  | p :: ps, i, m, o => (Nat.testBit m i || swapOk T all p o) && pairsOk T all ps (i + 1) m o
def ordGo (T : Tab) (all : List Oper) : List Oper → List Oper → List Nat → Bool
  | [], _, _ => true
  | o :: l, done, ms => depsLt done.length o.after.toList && pairsOk T all done 0 (maskOf ms o.after.toList 0) o && ordGo T all l (done ++ [o]) (ms ++ [maskOf ms o.after.toList 0])
def drawOk (T : Tab) (all : List Oper) : Bool := ordGo T all all [] []
/-- i must be listed ahead of j. -/
inductive Anc (l : List Oper) : Nat → Nat → Prop
  | one {i j : Nat} {o : Oper} {e : Edge} (ho : l[j]? = some o) (he : e ∈ o.after) (hb : Region.binds .any e = true) (hi : e.on = i) : Anc l i j
  | more {i j k : Nat} {o : Oper} {e : Edge} (ho : l[j]? = some o) (he : e ∈ o.after) (hb : Region.binds .any e = true) (hi : e.on = k) (h : Anc l i k) : Anc l i j
theorem maskOf_spec {acc : List Nat} {i : Nat} : ∀ (es : List Edge) (s : Nat), Nat.testBit (maskOf acc es s) i = true → Nat.testBit s i = true ∨ ∃ e ∈ es, Region.binds .any e = true ∧ (e.on = i ∨ Nat.testBit (acc.getD e.on 0) i = true)
  | [], s, h => .inl h
  | e :: es, s, h => by
    unfold maskOf at h
    rcases maskOf_spec es _ h with h | ⟨e', he', hb, h⟩
    · cases hb : Region.binds .any e with
      | false => rw [hb] at h; exact .inl h
      | true =>
        rw [hb] at h
        simp only [cond_true, Nat.testBit_or, Bool.or_eq_true] at h
        rcases h with (h | h) | h
        · exact .inl h
        · refine .inr ⟨e, by simp, hb, .inl ?_⟩
          rw [Nat.testBit_two_pow] at h
          exact of_decide_eq_true h
        · exact .inr ⟨e, by simp, hb, .inr h⟩
    · exact .inr ⟨e', List.mem_cons_of_mem _ he', hb, h⟩
theorem depsLt_spec {n : Nat} : ∀ {es : List Edge}, depsLt n es = true → ∀ e ∈ es, Region.binds .any e = true → e.on < n
  | [], _, _, h, _ => by cases h
  | e :: es, h, e', he', hb => by
    unfold depsLt at h
    rw [Bool.and_eq_true] at h
    rcases List.mem_cons.1 he' with he' | he'
    · subst he'
      have := h.1
      rw [hb] at this
      simpa [Nat.blt_eq] using this
    · exact depsLt_spec h.2 e' he' hb
theorem pairsOk_spec {T : Tab} {all : List Oper} {m : Nat} {o : Oper} : ∀ {ps : List Oper} {k : Nat}, pairsOk T all ps k m o = true → ∀ i p, ps[i]? = some p → Nat.testBit m (k + i) = true ∨ swapOk T all p o = true
  | [], _, _, _, _, h => by simp at h
  | p :: ps, k, h, i, q, hq => by
    unfold pairsOk at h
    rw [Bool.and_eq_true, Bool.or_eq_true] at h
    cases i with
    | zero =>
      have hq : p = q := by simpa using hq
      subst hq
      exact h.1
    | succ i =>
      have := pairsOk_spec h.2 i q (by simpa using hq)
      rwa [show k + 1 + i = k + (i + 1) by omega] at this
theorem ordGo_spec {T : Tab} {all : List Oper} : ∀ (rest done : List Oper) (ms : List Nat), all = done ++ rest → ms.length = done.length →
    (∀ j i, j < done.length → Nat.testBit (ms.getD j 0) i = true → Anc all i j) → (∀ i j p q, i < j → all[i]? = some p → all[j]? = some q → j < done.length → Anc all i j ∨ swapOk T all p q = true) →
    (∀ j q, all[j]? = some q → j < done.length → ∀ e ∈ q.after, Region.binds .any e = true → e.on < j) → ordGo T all rest done ms = true →
    (∀ i j p q, i < j → all[i]? = some p → all[j]? = some q → Anc all i j ∨ swapOk T all p q = true) ∧ (∀ j q, all[j]? = some q → ∀ e ∈ q.after, Region.binds .any e = true → e.on < j)
  | [], done, ms, hall, _, _, h2, h3, _ => by
    rw [List.append_nil] at hall
    subst hall
    exact ⟨fun i j p q hij hp hq => h2 i j p q hij hp hq (List.getElem?_eq_some_iff.1 hq).1, fun j q hq => h3 j q hq (List.getElem?_eq_some_iff.1 hq).1⟩
  | o :: l, done, ms, hall, hlen, h1, h2, h3, h => by
    unfold ordGo at h
    rw [Bool.and_eq_true, Bool.and_eq_true] at h
    obtain ⟨⟨ha, hb⟩, hc⟩ := h
    have ho : all[done.length]? = some o := by rw [hall]; simp
    have hdeps : ∀ e ∈ o.after, Region.binds .any e = true → e.on < done.length := fun e he hbd => depsLt_spec ha e (by simpa using he) hbd
    have hmask : ∀ i, Nat.testBit (maskOf ms o.after.toList 0) i = true → Anc all i done.length := by
      intro i hi
      rcases maskOf_spec _ _ hi with h0 | ⟨e, he, hbd, h0⟩
      · simp at h0
      · have he' : e ∈ o.after := by simpa using he
        rcases h0 with h0 | h0
        · exact .one ho he' hbd h0
        · exact .more ho he' hbd rfl (h1 e.on i (hdeps e he' hbd) h0)
    refine ordGo_spec l (done ++ [o]) _ (by rw [hall]; simp) (by simp [hlen]) (fun j i hj hi => ?_) (fun i j p q hij hp hq hj => ?_) (fun j q hq hj => ?_) hc
    · have hj : j < done.length ∨ j = done.length := by simp at hj; omega
      rcases hj with hj | rfl
      · refine h1 j i hj ?_
        rw [List.getD_eq_getElem?_getD, List.getElem?_append_left (by omega), ← List.getD_eq_getElem?_getD] at hi
        exact hi
      · rw [← hlen, List.getD_eq_getElem?_getD, List.getElem?_append_right (Nat.le_refl _)] at hi
        simp at hi
        exact hmask i hi
    · have hj : j < done.length ∨ j = done.length := by simp at hj; omega
      rcases hj with hj | rfl
      · exact h2 i j p q hij hp hq hj
      · rw [ho] at hq
        cases hq
        have hp' : done[i]? = some p := by
          rw [hall, List.getElem?_append_left hij] at hp
          exact hp
        rcases pairsOk_spec hb i p hp' with h0 | h0
        · rw [Nat.zero_add] at h0
          exact .inl (hmask i h0)
        · exact .inr h0
    · have hj : j < done.length ∨ j = done.length := by simp at hj; omega
      rcases hj with hj | rfl
      · exact h3 j q hq hj
      · rw [ho] at hq
        cases hq
        exact hdeps
theorem drawOk_spec {T : Tab} {all : List Oper} (h : drawOk T all = true) :
    (∀ i j p q, i < j → all[i]? = some p → all[j]? = some q → Anc all i j ∨ swapOk T all p q = true) ∧ (∀ j q, all[j]? = some q → ∀ e ∈ q.after, Region.binds .any e = true → e.on < j) :=
  ordGo_spec all [] [] rfl rfl (fun j i hj => by cases hj) (fun i j p q _ _ _ hj => by cases hj) (fun j q _ hj => by cases hj) h
end Go.Ev

/- Regions that draw their order are sound. -/
namespace Go.Ev
open Go.RowKit
abbrev FS := (Nat → Option AV) × RW
section
variable (T : Tab) (sg : FuncId → Sig) (callF : (f : FuncId) → argL (sg f).ps → Option (retL (sg f).rs))
def wantedE (all : List Oper) (o : Oper) (g : Nat → Option AV) : Option Bool := match o.guard with
  | none => some true
  | some (j, want) => (match guardS all j with
    | some d => (match g d with
      | some (.v .bool b) => some (want == b)
      | some .u => some false
      | _ => none)
    | none => none)
def res (all : List Oper) (o : Oper) (g : Nat → Option AV) (rw : RW) : Option (AV × Upd) := match wantedE all o g with
  | some true => oper1 T sg callF g rw (dstN o.dst) o
  | some false => some (.u, [])
  | none => none
def putF (g : Nat → Option AV) (dst : Option Nat) (v : AV) : Nat → Option AV := match dst with
  | none => g
  | some d => fun n => if n = d then some v else g n
def runF (nt : Nat) (all : List Oper) (o : Oper) (f : FS) : Option FS := bif dstOk nt o.dst then (match res T sg callF all o f.1 f.2 with
  | some (v, us) => some (putF f.1 o.dst v, updF f.2 us)
  | none => none) else none
def seqF (nt : Nat) (all : List Oper) : List Oper → FS → Option FS
  | [], f => some f
  | o :: l, f => (match runF T sg callF nt all o f with
    | some f' => seqF nt all l f'
    | none => none)
end
section
variable {C : Ctx} {nt : Nat} {s : St} {w w' : World} {a : Act} {o : Oper} {R : Type} {sg : FuncId → Sig} {callF : (f : FuncId) → argL (sg f).ps → Option (retL (sg f).rs)} {T : Tab} {all : List Oper}
theorem look_putS (sl : List (Nat × AV)) (dst : Option Nat) (v : AV) : look (putS sl dst v) = putF (look sl) dst v := by
  cases dst with
  | none => rfl
  | some d => funext m; exact look_set sl d v m
theorem step_runF {K : St → Option R} {r : R} (h : step T sg callF nt s o K = some r) : ∃ v us, oper1 T sg callF (look s.sl) (look s.rows) (dstN o.dst) o = some (v, us) ∧ dstOk nt o.dst = true ∧ K ⟨putS s.sl o.dst v, upd s.rows us⟩ = some r := by
  unfold step at h
  obtain ⟨hd, h⟩ := bif_some h
  rw [oper_param] at h
  cases hq : oper1 T sg callF (look s.sl) (look s.rows) (dstN o.dst) o with
  | none => rw [hq] at h; cases h
  | some p =>
    rw [hq] at h
    obtain ⟨v, us⟩ := p
    exact ⟨v, us, rfl, hd, h⟩
theorem ops_seqF : ∀ (l : List Oper) (s : St) {K : St → Option R} {r : R}, ops T sg callF nt all l s K = some r →
    ∃ s', K s' = some r ∧ seqF T sg callF nt all l (look s.sl, look s.rows) = some (look s'.sl, look s'.rows) ∧ ((s.sl.map Prod.fst).Nodup → (s'.sl.map Prod.fst).Nodup)
  | [], s, K, r, h => ⟨s, h, rfl, fun h => h⟩
  | o :: l, s, K, r, h => by
    have same : ∀ {d : Nat} {av : AV}, look s.sl d = some av → look (set s.sl d av) = look s.sl := by
      intro d av hd
      funext m
      rw [look_set]
      split
      · rename_i e
        rw [e, hd]
      · rfl
    have onStep : ∀ s1 : St, look s1.sl = look s.sl → s1.rows = s.rows → ((s.sl.map Prod.fst).Nodup → (s1.sl.map Prod.fst).Nodup) → wantedE all o (look s.sl) = some true → step T sg callF nt s1 o (fun s => ops T sg callF nt all l s K) = some r →
        ∃ s', K s' = some r ∧ seqF T sg callF nt all (o :: l) (look s.sl, look s.rows) = some (look s'.sl, look s'.rows) ∧ ((s.sl.map Prod.fst).Nodup → (s'.sl.map Prod.fst).Nodup) := by
      intro s1 e1 e2 e3 hw h1
      obtain ⟨v, us, h2, hd, h3⟩ := step_runF h1
      obtain ⟨s', k1, k2, k3⟩ := ops_seqF l _ h3
      refine ⟨s', k1, ?_, fun hn => k3 (putS_keys _ _ (e3 hn))⟩
      rw [e1, e2] at h2
      unfold seqF runF res
      simp only [hw, h2, hd, cond_true]
      rw [look_putS, look_upd, e1, e2] at k2
      exact k2
    have onSkip : ∀ s1 : St, look s1.sl = look s.sl → s1.rows = s.rows → ((s.sl.map Prod.fst).Nodup → (s1.sl.map Prod.fst).Nodup) → wantedE all o (look s.sl) = some false → skipS nt s1 o (fun s => ops T sg callF nt all l s K) = some r →
        ∃ s', K s' = some r ∧ seqF T sg callF nt all (o :: l) (look s.sl, look s.rows) = some (look s'.sl, look s'.rows) ∧ ((s.sl.map Prod.fst).Nodup → (s'.sl.map Prod.fst).Nodup) := by
      intro s1 e1 e2 e3 hw h1
      unfold skipS at h1
      obtain ⟨hd, h1⟩ := bif_some h1
      obtain ⟨s', k1, k2, k3⟩ := ops_seqF l _ h1
      refine ⟨s', k1, ?_, fun hn => k3 (putS_keys _ _ (e3 hn))⟩
      unfold seqF runF res
      simp only [hw, hd, cond_true, updF]
      rw [look_putS, e1, e2] at k2
      exact k2
    unfold ops at h
    split at h
    · rename_i hg
      exact onStep s rfl rfl (fun h => h) (by unfold wantedE; simp only [hg]) h
    · rename_i j want hg
      split at h
      · rename_i d hgd
        split at h
        · rename_i b hb
          have hw : wantedE all o (look s.sl) = some (want == b) := by unfold wantedE; simp only [hg, hgd, hb]
          cases want with
          | true =>
            rcases br_some h with ⟨rfl, h⟩ | ⟨rfl, h⟩
            · exact onStep ⟨set s.sl d (.v .bool true), s.rows⟩ (same hb) rfl (fun hn => (keys_set _ _ _ hn).1) hw h
            · exact onSkip ⟨set s.sl d (.v .bool false), s.rows⟩ (same hb) rfl (fun hn => (keys_set _ _ _ hn).1) hw h
          | false =>
            rcases br_some h with ⟨rfl, h⟩ | ⟨rfl, h⟩
            · exact onSkip ⟨set s.sl d (.v .bool true), s.rows⟩ (same hb) rfl (fun hn => (keys_set _ _ _ hn).1) hw h
            · exact onStep ⟨set s.sl d (.v .bool false), s.rows⟩ (same hb) rfl (fun hn => (keys_set _ _ _ hn).1) hw h
        · rename_i hu
          exact onSkip s rfl rfl (fun h => h) (by unfold wantedE; simp only [hg, hgd, hu]) h
        · cases h
      · cases h
/-! ### two that change places -/
theorem res_congr {g g' : Nat → Option AV} {rw : RW} (h : ∀ t ∈ looks all o, g t = g' t) : res T sg callF all o g rw = res T sg callF all o g' rw := by
  have hop : ∀ ty x, x ∈ o.op.operands → opd T g ty x = opd T g' ty x := by
    intro ty x hx
    cases x with
    | tmp t => exact h t (List.mem_append_right _ (mem_tmpsOf (by rw [← opnds_eq]; simpa using hx)))
    | const v => rfl
    | global _ => rfl
    | func _ => rfl
  have hw : wantedE all o g = wantedE all o g' := by
    unfold wantedE
    split
    · rfl
    · rename_i j want hg
      split
      · rename_i d hd
        rw [h d (by unfold looks; simp [hg, hd])]
      · rfl
  unfold res oper1
  rw [hw, oper_opd hop]
theorem res_noRow {g : Nat → Option AV} {rw rw' : RW} (h : noRow o = true) : res T sg callF all o g rw = res T sg callF all o g rw' := by
  unfold res oper1
  split
  · exact oper_noRow h _
  · rfl
  · rfl
theorem noRow_quiet (h : noRow o = true) : quiet T o = true := by
  unfold noRow at h
  unfold quiet
  split at h <;> first | (cases h; done) | skip
  all_goals (rename_i hop; simp only [hop])
theorem res_quiet {g : Nat → Option AV} {rw : RW} (h : quiet T o = true) {v : AV} {us : Upd} (hr : res T sg callF all o g rw = some (v, us)) : us = [] := by
  unfold res at hr
  split at hr
  · exact quiet_nil h hr
  · cases hr; rfl
  · cases hr
theorem dstIn_spec {d : Option Nat} {l : List Nat} (h : dstIn d l = false) : ∀ t ∈ l, d ≠ some t := by
  rintro t ht rfl
  have : mem t l = false := h
  rw [(mem_iff t l).2 ht] at this
  cases this
theorem dstEq_spec {d e : Option Nat} (h : dstEq d e = false) : ∀ t, d = some t → e ≠ some t := by
  rintro t rfl rfl
  have : Nat.beq t t = false := h
  rw [Nat.beq_refl] at this
  cases this
theorem putF_ne {g : Nat → Option AV} {d : Option Nat} {v : AV} {t : Nat} (h : d ≠ some t) : putF g d v t = g t := by
  cases d with
  | none => rfl
  | some d =>
    show (if t = d then some v else g t) = g t
    rw [if_neg (fun e => h (by rw [e]))]
theorem putF_comm {g : Nat → Option AV} {d e : Option Nat} {v u2 : AV} (h : ∀ t, d = some t → e ≠ some t) : putF (putF g d v) e u2 = putF (putF g e u2) d v := by
  cases d with
  | none => rfl
  | some d =>
    cases e with
    | none => rfl
    | some e =>
      have hne : d ≠ e := fun he => h d rfl (by rw [he])
      funext n
      show (if n = e then some u2 else if n = d then some v else g n) = (if n = d then some v else if n = e then some u2 else g n)
      by_cases h1 : n = d
      · by_cases h2 : n = e
        · exact absurd (h1.symm.trans h2) hne
        · rw [if_neg h2, if_pos h1, if_pos h1]
      · rw [if_neg h1, if_neg h1]
theorem res_makes {g : Nat → Option AV} {rw : RW} (h : makes T o = true) {v : AV} {us : Upd} (hr : res T sg callF all o g rw = some (v, us)) : us = [] ∧ (∀ rw', res T sg callF all o g rw' = some (v, us)) ∨ ∃ x, us = [(dstN o.dst, some x)] ∧ rw (dstN o.dst) = none ∧ ∀ rw', rw' (dstN o.dst) = none → res T sg callF all o g rw' = some (v, us) := by
  unfold res at hr ⊢
  split at hr
  · exact .inr (makes_spec h hr)
  · cases hr; exact .inl ⟨rfl, fun _ => rfl⟩
  · cases hr
theorem toArg_read {p : Par} {x : Operand} {y : p.den} {us : Upd} {T : Tab} {g : Nat → Option AV} {rw : RW} (hp : ∀ t e, p ≠ .own t e) (h : toArg T g rw p x = some (y, us)) : us = [] := by
  cases p with
  | v t =>
    simp only [toArg] at h
    split at h <;> cases h
    rfl
  | op => simp only [toArg] at h; cases h; rfl
  | pt t e =>
    simp only [toArg] at h
    split at h
    · split at h
      · obtain ⟨_, h⟩ := bif_some h
        split at h <;> cases h
        rfl
      · cases h
    · cases h
  | read t e =>
    simp only [toArg] at h
    split at h
    · cases h; rfl
    · split at h
      · split at h
        · obtain ⟨_, h⟩ := bif_some h
          split at h <;> cases h
          rfl
        · cases h
      · cases h
  | own t e => exact absurd rfl (hp t e)
theorem toArgs_read {T : Tab} {g : Nat → Option AV} {rw : RW} : ∀ {ps : List Par} {l : List Operand} {ys : argL ps} {us : Upd} {rs : List Nat}, noOwn ps = true → toArgs T g rw ps l = some (ys, us, rs) → us = []
  | [], [], _, _, _, _, h => by cases h; rfl
  | [], _ :: _, _, _, _, _, h => by cases h
  | _ :: _, [], _, _, _, _, h => by cases h
  | p :: ps, x :: l, ys, us, rs, hn, h => by
    have hp : (∀ t e, p ≠ .own t e) ∧ noOwn ps = true := by
      cases p <;> first | exact ⟨fun _ _ e => (by cases e), hn⟩ | cases hn
    simp only [toArgs] at h
    split at h
    · rename_i y us1 ys1 vs rs1 h1 h2
      obtain ⟨_, h⟩ := bif_some h
      cases h
      rw [toArg_read hp.1 h1, toArgs_read hp.2 h2]
      rfl
    · cases h
theorem parts_one {R : List RTy} (r : retL R) {d : Nat} {rw : RW} (h : oneSl R = true) (hn : allNew rw (parts d R r).2 = true) : ∃ x, (parts d R r).2 = [(d, some x)] ∧ rw d = none := by
  cases R with
  | nil => cases h
  | cons t R =>
    cases R with
    | nil =>
      cases t with
      | v t => cases h
      | pt t e => cases h
      | sl t e =>
        have : (isNew rw d && true) = true := hn
        exact ⟨_, rfl, isNew_eq (by simpa using this)⟩
    | cons u R => cases t <;> cases h
theorem mk1_spec {g : Nat → Option AV} {rw : RW} {d : Nat} (h : mk1 T o = true) {v : AV} {us : Upd} (hr : oper1 T sg callF g rw d o = some (v, us)) : ∃ x, us = [(d, some x)] ∧ rw d = none := by
  unfold mk1 at h
  rw [Bool.and_eq_true] at h
  replace h := h.2
  unfold oper1 oper at hr
  split at h
  · rename_i f args ts hop
    simp only [hop] at hr
    obtain ⟨hc, hr⟩ := bif_some hr
    rw [h] at hc
    have hsig : rdSig (sg f) = true := by simpa using hc
    unfold rdSig at hsig
    rw [Bool.and_eq_true] at hsig
    split at hr
    · rename_i ds us0 rs ha
      have hu := toArgs_read hsig.1 ha
      subst hu
      cases hcf : callF f ds with
      | none => rw [hcf] at hr; cases hr
      | some r =>
        rw [hcf] at hr
        simp only [Option.bind_some] at hr
        obtain ⟨hnew, hr⟩ := bif_some hr
        cases hr
        obtain ⟨x, hx, hd⟩ := parts_one r hsig.2 hnew
        exact ⟨x, by rw [List.nil_append]; exact hx, hd⟩
    · cases hr
  · cases h
theorem res_mk1 {g : Nat → Option AV} {rw : RW} (h : mk1 T o = true) {v : AV} {us : Upd} (hr : res T sg callF all o g rw = some (v, us)) : us = [] ∨ ∃ x, us = [(dstN o.dst, some x)] ∧ rw (dstN o.dst) = none := by
  unfold res at hr
  split at hr
  · exact .inr (mk1_spec h hr)
  · cases hr; exact .inl rfl
  · cases hr
theorem res_same {g : Nat → Option AV} {rw rw' : RW} (h : quiet T o = true) (hw : WfS g rw) (hr : ∀ r, rw r ≠ none → rw' r = rw r) : res T sg callF all o g rw' = res T sg callF all o g rw := by
  unfold res
  split
  · exact quiet_same h hw hr _
  · rfl
  · rfl
theorem res_names {g : Nat → Option AV} {rw : RW} (hw : WfS g rw) {v : AV} {us : Upd} (hr : res T sg callF all o g rw = some (v, us)) : ∀ r ∈ names v, updF rw us r ≠ none := by
  unfold res at hr
  split at hr
  · exact oper_names hw hr
  · cases hr; intro r hr; cases hr
  · cases hr
theorem makes_dst {x : Oper} (h : makes T x = true) : x.dst = some (dstN x.dst) := by
  unfold makes at h
  rw [Bool.and_eq_true] at h
  cases hd : x.dst with
  | none => rw [hd] at h; cases h.1
  | some d => rfl
theorem runF_wf {x : Oper} {f f1 : FS} (hw : WfS f.1 f.2) (h : runF T sg callF nt all x f = some f1) : WfS f1.1 f1.2 := by
  unfold runF at h
  obtain ⟨_, h⟩ := bif_some h
  split at h
  · rename_i v us hr
    cases h
    have hn := res_names hw hr
    intro n av hg
    show ∀ r ∈ names av, updF f.2 us r ≠ none
    have old : f.1 n = some av → ∀ r ∈ names av, updF f.2 us r ≠ none := fun hg r hr => updF_used _ _ (.inl (hw n av hg r hr))
    cases hd : x.dst with
    | none =>
      rw [hd] at hg
      exact old hg
    | some d =>
      rw [hd] at hg
      have hg : (if n = d then some v else f.1 n) = some av := hg
      split at hg
      · cases hg; exact hn
      · exact old hg
  · cases h
theorem runF_swap {x y : Oper} (hs : swapOk T all x y = true) {f f1 f2 : FS} (hw : WfS f.1 f.2) (h1 : runF T sg callF nt all x f = some f1) (h2 : runF T sg callF nt all y f1 = some f2) : ∃ f1', runF T sg callF nt all y f = some f1' ∧ runF T sg callF nt all x f1' = some f2 := by
  unfold swapOk at hs
  rw [Bool.and_eq_true, Bool.and_eq_true, Bool.and_eq_true, Bool.not_eq_true', Bool.not_eq_true', Bool.not_eq_true'] at hs
  obtain ⟨⟨⟨ha, hb⟩, hc⟩, hcls⟩ := hs
  have ha := dstIn_spec ha
  have hb := dstIn_spec hb
  have hc := dstEq_spec hc
  unfold runF at h1 h2
  obtain ⟨hd1, h1⟩ := bif_some h1
  obtain ⟨hd2, h2⟩ := bif_some h2
  split at h1
  · rename_i v us hr1
    cases h1
    split at h2
    · rename_i u2 vs hr2
      cases h2
      have fy : ∀ rw, res T sg callF all y (putF f.1 x.dst v) rw = res T sg callF all y f.1 rw := fun rw => res_congr (fun t ht => putF_ne (ha t ht))
      have fx : ∀ rw, res T sg callF all x (putF f.1 y.dst u2) rw = res T sg callF all x f.1 rw := fun rw => res_congr (fun t ht => putF_ne (hb t ht))
      have hr2' : res T sg callF all y f.1 (updF f.2 us) = some (u2, vs) := by rw [← fy]; exact hr2
      have key : res T sg callF all y f.1 f.2 = some (u2, vs) ∧ res T sg callF all x f.1 (updF f.2 vs) = some (v, us) ∧ updF (updF f.2 us) vs = updF (updF f.2 vs) us := by
        rw [Bool.or_eq_true, Bool.or_eq_true, Bool.or_eq_true, Bool.or_eq_true, Bool.or_eq_true, Bool.or_eq_true, Bool.or_eq_true, Bool.and_eq_true, Bool.and_eq_true, Bool.and_eq_true, Bool.and_eq_true, Bool.and_eq_true, Bool.and_eq_true] at hcls
        rcases hcls with ((((((hx | hy) | ⟨hx, hy⟩) | ⟨hx, hy⟩) | ⟨hx, hy⟩) | ⟨hx, hy⟩) | ⟨hx, hy⟩) | ⟨hx, hy⟩
        · have hus := res_quiet (noRow_quiet hx) hr1
          subst hus
          exact ⟨hr2', by rw [res_noRow (rw' := f.2) hx]; exact hr1, rfl⟩
        · have h3 : res T sg callF all y f.1 f.2 = some (u2, vs) := by rw [res_noRow (rw' := updF f.2 us) hy]; exact hr2'
          have hvs := res_quiet (noRow_quiet hy) h3
          subst hvs
          exact ⟨h3, hr1, rfl⟩
        · have hus := res_quiet hx hr1
          subst hus
          have hvs := res_quiet hy hr2'
          subst hvs
          exact ⟨hr2', hr1, rfl⟩
        · rcases res_makes hx hr1 with ⟨rfl, hx'⟩ | ⟨X, rfl, hx1, hx2⟩
          · have hvs := res_quiet hy hr2'
            subst hvs
            exact ⟨hr2', hx' _, rfl⟩
          · have hvs := res_quiet hy hr2'
            subst hvs
            refine ⟨?_, hr1, rfl⟩
            rw [← hr2']
            refine (res_same hy hw fun r hr => ?_).symm
            show (if r = dstN x.dst then some (some X) else f.2 r) = f.2 r
            rw [if_neg (fun e => hr (by rw [e]; exact hx1))]
        · have hus := res_quiet hx hr1
          subst hus
          rcases res_makes hy hr2' with ⟨rfl, hy'⟩ | ⟨Y, rfl, hy1, hy2⟩
          · exact ⟨hr2', hr1, rfl⟩
          · refine ⟨hr2', ?_, rfl⟩
            rw [← hr1]
            refine res_same hx hw fun r hr => ?_
            show (if r = dstN y.dst then some (some Y) else f.2 r) = f.2 r
            rw [if_neg (fun e => hr (by rw [e]; exact hy1))]
        · rcases res_makes hx hr1 with ⟨rfl, hx'⟩ | ⟨X, rfl, hx1, hx2⟩
          · exact ⟨hr2', hx' _, rfl⟩
          · have hne : dstN x.dst ≠ dstN y.dst := fun e => hc _ (makes_dst hx) (by rw [e]; exact makes_dst hy)
            rcases res_makes hy hr2' with ⟨rfl, hy'⟩ | ⟨Y, rfl, hy1, hy2⟩
            · exact ⟨hy' _, hr1, rfl⟩
            · have hy1' : f.2 (dstN y.dst) = none := by
                have : (if dstN y.dst = dstN x.dst then _ else f.2 (dstN y.dst)) = none := hy1
                rwa [if_neg (Ne.symm hne)] at this
              refine ⟨hy2 _ hy1', hx2 _ ?_, ?_⟩
              · show (if dstN x.dst = dstN y.dst then _ else f.2 (dstN x.dst)) = none
                rw [if_neg hne]
                exact hx1
              · funext m
                show (if m = dstN y.dst then _ else if m = dstN x.dst then _ else f.2 m) = (if m = dstN x.dst then _ else if m = dstN y.dst then _ else f.2 m)
                by_cases e1 : m = dstN y.dst
                · have e2 : m ≠ dstN x.dst := fun e => hne (e.symm.trans e1)
                  rw [if_pos e1, if_neg e2, if_pos e1]
                · rw [if_neg e1, if_neg e1]
        · have hvs := res_quiet hy hr2'
          subst hvs
          rcases res_mk1 hx hr1 with rfl | ⟨X, rfl, hx1⟩
          · exact ⟨hr2', hr1, rfl⟩
          · refine ⟨?_, hr1, rfl⟩
            rw [← hr2']
            refine (res_same hy hw fun r hr => ?_).symm
            show (if r = dstN x.dst then some (some X) else f.2 r) = f.2 r
            rw [if_neg (fun e => hr (by rw [e]; exact hx1))]
        · have hus := res_quiet hx hr1
          subst hus
          rcases res_mk1 hy hr2' with rfl | ⟨Y, rfl, hy1⟩
          · exact ⟨hr2', hr1, rfl⟩
          · refine ⟨hr2', ?_, rfl⟩
            rw [← hr1]
            refine res_same hx hw fun r hr => ?_
            show (if r = dstN y.dst then some (some Y) else f.2 r) = f.2 r
            rw [if_neg (fun e => hr (by rw [e]; exact hy1))]
      obtain ⟨k1, k2, k3⟩ := key
      refine ⟨(putF f.1 y.dst u2, updF f.2 vs), ?_, ?_⟩
      · unfold runF
        rw [hd2, k1]
        rfl
      · unfold runF
        rw [hd1]
        simp only [cond_true]
        rw [fx, k2]
        simp only
        rw [putF_comm hc, k3]
    · cases h2
  · cases h1
theorem seqF_append {l1 l2 : List Oper} {f : FS} : seqF T sg callF nt all (l1 ++ l2) f = (seqF T sg callF nt all l1 f).bind (seqF T sg callF nt all l2) := by
  induction l1 generalizing f with
  | nil => rfl
  | cons o l ih =>
    show (match runF T sg callF nt all o f with | some f' => seqF T sg callF nt all (l ++ l2) f' | none => none) = Option.bind (match runF T sg callF nt all o f with | some f' => seqF T sg callF nt all l f' | none => none) _
    cases runF T sg callF nt all o f with
    | none => rfl
    | some f' => exact ih
theorem vrel_names {rw : RW} {ε : Env} : ∀ {av : AV} {V : Value}, VRel rw ε av V → ∀ r ∈ names av, rw r ≠ none
  | .v _ _, _, _, r, hr => by cases hr
  | .sl q, _, h, r, hr => by rw [List.mem_singleton.1 hr]; exact h.1
  | .cut q _ _ _, _, h, r, hr => by rw [List.mem_singleton.1 hr]; exact h.1
  | .ptr q _, _, h, r, hr => by rw [List.mem_singleton.1 hr]; exact h.1
  | .fptr q _ _, _, h, r, hr => by rw [List.mem_singleton.1 hr]; exact h.1
  | .op, _, _, r, hr => by cases hr
  | .nilS _ _, _, _, r, hr => by cases hr
  | .nilP, _, _, r, hr => by cases hr
  | .u, _, _, r, hr => by cases hr
  | .tup l, _, h, r, hr => by
    obtain ⟨c, hc, hrc⟩ := List.mem_flatMap.1 hr
    have := h.1 c hc
    cases c with
    | v t x => cases hrc
    | sl q => rw [List.mem_singleton.1 hrc]; exact this
    | pt q => rw [List.mem_singleton.1 hrc]; exact this.1
/-- One that may go ahead of all before it goes first. -/
theorem seqF_first {y : Oper} {post : List Oper} : ∀ (pre : List Oper) {f f2 : FS}, WfS f.1 f.2 → (∀ x ∈ pre, swapOk T all x y = true) → seqF T sg callF nt all (pre ++ y :: post) f = some f2 → ∃ f1, runF T sg callF nt all y f = some f1 ∧ seqF T sg callF nt all (pre ++ post) f1 = some f2
  | [], f, f2, _, _, h => by
    rw [List.nil_append] at h
    unfold seqF at h
    split at h
    · rename_i f1 h1
      exact ⟨f1, h1, h⟩
    · cases h
  | x :: pre, f, f2, hw, hs, h => by
    rw [List.cons_append] at h
    unfold seqF at h
    split at h
    · rename_i f1 h1
      obtain ⟨f1', h2, h3⟩ := seqF_first pre (runF_wf hw h1) (fun z hz => hs z (List.mem_cons_of_mem _ hz)) h
      obtain ⟨f3, h4, h5⟩ := runF_swap (hs x (by simp)) hw h1 h2
      refine ⟨f3, h4, ?_⟩
      rw [List.cons_append]
      unfold seqF
      rw [h5]
      exact h3
    · cases h
/-! ### the walk -/
def RelF (C : Ctx) (nt : Nat) (f : FS) (a : Act) (w : World) : Prop := a.tmps.size = nt ∧ a.defers = [] ∧ ∃ ε, Slots f.2 ε f.1 a ∧ Mem C f.2 ε w
theorem slots_putF {rw rw' : RW} {ε ε' : Env} {g : Nat → Option AV} (hS : Slots rw ε g a) (he : Ext rw ε rw' ε') {dst : Option Nat} {v : AV} {V : Value} (hv : VRel rw' ε' v V) (hn : a.tmps.size = nt) (hd : dstOk nt dst = true) :
    Slots rw' ε' (putF g dst v) (a.put dst V) := by
  intro n av h
  cases dst with
  | none => exact (hS n av h).ext he
  | some d =>
    have hlt : d < a.tmps.size := by rw [hn]; exact (Nat.ble_eq.mp hd)
    have h : (if n = d then some v else g n) = some av := h
    by_cases hnd : n = d
    · subst hnd
      rw [if_pos rfl] at h
      cases h
      rw [put_getD_same V hlt]
      exact hv
    · rw [if_neg hnd] at h
      rw [put_getD_ne a V hnd]
      exact (hS n av h).ext he
theorem wanted_of {opsA : Array Oper} {g : Nat → Option AV} {rw : RW} {ε : Env} (hS : Slots rw ε g a) {b : Bool} (h : wantedE opsA.toList o g = some b) : Region.wanted o (yielded opsA a.tmps) = b := by
  unfold wantedE at h
  split at h
  · rename_i hg
    cases h
    unfold Region.wanted
    rw [hg]
  · rename_i j want hg
    split at h
    · rename_i d hgd
      have hy : ∀ V, a.tmps.getD d undef = V → yielded opsA a.tmps j = (match V with | .bool b => some b | _ => none) := by
        intro V hV
        unfold yielded
        rw [guard_dst hgd]
        simp only [Option.bind_some]
        cases hd : a.tmps[d]? with
        | none =>
          have : a.tmps.getD d undef = undef := by rw [Array.getD_eq_getD_getElem?, hd]; rfl
          rw [this] at hV
          subst hV
          rfl
        | some v =>
          have : a.tmps.getD d undef = v := by rw [Array.getD_eq_getD_getElem?, hd]; rfl
          rw [this] at hV
          subst hV
          cases v <;> rfl
      split at h
      · rename_i c hc
        cases h
        have h1 := hy _ (hS d _ hc)
        unfold Region.wanted
        rw [hg]
        simp only [h1]
        cases c <;> cases want <;> rfl
      · rename_i hc
        cases h
        have h1 := hy _ (hS d _ hc)
        unfold Region.wanted
        rw [hg]
        simp only [h1]
        cases want <;> rfl
      · cases h
    · cases h
theorem runF_sound (hC : CtxOk C) (hF : ∀ f, CallOk C.P C.W0 sg callF f) {opsA : Array Oper} {Q : Exit → Act → World → Prop} {i : Nat} (hi : opsA[i]? = some o) {f f1 : FS} (hR : RelF C nt f a w) (h : runF C.T sg callF nt opsA.toList o f = some f1) {K : Act → World → Prop}
    (hK : ∀ a' w', RelF C nt f1 a' w' → K a' w') : wpOp C.P opsA Q i K a w := by
  obtain ⟨hn, hdf, ε, hS, hM⟩ := hR
  unfold runF at h
  obtain ⟨hd, h⟩ := bif_some h
  split at h
  · rename_i v us hr
    cases h
    unfold res at hr
    unfold wpOp
    rw [hi]
    simp only
    split at hr
    · rename_i hw
      rw [wanted_of hS hw]
      simp only [if_true]
      obtain ⟨v', us', h1, h2⟩ := oper_sound hC hF hM hS (K := fun v us => some (v, us)) hr
      cases h1
      exact .inl (h2 _ _ fun V ε' w' hv he hM' => hK _ _ ⟨by rw [put_size, hn], by rw [put_defs, hdf], ε', slots_putF hS he hv hn hd, hM'⟩)
    · rename_i hw
      rw [wanted_of hS hw]
      cases hr
      simp only [Bool.false_eq_true, if_false]
      exact hK _ _ ⟨by rw [put_size, hn], by rw [put_defs, hdf], ε, slots_putF hS (Ext.refl _ _) rfl hn hd, hM⟩
    · cases hr
  · cases h
def Closed (opsA : Array Oper) (listed : Array Bool) : Prop := ∀ k o, listed.getD k false = true → opsA[k]? = some o → ∀ e ∈ o.after, Region.binds .any e = true → listed.getD e.on false = true
theorem anc_listed {opsA : Array Oper} {listed : Array Bool} (hc : Closed opsA listed) {i j : Nat} (h : Anc opsA.toList i j) : (∀ o, opsA[j]? = some o → ∀ e ∈ o.after, Region.binds .any e = true → listed.getD e.on false = true) → listed.getD i false = true := by
  induction h with
  | one ho he hb hi =>
    intro hj
    rw [Array.getElem?_toList] at ho
    rw [← hi]
    exact hj _ ho _ he hb
  | more ho he hb hi h ih =>
    intro hj
    rw [Array.getElem?_toList] at ho
    have hk := hj _ ho _ he hb
    rw [hi] at hk
    exact ih (fun o' ho' => hc _ o' hk ho')
/-- The operations that are not listed yet, in the text's order. -/
def unl (opsA : Array Oper) (listed : Array Bool) : List Nat := (List.range opsA.size).filter fun i => !listed.getD i true
theorem wpAny_of (hC : CtxOk C) (hF : ∀ f, CallOk C.P C.W0 sg callF f) {opsA : Array Oper} {Q : Exit → Act → World → Prop} (hd : drawOk C.T opsA.toList = true) {ff : FS} (hQ : ∀ a' w', RelF C nt ff a' w' → Q .normal a' w') :
    ∀ (fuel : Nat) (listed : Array Bool) (f : FS) (a : Act) (w : World) (rem : List (Nat × Oper)), listed.size = opsA.size → Closed opsA listed → (∀ p ∈ rem, opsA[p.1]? = some p.2 ∧ listed.getD p.1 true = false) → (∀ i o, opsA[i]? = some o → listed.getD i true = false → (i, o) ∈ rem) →
      (rem.map Prod.fst).Pairwise (· < ·) → RelF C nt f a w → seqF C.T sg callF nt opsA.toList (rem.map Prod.snd) f = some ff → rem.length ≤ fuel → wpAny C.P .any opsA Q fuel listed a w := by
  obtain ⟨hpair, hlt⟩ := drawOk_spec hd
  intro fuel
  induction fuel with
  | zero =>
    intro listed f a w rem hsz hcl h1 h2 hs hR hq hl
    have : rem = [] := List.eq_nil_of_length_eq_zero (by omega)
    subst this
    cases hq
    refine ⟨List.eq_nil_iff_forall_not_mem.2 fun j hj => ?_, hQ a w hR⟩
    obtain ⟨hj0, o, ho, _⟩ := mem_ready.1 hj
    have := h2 j o ho hj0
    cases this
  | succ fuel ih =>
    intro listed f a w rem hsz hcl h1 h2 hs hR hq hl
    refine ⟨fun hnil => ?_, fun j hj => ?_⟩
    · cases rem with
      | nil => cases hq; exact hQ a w hR
      | cons p rem =>
        exfalso
        obtain ⟨hp1, hp2⟩ := h1 p (by simp)
        have : p.1 ∈ Region.ready .any opsA listed := by
          refine mem_ready.2 ⟨hp2, p.2, hp1, fun e he hb => ?_⟩
          have hlt' := hlt p.1 p.2 (by rw [Array.getElem?_toList]; exact hp1) e he hb
          have hsize : p.1 < opsA.size := (Array.getElem?_eq_some_iff.1 hp1).1
          have ho : opsA[e.on]? = some opsA[e.on] := Array.getElem?_eq_getElem (by omega)
          cases hl' : listed.getD e.on true with
          | true =>
            have : e.on < listed.size := by omega
            rw [Array.getD_eq_getD_getElem?, Array.getElem?_eq_getElem this] at hl' ⊢
            exact hl'
          | false =>
            have hin := h2 e.on _ ho hl'
            rcases List.mem_cons.1 hin with hin | hin
            · rw [← hin] at hlt'
              exact absurd hlt' (Nat.lt_irrefl _)
            · rw [List.map_cons, List.pairwise_cons] at hs
              have := hs.1 e.on (List.mem_map_of_mem hin)
              omega
        rw [hnil] at this
        cases this
    · obtain ⟨hj0, o, ho, hdeps⟩ := mem_ready.1 hj
      have hin := h2 j o ho hj0
      obtain ⟨pre, post, hrem⟩ := List.append_of_mem hin
      subst hrem
      have hjs : j < opsA.size := (Array.getElem?_eq_some_iff.1 ho).1
      rw [List.map_append, List.map_cons] at hs hq
      have hwf : WfS f.1 f.2 := by
        obtain ⟨_, _, ε, hS, _⟩ := hR
        exact fun n av hg => vrel_names (hS n av hg)
      obtain ⟨f1, hr1, hq1⟩ := seqF_first (pre.map Prod.snd) hwf (fun x hx => by
        obtain ⟨p, hp, rfl⟩ := List.mem_map.1 hx
        obtain ⟨hp1, hp2⟩ := h1 p (by simp [hp])
        have hlt' : p.1 < j := (List.pairwise_append.1 hs).2.2 p.1 (List.mem_map_of_mem hp) j (by simp)
        refine (hpair p.1 j p.2 o hlt' (by rw [Array.getElem?_toList]; exact hp1) (by rw [Array.getElem?_toList]; exact ho)).resolve_left fun hanc => ?_
        have := anc_listed hcl hanc (fun o' ho' => by rw [ho] at ho'; cases ho'; exact hdeps)
        have hsize : p.1 < listed.size := by omega
        rw [Array.getD_eq_getD_getElem?, Array.getElem?_eq_getElem hsize] at this hp2
        simp only [Option.getD_some] at this hp2
        rw [hp2] at this
        cases this) hq
      refine runF_sound hC hF ho hR hr1 (fun a' w' hR' => ?_)
      refine ih (listed.setIfInBounds j true) f1 a' w' (pre ++ post) (by simp [hsz]) ?_ (fun p hp => ?_) (fun i o' ho' hi => ?_) ?_ hR' ?_ ?_
      · intro k o' hk ho' e he hb
        by_cases hkj : k = j
        · subst hkj
          rw [ho] at ho'
          cases ho'
          exact getD_set_true (hdeps e he hb)
        · rw [getD_set_ne false (Ne.symm hkj)] at hk
          exact getD_set_true (hcl k o' hk ho' e he hb)
      · have hp' : p ∈ pre ++ (j, o) :: post := by
          rcases List.mem_append.1 hp with h | h
          · exact List.mem_append_left _ h
          · exact List.mem_append_right _ (List.mem_cons_of_mem _ h)
        obtain ⟨k1, k2⟩ := h1 p hp'
        refine ⟨k1, ?_⟩
        have hne : p.1 ≠ j := by
          rcases List.mem_append.1 hp with h | h
          · exact Nat.ne_of_lt ((List.pairwise_append.1 hs).2.2 p.1 (List.mem_map_of_mem h) j (by simp))
          · have := (List.pairwise_cons.1 (List.pairwise_append.1 hs).2.1).1 p.1 (List.mem_map_of_mem h)
            exact Nat.ne_of_gt this
        rw [getD_set_ne true (Ne.symm hne)]
        exact k2
      · by_cases hij : i = j
        · subst hij
          have : i < listed.size := by omega
          rw [Array.getD_eq_getD_getElem?, Array.getElem?_setIfInBounds_self_of_lt this] at hi
          cases hi
        · rw [getD_set_ne true (Ne.symm hij)] at hi
          have := h2 i o' ho' hi
          rcases List.mem_append.1 this with h | h
          · exact List.mem_append_left _ h
          · rcases List.mem_cons.1 h with h | h
            · cases h
              exact absurd rfl hij
            · exact List.mem_append_right _ h
      · rw [List.map_append]
        exact hs.sublist (List.Sublist.append_left (List.sublist_cons_self _ _) _)
      · rw [List.map_append]
        exact hq1
      · simp at hl ⊢
        omega
end
end Go.Ev

/- Code is sound. -/
namespace Go.Ev
open Go.RowKit
def codeOk (T : Tab) : Code → Bool
  | .region _ o d => !d || drawOk T o.toList
  | .seq a b => codeOk T a && codeOk T b
  | .cond _ a b => codeOk T a && codeOk T b
  | .block _ a => codeOk T a
  | .loop a => codeOk T a
  | _ => true
def exitOf : Out → Exit
  | .normal => .normal
  | .exit j => .exit j
  | .ret => .ret
section
variable {C : Ctx} {nt : Nat} {s : St} {w w' : World} {a : Act} {o : Oper} {R : Type} {sg : FuncId → Sig} {callF : (f : FuncId) → argL (sg f).ps → Option (retL (sg f).rs)} {live : Nat → Option (List Nat)}
theorem Rel.drew (hC : CtxOk C) (hR : Rel C nt s a w) : Rel C nt s a { w with drawn := w.drawn + 1 } := by
  obtain ⟨hn, hdf, hk, ε, hS, hM⟩ := hR
  exact ⟨hn, hdf, hk, ε, hS, hM.move hC ⟨rfl, rfl, rfl, Nat.le_refl _, fun _ _ _ => rfl⟩⟩
theorem relF_rel {s' : St} (hk : (s'.sl.map Prod.fst).Nodup) (h : RelF C nt (look s'.sl, look s'.rows) a w) : Rel C nt s' a w := ⟨h.1, h.2.1, hk, h.2.2⟩
theorem zip_fst {α : Type} : ∀ (l : List α) (n : Nat), ((List.range' n l.length).zip l).map Prod.fst = List.range' n l.length
  | [], n => rfl
  | x :: l, n => by simp [List.range'_succ, zip_fst l (n + 1)]
theorem zip_snd {α : Type} : ∀ (l : List α) (n : Nat), ((List.range' n l.length).zip l).map Prod.snd = l
  | [], n => rfl
  | x :: l, n => by simp [List.range'_succ, zip_snd l (n + 1)]
theorem zip_mem {α : Type} : ∀ (l : List α) (n : Nat) (p : Nat × α), p ∈ (List.range' n l.length).zip l ↔ ∃ i, p.1 = n + i ∧ l[i]? = some p.2
  | [], n, p => by simp
  | x :: l, n, p => by
    rw [List.length_cons, List.range'_succ, List.zip_cons_cons, List.mem_cons, zip_mem l (n + 1) p]
    constructor
    · rintro (rfl | ⟨i, h1, h2⟩)
      · exact ⟨0, by simp, by simp⟩
      · exact ⟨i + 1, by omega, by simpa using h2⟩
    · rintro ⟨i, h1, h2⟩
      cases i with
      | zero =>
        left
        have h2 : x = p.2 := by simpa using h2
        exact Prod.ext (by simpa using h1) h2.symm
      | succ i => exact .inr ⟨i, by omega, by simpa using h2⟩
theorem region_sound (hC : CtxOk C) (hm : C.P.follows .mixedOrders = true) (hF : ∀ f, CallOk C.P C.W0 sg callF f) {id : Nat} {opsA : Array Oper} {d : Bool} (hd : (!d || drawOk C.T opsA.toList) = true) {Q : Exit → Act → World → Prop} {K : St → Option R} {r : R}
    (hR : Rel C nt s a w) (h : ops C.T sg callF nt opsA.toList opsA.toList s K = some r) (hQ : ∀ s' a' w', Rel C nt s' a' w' → K s' = some r → Q .normal a' w') : (Code.region id opsA d).wp C.P Q a w := by
  cases d with
  | false => exact wp_region_list (ops_sound hC hF hQ _ s a w hR h)
  | true =>
    have hd : drawOk C.T opsA.toList = true := by simpa using hd
    obtain ⟨s', h1, h2, h3⟩ := ops_seqF _ _ h
    have hk := h3 hR.2.2.1
    have hlen : opsA.toList.length = opsA.size := by simp
    refine wp_region_any hm (wpAny_of hC hF hd (ff := (look s'.sl, look s'.rows)) (fun a' w' hR' => hQ s' a' w' (relF_rel hk hR') h1) opsA.size (Array.replicate opsA.size false) (look s.sl, look s.rows) a _ ((List.range' 0 opsA.toList.length).zip opsA.toList)
      (by simp) (fun k o hk => ?_) (fun p hp => ?_) (fun i o ho hi => ?_) ?_ ?_ ?_ ?_)
    · by_cases h : k < opsA.size <;> simp [h] at hk
    · obtain ⟨i, hi1, hi2⟩ := (zip_mem _ _ _).1 hp
      rw [Nat.zero_add] at hi1
      rw [hi1]
      rw [Array.getElem?_toList] at hi2
      have hlt : i < opsA.size := (Array.getElem?_eq_some_iff.1 hi2).1
      exact ⟨hi2, by simp [hlt]⟩
    · exact (zip_mem _ _ _).2 ⟨i, by simp, by rw [Array.getElem?_toList]; exact ho⟩
    · rw [zip_fst]
      exact List.pairwise_lt_range'
    · have := hR.drew hC
      exact ⟨this.1, this.2.1, this.2.2.2⟩
    · rw [zip_snd]
      exact h2
    · simp
/-- A loop, from its body's beginning on. -/
def LW (P : Program) (c : Code) (Q : Exit → Act → World → Prop) (a : Act) (w : World) : Prop :=
  ∀ (b : Frame) (k : List Item) (cs : List Frame), ∃ e a' w', Q e a' w' ∧ Arrives P (lone (b.at a (.code c :: .inLoop c :: k)) cs w) b k cs e a' w'
theorem LW.wp {P : Program} {c : Code} {Q : Exit → Act → World → Prop} (h : LW P c Q a w) : (Code.loop c).wp P Q a w := by
  intro b k cs
  obtain ⟨e, a', w', hq, harr⟩ := h b k cs
  exact ⟨e, a', w', hq, .of_steps (.one step_loop) harr⟩
theorem LW.of {P : Program} {c : Code} {Q : Exit → Act → World → Prop} (h : c.wp P (Exit.then (LW P c Q) Q) a w) : LW P c Q a w := by
  intro b k cs
  obtain ⟨e, a₁, w₁, hq, harr⟩ := h b (.inLoop c :: k) cs
  cases e with
  | normal =>
    obtain ⟨e₂, a₂, w₂, hq₂, harr₂⟩ := hq b k cs
    exact ⟨e₂, a₂, w₂, hq₂, .of_steps (Steps.trans harr (.one step_inLoop)) harr₂⟩
  | exit id => exact ⟨_, a₁, w₁, hq, .pass (x := .inLoop c) rfl (fun _ _ => .inl (by simp)) harr⟩
  | goto l => exact ⟨_, a₁, w₁, hq, .pass (x := .inLoop c) rfl (fun _ _ => .inl (by simp)) harr⟩
  | ret => exact ⟨_, a₁, w₁, hq, .pass (x := .inLoop c) rfl (fun _ _ => .inl (by simp)) harr⟩
  | panic ch => exact ⟨_, a₁, w₁, hq, .pass (x := .inLoop c) rfl (fun _ _ => .inl (by simp)) harr⟩
  | outgrown => exact ⟨_, a₁, w₁, hq, .pass (x := .inLoop c) rfl (fun _ _ => .inl (by simp)) harr⟩
/-- What must hold behind a piece of code, by what follows. -/
def post (P : Program) (Q : Exit → Act → World → Prop) : List Fr → Exit → Act → World → Prop
  | [] => Q
  | .seq b :: fs => Exit.then (b.wp P (post P Q fs)) (post P Q fs)
  | .block id :: fs => Exit.inBlock id (post P Q fs)
  | .loop a :: fs => Exit.then (LW P a (post P Q fs)) (post P Q fs)
def frOk (T : Tab) : List Fr → Bool
  | [] => true
  | .seq b :: fs => codeOk T b && frOk T fs
  | .block _ :: fs => frOk T fs
  | .loop a :: fs => codeOk T a && frOk T fs
def JOk (C : Ctx) (nt : Nat) (Q : Exit → Act → World → Prop) (r : R) (J : Code → List Fr → St → Option R) : Prop :=
  ∀ c fs s a w, codeOk C.T c = true → frOk C.T fs = true → Rel C nt s a w → J c fs s = some r → c.wp C.P (post C.P Q fs) a w ∧ ∀ b, c = .loop b → LW C.P b (post C.P Q fs) a w
theorem run_sound (hC : CtxOk C) (hm : C.P.follows .mixedOrders = true) (hF : ∀ f, CallOk C.P C.W0 sg callF f) {Q : Exit → Act → World → Prop} {r : R} {J : Code → List Fr → St → Option R} {fin : St → Option R} (hJ : JOk C nt Q r J)
    (hQ : ∀ s a w, Rel C nt s a w → fin s = some r → Q .normal a w ∧ Q .ret a w) : ∀ (n : Nat),
    (∀ c s a w fs, codeOk C.T c = true → frOk C.T fs = true → Rel C nt s a w → run C.T sg callF live nt J fin n (.code c) s fs = some r → c.wp C.P (post C.P Q fs) a w) ∧
    (∀ o s a w fs, frOk C.T fs = true → Rel C nt s a w → run C.T sg callF live nt J fin n (.out o) s fs = some r → post C.P Q fs (exitOf o) a w) := by
  intro n
  induction n with
  | zero => exact ⟨fun c s a w fs _ _ _ h => (by cases h), fun o s a w fs _ _ h => (by cases h)⟩
  | succ n ih =>
    obtain ⟨ih1, ih2⟩ := ih
    refine ⟨fun c s a w fs hok hfs hR h => ?_, fun o s a w fs hfs hR h => ?_⟩
    · unfold run at h
      cases c with
      | skip => exact wp_skip (ih2 .normal s a w fs hfs hR h)
      | region id o d => exact region_sound hC hm hF hok hR h (fun s' a' w' hR' hk => ih2 .normal s' a' w' fs hfs hR' hk)
      | seq x y =>
        simp only [codeOk, Bool.and_eq_true] at hok
        exact wp_seq (ih1 x s a w (.seq y :: fs) hok.1 (by simp only [frOk, Bool.and_eq_true]; exact ⟨hok.2, hfs⟩) hR h)
      | cond c x y =>
        simp only [codeOk, Bool.and_eq_true] at hok
        simp only at h
        split at h
        · rename_i b hb
          obtain ⟨hn, hdf, hk, ε, hS, hM⟩ := id hR
          have hc : a.eval c = .bool b := opd_rel hS hb
          rcases br_some h with ⟨rfl, h⟩ | ⟨rfl, h⟩
          · exact wp_cond_true hc (ih1 x s a w fs hok.1 hfs hR h)
          · exact wp_cond_false hc (ih1 y s a w fs hok.2 hfs hR h)
        · cases h
      | block id x => exact wp_block (ih1 x s a w (.block id :: fs) hok hfs hR h)
      | loop x =>
        simp only at h
        split at h
        · obtain ⟨s2, h1, h2⟩ := cutTo_sound hR h
          exact (hJ (.loop x) fs s2 a w hok hfs h2 h1).1
        · cases h
      | exit id => exact wp_exit (ih2 (.exit id) s a w fs hfs hR h)
      | ret => exact wp_ret (ih2 .ret s a w fs hfs hR h)
      | _ => cases h
    · unfold run at h
      cases fs with
      | nil =>
        cases o with
        | normal => exact (hQ s a w hR h).1
        | ret => exact (hQ s a w hR h).2
        | exit j => cases h
      | cons fr fs =>
        cases fr with
        | seq b =>
          simp only [frOk, Bool.and_eq_true] at hfs
          cases o with
          | normal =>
            simp only at h
            show b.wp C.P (post C.P Q fs) a w
            split at h
            · obtain ⟨s2, h1, h2⟩ := cutTo_sound hR h
              exact (hJ b fs s2 a w hfs.1 hfs.2 h2 h1).1
            · exact ih1 b s a w fs hfs.1 hfs.2 hR h
          | exit j => exact ih2 (.exit j) s a w fs hfs.2 hR h
          | ret => exact ih2 .ret s a w fs hfs.2 hR h
        | block id =>
          cases o with
          | normal => exact ih2 .normal s a w fs hfs hR h
          | ret => exact ih2 .ret s a w fs hfs hR h
          | exit j =>
            simp only at h
            show (if j = id then post C.P Q fs .normal a w else post C.P Q fs (.exit j) a w)
            cases hb : Nat.beq j id with
            | true =>
              rw [hb] at h
              rw [if_pos (Nat.eq_of_beq_eq_true hb)]
              exact ih2 .normal s a w fs hfs hR h
            | false =>
              rw [hb] at h
              rw [if_neg (Nat.ne_of_beq_eq_false hb)]
              exact ih2 (.exit j) s a w fs hfs hR h
        | loop x =>
          simp only [frOk, Bool.and_eq_true] at hfs
          cases o with
          | normal =>
            simp only at h
            show LW C.P x (post C.P Q fs) a w
            split at h
            · obtain ⟨s2, h1, h2⟩ := cutTo_sound hR h
              exact (hJ (.loop x) fs s2 a w hfs.1 hfs.2 h2 h1).2 x rfl
            · cases h
          | exit j => exact ih2 (.exit j) s a w fs hfs.2 hR h
          | ret => exact ih2 .ret s a w fs hfs.2 hR h
theorem jF_sound (hC : CtxOk C) (hm : C.P.follows .mixedOrders = true) (hF : ∀ f, CallOk C.P C.W0 sg callF f) {Q : Exit → Act → World → Prop} {r : R} {fin : St → Option R}
    (hQ : ∀ s a w, Rel C nt s a w → fin s = some r → Q .normal a w ∧ Q .ret a w) : ∀ k, JOk C nt Q r (jF C.T sg callF live nt fin k)
  | 0 => fun c fs s a w _ _ _ h => by cases h
  | k + 1 => fun c fs s a w hok hfs hR h => by
    have ih := jF_sound hC hm hF hQ k
    have hrun := run_sound (live := live) hC hm hF ih hQ steps
    unfold jF at h
    split at h
    · rename_i x
      have hok : codeOk C.T x = true := hok
      have h1 : LW C.P x (post C.P Q fs) a w := LW.of (hrun.1 x s a w (.loop x :: fs) hok (by simp only [frOk, Bool.and_eq_true]; exact ⟨hok, hfs⟩) hR h)
      exact ⟨h1.wp, fun b hb => by cases hb; exact h1⟩
    · rename_i hne
      exact ⟨hrun.1 c s a w fs hok hfs hR h, fun b hb => absurd hb (hne b)⟩
end
end Go.Ev

/- Functions are sound. -/
namespace Go.Ev
open Go.RowKit
section
variable {P : Program} {W0 w w' : World} {a : Act} {R : Type} {sg : FuncId → Sig} {callF : (f : FuncId) → argL (sg f).ps → Option (retL (sg f).rs)} {live : Nat → Option (List Nat)} {S : Nat → Prop}
def parSv (p : Option Par) (V : Value) : Value := match p with
  | some (.pt _ _) => toSl V
  | _ => V
def parTy (p : Option Par) : Ty := match p with
  | some (.read t _) => t
  | some (.own t _) => t
  | some (.pt t _) => t
  | _ => .bool
theorem slotsOf_keys : ∀ (ps : List Par) (xs : argL ps) (n : Nat), (slotsOf ps xs n).map Prod.fst = List.range' n ps.length
  | [], _, _ => rfl
  | p :: ps, x, n => by
    have ih := slotsOf_keys ps x.2 (n + 1)
    cases p <;> simp only [slotsOf, List.map_cons, List.length_cons, List.range'_succ] <;> rw [ih]
/-- What a parameter's slot and row are. -/
theorem slotsOf_mem : ∀ (ps : List Par) (xs : argL ps) (Vs : List Value) (n m : Nat) (av : AV), ArgsOk w S ps xs Vs → (m, av) ∈ slotsOf ps xs n →
    ∃ (i : Nat) (p : Par) (V : Value) (x : p.den), m = n + i ∧ ps[i]? = some p ∧ Vs[i]? = some V ∧ ArgOk w S p x V ∧ ((∃ t y, av = .v t y ∧ V = t.val y) ∨ av = .op ∨ (av = .sl m ∧ ((∃ t e, p = .read t e) ∨ ∃ t e, p = .own t e)) ∨ (av = .ptr m 0 ∧ ∃ t e, p = .pt t e))
  | [], _, [], _, _, _, _, h => by cases h
  | [], _, _ :: _, _, _, _, h, _ => h.elim
  | p :: ps, _, [], _, _, _, h, _ => by cases p <;> exact h.elim
  | p :: ps, x, V :: Vs, n, m, av, h, hm => by
    obtain ⟨h1, h2⟩ := h
    have tail : (m, av) ∈ slotsOf ps x.2 (n + 1) → ∃ (i : Nat) (q : Par) (V0 : Value) (x : q.den), m = n + i ∧ (p :: ps)[i]? = some q ∧ (V :: Vs)[i]? = some V0 ∧ ArgOk w S q x V0 ∧ ((∃ t y, av = .v t y ∧ V0 = t.val y) ∨ av = .op ∨ (av = .sl m ∧ ((∃ t e, q = .read t e) ∨ ∃ t e, q = .own t e)) ∨ (av = .ptr m 0 ∧ ∃ t e, q = .pt t e)) := fun ht => by
      obtain ⟨i, p', V', x', e1, e2, e3, e4, e5⟩ := slotsOf_mem ps x.2 Vs (n + 1) m av h2 ht
      exact ⟨i + 1, p', V', x', by omega, by simpa using e2, by simpa using e3, e4, e5⟩
    cases p with
    | v t =>
      rcases List.mem_cons.1 hm with hm | hm
      · cases hm
        exact ⟨0, _, V, x.1, rfl, rfl, rfl, h1, .inl ⟨t, x.1, rfl, h1⟩⟩
      · exact tail hm
    | op =>
      rcases List.mem_cons.1 hm with hm | hm
      · cases hm
        exact ⟨0, _, V, x.1, rfl, rfl, rfl, h1, .inr (.inl rfl)⟩
      · exact tail hm
    | read t e =>
      rcases List.mem_cons.1 hm with hm | hm
      · cases hm
        exact ⟨0, _, V, x.1, rfl, rfl, rfl, h1, .inr (.inr (.inl ⟨rfl, .inl ⟨t, e, rfl⟩⟩))⟩
      · exact tail hm
    | own t e =>
      rcases List.mem_cons.1 hm with hm | hm
      · cases hm
        exact ⟨0, _, V, x.1, rfl, rfl, rfl, h1, .inr (.inr (.inl ⟨rfl, .inr ⟨t, e, rfl⟩⟩))⟩
      · exact tail hm
    | pt t e =>
      rcases List.mem_cons.1 hm with hm | hm
      · cases hm
        exact ⟨0, _, V, x.1, rfl, rfl, rfl, h1, .inr (.inr (.inr ⟨rfl, t, e, rfl⟩))⟩
      · exact tail hm
theorem rowsOf_mem : ∀ (ps : List Par) (xs : argL ps) (Vs : List Value) (n m : Nat) (y : Option Row), ArgsOk w S ps xs Vs → (m, y) ∈ rowsOf ps xs n →
    ∃ (i : Nat) (V : Value), m = n + i ∧ Vs[i]? = some V ∧ ((∃ t e xs, ps[i]? = some (.read t e) ∧ ArgOk w S (.read t e) xs V ∧ y = some ⟨t, e, false, xs⟩) ∨ (∃ t e xs, ps[i]? = some (.own t e) ∧ ArgOk w S (.own t e) xs V ∧ y = some ⟨t, e, true, xs⟩) ∨ (∃ t e x, ps[i]? = some (.pt t e) ∧ ArgOk w S (.pt t e) x V ∧ y = some ⟨t, e, false, [x]⟩))
  | [], _, [], _, _, _, _, h => by cases h
  | [], _, _ :: _, _, _, _, h, _ => h.elim
  | p :: ps, _, [], _, _, _, h, _ => by cases p <;> exact h.elim
  | p :: ps, x, V :: Vs, n, m, y, h, hm => by
    obtain ⟨h1, h2⟩ := h
    have tail : (m, y) ∈ rowsOf ps x.2 (n + 1) → ∃ (i : Nat) (V0 : Value), m = n + i ∧ (V :: Vs)[i]? = some V0 ∧ ((∃ t e xs, (p :: ps)[i]? = some (.read t e) ∧ ArgOk w S (.read t e) xs V0 ∧ y = some ⟨t, e, false, xs⟩) ∨ (∃ t e xs, (p :: ps)[i]? = some (.own t e) ∧ ArgOk w S (.own t e) xs V0 ∧ y = some ⟨t, e, true, xs⟩) ∨ (∃ t e x, (p :: ps)[i]? = some (.pt t e) ∧ ArgOk w S (.pt t e) x V0 ∧ y = some ⟨t, e, false, [x]⟩)) := fun ht => by
      obtain ⟨i, V', e1, e2, e3⟩ := rowsOf_mem ps x.2 Vs (n + 1) m y h2 ht
      exact ⟨i + 1, V', by omega, by simpa using e2, by simpa using e3⟩
    cases p with
    | v t => exact tail hm
    | op => exact tail hm
    | read t e =>
      rcases List.mem_cons.1 hm with hm | hm
      · cases hm
        exact ⟨0, V, rfl, rfl, .inl ⟨t, e, x.1, rfl, h1, rfl⟩⟩
      · exact tail hm
    | own t e =>
      rcases List.mem_cons.1 hm with hm | hm
      · cases hm
        exact ⟨0, V, rfl, rfl, .inr (.inl ⟨t, e, x.1, rfl, h1, rfl⟩)⟩
      · exact tail hm
    | pt t e =>
      rcases List.mem_cons.1 hm with hm | hm
      · cases hm
        exact ⟨0, V, rfl, rfl, .inr (.inr ⟨t, e, x.1, rfl, h1, rfl⟩)⟩
      · exact tail hm
theorem rowsOf_used : ∀ (ps : List Par) (xs : argL ps) (n i : Nat) (p : Par), ps[i]? = some p → ((∃ t e, p = .read t e) ∨ (∃ t e, p = .own t e) ∨ ∃ t e, p = .pt t e) → look (rowsOf ps xs n) (n + i) ≠ none
  | [], _, _, _, _, h, _ => by simp at h
  | q :: ps, x, n, 0, p, h, hp => by
    have h : q = p := by simpa using h
    subst h
    rcases hp with ⟨t, e, rfl⟩ | ⟨t, e, rfl⟩ | ⟨t, e, rfl⟩ <;> (simp only [rowsOf, look, Nat.add_zero]; rw [show Nat.beq n n = true from Nat.beq_refl n]; simp)
  | q :: ps, x, n, i + 1, p, h, hp => by
    have ih := rowsOf_used ps x.2 (n + 1) i p (by simpa using h) hp
    rw [show n + 1 + i = n + (i + 1) by omega] at ih
    have hb : Nat.beq n (n + (i + 1)) = false := by
      cases hb : Nat.beq n (n + (i + 1)) with
      | true => have := Nat.eq_of_beq_eq_true hb; omega
      | false => rfl
    cases q <;> simp only [rowsOf, look, hb, cond_false] <;> exact ih
theorem ownVals_mem : ∀ {ps : List Par} {Vs : List Value} {i : Nat} {t : Ty} {e : TypeId} {V : Value}, ps[i]? = some (.own t e) → Vs[i]? = some V → V ∈ ownVals ps Vs
  | [], _, _, _, _, _, h, _ => by simp at h
  | _ :: _, [], _, _, _, _, _, h => by simp at h
  | p :: ps, V :: Vs, 0, t, e, U, h, h' => by
    have h : p = .own t e := by simpa using h
    have h' : V = U := by simpa using h'
    subst h; subst h'
    exact List.mem_cons_self
  | p :: ps, V :: Vs, i + 1, t, e, U, h, h' => by
    have := ownVals_mem (ps := ps) (Vs := Vs) (i := i) (by simpa using h) (by simpa using h')
    cases p <;> simp only [ownVals] <;> first | exact this | exact List.mem_cons_of_mem _ this
theorem ownVals_apart : ∀ {ps : List Par} {Vs : List Value} {i j : Nat} {t t' : Ty} {e e' : TypeId} {V V' : Value}, (ownVals ps Vs).Pairwise apart2 → i < j → ps[i]? = some (.own t e) → Vs[i]? = some V → ps[j]? = some (.own t' e') → Vs[j]? = some V' → apart2 V V'
  | [], _, _, _, _, _, _, _, _, _, _, _, h, _, _, _ => by simp at h
  | _ :: _, [], _, _, _, _, _, _, _, _, _, _, _, h, _, _ => by simp at h
  | p :: ps, V0 :: Vs, i, j + 1, t, t', e, e', V, V', hp, hij, h1, h2, h3, h4 => by
    have h3' : ps[j]? = some (.own t' e') := by simpa using h3
    have h4' : Vs[j]? = some V' := by simpa using h4
    cases i with
    | zero =>
      have h1 : p = .own t e := by simpa using h1
      have h2 : V0 = V := by simpa using h2
      subst h1; subst h2
      exact (List.pairwise_cons.1 hp).1 V' (ownVals_mem h3' h4')
    | succ i =>
      have hp' : (ownVals ps Vs).Pairwise apart2 := by
        cases p <;> simp only [ownVals] at hp <;> first | exact hp | exact (List.pairwise_cons.1 hp).2
      exact ownVals_apart (i := i) (j := j) hp' (by omega) (by simpa using h1) (by simpa using h2) h3' h4'
/-- The state at a function's beginning. -/
theorem entry_rel {T : Tab} {ps : List Par} {xs : argL ps} {Vs : List Value} {nt : Nat} (hn : Vs.length ≤ nt) (hA : ArgsOk w S ps xs Vs) (hp : (ownVals ps Vs).Pairwise apart2) :
    Rel ⟨P, T, W0, w, fun k => S k ∨ w.heap.size ≤ k⟩ nt ⟨slotsOf ps xs 0, rowsOf ps xs 0⟩ { tmps := Vs.toArray ++ Array.replicate (nt - Vs.toArray.size) undef, defers := [] } w := by
  have hget : ∀ i V, Vs[i]? = some V → (Vs.toArray ++ Array.replicate (nt - Vs.toArray.size) undef).getD i undef = V := by
    intro i V h
    have hlt : i < Vs.length := (List.getElem?_eq_some_iff.1 h).1
    rw [Array.getD_eq_getD_getElem?, Array.getElem?_append_left (by simpa using hlt)]
    simp [h]
  refine ⟨by simp; omega, rfl, by rw [slotsOf_keys]; exact List.nodup_range', ⟨fun n => parSv ps[n]? (Vs.getD n undef), fun n => parTy ps[n]?⟩, ?_, ?_⟩
  · intro m av h
    obtain ⟨i, p, V, x, e1, e2, e3, e4, e5⟩ := slotsOf_mem ps xs Vs 0 m av hA (look_mem h)
    rw [Nat.zero_add] at e1
    subst e1
    have hu := fun hq => rowsOf_used ps xs 0 m p e2 hq
    rw [Nat.zero_add] at hu
    show VRel _ _ av ((Vs.toArray ++ _).getD m undef)
    rw [hget m V e3]
    have hD : Vs.getD m undef = V := by rw [List.getD_eq_getElem?_getD, e3]; rfl
    rcases e5 with ⟨t, y, rfl, hv⟩ | rfl | ⟨rfl, hq⟩ | ⟨rfl, t, e, rfl⟩
    · exact hv
    · exact trivial
    · refine ⟨hu (hq.imp id .inl), ?_⟩
      show V = parSv ps[m]? (Vs.getD m undef)
      rw [e2, hD]
      rcases hq with ⟨t, e, rfl⟩ | ⟨t, e, rfl⟩ <;> rfl
    · obtain ⟨ad, hV, hrd, _⟩ := e4
      refine ⟨hu (.inr (.inr ⟨t, e, rfl⟩)), ad, 1, 1, ?_, Int.le_refl _, by omega, by rw [hV]; simp [Addr.add]⟩
      show parSv ps[m]? (Vs.getD m undef) = _
      rw [e2, hD, hV]
      rfl
  · have info : ∀ r x, row (look (rowsOf ps xs 0)) r = some x → ∃ V, Vs[r]? = some V ∧ ((∃ t e xs, ps[r]? = some (.read t e) ∧ ArgOk w S (.read t e) xs V ∧ x = ⟨t, e, false, xs⟩) ∨ (∃ t e xs, ps[r]? = some (.own t e) ∧ ArgOk w S (.own t e) xs V ∧ x = ⟨t, e, true, xs⟩) ∨ (∃ t e x', ps[r]? = some (.pt t e) ∧ ArgOk w S (.pt t e) x' V ∧ x = ⟨t, e, false, [x']⟩)) := by
      intro r x hr
      obtain ⟨i, V, e1, e2, e3⟩ := rowsOf_mem ps xs Vs 0 r _ hA (row_mem hr)
      rw [Nat.zero_add] at e1
      subst e1
      refine ⟨V, e2, ?_⟩
      rcases e3 with ⟨t, e, ys, h1, h2, h3⟩ | ⟨t, e, ys, h1, h2, h3⟩ | ⟨t, e, ys, h1, h2, h3⟩
      · cases h3; exact .inl ⟨t, e, ys, h1, h2, rfl⟩
      · cases h3; exact .inr (.inl ⟨t, e, ys, h1, h2, rfl⟩)
      · cases h3; exact .inr (.inr ⟨t, e, ys, h1, h2, rfl⟩)
    have svOf : ∀ r V, Vs[r]? = some V → ∀ p, ps[r]? = some p → parSv ps[r]? (Vs.getD r undef) = parSv (some p) V := by
      intro r V h p hp
      rw [hp, List.getD_eq_getElem?_getD, h]
      rfl
    constructor
    · intro r x hr
      obtain ⟨V, hV, hx⟩ := info r x hr
      rcases hx with ⟨t, e, ys, h1, h2, rfl⟩ | ⟨t, e, ys, h1, h2, rfl⟩ | ⟨t, e, ys, h1, h2, rfl⟩
      · refine ⟨by show parTy ps[r]? = t; rw [h1]; rfl, fun h => (by cases h), ?_⟩
        show ReadV w t ys (parSv ps[r]? (Vs.getD r undef))
        rw [svOf r V hV _ h1]
        exact h2.1
      · have hs := svOf r V hV _ h1
        refine ⟨by show parTy ps[r]? = t; rw [h1]; rfl, fun _ => ?_, ?_⟩
        · show OwnV w t e ys (parSv ps[r]? (Vs.getD r undef)) ∧ ∀ g, (parSv ps[r]? (Vs.getD r undef)).ownBlock = some g → _
          rw [hs]
          exact ⟨h2.1, fun g hg => .inl (h2.2 g hg)⟩
        · show ReadV w t ys (parSv ps[r]? (Vs.getD r undef))
          rw [hs]
          exact own_read h2.1
      · refine ⟨by show parTy ps[r]? = t; rw [h1]; rfl, fun h => (by cases h), ?_⟩
        obtain ⟨ad, hVa, hrd, _⟩ := h2
        show ReadV w t [ys] (parSv ps[r]? (Vs.getD r undef))
        rw [svOf r V hV _ h1, hVa]
        exact hrd
    · intro r x r' x' hr ho hr' hne hx' g hg
      obtain ⟨V, hV, hx⟩ := info r x hr
      obtain ⟨V', hV', hx2⟩ := info r' x' hr'
      rcases hx with ⟨t, e, ys, h1, h2, rfl⟩ | ⟨t, e, ys, h1, h2, rfl⟩ | ⟨t, e, ys, h1, h2, rfl⟩
      · cases ho
      · have hs := svOf r V hV _ h1
        have hg : (parSv ps[r]? (Vs.getD r undef)).ownBlock = some g := hg
        rw [hs] at hg
        have hg : V.ownBlock = some g := hg
        show (parSv ps[r']? (Vs.getD r' undef)).ownBlock ≠ some g
        rcases hx2 with ⟨t', e', ys', k1, k2, rfl⟩ | ⟨t', e', ys', k1, k2, rfl⟩ | ⟨t', e', ys', k1, k2, rfl⟩
        · rw [svOf r' V' hV' _ k1]
          intro hg'
          exact k2.2 (hx'.resolve_left (fun h => by cases h)) g hg' (h2.2 g hg)
        · rw [svOf r' V' hV' _ k1]
          rcases Nat.lt_or_gt_of_ne hne with hlt | hlt
          · exact ownVals_apart hp hlt h1 hV k1 hV' g hg
          · intro hg'
            exact ownVals_apart hp hlt k1 hV' h1 hV g hg' hg
        · obtain ⟨ad, hVa, hrd, hS⟩ := k2
          rw [svOf r' V' hV' _ k1, hVa]
          intro hg'
          have : ad.block = g := by simpa [parSv, toSl, Value.ownBlock] using hg'
          rw [this] at hS
          exact hS (h2.2 g hg)
      · cases ho
    · exact Pres.refl _ _
end
end Go.Ev

/- Functions are sound: what comes back; the whole. -/
namespace Go.Ev
open Go.RowKit
section
variable {P : Program} {W0 w w' : World} {a : Act} {R : Type} {sg : FuncId → Sig} {callF : (f : FuncId) → argL (sg f).ps → Option (retL (sg f).rs)} {live : Nat → Option (List Nat)} {S : Nat → Prop}
theorem retOf_sound {C : Ctx} (hmine : ∀ k, C.mine k → S k ∨ w.heap.size ≤ k) {rows : List (Nat × Option Row)} {ε : Env} (hM : Mem C (look rows) ε w') {t : RTy} {av : AV} {V : Value} (hv : VRel (look rows) ε av V) {x : t.den} {l : List Nat} (h : retOf rows t av = some (x, l)) :
    RetOk w w' S t x V ∧ (∀ U ∈ rowVals [t] [V], ∀ g, U.ownBlock = some g → ∃ r ∈ l, (ε.sv r).ownBlock = some g) ∧ (∀ r ∈ l, ∃ z, row (look rows) r = some z ∧ z.own = true) := by
  unfold retOf at h
  split at h
  · rename_i t av
    split at h
    · rename_i x' hx
      cases h
      unfold toDen at hx
      split at hx
      · rename_i s y
        obtain ⟨e, hy⟩ := cast?_eq (F := Ty.den) hx
        subst e
        subst hy
        exact ⟨hv, fun U hU => by simp [rowVals] at hU, fun r hr => by cases hr⟩
      · cases hx
    · cases h
  · rename_i t e r
    split at h
    · rename_i z hz
      replace h := bif_some h
      obtain ⟨hb, h⟩ := h
      rw [Bool.and_eq_true] at hb
      split at h
      · rename_i xs hxs
        cases h
        obtain ⟨hc, hxs⟩ := cast?_eq (F := fun t => List t.den) hxs
        have he := Nat.eq_of_beq_eq_true hb.2
        have ho := hb.1
        obtain ⟨zt, ze, zo, zx⟩ := z
        have hc : zt = t := hc
        subst hc
        have hxs : zx = x := hxs
        subst hxs
        have he : ze = e := he
        subst he
        obtain ⟨_, rfl⟩ := hv
        obtain ⟨h1, h2⟩ := (hM.ok r _ hz).own ho
        refine ⟨⟨h1, fun g hg => hmine g (h2 g hg)⟩, fun U hU g hg => ?_, fun r' hr' => ?_⟩
        · have : U = ε.sv r := by simpa [rowVals] using hU
          subst this
          exact ⟨r, by simp, hg⟩
        · rw [List.mem_singleton.1 hr']
          exact ⟨_, hz, ho⟩
      · cases h
    · cases h
  · rename_i t e r lo hi
    split at h
    · rename_i z hz
      replace h := bif_some h
      obtain ⟨hb, h⟩ := h
      rw [Bool.and_eq_true] at hb
      split at h
      · rename_i xs hxs
        cases h
        obtain ⟨hc, hxs⟩ := cast?_eq (F := fun t => List t.den) hxs
        have he := Nat.eq_of_beq_eq_true hb.2
        have ho := hb.1
        obtain ⟨zt, ze, zo, zx⟩ := z
        have hc : zt = t := hc
        subst hc
        have hxs : zx = xs := hxs
        subst hxs
        have he : ze = e := he
        subst he
        obtain ⟨_, A, m, c, A', c', hsv, hmc, hV, _, h0h, hhm, hc', _, hz0, hp0⟩ := hv
        have hlo := hp0 rfl
        subst hlo
        obtain ⟨rfl, rfl⟩ := hz0 rfl
        obtain ⟨h1, h2⟩ := (hM.ok r _ hz).own ho
        have hm : m = zx.length := by
          have h3 := (hM.ok r _ hz).read
          rw [hsv] at h3
          exact (ReadV.at_ h3).1
        rw [hsv] at h1
        have h4 := own_takeV (m := (hi - 0).toNat) h1 (show (hi - 0).toNat ≤ zx.length by omega)
        rw [← hV, show (hi - 0).toNat = hi.toNat by omega] at h4
        have hbk : V.ownBlock = (ε.sv r).ownBlock := by rw [hV, hsv]; cases A' <;> rfl
        refine ⟨⟨h4, fun g hg => hmine g (h2 g (by rw [← hbk]; exact hg))⟩, fun U hU g hg => ?_, fun r' hr' => ?_⟩
        · have : U = V := by simpa [rowVals] using hU
          subst this
          exact ⟨r, by simp, by rw [← hbk]; exact hg⟩
        · rw [List.mem_singleton.1 hr']
          exact ⟨_, hz, ho⟩
      · cases h
    · cases h
  · rename_i t e t' e'
    cases h
    have hv : V = .slice none 0 0 := hv
    subst hv
    refine ⟨⟨ownV_nil w' t e, fun g hg => by simp [Value.ownBlock] at hg⟩, fun U hU g hg => ?_, fun r hr => by cases hr⟩
    have : U = .slice none 0 0 := by simpa [rowVals] using hU
    subst this
    simp [Value.ownBlock] at hg
  · rename_i t e r
    split at h
    · rename_i z hz
      replace h := bif_some h
      obtain ⟨hb, h⟩ := h
      rw [Bool.and_eq_true] at hb
      split at h
      · rename_i x' hxs
        cases h
        obtain ⟨hc, hxs⟩ := cast?_eq (F := fun t => List t.den) hxs
        have he := Nat.eq_of_beq_eq_true hb.2
        have ho := hb.1
        obtain ⟨zt, ze, zo, zx⟩ := z
        have hc : zt = t := hc
        subst hc
        have hxs : zx = [x] := hxs
        subst hxs
        have he : ze = e := he
        subst he
        obtain ⟨_, ad, n, c, hsv, _, _, hV⟩ := hv
        rw [show Int.toNat (Int.ofNat 0) * (ε.ty r).sz = 0 by simp, Addr.add_zero'] at hV
        obtain ⟨h1, h2⟩ := (hM.ok r _ hz).own ho
        have hm : n = 1 := by
          have h3 := (hM.ok r _ hz).read
          rw [hsv] at h3
          exact (ReadV.at_ h3).1
        subst hm
        rw [hsv] at h1
        refine ⟨⟨ad, c, hV, h1, hmine _ (h2 _ (by rw [hsv]; rfl))⟩, fun U hU g hg => ?_, fun r' hr' => ?_⟩
        · have : U = .slice (some ad) 1 1 := by simpa [rowVals, hV, toSl] using hU
          subst this
          refine ⟨r, by simp, ?_⟩
          rw [hsv]
          exact hg
        · rw [List.mem_singleton.1 hr']
          exact ⟨_, hz, ho⟩
      · cases h
    · cases h
  · cases h
theorem rowVals_cons (t : RTy) (rs : List RTy) (V : Value) (Vs : List Value) : rowVals (t :: rs) (V :: Vs) = rowVals [t] [V] ++ rowVals rs Vs := by cases t <;> rfl
theorem rets_sound {C : Ctx} (hmine : ∀ k, C.mine k → S k ∨ w.heap.size ≤ k) {s : St} {ε : Env} (hS : Slots (look s.rows) ε (look s.sl) a) (hM : Mem C (look s.rows) ε w') : ∀ {rs : List RTy} {ns : List Nat} {x : retL rs} {l : List Nat}, rets s rs ns = some (x, l) →
    RetsOk w w' S rs x (ns.map fun n => a.tmps.getD n undef) ∧ (rowVals rs (ns.map fun n => a.tmps.getD n undef)).Pairwise apart2 ∧ (∀ U ∈ rowVals rs (ns.map fun n => a.tmps.getD n undef), ∀ g, U.ownBlock = some g → ∃ r ∈ l, (ε.sv r).ownBlock = some g) ∧ (∀ r ∈ l, ∃ z, row (look s.rows) r = some z ∧ z.own = true)
  | [], ns, x, l, h => by
    cases ns with
    | nil => cases h; exact ⟨trivial, List.Pairwise.nil, fun U hU => (by cases hU), fun r hr => (by cases hr)⟩
    | cons n ns => cases h
  | [t], ns, x, l, h => by
    match ns, h with
    | [n], h =>
      simp only [rets] at h
      split at h
      · rename_i av hav
        obtain ⟨h1, h2, h3⟩ := retOf_sound hmine hM (hS n av hav) h
        refine ⟨h1, ?_, h2, h3⟩
        cases t <;> simp [rowVals]
      · cases h
  | t :: u :: rs, ns, x, l, h => by
    match ns, h with
    | n :: ns, h =>
      simp only [rets] at h
      split at h
      · rename_i av hav
        split at h
        · rename_i y l1 ys l2 hy hys
          obtain ⟨hd, h⟩ := bif_some h
          cases h
          have hd := disj_spec hd
          obtain ⟨h1, h2, h3⟩ := retOf_sound hmine hM (hS n av hav) hy
          obtain ⟨k1, k2, k3, k4⟩ := rets_sound hmine hS hM hys
          rw [List.map_cons, rowVals_cons]
          refine ⟨⟨h1, k1⟩, ?_, ?_, ?_⟩
          · rw [List.pairwise_append]
            refine ⟨by cases t <;> simp [rowVals], k2, fun U hU U' hU' g hg hg' => ?_⟩
            obtain ⟨r, hr, hrb⟩ := h2 U hU g hg
            obtain ⟨r', hr', hrb'⟩ := k3 U' hU' g hg'
            obtain ⟨z, hz, ho⟩ := h3 r hr
            obtain ⟨z', hz', ho'⟩ := k4 r' hr'
            exact hM.sep r z r' z' hz ho hz' (fun e => hd r hr (e ▸ hr')) (.inl ho') g hrb hrb'
          · intro U hU g hg
            rcases List.mem_append.1 hU with hU | hU
            · obtain ⟨r, hr, hrb⟩ := h2 U hU g hg
              exact ⟨r, List.mem_append_left _ hr, hrb⟩
            · obtain ⟨r, hr, hrb⟩ := k3 U hU g hg
              exact ⟨r, List.mem_append_right _ hr, hrb⟩
          · intro r hr
            rcases List.mem_append.1 hr with hr | hr
            · exact h3 r hr
            · exact k4 r hr
        · cases h
      · cases h
theorem resTmps_eq : ∀ {l : List ResultVar} {m : List Nat}, resTmps l = some m → l = m.map ResultVar.tmp
  | [], m, h => by cases h; rfl
  | .tmp t :: l, m, h => by
    unfold resTmps at h
    split at h
    · rename_i m' hm
      cases h
      rw [resTmps_eq hm]
      rfl
    · cases h
  | .cell _ _ :: l, m, h => by cases h
theorem run_mapM_tmps {tmps : Array Value} (w : World) : ∀ (m : List Nat), (List.mapM (m := Sem) (fun v : ResultVar => match v with
    | .tmp t => pure (tmps.getD t undef)
    | .cell a t => do loadVar t (← asAddr (tmps.getD a undef))) (m.map ResultVar.tmp)).run P w = .ok (m.map fun n => tmps.getD n undef) w
  | [] => by simp
  | n :: m => by
    have ih := run_mapM_tmps (tmps := tmps) w m
    simp only [List.map_cons, List.mapM_cons, Sem.run_bind, Sem.run_pure, Result.andThen, ih]
theorem run_results {fn : Func} {m : List Nat} (h : resTmps fn.results.toList = some m) (tmps : Array Value) (w : World) : (results fn tmps).run P w = .ok (retV (m.map fun n => tmps.getD n undef)) w := by
  have he := resTmps_eq h
  have e : results fn tmps = (do
      let vs ← (List.toArray <$> List.mapM (m := Sem) (fun v : ResultVar => match v with
        | .tmp t => pure (tmps.getD t undef)
        | .cell a t => do loadVar t (← asAddr (tmps.getD a undef))) (m.map ResultVar.tmp) : Sem (Array Value))
      pure (if h : vs.size = 1 then vs[0] else .tuple vs)) := by
    unfold results
    rw [Array.mapM_eq_mapM_toList, he]
    rfl
  rw [e, Sem.run_bind, Sem.run_map, run_mapM_tmps]
  simp only [Result.andThen, Sem.run_pure]
  congr 1
  match m with
  | [] => rfl
  | [n] => rfl
  | n :: n' :: m => simp [retV]
theorem ArgsOk.length : ∀ {ps : List Par} {xs : argL ps} {Vs : List Value}, ArgsOk w S ps xs Vs → Vs.length = ps.length
  | [], _, [], _ => rfl
  | [], _, _ :: _, h => h.elim
  | p :: _, _, [], h => by cases p <;> exact h.elim
  | p :: ps, x, V :: Vs, h => by rw [List.length_cons, List.length_cons, ArgsOk.length h.2]
/-- A function's code does what its evaluation tells. -/
theorem call_of {T : Tab} (hm : P.follows .mixedOrders = true) (ht : TabOk P T) (hF : ∀ g, CallOk P W0 sg callF g) {callF2 : (f : FuncId) → argL (sg f).ps → Option (retL (sg f).rs)} {f : FuncId} {fn : Func} {c : Code} {res : List Nat} {k : Nat} (hf : P.funcs[f]? = some fn) (hb : fn.body = some c) (hname : (fn.name == "runtime.NumGoroutine") = false)
    (hres : resTmps fn.results.toList = some res) (hok : codeOk T c = true) (hps : (sg f).ps.length ≤ fn.ntmps)
    (h : ∀ xs r, callF2 f xs = some r → run T sg callF live fn.ntmps (jF T sg callF live fn.ntmps (fin (sg f).rs res) k) (fin (sg f).rs res) steps (.code c) ⟨slotsOf (sg f).ps xs 0, rowsOf (sg f).ps xs 0⟩ [] = some r) : CallOk P W0 sg callF2 f := by
  intro xs r hr
  refine ⟨fun args w => ?_, fun w S Vs hB hS hA hp => ?_⟩
  · have hn : ¬ fn.name = "runtime.NumGoroutine" := by simpa using hname
    simp [callFunc, hf, hb, hn]
  · let C : Ctx := ⟨P, T, W0, w, fun k => S k ∨ w.heap.size ≤ k⟩
    have hC : CtxOk C := ⟨ht, fun k hk => .inr hk, fun k hk => hk.elim (hS k) (fun h => Nat.le_trans hB.size h), hB⟩
    have hlen : Vs.length ≤ fn.ntmps := by rw [hA.length]; exact hps
    have hR : Rel C fn.ntmps ⟨slotsOf (sg f).ps xs 0, rowsOf (sg f).ps xs 0⟩ { tmps := Vs.toArray ++ Array.replicate (fn.ntmps - Vs.toArray.size) undef, defers := [] } w := entry_rel hlen hA hp
    let R' : Ending → World → Prop := fun e w' => ∃ Rs, e = .returned (retV Rs) ∧ RetsOk w w' S (sg f).rs r Rs ∧ (rowVals (sg f).rs Rs).Pairwise apart2 ∧ Pres S w w'
    have hfin : ∀ s' a' w', Rel C fn.ntmps s' a' w' → fin (sg f).rs res s' = some r → bodyPost P fn R' .normal a' w' ∧ bodyPost P fn R' .ret a' w' := by
      intro s' a' w' hR' hk
      obtain ⟨hn, hdf, _, ε, hSl, hM⟩ := hR'
      unfold fin at hk
      split at hk
      · rename_i x l hx
        cases hk
        obtain ⟨k1, k2, _, _⟩ := rets_sound (C := C) (S := S) (w := w) (fun k hk => hk) hSl hM hx
        have : bodyPost P fn R' .normal a' w' := ⟨hdf, _, run_results hres a'.tmps w', _, rfl, k1, k2, hM.pres.mono (fun k hk hm => hm.resolve_right (Nat.not_le.2 hk))⟩
        exact ⟨this, this⟩
      · cases hk
    exact calls_of_wp hf hb ((run_sound (live := live) hC hm hF (jF_sound hC hm hF hfin k) hfin steps).1 c _ _ _ [] hok rfl hR (h xs r hr))
end
/-! ### comparisons that the kernel doesn't look into -/
noncomputable def ltI (x y : Int) : Bool := @decide (x < y) (Classical.propDecidable _)
noncomputable def leI (x y : Int) : Bool := @decide (x ≤ y) (Classical.propDecidable _)
noncomputable def eqI (x y : Int) : Bool := @decide (x = y) (Classical.propDecidable _)
noncomputable def nleI (x y : Nat) : Bool := @decide (x ≤ y) (Classical.propDecidable _)
noncomputable def eqS (x y : ByteArray) : Bool := @decide (x.toList = y.toList) (Classical.propDecidable _)
theorem ltI_eq (x y : Int) : ltI x y = decide (x < y) := by by_cases h : x < y <;> simp [ltI, h]
theorem leI_eq (x y : Int) : leI x y = decide (x ≤ y) := by by_cases h : x ≤ y <;> simp [leI, h]
theorem eqI_eq (x y : Int) : eqI x y = decide (x = y) := by by_cases h : x = y <;> simp [eqI, h]
theorem nleI_eq (x y : Nat) : nleI x y = decide (x ≤ y) := by by_cases h : x ≤ y <;> simp [nleI, h]
theorem eqS_eq (x y : ByteArray) : eqS x y = (x.toList == y.toList) := by by_cases h : x.toList = y.toList <;> simp [eqS, h]
noncomputable def i2fI (n : Int) : Nat := floatOfInt .f64 n
noncomputable def f2iOkI (k : IntKind) (b : Nat) : Bool := @decide ((floatToIntVal .f64 b k).isSome = true) (Classical.propDecidable _)
noncomputable def f2iI (k : IntKind) (b : Nat) : Int := (floatToIntVal .f64 b k).getD 0
noncomputable def foI (o : Ordering) (x y : Nat) : Bool := @decide (FloatKind.f64.format.order x y = some o) (Classical.propDecidable _)
noncomputable def faOkI (o : BinOp) (x y : Nat) : Bool := @decide ((floatBits o .f64 x y).isSome = true) (Classical.propDecidable _)
noncomputable def faI (o : BinOp) (x y : Nat) : Nat := (floatBits o .f64 x y).getD 0
theorem i2fI_eq (n : Int) : i2fI n = floatOfInt .f64 n := rfl
theorem f2iI_eq (k : IntKind) (b : Nat) (h : f2iOkI k b = true) : floatToIntVal .f64 b k = some (f2iI k b) := by
  have h : (floatToIntVal .f64 b k).isSome = true := by simpa [f2iOkI] using h
  obtain ⟨n, hn⟩ := Option.isSome_iff_exists.1 h
  simp [f2iI, hn]
theorem foI_eq (o : Ordering) (x y : Nat) : foI o x y = (FloatKind.f64.format.order x y == some o) := by
  by_cases h : FloatKind.f64.format.order x y = some o <;> simp [foI, h]
theorem faI_eq (o : BinOp) (x y : Nat) (h : faOkI o x y = true) : floatBits o .f64 x y = some (faI o x y) := by
  have h : (floatBits o .f64 x y).isSome = true := by simpa [faOkI] using h
  obtain ⟨n, hn⟩ := Option.isSome_iff_exists.1 h
  simp [faI, hn]
end Go.Ev

/- A program's table: what has to be known of it; a function's contract out of its evaluation; an argument that is a slice. -/
namespace Go.Ev
open Go.RowKit Go.ChangeShapes Go.WideShapes Go.Deep
def isAggD : TypeDesc → Bool
  | .struct _ | .array _ _ => true
  | _ => false
def structOf (P : Program) (n : TypeId) : Array Field := match P.underlying n with
  | some (.struct fs) => fs
  | _ => #[]
/-- The methods of an interface type. -/
def ifaceOf (P : Program) (n : TypeId) : Array (String × TypeId) := match P.underlying n with
  | some (.interface ms) => ms
  | _ => #[]
/-- The fields' places and types. -/
def FldT (P : Program) : Nat → List (Nat × TypeId) → Ty → Prop
  | o, [(p, n)], .one a => p = o ∧ SzOk P n a ∧ (a.isStruct = false → BasicOk P n a)
  | o, (p, n) :: l, .pair a b => (p = o ∧ SzOk P n a ∧ (a.isStruct = false → BasicOk P n a)) ∧ FldT P (o + a.sz) l b
  | _, _, _ => False
theorem fldT_at {P : Program} : ∀ {o : Nat} {l : List (Nat × TypeId)} {t : Ty}, FldT P o l t →
    (∀ j s, t.fld j = some s → ∃ p n, l[j]? = some (p, n) ∧ p = o + t.off j ∧ SzOk P n s ∧ (s.isStruct = false → BasicOk P n s)) ∧ (∀ j x, l[j]? = some x → ∃ s, t.fld j = some s)
  | o, [(p, n)], .one a, h => by
    obtain ⟨h1, h2, h3⟩ := h
    refine ⟨fun j s hs => ?_, fun j x hx => ?_⟩
    · cases j with
      | zero =>
        have : a = s := by simpa [Ty.fld] using hs
        subst this
        exact ⟨p, n, rfl, by simp [Ty.off, h1], h2, h3⟩
      | succ j => simp [Ty.fld] at hs
    · cases j with
      | zero => exact ⟨a, rfl⟩
      | succ j => simp at hx
  | o, (p, n) :: l, .pair a b, h => by
    have h' : (p = o ∧ SzOk P n a ∧ (a.isStruct = false → BasicOk P n a)) ∧ FldT P (o + a.sz) l b := by cases l <;> exact h
    obtain ⟨⟨h1, h2, h3⟩, h4⟩ := h'
    obtain ⟨k1, k2⟩ := fldT_at h4
    refine ⟨fun j s hs => ?_, fun j x hx => ?_⟩
    · cases j with
      | zero =>
        have : a = s := by simpa [Ty.fld] using hs
        subst this
        exact ⟨p, n, rfl, by simp [Ty.off, h1], h2, h3⟩
      | succ j =>
        obtain ⟨q, m, e1, e2, e3, e4⟩ := k1 j s hs
        exact ⟨q, m, e1, by rw [e2]; simp only [Ty.off]; omega, e3, e4⟩
    · cases j with
      | zero => exact ⟨a, rfl⟩
      | succ j => exact k2 j x hx
  | _, [], .one _, h => h.elim
  | _, [], .pair _ _, h => h.elim
  | _, _, .int _, h => by unfold FldT at h; split at h <;> simp_all
  | _, _, .bool, h => by unfold FldT at h; split at h <;> simp_all
  | _, _, .str, h => by unfold FldT at h; split at h <;> simp_all
  | _, _, .flt, h => by unfold FldT at h; split at h <;> simp_all
  | _, _, .nils, h => by unfold FldT at h; split at h <;> simp_all
  | _, _, .nile, h => by unfold FldT at h; split at h <;> simp_all
  | _, _ :: _ :: _, .one _, h => h.elim
theorem fieldsOk_of {P : Program} {n : TypeId} {t : Ty} {l : List (Nat × TypeId)} (hl : (structOf P n).toList.map (fun f : Field => (f.offset, f.type)) = l) (h : FldT P 0 l t) : FieldsOk P (structOf P n) t := by
  obtain ⟨k1, k2⟩ := fldT_at h
  have hat : ∀ j, l[j]? = ((structOf P n)[j]?).map (fun f : Field => (f.offset, f.type)) := fun j => by rw [← hl, List.getElem?_map, Array.getElem?_toList]
  refine ⟨fun j s hs => ?_, fun j f hf => k2 j (f.offset, f.type) (by rw [hat, hf]; rfl)⟩
  obtain ⟨p, m, e1, e2, e3, e4⟩ := k1 j s hs
  rw [hat] at e1
  cases hf : (structOf P n)[j]? with
  | none => rw [hf] at e1; cases e1
  | some f =>
    rw [hf] at e1
    simp only [Option.map_some, Option.some.injEq, Prod.mk.injEq] at e1
    obtain ⟨rfl, rfl⟩ := e1
    exact ⟨f, rfl, by omega, e3, e4⟩
theorem szOk_of {P : Program} {n : TypeId} {t : Ty} (h : (P.info? n).map (fun i => (i.zero, i.size, i.bytes)) = some (some (t.val t.zero), t.sz, (((P.info? n).map (·.bytes)).getD 0))) (hb : Nat.ble (((P.info? n).map (·.bytes)).getD 0) 140 = true) (ha : (P.underlying n).map isAggD = some t.isStruct) : SzOk P n t := by
  refine ⟨h, Nat.le_of_ble_eq_true hb, ?_⟩
  cases hu : P.underlying n with
  | none => rw [hu] at ha; cases ha
  | some d =>
    rw [hu] at ha
    simp only [Option.map_some, Option.some.injEq] at ha
    refine ⟨d, rfl, ?_⟩
    rw [← ha]
    unfold isAggD
    cases d <;> rfl
theorem eqOk_of {P : Program} {n : TypeId} (h1 : P.stoodInHeld n = false) (h2 : P.eqGuardType P.depth n = false) (h3 : (structOf P n).toList.all (fun f : Field => f.name != "_") = true) : EqOk P n := by
  refine ⟨h1, h2, fun fs hu f hf => ?_⟩
  have : structOf P n = fs := by unfold structOf; rw [hu]
  rw [this, List.all_eq_true] at h3
  have := h3 f (by simpa using hf)
  simpa using this
section
variable {P : Program} {W0 : World} {sg : FuncId → Sig} {callF : (f : FuncId) → argL (sg f).ps → Option (retL (sg f).rs)} {live : Nat → Option (List Nat)}
def fnOk (T : Tab) (g : Sig) (fn : Func) : Bool := match fn.body, resTmps fn.results.toList with
  | some c, some _ => codeOk T c && !(fn.name == "runtime.NumGoroutine") && Nat.ble g.ps.length fn.ntmps
  | _, _ => false
theorem call_ev {T : Tab} (hm : P.follows .mixedOrders = true) (ht : TabOk P T) (hF : ∀ g, CallOk P W0 sg callF g) {f : FuncId} {fn : Func} {k : Nat} (hf : P.funcs[f]? = some fn) (hok : fnOk T (sg f) fn = true)
    {callF2 : (f : FuncId) → argL (sg f).ps → Option (retL (sg f).rs)} (h : ∀ xs, callF2 f xs = evalF T sg callF live k fn (sg f) xs) : CallOk P W0 sg callF2 f := by
  unfold fnOk at hok
  split at hok
  · rename_i c res hb hres
    rw [Bool.and_eq_true, Bool.and_eq_true] at hok
    refine call_of (live := live) (k := k) hm ht hF hf hb (by simpa using hok.1.2) hres hok.1.1 (Nat.le_of_ble_eq_true hok.2) fun xs r hr => ?_
    rw [h xs] at hr
    unfold evalF at hr
    rw [hb, hres] at hr
    exact hr
  · cases hok
end
theorem enters_of {P : Program} {f : FuncId} {fn : Func} (hf : P.funcs[f]? = some fn) (hb : fn.body.isSome = true) (hn : (fn.name == "runtime.NumGoroutine") = false) (args : Array Value) (w : World) : (callFunc f args).run P w = .ok (.enter f args) w := by
  obtain ⟨c, hc⟩ := Option.isSome_iff_exists.1 hb
  have hn : ¬ fn.name = "runtime.NumGoroutine" := by simpa using hn
  simp [callFunc, hf, hc, hn]
theorem Pres.of_below {S : Nat → Prop} {w w' : World} (h : Below w.heap.size w w') : Pres S w w' := ⟨h.os, h.tape, h.output, h.size, fun k hk _ => h.block k hk⟩
section
variable {H : Type} {enc : TypeId × Value → H} {P : Program} {w : World} {base : Nat} {spare : Nat → Bool} {held : Bool}
theorem cellsL_get {t : Ty} {xs : List t.den} {j : Nat} {u : Value} (h : (cellsL t xs)[j]? = some u) : ∃ i r, ∃ hi : i < xs.length, j = i * t.sz + r ∧ r < t.sz ∧ (t.cells (xs[i]'hi))[r]? = some u := by
  have hj : j < (cellsL t xs).length := (List.getElem?_eq_some_iff.1 h).1
  rw [cellsL_length] at hj
  have hz : 0 < t.sz := by
    rcases Nat.eq_zero_or_pos t.sz with h0 | h0
    · rw [h0] at hj; omega
    · exact h0
  have hi : j / t.sz < xs.length := (Nat.div_lt_iff_lt_mul hz).2 hj
  refine ⟨j / t.sz, j % t.sz, hi, by rw [Nat.mul_comm]; exact (Nat.div_add_mod j t.sz).symm, Nat.mod_lt _ hz, ?_⟩
  rw [← cellsL_at t xs _ hi, List.getElem?_take_of_lt (Nat.mod_lt _ hz), List.getElem?_drop, Nat.mul_comm, Nat.div_add_mod]
  exact h
theorem cells_length (t : Ty) (x : t.den) : (t.cells x).length = t.sz := by
  have := cellsL_length t [x]
  simpa [cellsL] using this
theorem open_ty (t : Ty) (G : t.den → Prop) {n e : TypeId} {fuel : Nat} {cs : List Value} {x : DataW H × List MemPlace} (ht : P.underlying n = some (.slice e)) (hsz : P.cellsOf e = t.sz)
    (hd : ∀ n cs x, DataW.trod enc P w base spare held n e cs = some x → ∃ y : t.den, cs = t.cells y ∧ G y) (h : DataW.trod enc P w base spare held fuel n cs = some x) :
    ∃ (A : Option Addr) (len c : Nat) (l : List t.den), cs = [.slice A len c] ∧ l.length = len ∧ len ≤ maxLen ∧ ReadV w t l (.slice A len c) ∧ ∀ y ∈ l, G y := by
  rcases open_slice ht h with ⟨rfl, _⟩ | ⟨a, len, cap, m, n, D, Pl, rfl, _, hl, hm, hmm, _, hi⟩
  · exact ⟨none, 0, 0, [], rfl, rfl, Nat.zero_le _, readV_nil w t, fun y hy => by cases hy⟩
  · have hlm : len ≤ m := by rw [hmm]; split <;> omega
    have hex : ∀ i : Fin len, ∃ y : t.den, w.cells? base (a.add (i.1 * P.cellsOf e)) (P.cellsOf e) = some (t.cells y) ∧ G y := fun i => by
      obtain ⟨cs', h1, h2⟩ := hi i.1 (by omega)
      obtain ⟨y, hy, hG⟩ := hd _ _ _ h2
      exact ⟨y, by rw [← hy]; exact h1, hG⟩
    refine ⟨some a, len, cap, List.ofFn fun i => Classical.choose (hex i), rfl, by simp, Nat.le_trans hl hm, ⟨some a, cap, by simp, by simpa using hl, fun j u hu => ⟨a, rfl, ?_⟩⟩, fun y hy => ?_⟩
    · obtain ⟨i, r, hil, rfl, hr, hc⟩ := cellsL_get hu
      have hil' : i < len := by simpa using hil
      rw [List.getElem_ofFn] at hc
      obtain ⟨h1, _⟩ := Classical.choose_spec (hex ⟨i, hil'⟩)
      obtain ⟨_, hcl, hat⟩ := World.cells?_some h1
      have := hat r (by omega)
      rw [← Go.Deep.add_add, ← hsz, this]
      exact hc
    · obtain ⟨i, rfl⟩ := List.mem_ofFn.1 hy
      exact (Classical.choose_spec (hex i)).2
end
theorem len1 {α : Type} {l : List α} (h : l.length = 1) : ∃ a, l = [a] := by
  match l, h with
  | [a], _ => exact ⟨a, rfl⟩
theorem len2 {α : Type} {l : List α} (h : l.length = 2) : ∃ a b, l = [a, b] := by
  match l, h with
  | [a, b], _ => exact ⟨a, b, rfl⟩
theorem len3 {α : Type} {l : List α} (h : l.length = 3) : ∃ a b c, l = [a, b, c] := by
  match l, h with
  | [a, b, c], _ => exact ⟨a, b, c, rfl⟩
theorem len4 {α : Type} {l : List α} (h : l.length = 4) : ∃ a b c d, l = [a, b, c, d] := by
  match l, h with
  | [a, b, c, d], _ => exact ⟨a, b, c, d, rfl⟩
/-- What a fixed-width number's form says. -/
theorem wf_i64 {n : Int} (h : (Lit.int .i64 n).wf = true) : -9223372036854775808 ≤ n ∧ n ≤ 9223372036854775807 := by
  have h' : And (IntKind.i64.min ≤ n) (n ≤ 9223372036854775807) := by simpa [Lit.wf] using h
  exact ⟨h'.1, h'.2⟩
end Go.Ev

