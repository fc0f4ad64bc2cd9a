import Derived.Test.YtmdgnglgabnhnaaPx0
import Derived.Test.YtmdgnglgabnhnaaXPlain
import Derived.Maps.Own
import Derived.Maps.OwnOps
import Derived.Maps.OwnSet
import Derived.Maps.Views
import Derived.Lib.ConvBytes
import Derived.Lib.SmallJoins
import Derived.BigCall
/- Maps of the call's own, told as functions; 'MatchAlphabet' and 'impl.Alphabet'. -/
namespace Go.Proofs.YtmdgnglgabnhnaaX
open Go.RowKit Go.Maps
section
variable {P : Program} {k e t : TypeId} {α : Type}
/-- How a key of this kind is written, and read. -/
structure KeyK (P : Program) (k : TypeId) (α : Type) where
  val : α → Value
  lit : α → Lit
  ok : α → Prop
  key : ∀ x, ok x → keyOf P k (val x) = some (lit x)
  inj : ∀ x y, lit x = lit y → x = y
  isKey : ∀ x, WideAt.IsKeyLit (lit x)
/-- A map of the call's own, in block b, of at most n entries, from keys to numbers (int): what it says of each key. -/
def MapIs (K : KeyK P k α) (e : TypeId) (w : World) (b n : Nat) (g : α → Option Int) : Prop :=
  ∃ D : DataW Unit, w.ownsMap P k (plainElem P e) b n D ∧ ∀ x, K.ok x → (Maps.has D (K.lit x) = (g x).isSome) ∧ ∀ v, g x = some v → ∀ z, D.atKey (K.lit x) z = .lit (.int .i64 v)
def upd [DecidableEq α] (g : α → Option Int) (y : α) (u : Int) : α → Option Int := fun z => if z = y then some u else g z
variable {K : KeyK P k α} {w w1 : World} {b n : Nat} {g : α → Option Int}
theorem MapIs.made (w : World) : MapIs K e (w.alloc (.map #[] 0)) w.heap.size 0 (fun _ => none) :=
  ⟨.map [], World.ownsMap_made _ _ _ _, fun x _ => ⟨rfl, fun v h => by cases h⟩⟩
theorem MapIs.grown (h : MapIs K e w b n g) {row : Option Nat} (hg : w.grownBy w1 row) (hne : some b ≠ row) : MapIs K e w1 b n g := by
  obtain ⟨D, h1, h2⟩ := h
  exact ⟨D, h1.kept hg hne, h2⟩
theorem MapIs.lt (h : MapIs K e w b n g) : b < w.heap.size := by
  obtain ⟨D, h1, h2⟩ := h
  exact h1.lt
theorem MapIs.old (h : MapIs K e w b n g) (hb : Below w.heap.size w w1) : MapIs K e w1 b n g := by
  obtain ⟨D, ⟨es, clock, h1, h3⟩, h2⟩ := h
  exact ⟨D, ⟨es, clock, (hb.block b (by rcases Nat.lt_or_ge b w.heap.size with h | h; exact h; simp [Array.getElem?_eq_none h] at h1)).trans h1, h3⟩, h2⟩
variable {ops : Array Oper} {rest : List Oper} {o : Oper} {a : Act} {Q : Exit → Act → World → Prop}
theorem MapIs.look_ok (hown : MapIs K e w b n g) (hg : o.guard = none) (m x : Operand) (hop : o.op = Op.lookup t m x true) (L : Keyed P k) (ht : P.underlying t = some (.map k e)) (he : P.underlying e = some (.int .i64)) (hz : (zeroValue e).run P w = .ok (.int .i64 0) w)
    (hm : a.eval m = .map (some b)) (y : α) (hx : a.eval x = K.val y) (hy : K.ok y)
    (hK : wpList P ops Q rest (a.put o.dst (.tuple #[.int .i64 ((g y).getD 0), .bool (g y).isSome])) w) : wpList P ops Q (o :: rest) a w := by
  obtain ⟨D, h1, h2⟩ := hown
  obtain ⟨h3, h4⟩ := h2 y hy
  refine wpList_lookup_own_ok_int w hg m x t hop k e .i64 L ht he hz b n D hm h1 (K.val y) (K.lit y) hx (K.key y hy) (fun c hc _ => ?_)
  rw [h3]
  cases hgy : g y with
  | some v =>
    rw [h4 v hgy] at hc
    obtain rfl : v = c := by simpa using hc
    rw [hgy] at hK
    exact hK
  | none =>
    rw [hgy] at h3 hK
    rw [Maps.atKey_of_not_has h3] at hc
    obtain rfl : (0 : Int) = c := by simpa using hc
    exact hK
theorem MapIs.look (hown : MapIs K e w b n g) (hg : o.guard = none) (m x : Operand) (hop : o.op = Op.lookup t m x false) (L : Keyed P k) (ht : P.underlying t = some (.map k e)) (he : P.underlying e = some (.int .i64)) (hz : (zeroValue e).run P w = .ok (.int .i64 0) w)
    (hm : a.eval m = .map (some b)) (y : α) (hx : a.eval x = K.val y) (hy : K.ok y)
    (hK : wpList P ops Q rest (a.put o.dst (.int .i64 ((g y).getD 0))) w) : wpList P ops Q (o :: rest) a w := by
  obtain ⟨D, h1, h2⟩ := hown
  obtain ⟨h3, h4⟩ := h2 y hy
  refine wpList_lookup_own_int w hg m x t hop k e .i64 L ht he hz b n D hm h1 (K.val y) (K.lit y) hx (K.key y hy) (fun c hc _ => ?_)
  cases hgy : g y with
  | some v =>
    rw [h4 v hgy] at hc
    obtain rfl : v = c := by simpa using hc
    rw [hgy] at hK
    exact hK
  | none =>
    rw [hgy] at h3 hK
    rw [Maps.atKey_of_not_has h3] at hc
    obtain rfl : (0 : Int) = c := by simpa using hc
    exact hK
theorem MapIs.store [DecidableEq α] (hown : MapIs K e w b n g) (hg : o.guard = none) (m x v : Operand) (hop : o.op = Op.mapUpdate t m x v) (L : Keyed P k) (ht : P.underlying t = some (.map k e)) (he : P.underlying e = some (.int .i64))
    (hm : a.eval m = .map (some b)) (hn : n < maxLen) (y : α) (hx : a.eval x = K.val y) (hy : K.ok y) (u : Int) (hv : a.eval v = .int .i64 u) (hu : (Lit.int .i64 u).wf = true)
    (hK : ∀ w', MapIs K e w' b (n + 1) (upd g y u) → w.grownBy w' (some b) → wpList P ops Q rest (a.put o.dst undef) w') : wpList P ops Q (o :: rest) a w := by
  obtain ⟨D, h1, h2⟩ := hown
  refine wpList_mapUpdate_own w hg m x v t hop k e L ht (plainElem P e) b n D hm h1 hn (K.val y) (.int .i64 u) (K.lit y) hx hv (K.key y hy) (.lit (.int .i64 u)) [] (plainElem_int he hu) (fun w' h3 h4 => hK w' ⟨_, h3, fun z hz => ?_⟩ h4)
  by_cases c : z = y
  · subst c
    unfold upd
    rw [if_pos rfl]
    exact ⟨Maps.has_put_same h1.isMap (K.isKey z) _, fun v hv z' => by cases hv; exact Maps.atKey_put_same h1.isMap (K.isKey z) _ _⟩
  · unfold upd
    rw [if_neg c]
    have hne : K.lit z ≠ K.lit y := fun h => c (K.inj _ _ h)
    exact ⟨(Maps.has_put_other hne _).trans (h2 z hz).1, fun v hv z' => (Maps.atKey_put_other hne _ _).trans ((h2 z hz).2 v hv z')⟩
end
end Go.Proofs.YtmdgnglgabnhnaaX
