import Derived.Test.YtmdgnglgabnhnaaDoorWWords
import Derived.Laws.IdiomStrings
import Derived.Laws.Cover4
/-
Words of this session, beside the printer's: '[]rune(s)' makes a row of the call's own; 'string(l)' of a list of code points.
-/
namespace Go.Proofs.YtmdgnglgabnhnaaDoorX
open Go.RowKit Go.Proofs.YtmdgnglgabnhnaaDoorW.PrintWords

/-- The numbers of a list of values. -/
def intsOf (l : List Value) : List Int := l.map fun v => match v with | .int _ n => n | _ => 0
/-- The code points of a text, as '[]rune(s)' has them. -/
def runesI (s : ByteArray) : List Int := intsOf (Conv.runesFrom s s.size 0 #[]).toList
/-- The text of code points, as 'string(l)' has it. -/
def strOfRunes (l : List Int) : ByteArray := runesBytes l

theorem runesFrom_all (s : ByteArray) : ∀ (b i : Nat) (acc : Array Value), (∀ v ∈ acc.toList, ∃ n, v = .int .i32 n) → ∀ v ∈ (Conv.runesFrom s b i acc).toList, ∃ n, v = .int .i32 n
  | 0, _, acc, h => by simpa [Conv.runesFrom] using h
  | b + 1, i, acc, h => by
    unfold Conv.runesFrom
    split
    · exact runesFrom_all s b _ _ (by
        intro v hv
        rw [Array.toList_push] at hv
        rcases List.mem_append.1 hv with hv | hv
        · exact h v hv
        · exact ⟨_, List.mem_singleton.1 hv⟩)
    · exact h
theorem nums_intsOf (l : List Value) (h : ∀ v ∈ l, ∃ n, v = .int .i32 n) : nums .i32 (intsOf l) = l := by
  unfold nums intsOf
  rw [List.map_map]
  conv => rhs; rw [← List.map_id l]
  apply List.map_congr_left
  intro v hv
  obtain ⟨n, rfl⟩ := h v hv
  rfl
theorem nums_runesI (s : ByteArray) : nums .i32 (runesI s) = (Conv.runesFrom s s.size 0 #[]).toList := nums_intsOf _ (runesFrom_all s _ _ _ (by simp))
theorem runesI_length (s : ByteArray) : (runesI s).length = (Conv.runesFrom s s.size 0 #[]).size := by
  have := congrArg List.length (nums_runesI s)
  simpa [nums] using this
theorem runesI_length_le (s : ByteArray) : (runesI s).length ≤ s.size := by
  rw [runesI_length]
  have := size_runesFrom s s.size 0 #[]
  simpa using this

section
variable {P : Program} {ops : Array Oper} {rest : List Oper} {o : Oper} {a : Act} {Q : Exit → Act → World → Prop}
theorem Kd.R_runes {w0 W : World} (base e : Nat) (hgd : o.guard = none) {N : Tmp} (hd : o.dst = some N) (src dst : TypeId) (x : Operand) (ho : o.op = .convert src dst x) (s : ByteArray) (hx : a.eval x = .string s)
    (hs : P.underlying src = some .string) (ht : P.underlying dst = some (.slice e)) (he : P.underlying e = some (.int .i32)) (hinfo : (P.info? e).map (fun i => (i.zero, i.size, i.bytes)) = some (some (.int .i32 0), 1, 4))
    {ok okp : Nat → Prop} (hok : ∀ k, okp k → ok k) (hfresh : ok W.heap.size) (hl : (runesI s).length ≤ 70368744177664) (HB : Below base w0 W) (hbase : base ≤ W.heap.size)
    (h : ∀ v1 w1, (Kd.int .i32).R e w1 base ok v1 (runesI s) → Below base w0 w1 → W.grownBy w1 none → (∃ b, v1.ownBlock = some b ∧ W.heap.size ≤ b) → wpList P ops Q rest (a.put o.dst v1) w1) : wpList P ops Q (o :: rest) a W := by
  have hr := run_runes_of_string (P := P) W src dst e s hs ht he (by rw [← runesI_length]; exact hl)
  have hcm : grownCap W (Conv.runesFrom s s.size 0 #[]).size 0 e ≤ maxLen := grownCap_le_maxLen W _ 0 e (by rw [← runesI_length]; simp only [maxLen]; omega)
  have hcg := grownCap_ge W (Conv.runesFrom s s.size 0 #[]).size 0 e
  generalize hcap : grownCap W (Conv.runesFrom s s.size 0 #[]).size 0 e = cap at hr hcm hcg
  refine Kd.event_run hgd (w1 := W.drew.alloc (.cells (Conv.runesFrom s s.size 0 #[] ++ Array.replicate (cap - (Conv.runesFrom s s.size 0 #[]).size) (.int .i32 0)) e)) (v := .slice (some ⟨W.heap.size, 0, none⟩) (Conv.runesFrom s s.size 0 #[]).size cap) ?_ (h _ _ (Kd.R_of_own (enc := Value.int .i32) (h1 := fun _ => rfl) ?_ ?_) ((below_drew HB).alloc hbase _) ?_ ⟨W.heap.size, by simp [Value.ownBlock], Nat.le_refl _⟩)
  · simp [execOp, ho, hx, hr]
  · refine ⟨by simp [encs], .inr ⟨W.heap.size, cap, _, ?_, hbase, heap_alloc_new _ _, ?_, hcm, ?_, ?_⟩⟩
    · rw [runesI_length]
    · rw [runesI_length]; exact hcg
    · simp; omega
    · have h1 : encs (Value.int .i32) (runesI s) = (Conv.runesFrom s s.size 0 #[]).toList := nums_runesI s
      rw [h1, runesI_length]
      simp
  · intro k hk
    have : W.heap.size = k := by simpa [Value.ownBlock] using hk
    subst this
    exact hfresh
  · exact ⟨rfl, rfl, rfl, by simp, fun k hk _ => heap_alloc_old W.drew _ hk⟩
end

theorem runes_string_of_cells {P : Program} {w : World} {src dst e : TypeId} {n c : Nat} {A : Option Addr} {xs : List Int} (hs : P.underlying src = some (.slice e)) (he : P.underlying e = some (.int .i32)) (hd : P.underlying dst = some .string)
    (h : ReadsInt w .i32 A n xs) : (convert src dst (.slice A n c)).run P w = .ok (.string (strOfRunes xs)) w := by
  obtain ⟨hn, hm, hc⟩ := h
  rcases A with _ | ad
  · have h0 : n = 0 := by
      rcases Nat.eq_zero_or_pos n with h | h
      · exact h
      · obtain ⟨_, e, _⟩ := hc h; cases e
    subst h0
    obtain rfl : xs = [] := List.eq_nil_of_length_eq_zero hn
    exact run_convert_runes_nil w src dst e 0 c hs he hd
  · have hcell : ∀ j, j < xs.length → w.cell? (ad.add j) = some (.int .i32 (xs.getD j 0)) := by
      intro j hj
      obtain ⟨ad', e, hc'⟩ := hc (by omega)
      cases e
      exact hc' j (by omega)
    have := run_convert_runes (P := P) w src dst e ad n c xs (by omega) hs he hd hcell
    rwa [List.take_of_length_le (by omega)] at this
theorem own_runes_string {P : Program} {w : World} {base n : Nat} {e' src dst e : TypeId} {v : Value} {xs : List Int} (hs : P.underlying src = some (.slice e)) (he : P.underlying e = some (.int .i32)) (hd : P.underlying dst = some .string)
    (h : w.ownsRow base e' 1 v n (nums .i32 xs)) : (convert src dst v).run P w = .ok (.string (strOfRunes xs)) w := by
  have hl : xs.length = n := by have := h.1; simp [nums] at this; exact this
  rcases h.2 with ⟨rfl, rfl⟩ | ⟨g, cap, cur, rfl, _, _, hnc, hcm, _⟩
  · obtain rfl : xs = [] := List.eq_nil_of_length_eq_zero hl
    exact run_convert_runes_nil w src dst e 0 0 hs he hd
  · refine runes_string_of_cells hs he hd ⟨hl, by simp only [maxLen] at hcm; omega, fun _ => ⟨_, rfl, fun i hi => ?_⟩⟩
    exact h.cells (g := g) rfl i (.int .i32 (xs.getD i 0)) (by simp [nums, List.getElem?_eq_getElem (show i < xs.length by omega), List.getD_eq_getElem?_getD])
theorem Kd.C_runes_string {P : Program} {w : World} {src dst e : TypeId} {A : Option Addr} {n c : Nat} {xs : List Int} (hs : P.underlying src = some (.slice e)) (he : P.underlying e = some (.int .i32)) (hd : P.underlying dst = some .string)
    (h : (Kd.int .i32).C w A n xs) : (convert src dst (.slice A n c)).run P w = .ok (.string (strOfRunes xs)) w :=
  runes_string_of_cells hs he hd (by
    have h' := Kd.reads_of_C (enc := Value.int .i32) (d := (0 : Int)) (h1 := fun _ => rfl) h
    exact ⟨h'.1, h'.2.1, fun hn => h'.2.2 hn⟩)
end Go.Proofs.YtmdgnglgabnhnaaDoorX
