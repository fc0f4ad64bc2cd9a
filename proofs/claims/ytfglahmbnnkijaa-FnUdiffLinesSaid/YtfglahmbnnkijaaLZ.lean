import Derived.Test.YtfglahmbnnkijaaLY
import Derived.Test.YtfglahmbnnkijaaLX
/- The lines of a text, as splitLines finds them. -/
set_option linter.unusedVariables false
set_option linter.unusedSimpArgs false
namespace Go.Proofs.Ytfglahmbnnkijaa.E
open Go.Ev Go.Lcs Go.Lib
theorem app1 {h : Hp} {n : Nat} {O : List Int} (x : Int) (ho : HO h 3 (.int .i64) n O) (hn : n < h.nx) (hf : FreeH h) : Hp.cs (Hp.new h 3 (.p (.int .i64)) [x]) 1 (.at h.nx 0 1) = some ((([x] : List Int).map (HTy.cc (.p (.int .i64)))).flatten, 1) ∧ ∃ s : Rf × Hp, Hp.app (Hp.new h 3 (.p (.int .i64)) [x]) 3 1 (([x] : List Int).map (HTy.cc (.p (.int .i64)))).flatten 1 (.at n 0 O.length) = some s ∧ s.1 = .at (h.nx + 1) 0 (O.length + 1) ∧ s.2.nx = h.nx + 2 ∧ HO s.2 3 (.int .i64) (h.nx + 1) (O ++ [x]) ∧ FreeH s.2 ∧ (∀ m, m < h.nx → m ≠ n → s.2.ob m = h.ob m) := by
  have hN : HO (Hp.new h 3 (.p (.int .i64)) [x]) 3 (.int .i64) h.nx [x] := HO.new h 3 (.int .i64) [x]
  have hf1 : FreeH (Hp.new h 3 (.p (.int .i64)) [x]) := hf.push _
  have h1 : HO (Hp.new h 3 (.p (.int .i64)) [x]) 3 (.int .i64) n O := ho.push (by omega) _
  have happ := h1.app [x] (by simp)
  refine ⟨hN.cs, _, happ, rfl, rfl, ?_, (hf1.set (show n < h.nx + 1 by omega) none).push _, fun m h1 h2 => ?_⟩
  · unfold HO
    rw [push_ob, if_pos (show h.nx + 1 = ((Hp.new h 3 (.p (.int .i64)) [x]).set n none).nx from rfl)]
  · rw [push_ob, if_neg (show ¬ m = ((Hp.new h 3 (.p (.int .i64)) [x]).set n none).nx by show ¬ m = h.nx + 1; omega), set_ob, if_neg h2]
    unfold Hp.new
    rw [push_ob, if_neg (by omega)]
/-- A border of lines. -/
def Bord (s : ByteArray) (p : Nat) : Prop := p = 0 ∨ p = s.size ∨ (0 < p ∧ p < s.size ∧ bt s ((p : Int) - 1) = 10)
/-- Lines so far, and where they begin. -/
def Spl (s : ByteArray) (L : List ByteArray) (st : Nat) (O : List Int) : Prop := jn L = s.extract 0 st ∧ st ≤ s.size ∧ L.length ≤ st ∧ O.length = L.length + 1 ∧ ∀ i, i ≤ L.length → O[i]? = some (lpos L i : Int) ∧ Bord s (lpos L i)
theorem ex_join (s : ByteArray) (i j : Nat) (h : i ≤ j) : s.extract 0 i ++ s.extract i j = s.extract 0 j := by
  apply B_inj
  rw [B_append, B_to, B_to, B_extract]
  have := List.take_add (l := B s) (i := i) (j := j - i)
  rw [show i + (j - i) = j by omega] at this
  exact this.symm
theorem jn_one (x : ByteArray) : jn [x] = x := by
  apply B_inj
  rw [jn_data]
  simp [jb]
theorem Spl.add {s : ByteArray} {L : List ByteArray} {st : Nat} {O : List Int} (h : Spl s L st O) (e : Nat) (h1 : st ≤ e) (h2 : e ≤ s.size) (h3 : L.length + 1 ≤ e) (hb : Bord s e) : Spl s (L ++ [s.extract st e]) e (O ++ [(e : Int)]) := by
  obtain ⟨a1, a2, a3, a4, a5⟩ := h
  have hj : jn (L ++ [s.extract st e]) = s.extract 0 e := by rw [jn_append, jn_one, a1, ex_join s st e h1]
  refine ⟨hj, h2, by rw [List.length_append, List.length_singleton]; exact h3, by rw [List.length_append, List.length_append, List.length_singleton, List.length_singleton, a4], fun i hi => ?_⟩
  rw [List.length_append, List.length_singleton] at hi
  by_cases hc : i ≤ L.length
  · have e1 : lpos (L ++ [s.extract st e]) i = lpos L i := by
      unfold lpos
      rw [List.take_append_of_le_length hc]
    rw [e1, List.getElem?_append_left (by omega)]
    exact a5 i hc
  · have e1 : lpos (L ++ [s.extract st e]) i = e := by
      rw [lpos_end _ _ (by rw [List.length_append, List.length_singleton]; omega), hj, ex_size s 0 e (by omega) h2]
      omega
    rw [e1, List.getElem?_append_right (by omega), show i - O.length = 0 by omega]
    exact ⟨rfl, hb⟩
theorem dec10 {l : List UInt8} (hl : l ≠ []) (h : (decodeL l).1 = 10) : l.getD 0 0 = 10 := by
  obtain ⟨_, h2⟩ := dec_inv l hl (by rw [h]; omega)
  rw [h] at h2
  cases l with
  | nil => exact absurd rfl hl
  | cons b l =>
    have hw := decodeL_width (b :: l)
    cases hd : (decodeL (b :: l)).2 with
    | zero => omega
    | succ n =>
      rw [hd] at h2
      have : encL ((10 : Nat) : Int) = [10] := by decide
      rw [this] at h2
      have := (List.cons.inj h2).1
      exact this.symm
theorem bt_at10 (s : ByteArray) (p : Nat) (hp : p < s.size) (h : (decodeL (s.data.toList.drop p)).1 = 10) : bt s ((p + 1 : Nat) - 1 : Int) = 10 := by
  have hsz := szL s
  have hne : s.data.toList.drop p ≠ [] := by rw [← List.length_pos_iff, List.length_drop]; omega
  have := dec10 hne h
  have hb : (B s)[p]? = some 10 := by
    show s.data.toList[p]? = _
    rw [List.getD_eq_getElem?_getD, List.getElem?_drop, Nat.add_zero] at this
    have hq : s.data.toList[p]? = some (s.data.toList[p]'(by omega)) := List.getElem?_eq_getElem (by omega)
    rw [hq] at this ⊢
    exact congrArg some this
  rw [show (((p + 1 : Nat) : Int) - 1) = (p : Int) by omega, bt_eq s p 10 hb]
  rfl
/-- The lines, as they are found. -/
def spl (s : ByteArray) : Nat → Nat → Nat → List ByteArray → List ByteArray × Nat
  | 0, _, st, acc => (acc, st)
  | n + 1, p, st, acc => if p < s.size then (if (decodeL (s.data.toList.drop p)).1 = 10 then spl s n (p + (decodeL (s.data.toList.drop p)).2) (p + 1) (acc ++ [s.extract st (p + 1)]) else spl s n (p + (decodeL (s.data.toList.drop p)).2) st acc) else (acc, st)
def linesOf (s : ByteArray) : List ByteArray := if (spl s s.size 0 0 []).2 < s.size then (spl s s.size 0 0 []).1 ++ [s.extract (spl s s.size 0 0 []).2 s.size] else (spl s s.size 0 0 []).1
/-- The heap while lines are found. -/
def SplH (h0 h : Hp) (q : Nat) (s : ByteArray) (p : Nat) (n : Nat) (O : List Int) : Prop := HO h 3 (.int .i64) n O ∧ n < h.nx ∧ h0.nx ≤ n ∧ h.ob q = some (.iter s p) ∧ q < h.nx ∧ h0.nx ≤ q ∧ q ≠ n ∧ FreeH h ∧ KeepH h0 h
theorem SplH.app {h0 h : Hp} {q : Nat} {s : ByteArray} {p n : Nat} {O : List Int} (H : SplH h0 h q s p n O) (x : Int) : ∃ t : Rf × Hp, Hp.app (Hp.new h 3 (.p (.int .i64)) [x]) 3 1 (([x] : List Int).map (HTy.cc (.p (.int .i64)))).flatten 1 (.at n 0 O.length) = some t ∧ t.1 = .at (h.nx + 1) 0 (O.length + 1) ∧ SplH h0 t.2 q s p (h.nx + 1) (O ++ [x]) := by
  obtain ⟨a1, a2, a3, a4, a5, a6, a7, a8, a9⟩ := H
  obtain ⟨_, t, b1, b2, b3, b4, b5, b6⟩ := app1 x a1 a2 a8
  exact ⟨t, b1, b2, b4, by omega, by have := a9.nx; omega, by rw [b6 q a5 a7]; exact a4, by omega, a6, by omega, b5, ⟨by have := a9.nx; omega, fun m hm => (b6 m (by have := a9.nx; omega) (by omega)).trans (a9.ob m hm)⟩⟩
theorem SplH.step {h0 h : Hp} {q : Nat} {s : ByteArray} {p n : Nat} {O : List Int} (H : SplH h0 h q s p n O) (p' : Nat) : SplH h0 (h.set q (some (.iter s p'))) q s p' n O := by
  obtain ⟨a1, a2, a3, a4, a5, a6, a7, a8, a9⟩ := H
  exact ⟨a1.set (by omega) _, a2, a3, by rw [set_ob, if_pos rfl], a5, a6, a7, a8.set a5 _, a9.set a6 _⟩
theorem spl_loop (K : Nat) (s : ByteArray) (h0 : Hp) (q : Nat) (hs : s.size ≤ 10000) : ∀ (f k p st : Nat) (L : List ByteArray) (h : Hp) (n : Nat) (O : List Int), SplH h0 h q s p n O → Spl s L st O → st ≤ p → s.size - p ≤ f → 2 * f + 1 ≤ k →
    ∃ k' h' n' O' p', k ≤ k' + (2 * f + 1) ∧ udiff_splitLines_l0 K k s L (.at n 0 O.length) (st : Int) (.at q 0) h = udiff_splitLines_j1 K k' s (spl s f p st L).1 (.at n' 0 O'.length) ((spl s f p st L).2 : Int) h' ∧ SplH h0 h' q s p' n' O' ∧ Spl s (spl s f p st L).1 (spl s f p st L).2 O' := by
  have hsz := szL s
  intro f
  induction f with
  | zero =>
    intro k p st L h n O H S hp hf hk
    obtain ⟨k, rfl⟩ : ∃ q, k = q + 1 := ⟨k - 1, by omega⟩
    refine ⟨k, h, n, O, p, by omega, ?_, H, S⟩
    rw [udiff_splitLines_l0_eq, more_at H.2.2.2.1, obs, decide_eq_false (by omega), br_false]
    rfl
  | succ f ih =>
    intro k p st L h n O H S hp hf hk
    obtain ⟨k, rfl⟩ : ∃ q, k = q + 2 := ⟨k - 2, by omega⟩
    by_cases hlt : p < s.size
    · have hne : s.data.toList.drop p ≠ [] := by rw [← List.length_pos_iff, List.length_drop]; omega
      have hw := decodeL_width (s.data.toList.drop p)
      have e0 : spl s (f + 1) p st L = if (decodeL (s.data.toList.drop p)).1 = 10 then spl s f (p + (decodeL (s.data.toList.drop p)).2) (p + 1) (L ++ [s.extract st (p + 1)]) else spl s f (p + (decodeL (s.data.toList.drop p)).2) st L := by
        show (if p < s.size then _ else _) = _
        rw [if_pos hlt]
      have H2 := H.step (p + (decodeL (s.data.toList.drop p)).2)
      rw [udiff_splitLines_l0_eq, more_at H.2.2.2.1, obs, decide_eq_true hlt, br_true, nxt_at H.2.2.2.1, obs, e0]
      show ∃ k' h' n' O' p', _ ∧ udiff_splitLines_j0 K (k + 1) s L (.at n 0 O.length) (st : Int) (.at q 0) true (p : Int) ((decodeL (s.data.toList.drop p)).1 : Int) (h.set q (some (.iter s (p + (decodeL (s.data.toList.drop p)).2)))) = _ ∧ _ ∧ _
      by_cases h10 : (decodeL (s.data.toList.drop p)).1 = 10
      · have hb : Bord s (p + 1) := by
          by_cases hE : p + 1 = s.size
          · exact .inr (.inl hE)
          · exact .inr (.inr ⟨by omega, by omega, bt_at10 s p hlt h10⟩)
        have S2 := S.add (p + 1) (by omega) (by omega) (by have := S.2.2.1; omega) hb
        have hl1 := S.2.2.1
        have hl2 := S.2.2.2.1
        obtain ⟨c1, _⟩ := app1 (((p + 1 : Nat) : Int)) H2.1 H2.2.1 H2.2.2.2.2.2.2.2.1
        obtain ⟨t, c2, c3, H3⟩ := H2.app (((p + 1 : Nat) : Int))
        obtain ⟨k', h', n', O', p', g1, g2, g3⟩ := ih k (p + (decodeL (s.data.toList.drop p)).2) (p + 1) _ _ _ _ H3 S2 (by omega) (by omega) (by omega)
        refine ⟨k', h', n', O', p', by omega, ?_, by rw [if_pos h10]; exact g3⟩
        rw [if_pos h10, udiff_splitLines_j0_eq, br_eq (by rw [h10]; rfl), wp1 p (by omega), Int.toNat_natCast, Int.toNat_natCast, chk_le (by omega), chk_le (by omega), chk_le (by omega), List.length_singleton, chk_lt (by omega)]
        show Option.bind (Hp.cs (Hp.new (h.set q (some (.iter s (p + (decodeL (s.data.toList.drop p)).2)))) 3 (.p (.int .i64)) [((p + 1 : Nat) : Int)]) 1 (.at h.nx 0 1)) _ = _
        rw [show (Hp.cs (Hp.new (h.set q (some (.iter s (p + (decodeL (s.data.toList.drop p)).2)))) 3 (.p (.int .i64)) [((p + 1 : Nat) : Int)]) 1 (.at h.nx 0 1)) = _ from c1, obs]
        show chk _ (Option.bind (Hp.app (Hp.new (h.set q (some (.iter s (p + (decodeL (s.data.toList.drop p)).2)))) 3 (.p (.int .i64)) [((p + 1 : Nat) : Int)]) 3 1 _ 1 (.at n 0 O.length)) _) = _
        rw [c2, obs, rlen0, chk_lt (by show (O.length : Int) + ((1 : Nat) : Int) < _; omega), c3]
        rw [List.length_append, List.length_singleton] at g2
        exact g2
      · obtain ⟨k', h', n', O', p', g1, g2, g3⟩ := ih k (p + (decodeL (s.data.toList.drop p)).2) st L _ n O H2 S (by omega) (by omega) (by omega)
        refine ⟨k', h', n', O', p', by omega, ?_, by rw [if_neg h10]; exact g3⟩
        rw [if_neg h10, udiff_splitLines_j0_eq, br_ne (by omega), g2]
    · have e0 : spl s (f + 1) p st L = (L, st) := by
        show (if p < s.size then _ else _) = _
        rw [if_neg hlt]
      refine ⟨k + 1, h, n, O, p, by omega, ?_, H, by rw [e0]; exact S⟩
      rw [udiff_splitLines_l0_eq, more_at H.2.2.2.1, obs, decide_eq_false hlt, br_false, e0]
/-- The lines and where they begin. -/
def Lns (s : ByteArray) (O : List Int) : Prop := jn (linesOf s) = s ∧ (linesOf s).length ≤ s.size ∧ O.length = (linesOf s).length + 1 ∧ ∀ i, i ≤ (linesOf s).length → O[i]? = some (lpos (linesOf s) i : Int) ∧ Bord s (lpos (linesOf s) i)
theorem splitLines_ok (K : Nat) (h : Hp) (s : ByteArray) (hf : FreeH h) (hs : s.size ≤ 10000) (hK : 30000 ≤ K) : ∃ h' r O, udiff_splitLines K h s = some (h', (linesOf s, r)) ∧ KeepH h h' ∧ FreeH h' ∧ SlL h' 3 (.int .i64) r O ∧ Lns s O := by
  obtain ⟨K, rfl⟩ : ∃ m, K = m + 1 := ⟨K - 1, by omega⟩
  obtain ⟨h1, hh1⟩ : ∃ h1, h1 = Hp.push (Hp.new h 3 (.p (.int .i64)) [(0 : Int)]) (.iter s 0) := ⟨_, rfl⟩
  have hN : HO (Hp.new h 3 (.p (.int .i64)) [(0 : Int)]) 3 (.int .i64) h.nx [(0 : Int)] := HO.new h 3 (.int .i64) [(0 : Int)]
  have H : SplH h h1 (h.nx + 1) s 0 h.nx [(0 : Int)] := by
    rw [hh1]
    refine ⟨hN.push (show ¬ h.nx = h.nx + 1 by omega) _, show h.nx < h.nx + 2 by omega, Nat.le_refl _, ?_, show h.nx + 1 < h.nx + 2 by omega, by omega, by omega, (hf.push _).push _, ((KeepH.refl h).push _).push _⟩
    rw [push_ob, if_pos (show h.nx + 1 = (Hp.new h 3 (.p (.int .i64)) [(0 : Int)]).nx from rfl)]
  have ex0 : s.extract 0 0 = (⟨#[]⟩ : ByteArray) := ex_nil s 0 0 (Nat.le_refl _)
  have S : Spl s [] 0 [(0 : Int)] := by
    refine ⟨ex0.symm, Nat.zero_le _, Nat.le_refl _, rfl, fun i hi => ?_⟩
    have hi : i = 0 := Nat.le_zero.1 hi
    subst hi
    exact ⟨rfl, .inl rfl⟩
  obtain ⟨k', h', n', O', p', g1, g2, g3, g4⟩ := spl_loop K s h (h.nx + 1) hs s.size K 0 0 [] h1 h.nx [(0 : Int)] H S (Nat.le_refl _) (Nat.le_refl _) (by omega)
  obtain ⟨k', rfl⟩ : ∃ q, k' = q + 1 := ⟨k' - 1, by omega⟩
  have hstart : udiff_splitLines (K + 1) h s = udiff_splitLines_j1 K (k' + 1) s (spl s s.size 0 0 []).1 (.at n' 0 O'.length) ((spl s s.size 0 0 []).2 : Int) h' := by
    rw [udiff_splitLines_eq, ← g2, hh1]
    rfl
  obtain ⟨f1, f2, f3, f4, f5⟩ := g4
  rw [hstart, udiff_splitLines_j1_eq]
  by_cases hc : (spl s s.size 0 0 []).2 < s.size
  · have eL : linesOf s = (spl s s.size 0 0 []).1 ++ [s.extract (spl s s.size 0 0 []).2 s.size] := by
      unfold linesOf
      rw [if_pos hc]
    obtain ⟨c1, _⟩ := app1 ((s.size : Nat) : Int) g3.1 g3.2.1 g3.2.2.2.2.2.2.2.1
    obtain ⟨t, c2, c3, H3⟩ := g3.app ((s.size : Nat) : Int)
    have S2 := Spl.add ⟨f1, f2, f3, f4, f5⟩ s.size (by omega) (Nat.le_refl _) (by omega) (.inr (.inl rfl))
    rw [← eL] at S2
    have efull : s.extract 0 s.size = s := by
      apply B_inj
      rw [B_to, List.take_of_length_le (by rw [B_size]; exact Nat.le_refl _)]
    refine ⟨t.2, t.1, _, ?_, H3.2.2.2.2.2.2.2.2, H3.2.2.2.2.2.2.2.1, .inr ⟨by simp, h'.nx + 1, H3.2.1, by rw [c3, List.length_append]; rfl, H3.1⟩, S2.1.trans efull, S2.2.2.1, S2.2.2.2.1, S2.2.2.2.2⟩
    rw [br_lt (by omega), Int.toNat_natCast, Int.toNat_natCast, chk_le (by omega), chk_le (by omega), chk_le (by omega), List.length_singleton, chk_lt (by omega)]
    show Option.bind (Hp.cs (Hp.new h' 3 (.p (.int .i64)) [((s.size : Nat) : Int)]) 1 (.at h'.nx 0 1)) _ = _
    rw [c1, obs]
    show chk _ (Option.bind (Hp.app (Hp.new h' 3 (.p (.int .i64)) [((s.size : Nat) : Int)]) 3 1 _ 1 (.at n' 0 O'.length)) _) = _
    rw [c2, obs, rlen0, chk_lt (by show (O'.length : Int) + ((1 : Nat) : Int) < _; omega), eL]
  · have eL : linesOf s = (spl s s.size 0 0 []).1 := by
      unfold linesOf
      rw [if_neg hc]
    have efull : s.extract 0 (spl s s.size 0 0 []).2 = s := by
      apply B_inj
      rw [B_to, List.take_of_length_le (by rw [B_size]; omega)]
    refine ⟨h', .at n' 0 O'.length, O', ?_, g3.2.2.2.2.2.2.2.2, g3.2.2.2.2.2.2.2.1, .inr ⟨by intro e; rw [e] at f4; simp at f4, n', g3.2.1, rfl, g3.1⟩, by rw [eL, f1, efull], by rw [eL]; omega, by rw [eL]; exact f4, by rw [eL]; exact f5⟩
    rw [br_ge (by omega), eL]
end Go.Proofs.Ytfglahmbnnkijaa.E
