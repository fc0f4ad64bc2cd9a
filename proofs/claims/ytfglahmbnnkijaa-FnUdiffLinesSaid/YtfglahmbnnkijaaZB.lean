import Derived.Test.YtfglahmbnnkijaaZA
/- Lists that are built in the heap, one element behind the other. -/
set_option linter.unusedVariables false
set_option linter.unusedSimpArgs false
namespace Go.Ev
def FreeH (h : Hp) : Prop := ∀ n, h.nx ≤ n → h.ob n = none
theorem FreeH.push {h : Hp} (hf : FreeH h) (o : Obj) : FreeH (h.push o) := by
  intro n hn
  have hn : h.nx + 1 ≤ n := hn
  rw [push_ob, if_neg (by omega)]
  exact hf n (by omega)
theorem FreeH.set {h : Hp} (hf : FreeH h) {n : Nat} (hn : n < h.nx) (o : Option Obj) : FreeH (h.set n o) := by
  intro m hm
  have hm : h.nx ≤ m := hm
  rw [set_ob, if_neg (by omega)]
  exact hf m hm
theorem FreeH.empty : FreeH Hp.empty := fun _ _ => rfl
/-- What was there at first is there as it was. -/
structure KeepH (h0 h : Hp) : Prop where
  nx : h0.nx ≤ h.nx
  ob : ∀ n, n < h0.nx → h.ob n = h0.ob n
theorem KeepH.refl (h : Hp) : KeepH h h := ⟨Nat.le_refl _, fun _ _ => rfl⟩
theorem KeepH.trans {a b c : Hp} (h : KeepH a b) (k : KeepH b c) : KeepH a c := ⟨Nat.le_trans h.nx k.nx, fun n hn => (k.ob n (Nat.lt_of_lt_of_le hn h.nx)).trans (h.ob n hn)⟩
theorem KeepH.push {h0 h : Hp} (k : KeepH h0 h) (o : Obj) : KeepH h0 (h.push o) := by
  refine ⟨Nat.le_succ_of_le k.nx, fun n hn => ?_⟩
  rw [push_ob, if_neg (by have := k.nx; omega)]
  exact k.ob n hn
theorem KeepH.set {h0 h : Hp} (k : KeepH h0 h) {n : Nat} (hn : h0.nx ≤ n) (o : Option Obj) : KeepH h0 (h.set n o) := by
  refine ⟨k.nx, fun m hm => ?_⟩
  rw [set_ob, if_neg (by omega)]
  exact k.ob m hm
theorem HO.keep {h h' : Hp} {e : TypeId} {t : Ty} {n : Nat} {L : List t.den} (ho : HO h e t n L) (k : KeepH h h') (hn : n < h.nx) : HO h' e t n L := (k.ob n hn).trans ho
/-- A slice that is a whole list. -/
def SlL (h : Hp) (e : TypeId) (t : Ty) (r : Rf) (L : List t.den) : Prop := (L = [] ∧ r = .nil) ∨ (L ≠ [] ∧ ∃ n, n < h.nx ∧ r = .at n 0 L.length ∧ HO h e t n L)
theorem SlL.keep {h h' : Hp} {e : TypeId} {t : Ty} {r : Rf} {L : List t.den} (hs : SlL h e t r L) (k : KeepH h h') : SlL h' e t r L := by
  rcases hs with hs | ⟨h1, n, h2, h3, h4⟩
  · exact .inl hs
  · exact .inr ⟨h1, n, Nat.lt_of_lt_of_le h2 k.nx, h3, h4.keep k h2⟩
theorem SlL.rlen {h : Hp} {e : TypeId} {t : Ty} {r : Rf} {L : List t.den} (hs : SlL h e t r L) : rlen r = L.length := by
  rcases hs with ⟨rfl, rfl⟩ | ⟨_, n, _, rfl, _⟩ <;> rfl
theorem SlL.ld {h : Hp} {e : TypeId} {t : Ty} {r : Rf} {L : List t.den} (hs : SlL h e t r L) (i : Nat) (hi : i < L.length) : Hp.ld h (.p t) (radr t.sz i r) = some L[i] := by
  rcases hs with ⟨rfl, rfl⟩ | ⟨_, n, _, rfl, ho⟩
  · simp at hi
  · show Hp.ld h (.p t) (.at n (0 + i * t.sz)) = _
    rw [Nat.zero_add]
    exact ho.ld i hi
theorem SlL.cs {h : Hp} {e : TypeId} {t : Ty} {r : Rf} {L : List t.den} (hs : SlL h e t r L) : Hp.cs h t.sz r = some ((L.map (HTy.cc (.p t))).flatten, L.length) := by
  rcases hs with ⟨rfl, rfl⟩ | ⟨_, n, _, rfl, ho⟩
  · rfl
  · exact ho.cs
/-- A list that is built since h0. -/
def Blt (h0 h : Hp) (e : TypeId) (t : Ty) (r : Rf) (L : List t.den) : Prop := KeepH h0 h ∧ FreeH h ∧ ((L = [] ∧ r = .nil) ∨ (L ≠ [] ∧ ∃ n, h0.nx ≤ n ∧ n < h.nx ∧ r = .at n 0 L.length ∧ HO h e t n L))
theorem Blt.start {h : Hp} (hf : FreeH h) {e : TypeId} {t : Ty} : Blt h h e t .nil [] := ⟨KeepH.refl h, hf, .inl ⟨rfl, rfl⟩⟩
theorem Blt.sl {h0 h : Hp} {e : TypeId} {t : Ty} {r : Rf} {L : List t.den} (hb : Blt h0 h e t r L) : SlL h e t r L := by
  rcases hb.2.2 with hs | ⟨h1, n, _, h2, h3, h4⟩
  · exact .inl hs
  · exact .inr ⟨h1, n, h2, h3, h4⟩
theorem Blt.app {h0 h : Hp} {e : TypeId} {t : Ty} {r : Rf} {L : List t.den} (hb : Blt h0 h e t r L) (x : t.den) :
    Hp.cs (Hp.new h e (.p t) [x]) t.sz (.at h.nx 0 1) = some (([x].map (HTy.cc (.p t))).flatten, 1) ∧ ∃ s : Rf × Hp, Hp.app (Hp.new h e (.p t) [x]) e t.sz ([x].map (HTy.cc (.p t))).flatten 1 r = some s ∧ Blt h0 s.2 e t s.1 (L ++ [x]) := by
  obtain ⟨hk, hf, hL⟩ := hb
  have hN : HO (Hp.new h e (.p t) [x]) e t h.nx [x] := HO.new h e t [x]
  have hk1 : KeepH h0 (Hp.new h e (.p t) [x]) := hk.push _
  have hf1 : FreeH (Hp.new h e (.p t) [x]) := hf.push _
  refine ⟨hN.cs, ?_⟩
  rcases hL with ⟨rfl, rfl⟩ | ⟨hne, n, hn0, hn, rfl, ho⟩
  · refine ⟨_, rfl, hk1.push _, hf1.push _, .inr ⟨by simp, (Hp.new h e (.p t) [x]).nx, hk1.nx, Nat.lt_succ_self _, rfl, ?_⟩⟩
    unfold HO
    rw [push_ob, if_pos rfl]
    rfl
  · have ho1 : HO (Hp.new h e (.p t) [x]) e t n L := ho.push (by omega) _
    have happ := ho1.app [x] (by simp)
    refine ⟨_, happ, (hk1.set hn0 none).push _, (hf1.set (Nat.lt_succ_of_lt hn) none).push _, .inr ⟨by simp, (Hp.new h e (.p t) [x]).nx, hk1.nx, Nat.lt_succ_self _, ?_, ?_⟩⟩
    · rw [List.length_append]
    · unfold HO
      rw [push_ob, if_pos (show (Hp.new h e (.p t) [x]).nx = ((Hp.new h e (.p t) [x]).set n none).nx from rfl)]
end Go.Ev
