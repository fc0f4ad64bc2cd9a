import Derived.Test.YtaabfadjemmibaaDoorQLoss
import Derived.Test.YtaabfadjemmibaaDoorQSpecB
import Derived.Test.YtaabfadjemmibaaDoorXPlain
import Derived.Test.YtaabfadjemmibaaDoorPx7
import Derived.Test.YtaabfadjemmibaaDoorPx4
/- Edits shifted sideways, as the thin package hands them on; the guard of one-byte characters; the documented example. -/
namespace Go.Proofs.YtaabfadjemmibaaDoor.P
open Go.RowKit Go.Lib Go.Proofs.YtaabfadjemmibaaDoorW.PrintWords Go.Proofs.YtaabfadjemmibaaDoorX
theorem toG_f0 (y : DI) (h : -1 ≤ y.f0) (h' : y.f0 ≤ 1) : (toG y).f0 = y.f0 := by
  obtain ⟨t, s⟩ := y
  simp only at h h'
  have e : t = -1 ∨ t = 0 ∨ t = 1 := by omega
  unfold toG
  rcases e with rfl | rfl | rfl <;> simp [i8w]
theorem toI_f0 (y : DD) (h : -1 ≤ y.f0) (h' : y.f0 ≤ 1) : (toI y).f0 = y.f0 := wrap64_eq (by omega) (by omega)
/-- What the guard lets in. -/
def OkL (asc : Bool) (l : List DI) : Prop := l.length ≤ 12 ∧ ∀ y ∈ l, OkD asc y
theorem cleanASCII (l : List DI) : ∃ b, Evt (fun k => laws_cleanASCII.f k l) b ∧ (b = true → OkL true l) := by
  unfold laws_cleanASCII.f
  by_cases h : (l.length : Int) ≤ 12
  · obtain ⟨b, hb, hall⟩ := cleanRight l true (by omega)
    exact ⟨b, Evt.pos h (Evt.bind (cleanOf l (by omega)) (Evt.bind hb (Evt.ret _))), fun e => ⟨by omega, hall e⟩⟩
  · exact ⟨false, Evt.neg h (Evt.ret _), fun e => by cases e⟩
theorem OkL.few {asc : Bool} {l : List DI} (h : OkL asc l) : tot (l.map toG) ≤ 480 ∧ (l.map toG).length ≤ 12 := by
  have key : ∀ l : List DI, (∀ y ∈ l, OkD asc y) → tot (l.map toG) ≤ 40 * l.length := by
    intro l
    induction l with
    | nil => intro _; simp [tot]
    | cons y l ih =>
      intro h
      have h1 := (h y (by simp)).size
      have h2 := ih (fun z hz => h z (by simp [hz]))
      rw [List.map_cons, tot_cons, List.length_cons]
      show y.f1.size + _ ≤ _
      omega
  have := key l h.2
  exact ⟨by have := h.1; omega, by rw [List.length_map]; exact h.1⟩
theorem OkL.ascD {l : List DI} (h : OkL true l) : AscD (l.map toG) := by
  intro d hd
  obtain ⟨y, hy, rfl⟩ := List.mem_map.1 hd
  intro b hb
  have := (h.2 y hy).ascii rfl b hb
  omega
theorem OkL.types {asc : Bool} {l : List DI} (h : OkL asc l) : ∀ d ∈ l.map toG, -1 ≤ d.f0 ∧ d.f0 ≤ 1 := by
  intro d hd
  obtain ⟨y, hy, rfl⟩ := List.mem_map.1 hd
  have h1 := h.2 y hy
  rw [toG_f0 y h1.lo h1.hi]
  exact ⟨h1.lo, h1.hi⟩
/-- What the thin package's function answers for small lists of one-byte characters. -/
theorem implLossless (l : List DI) (hl : l.length ≤ 12) (ht : tot (l.map toG) ≤ 1000) (ha : AscD (l.map toG)) :
    ∃ r, Evt (fun k => diffmatchpatch_DiffMatchPatch_DiffCleanupSemanticLossless.l0 k (l.map toG) 1) r ∧ Shift (l.map toG) r ∧ Evt (fun k => impl_CleanLossless.f k l) (r.map toI) := by
  have hlen : (l.map toG).length = l.length := List.length_map ..
  obtain ⟨r, hr, hs⟩ := lossless_loop (l.map toG).length 1 (l.map toG) (by omega) (by omega) (by omega) (by omega) ha
  refine ⟨r, hr, hs, ?_⟩
  unfold impl_CleanLossless.f
  refine Evt.obind (x := ()) rfl (Evt.bind (implDiffs l (by omega)) (Evt.bind ?_ (Evt.bind (implBack r (by have := hs.len; omega)) (Evt.ret _))))
  unfold diffmatchpatch_DiffMatchPatch_DiffCleanupSemanticLossless.f
  exact hr
theorem awake : Evt (fun k => laws_cleanAwake.f k) true := by
  have h : ∃ K, laws_cleanAwake.f K = some true := ⟨60, by decide +kernel⟩
  obtain ⟨K, hK⟩ := h
  refine ⟨K, fun k hk => ?_⟩
  obtain ⟨d, rfl⟩ : ∃ d, k = K + d := ⟨k - K, by omega⟩
  clear hk
  induction d with
  | zero => exact hK
  | succ d ih => exact laws_cleanAwake.mono _ true ih
end Go.Proofs.YtaabfadjemmibaaDoor.P
