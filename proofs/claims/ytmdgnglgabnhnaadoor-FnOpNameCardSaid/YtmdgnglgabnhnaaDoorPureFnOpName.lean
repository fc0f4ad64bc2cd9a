import Derived.Test.YtmdgnglgabnhnaaDoorPx1
/- The names of the types: all 256 of them, by computing. -/
namespace Go.Proofs.YtmdgnglgabnhnaaDoor.Pure
open Go.RowKit Go.Proofs.YtmdgnglgabnhnaaDoorW.PrintWords Go.Proofs.YtmdgnglgabnhnaaDoorX Go.Proofs.YtmdgnglgabnhnaaDoor.P
theorem all256 : ∀ n : Fin 256, (impl_OpName.f ((n.val : Int) - 128)).bind (fun t105 => (spec_DiffOperation.f 12 ((n.val : Int) - 128)).bind fun t106 => (some (t105.data.toList == t106.data.toList))) = some true := by decide +kernel
theorem FnOpName : ∀ (a0 : Int), ((Lit.int .i8 a0).wf = true) → ∃ k, laws_FnOpName.f k a0 = some true := by
  intro a0 h
  have hb : -128 ≤ a0 ∧ a0 ≤ 127 := by
    have h' : And (IntKind.i8.min ≤ a0) (a0 ≤ IntKind.i8.max) := by simpa [Lit.wf] using h
    exact ⟨h'.1, h'.2⟩
  refine ⟨12, ?_⟩
  unfold laws_FnOpName.f
  simp only [ByteArray.toList_eq]
  have := all256 ⟨(a0 + 128).toNat, by omega⟩
  rwa [show (((a0 + 128).toNat : Nat) : Int) - 128 = a0 from by omega] at this
end Go.Proofs.YtmdgnglgabnhnaaDoor.Pure
