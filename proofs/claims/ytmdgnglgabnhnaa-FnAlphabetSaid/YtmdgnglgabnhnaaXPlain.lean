import Derived.Test.YtmdgnglgabnhnaaPx0
/- 'impl.plain' and 'impl.fast' make settings: a pointer to memory of their own. -/
namespace Go.Proofs.Ytmdgnglgabnhnaa.P
open Go.RowKit Go.Proofs.YtmdgnglgabnhnaaW.PrintWords Go.Proofs.YtmdgnglgabnhnaaW.PrintLast Go.Proofs.YtmdgnglgabnhnaaW.PrintMore
open Go.Proofs.YtmdgnglgabnhnaaX
def impl_plain.f : Option Unit := some ()
set_option maxHeartbeats 800000 in
theorem impl_plain.calls (w : World) (_h : impl_plain.f = some ()) : Calls Try.prog 10 #[] w fun e w' => ∃ v0_ : Value, e = .returned v0_ ∧ Below w.heap.size w w' := by
  clear _h
  go_enter Try.func10, Try.ntmps10
  go_wp2
  go_ret
  refine ⟨_, rfl, ?_⟩
  repeat (first | exact Below.refl _ _ | (refine Below.setCell ?_ (by simp) _) | apply below_alloc)
end Go.Proofs.Ytmdgnglgabnhnaa.P
