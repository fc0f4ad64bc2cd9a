import Derived.Test.YtaabfadjemmibaaDoorPx0
/- 'impl.plain' makes settings: a pointer to memory of their own. -/
namespace Go.Proofs.YtaabfadjemmibaaDoor.P
open Go.RowKit Go.Proofs.YtaabfadjemmibaaDoorW.PrintWords Go.Proofs.YtaabfadjemmibaaDoorW.PrintLast Go.Proofs.YtaabfadjemmibaaDoorW.PrintMore
open Go.Proofs.YtaabfadjemmibaaDoorX
def impl_plain.f : Option Unit := some ()
set_option maxHeartbeats 800000 in
theorem impl_plain.calls (w : World) (_h : impl_plain.f = some ()) : Calls Tryd.prog 35 #[] w fun e w' => ∃ v0_ : Value, e = .returned v0_ ∧ Below w.heap.size w w' := by
  clear _h
  go_enter Tryd.func35, Tryd.ntmps35
  go_wp2
  go_ret
  refine ⟨_, rfl, ?_⟩
  repeat (first | exact Below.refl _ _ | (refine Below.setCell ?_ (by simp) _) | apply below_alloc)
end Go.Proofs.YtaabfadjemmibaaDoor.P
