import Derived.Test.Qxb6001546aColDef
namespace Go.Proofs.Qxb6001546a
open Go.RowKit
set_option linter.unusedVariables false

set_option maxHeartbeats 4000000 in
set_option maxRecDepth 100000 in
theorem bc17a (s0 s1 s6 s8 s10 s11 s13 s14 s15 s16 : ByteArray) (b2 b3 b4 b5 b7 b9 : Bool) (w : World) :
    Calls Try.prog 17 #[(Spec.mk s0 s1 b2 b3 b4 b5 s6 b7 s8 b9 s10 s11 false s13 s14 s15 s16).val] w (BcPost w none) := by
  simp only [Spec.val]
  cases b5 <;> cases b7 <;> cases b9 <;>
  · go_enter Try.func17, Try.ntmps17
    go_wp2
    go_returns
    refine ⟨⟨s0, s1, b2, b3, b4, _, _, _, _⟩, rfl, rfl, ?_⟩
    repeat (first | exact Below.refl _ _ | refine Below.al ?_ _ (Nat.le_refl _))
end Go.Proofs.Qxb6001546a
