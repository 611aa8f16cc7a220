import Derived.Test.Qxb6001546aColDef
namespace Go.Proofs.Qxb6001546a
open Go.RowKit
set_option linter.unusedVariables false

theorem sz_alloc (W : World) (o : Obj) : (W.alloc o).heap.size = W.heap.size + 1 := by simp
theorem heap_new' {W : World} {o : Obj} {N : Nat} (h : N = W.heap.size) : (W.alloc o).heap[N]? = some o := by rw [h]; exact heap_alloc_new _ _

set_option maxHeartbeats 4000000 in
set_option maxRecDepth 100000 in
theorem bc17b (s0 s1 s6 s8 s10 s11 s13 s14 s15 s16 : ByteArray) (b2 b3 b4 b5 b7 b9 : Bool) (w : World) :
    Calls Try.prog 17 #[(Spec.mk s0 s1 b2 b3 b4 b5 s6 b7 s8 b9 s10 s11 true s13 s14 s15 s16).val] w (BcPost w (some s14)) := by
  simp only [Spec.val]
  cases b5 <;> cases b7 <;> cases b9 <;>
  · go_enter Try.func17, Try.ntmps17
    go_wp2
    go_returns
    refine ⟨⟨s0, s1, b2, b3, b4, _, _, _, _⟩, rfl, ⟨_, s13, s15, s16, rfl, ?_⟩, ?_⟩
    · exact heap_new' (by simp only [sz_alloc])
    · repeat (first | exact Below.refl _ _ | refine Below.al ?_ _ (Nat.le_refl _))

end Go.Proofs.Qxb6001546a
