/-
  No cell of these rows narrows 'for every input' (looked for: loops, veiled, ifaces, maps, wideKeys, modest, calm, conditions, laid).
  DERIVED. THE GIVEN ROWS OF THIS SEAT. 5 by the template 'for every input the law returns true; each argument reads behind the call as it read before'; 0 by the template 'total and deterministic' (their statements: Qxb6001032aTotals.lean).
  GIVEN WITH THE SEED: the statements are not yours to turn. If you find one false, say at which input.
  Laid BY PROGRAM, IN A SANDBOX (cutbox-rows.mjs): the forced cells as the released guide's own fill.sh prints them over the translation 08441df495d05860… (all of the seat's roots in one cut). By AI agents, Wed Nov 11 2026. No macro, syntax, notation, axiom, sorry.
-/
import Derived.Test.Qxb6001032aChecked
import GoSem.Claim
import GoSem.ClaimJoined
import GoSem.ClaimMapViews
import Derived.JoinedTies
import Derived.KernelRfl
namespace Go.Proofs.Qxb6001032a
/- THE CELL 'sum', in the pinned program and in every row, IS THE sha256 OF THE DUMP (.gsa) THAT Qxb6001032aProg.lean LOADS. Nothing in Lean hashes anything: it is a label: what it is worth is what the hold of that sum in a sandbox is worth. -/
noncomputable def Try.pinned : Pinned := { name := "qxb6001032a", sum := "08441df495d05860a1d3d61b68ba06e159eb5c09c4ec519e3b84e897d1eb75f9", checked := Try.checked }
namespace Rows
def none {H : Type} : Left H := { results := [], args := [] }

/-- 'zzlaws_pkg_core_b1.FnTokensFreeListFollowsQueueModel': WHATEVER THE INPUT: true; the input reads as it did. -/
def fnTokensFreeListFollowsQueueModelSpec : ChangeSpec := { name := "fnTokensFreeListFollowsQueueModel", fn := fun _ => fun
  | [d1, d2] => { results := [.lit (.bool true)], args := [d1, d2] }
  | _ => none }
def fnTokensFreeListFollowsQueueModelRow : OpenClaim := { program := "qxb6001032a", sum := "08441df495d05860a1d3d61b68ba06e159eb5c09c4ec519e3b84e897d1eb75f9", func := "example.com/leasehold/leasehold/zzlaws_pkg_core_b1.FnTokensFreeListFollowsQueueModel", spec := "fnTokensFreeListFollowsQueueModel", apart := false }
def FnTokensFreeListFollowsQueueModelSaid : Prop := fnTokensFreeListFollowsQueueModelRow.holds Try.pinned (OpenSpec.ofChange fnTokensFreeListFollowsQueueModelSpec)

/-- ITS FALSE NEIGHBOUR: 'it returns false'. Refute it at one input. -/
def fnTokensFreeListFollowsQueueModelWrong : ChangeSpec := { name := "fnTokensFreeListFollowsQueueModel", fn := fun _ => fun
  | [d1, d2] => { results := [.lit (.bool false)], args := [d1, d2] }
  | _ => none }
def FnTokensFreeListFollowsQueueModelWrongFalsely : Prop := fnTokensFreeListFollowsQueueModelRow.holds Try.pinned (OpenSpec.ofChange fnTokensFreeListFollowsQueueModelWrong)

/-- 'zzlaws_pkg_core_b1.FnTokensFreeThenHoldRestoresFreeOrder': WHATEVER THE INPUT: true; the input reads as it did. -/
def fnTokensFreeThenHoldRestoresFreeOrderSpec : ChangeSpec := { name := "fnTokensFreeThenHoldRestoresFreeOrder", fn := fun _ => fun
  | [d1, d2, d3] => { results := [.lit (.bool true)], args := [d1, d2, d3] }
  | _ => none }
def fnTokensFreeThenHoldRestoresFreeOrderRow : OpenClaim := { program := "qxb6001032a", sum := "08441df495d05860a1d3d61b68ba06e159eb5c09c4ec519e3b84e897d1eb75f9", func := "example.com/leasehold/leasehold/zzlaws_pkg_core_b1.FnTokensFreeThenHoldRestoresFreeOrder", spec := "fnTokensFreeThenHoldRestoresFreeOrder", apart := false }
def FnTokensFreeThenHoldRestoresFreeOrderSaid : Prop := fnTokensFreeThenHoldRestoresFreeOrderRow.holds Try.pinned (OpenSpec.ofChange fnTokensFreeThenHoldRestoresFreeOrderSpec)

/-- ITS FALSE NEIGHBOUR: 'it returns false'. Refute it at one input. -/
def fnTokensFreeThenHoldRestoresFreeOrderWrong : ChangeSpec := { name := "fnTokensFreeThenHoldRestoresFreeOrder", fn := fun _ => fun
  | [d1, d2, d3] => { results := [.lit (.bool false)], args := [d1, d2, d3] }
  | _ => none }
def FnTokensFreeThenHoldRestoresFreeOrderWrongFalsely : Prop := fnTokensFreeThenHoldRestoresFreeOrderRow.holds Try.pinned (OpenSpec.ofChange fnTokensFreeThenHoldRestoresFreeOrderWrong)

/-- 'zzlaws_pkg_core_b1.FnTokensHoldIsIdempotent': WHATEVER THE INPUT: true; the input reads as it did. -/
def fnTokensHoldIsIdempotentSpec : ChangeSpec := { name := "fnTokensHoldIsIdempotent", fn := fun _ => fun
  | [d1, d2, d3] => { results := [.lit (.bool true)], args := [d1, d2, d3] }
  | _ => none }
def fnTokensHoldIsIdempotentRow : OpenClaim := { program := "qxb6001032a", sum := "08441df495d05860a1d3d61b68ba06e159eb5c09c4ec519e3b84e897d1eb75f9", func := "example.com/leasehold/leasehold/zzlaws_pkg_core_b1.FnTokensHoldIsIdempotent", spec := "fnTokensHoldIsIdempotent", apart := false }
def FnTokensHoldIsIdempotentSaid : Prop := fnTokensHoldIsIdempotentRow.holds Try.pinned (OpenSpec.ofChange fnTokensHoldIsIdempotentSpec)

/-- ITS FALSE NEIGHBOUR: 'it returns false'. Refute it at one input. -/
def fnTokensHoldIsIdempotentWrong : ChangeSpec := { name := "fnTokensHoldIsIdempotent", fn := fun _ => fun
  | [d1, d2, d3] => { results := [.lit (.bool false)], args := [d1, d2, d3] }
  | _ => none }
def FnTokensHoldIsIdempotentWrongFalsely : Prop := fnTokensHoldIsIdempotentRow.holds Try.pinned (OpenSpec.ofChange fnTokensHoldIsIdempotentWrong)

/-- 'zzlaws_pkg_core_b1.FnTokensFreeIsIdempotent': WHATEVER THE INPUT: true; the input reads as it did. -/
def fnTokensFreeIsIdempotentSpec : ChangeSpec := { name := "fnTokensFreeIsIdempotent", fn := fun _ => fun
  | [d1, d2, d3] => { results := [.lit (.bool true)], args := [d1, d2, d3] }
  | _ => none }
def fnTokensFreeIsIdempotentRow : OpenClaim := { program := "qxb6001032a", sum := "08441df495d05860a1d3d61b68ba06e159eb5c09c4ec519e3b84e897d1eb75f9", func := "example.com/leasehold/leasehold/zzlaws_pkg_core_b1.FnTokensFreeIsIdempotent", spec := "fnTokensFreeIsIdempotent", apart := false }
def FnTokensFreeIsIdempotentSaid : Prop := fnTokensFreeIsIdempotentRow.holds Try.pinned (OpenSpec.ofChange fnTokensFreeIsIdempotentSpec)

/-- ITS FALSE NEIGHBOUR: 'it returns false'. Refute it at one input. -/
def fnTokensFreeIsIdempotentWrong : ChangeSpec := { name := "fnTokensFreeIsIdempotent", fn := fun _ => fun
  | [d1, d2, d3] => { results := [.lit (.bool false)], args := [d1, d2, d3] }
  | _ => none }
def FnTokensFreeIsIdempotentWrongFalsely : Prop := fnTokensFreeIsIdempotentRow.holds Try.pinned (OpenSpec.ofChange fnTokensFreeIsIdempotentWrong)

/-- 'zzlaws_pkg_core_b1.FnTokensUnlinkTakesOutExactlyOne': WHATEVER THE INPUT: true; the input reads as it did. -/
def fnTokensUnlinkTakesOutExactlyOneSpec : ChangeSpec := { name := "fnTokensUnlinkTakesOutExactlyOne", fn := fun _ => fun
  | [d1, d2, d3] => { results := [.lit (.bool true)], args := [d1, d2, d3] }
  | _ => none }
def fnTokensUnlinkTakesOutExactlyOneRow : OpenClaim := { program := "qxb6001032a", sum := "08441df495d05860a1d3d61b68ba06e159eb5c09c4ec519e3b84e897d1eb75f9", func := "example.com/leasehold/leasehold/zzlaws_pkg_core_b1.FnTokensUnlinkTakesOutExactlyOne", spec := "fnTokensUnlinkTakesOutExactlyOne", apart := false }
def FnTokensUnlinkTakesOutExactlyOneSaid : Prop := fnTokensUnlinkTakesOutExactlyOneRow.holds Try.pinned (OpenSpec.ofChange fnTokensUnlinkTakesOutExactlyOneSpec)

/-- ITS FALSE NEIGHBOUR: 'it returns false'. Refute it at one input. -/
def fnTokensUnlinkTakesOutExactlyOneWrong : ChangeSpec := { name := "fnTokensUnlinkTakesOutExactlyOne", fn := fun _ => fun
  | [d1, d2, d3] => { results := [.lit (.bool false)], args := [d1, d2, d3] }
  | _ => none }
def FnTokensUnlinkTakesOutExactlyOneWrongFalsely : Prop := fnTokensUnlinkTakesOutExactlyOneRow.holds Try.pinned (OpenSpec.ofChange fnTokensUnlinkTakesOutExactlyOneWrong)

end Rows
end Go.Proofs.Qxb6001032a
