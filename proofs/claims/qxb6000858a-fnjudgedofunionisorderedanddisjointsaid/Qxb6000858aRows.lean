/-
  No cell of these rows narrows 'for every input' (looked for: loops, veiled, ifaces, maps, wideKeys, modest, calm, conditions, laid).
  DERIVED. THE GIVEN ROWS OF THIS SEAT. 5 by the template 'for every input the law returns true; each argument reads behind the call as it read before'; 0 by the template 'total and deterministic' (their statements: Qxb6000858aTotals.lean).
  GIVEN WITH THE SEED: the statements are not yours to turn. If you find one false, say at which input.
  Laid BY PROGRAM, IN A SANDBOX (cutbox-rows.mjs): the forced cells as the released guide's own fill.sh prints them over the translation 5a90043f078efadd… (all of the seat's roots in one cut). By AI agents, Wed Nov 11 2026. No macro, syntax, notation, axiom, sorry.
-/
import Derived.Test.Qxb6000858aChecked
import GoSem.Claim
import GoSem.ClaimJoined
import GoSem.ClaimMapViews
import Derived.JoinedTies
import Derived.KernelRfl
namespace Go.Proofs.Qxb6000858a
/- THE CELL 'sum', in the pinned program and in every row, IS THE sha256 OF THE DUMP (.gsa) THAT Qxb6000858aProg.lean LOADS. Nothing in Lean hashes anything: it is a label: what it is worth is what the hold of that sum in a sandbox is worth. -/
noncomputable def Try.pinned : Pinned := { name := "qxb6000858a", sum := "5a90043f078efadda10f206d73d7c31d36737fe1208ac1535481aba2b95fb0e1", checked := Try.checked }
namespace Rows
def none {H : Type} : Left H := { results := [], args := [] }

/-- 'zzlaws_internal_sim_b1.FnUnionExactCover': WHATEVER THE INPUT: true; the input reads as it did. -/
def fnUnionExactCoverSpec : ChangeSpec := { name := "fnUnionExactCover", fn := fun _ => fun
  | [d1, d2] => { results := [.lit (.bool true)], args := [d1, d2] }
  | _ => none }
def fnUnionExactCoverRow : OpenClaim := { program := "qxb6000858a", sum := "5a90043f078efadda10f206d73d7c31d36737fe1208ac1535481aba2b95fb0e1", func := "example.com/handoff/handoff/zzlaws_internal_sim_b1.FnUnionExactCover", spec := "fnUnionExactCover", unfollowed := true, recurses := true, apart := false }
def FnUnionExactCoverSaid : Prop := fnUnionExactCoverRow.holds Try.pinned (OpenSpec.ofChange fnUnionExactCoverSpec)

/-- ITS FALSE NEIGHBOUR: 'it returns false'. Refute it at one input. -/
def fnUnionExactCoverWrong : ChangeSpec := { name := "fnUnionExactCover", fn := fun _ => fun
  | [d1, d2] => { results := [.lit (.bool false)], args := [d1, d2] }
  | _ => none }
def FnUnionExactCoverWrongFalsely : Prop := fnUnionExactCoverRow.holds Try.pinned (OpenSpec.ofChange fnUnionExactCoverWrong)

/-- 'zzlaws_internal_sim_b1.FnUnionIdempotent': WHATEVER THE INPUT: true; the input reads as it did. -/
def fnUnionIdempotentSpec : ChangeSpec := { name := "fnUnionIdempotent", fn := fun _ => fun
  | [d1, d2] => { results := [.lit (.bool true)], args := [d1, d2] }
  | _ => none }
def fnUnionIdempotentRow : OpenClaim := { program := "qxb6000858a", sum := "5a90043f078efadda10f206d73d7c31d36737fe1208ac1535481aba2b95fb0e1", func := "example.com/handoff/handoff/zzlaws_internal_sim_b1.FnUnionIdempotent", spec := "fnUnionIdempotent", unfollowed := true, recurses := true, apart := false }
def FnUnionIdempotentSaid : Prop := fnUnionIdempotentRow.holds Try.pinned (OpenSpec.ofChange fnUnionIdempotentSpec)

/-- ITS FALSE NEIGHBOUR: 'it returns false'. Refute it at one input. -/
def fnUnionIdempotentWrong : ChangeSpec := { name := "fnUnionIdempotent", fn := fun _ => fun
  | [d1, d2] => { results := [.lit (.bool false)], args := [d1, d2] }
  | _ => none }
def FnUnionIdempotentWrongFalsely : Prop := fnUnionIdempotentRow.holds Try.pinned (OpenSpec.ofChange fnUnionIdempotentWrong)

/-- 'zzlaws_internal_sim_b1.FnUnionOrderFreeAndSplit': WHATEVER THE INPUT: true; the input reads as it did. -/
def fnUnionOrderFreeAndSplitSpec : ChangeSpec := { name := "fnUnionOrderFreeAndSplit", fn := fun _ => fun
  | [d1, d2, d3] => { results := [.lit (.bool true)], args := [d1, d2, d3] }
  | _ => none }
def fnUnionOrderFreeAndSplitRow : OpenClaim := { program := "qxb6000858a", sum := "5a90043f078efadda10f206d73d7c31d36737fe1208ac1535481aba2b95fb0e1", func := "example.com/handoff/handoff/zzlaws_internal_sim_b1.FnUnionOrderFreeAndSplit", spec := "fnUnionOrderFreeAndSplit", unfollowed := true, recurses := true, apart := false }
def FnUnionOrderFreeAndSplitSaid : Prop := fnUnionOrderFreeAndSplitRow.holds Try.pinned (OpenSpec.ofChange fnUnionOrderFreeAndSplitSpec)

/-- ITS FALSE NEIGHBOUR: 'it returns false'. Refute it at one input. -/
def fnUnionOrderFreeAndSplitWrong : ChangeSpec := { name := "fnUnionOrderFreeAndSplit", fn := fun _ => fun
  | [d1, d2, d3] => { results := [.lit (.bool false)], args := [d1, d2, d3] }
  | _ => none }
def FnUnionOrderFreeAndSplitWrongFalsely : Prop := fnUnionOrderFreeAndSplitRow.holds Try.pinned (OpenSpec.ofChange fnUnionOrderFreeAndSplitWrong)

/-- 'zzlaws_internal_sim_b1.FnJudgedRangesHoldExactlyTheSpannedKeys': WHATEVER THE INPUT: true; the input reads as it did. -/
def fnJudgedRangesHoldExactlyTheSpannedKeysSpec : ChangeSpec := { name := "fnJudgedRangesHoldExactlyTheSpannedKeys", fn := fun _ => fun
  | [d1, d2, d3, d4] => { results := [.lit (.bool true)], args := [d1, d2, d3, d4] }
  | _ => none }
def fnJudgedRangesHoldExactlyTheSpannedKeysRow : OpenClaim := { program := "qxb6000858a", sum := "5a90043f078efadda10f206d73d7c31d36737fe1208ac1535481aba2b95fb0e1", func := "example.com/handoff/handoff/zzlaws_internal_sim_b1.FnJudgedRangesHoldExactlyTheSpannedKeys", spec := "fnJudgedRangesHoldExactlyTheSpannedKeys", apart := false }
def FnJudgedRangesHoldExactlyTheSpannedKeysSaid : Prop := fnJudgedRangesHoldExactlyTheSpannedKeysRow.holds Try.pinned (OpenSpec.ofChange fnJudgedRangesHoldExactlyTheSpannedKeysSpec)

/-- ITS FALSE NEIGHBOUR: 'it returns false'. Refute it at one input. -/
def fnJudgedRangesHoldExactlyTheSpannedKeysWrong : ChangeSpec := { name := "fnJudgedRangesHoldExactlyTheSpannedKeys", fn := fun _ => fun
  | [d1, d2, d3, d4] => { results := [.lit (.bool false)], args := [d1, d2, d3, d4] }
  | _ => none }
def FnJudgedRangesHoldExactlyTheSpannedKeysWrongFalsely : Prop := fnJudgedRangesHoldExactlyTheSpannedKeysRow.holds Try.pinned (OpenSpec.ofChange fnJudgedRangesHoldExactlyTheSpannedKeysWrong)

/-- 'zzlaws_internal_sim_b1.FnJudgedOfUnionIsOrderedAndDisjoint': WHATEVER THE INPUT: true; the input reads as it did. -/
def fnJudgedOfUnionIsOrderedAndDisjointSpec : ChangeSpec := { name := "fnJudgedOfUnionIsOrderedAndDisjoint", fn := fun _ => fun
  | [d1, d2, d3, d4] => { results := [.lit (.bool true)], args := [d1, d2, d3, d4] }
  | _ => none }
def fnJudgedOfUnionIsOrderedAndDisjointRow : OpenClaim := { program := "qxb6000858a", sum := "5a90043f078efadda10f206d73d7c31d36737fe1208ac1535481aba2b95fb0e1", func := "example.com/handoff/handoff/zzlaws_internal_sim_b1.FnJudgedOfUnionIsOrderedAndDisjoint", spec := "fnJudgedOfUnionIsOrderedAndDisjoint", unfollowed := true, recurses := true, apart := false }
def FnJudgedOfUnionIsOrderedAndDisjointSaid : Prop := fnJudgedOfUnionIsOrderedAndDisjointRow.holds Try.pinned (OpenSpec.ofChange fnJudgedOfUnionIsOrderedAndDisjointSpec)

/-- ITS FALSE NEIGHBOUR: 'it returns false'. Refute it at one input. -/
def fnJudgedOfUnionIsOrderedAndDisjointWrong : ChangeSpec := { name := "fnJudgedOfUnionIsOrderedAndDisjoint", fn := fun _ => fun
  | [d1, d2, d3, d4] => { results := [.lit (.bool false)], args := [d1, d2, d3, d4] }
  | _ => none }
def FnJudgedOfUnionIsOrderedAndDisjointWrongFalsely : Prop := fnJudgedOfUnionIsOrderedAndDisjointRow.holds Try.pinned (OpenSpec.ofChange fnJudgedOfUnionIsOrderedAndDisjointWrong)

end Rows
end Go.Proofs.Qxb6000858a
