/-
  No cell of these rows narrows 'for every input' (looked for: loops, veiled, ifaces, maps, wideKeys, modest, calm, conditions, laid).
  DERIVED. THE GIVEN ROWS OF THIS SEAT. 7 by the template 'for every input the law returns true; each argument reads behind the call as it read before'; 0 by the template 'total and deterministic' (their statements: Qxb6000464aTotals.lean).
  GIVEN WITH THE SEED: the statements are not yours to turn. If you find one false, say at which input.
  Laid BY PROGRAM, IN A SANDBOX (cutbox-rows.mjs): the forced cells as the released guide's own fill.sh prints them over the translation 9c7e0b77133c583d… (all of the seat's roots in one cut). By AI agents, Wed Nov 11 2026. No macro, syntax, notation, axiom, sorry.
-/
import Derived.Test.Qxb6000464aChecked
import GoSem.Claim
import GoSem.ClaimJoined
import GoSem.ClaimMapViews
import Derived.JoinedTies
import Derived.KernelRfl
namespace Go.Proofs.Qxb6000464a
/- THE CELL 'sum', in the pinned program and in every row, IS THE sha256 OF THE DUMP (.gsa) THAT Qxb6000464aProg.lean LOADS. Nothing in Lean hashes anything: it is a label: what it is worth is what the hold of that sum in a sandbox is worth. -/
noncomputable def Try.pinned : Pinned := { name := "qxb6000464a", sum := "9c7e0b77133c583d13d0ff1ca61175356034627a2edd4ee0186737445ff99bc8", checked := Try.checked }
namespace Rows
def none {H : Type} : Left H := { results := [], args := [] }

/-- 'zzlaws_internal_dtlssrtp_b1.FnKindOfByBits': WHATEVER THE INPUT: true; the input reads as it did. -/
def fnKindOfByBitsSpec : ChangeSpec := { name := "fnKindOfByBits", fn := fun _ => fun
  | [d] => { results := [.lit (.bool true)], args := [d] }
  | _ => none }
def fnKindOfByBitsRow : OpenClaim := { program := "qxb6000464a", sum := "9c7e0b77133c583d13d0ff1ca61175356034627a2edd4ee0186737445ff99bc8", func := "example.com/keyferry/keyferry/zzlaws_internal_dtlssrtp_b1.FnKindOfByBits", spec := "fnKindOfByBits", apart := false }
def FnKindOfByBitsSaid : Prop := fnKindOfByBitsRow.holds Try.pinned (OpenSpec.ofChange fnKindOfByBitsSpec)

/-- ITS FALSE NEIGHBOUR: 'it returns false'. Refute it at one input. -/
def fnKindOfByBitsWrong : ChangeSpec := { name := "fnKindOfByBits", fn := fun _ => fun
  | [d] => { results := [.lit (.bool false)], args := [d] }
  | _ => none }
def FnKindOfByBitsWrongFalsely : Prop := fnKindOfByBitsRow.holds Try.pinned (OpenSpec.ofChange fnKindOfByBitsWrong)

/-- 'zzlaws_internal_dtlssrtp_b1.FnKindOfReadsFirstOctetOnly': WHATEVER THE INPUT: true; the input reads as it did. -/
def fnKindOfReadsFirstOctetOnlySpec : ChangeSpec := { name := "fnKindOfReadsFirstOctetOnly", fn := fun _ => fun
  | [d1, d2] => { results := [.lit (.bool true)], args := [d1, d2] }
  | _ => none }
def fnKindOfReadsFirstOctetOnlyRow : OpenClaim := { program := "qxb6000464a", sum := "9c7e0b77133c583d13d0ff1ca61175356034627a2edd4ee0186737445ff99bc8", func := "example.com/keyferry/keyferry/zzlaws_internal_dtlssrtp_b1.FnKindOfReadsFirstOctetOnly", spec := "fnKindOfReadsFirstOctetOnly", apart := false }
def FnKindOfReadsFirstOctetOnlySaid : Prop := fnKindOfReadsFirstOctetOnlyRow.holds Try.pinned (OpenSpec.ofChange fnKindOfReadsFirstOctetOnlySpec)

/-- ITS FALSE NEIGHBOUR: 'it returns false'. Refute it at one input. -/
def fnKindOfReadsFirstOctetOnlyWrong : ChangeSpec := { name := "fnKindOfReadsFirstOctetOnly", fn := fun _ => fun
  | [d1, d2] => { results := [.lit (.bool false)], args := [d1, d2] }
  | _ => none }
def FnKindOfReadsFirstOctetOnlyWrongFalsely : Prop := fnKindOfReadsFirstOctetOnlyRow.holds Try.pinned (OpenSpec.ofChange fnKindOfReadsFirstOctetOnlyWrong)

/-- 'zzlaws_internal_dtlssrtp_b1.FnHoldKeepsEachPositionsFirstOctet': WHATEVER THE INPUT: true; the input reads as it did. -/
def fnHoldKeepsEachPositionsFirstOctetSpec : ChangeSpec := { name := "fnHoldKeepsEachPositionsFirstOctet", fn := fun _ => fun
  | [d1, d2] => { results := [.lit (.bool true)], args := [d1, d2] }
  | _ => none }
def fnHoldKeepsEachPositionsFirstOctetRow : OpenClaim := { program := "qxb6000464a", sum := "9c7e0b77133c583d13d0ff1ca61175356034627a2edd4ee0186737445ff99bc8", func := "example.com/keyferry/keyferry/zzlaws_internal_dtlssrtp_b1.FnHoldKeepsEachPositionsFirstOctet", spec := "fnHoldKeepsEachPositionsFirstOctet", apart := false }
def FnHoldKeepsEachPositionsFirstOctetSaid : Prop := fnHoldKeepsEachPositionsFirstOctetRow.holds Try.pinned (OpenSpec.ofChange fnHoldKeepsEachPositionsFirstOctetSpec)

/-- ITS FALSE NEIGHBOUR: 'it returns false'. Refute it at one input. -/
def fnHoldKeepsEachPositionsFirstOctetWrong : ChangeSpec := { name := "fnHoldKeepsEachPositionsFirstOctet", fn := fun _ => fun
  | [d1, d2] => { results := [.lit (.bool false)], args := [d1, d2] }
  | _ => none }
def FnHoldKeepsEachPositionsFirstOctetWrongFalsely : Prop := fnHoldKeepsEachPositionsFirstOctetRow.holds Try.pinned (OpenSpec.ofChange fnHoldKeepsEachPositionsFirstOctetWrong)

/-- 'zzlaws_internal_dtlssrtp_b1.FnHoldAgainChangesNothing': WHATEVER THE INPUT: true; the input reads as it did. -/
def fnHoldAgainChangesNothingSpec : ChangeSpec := { name := "fnHoldAgainChangesNothing", fn := fun _ => fun
  | [d1, d2, d3] => { results := [.lit (.bool true)], args := [d1, d2, d3] }
  | _ => none }
def fnHoldAgainChangesNothingRow : OpenClaim := { program := "qxb6000464a", sum := "9c7e0b77133c583d13d0ff1ca61175356034627a2edd4ee0186737445ff99bc8", func := "example.com/keyferry/keyferry/zzlaws_internal_dtlssrtp_b1.FnHoldAgainChangesNothing", spec := "fnHoldAgainChangesNothing", apart := false }
def FnHoldAgainChangesNothingSaid : Prop := fnHoldAgainChangesNothingRow.holds Try.pinned (OpenSpec.ofChange fnHoldAgainChangesNothingSpec)

/-- ITS FALSE NEIGHBOUR: 'it returns false'. Refute it at one input. -/
def fnHoldAgainChangesNothingWrong : ChangeSpec := { name := "fnHoldAgainChangesNothing", fn := fun _ => fun
  | [d1, d2, d3] => { results := [.lit (.bool false)], args := [d1, d2, d3] }
  | _ => none }
def FnHoldAgainChangesNothingWrongFalsely : Prop := fnHoldAgainChangesNothingRow.holds Try.pinned (OpenSpec.ofChange fnHoldAgainChangesNothingWrong)

/-- 'zzlaws_internal_dtlssrtp_b1.FnHoldTakesOrRefusesPastAll': WHATEVER THE INPUT: true; the input reads as it did. -/
def fnHoldTakesOrRefusesPastAllSpec : ChangeSpec := { name := "fnHoldTakesOrRefusesPastAll", fn := fun _ => fun
  | [d1, d2, d3, d4] => { results := [.lit (.bool true)], args := [d1, d2, d3, d4] }
  | _ => none }
def fnHoldTakesOrRefusesPastAllRow : OpenClaim := { program := "qxb6000464a", sum := "9c7e0b77133c583d13d0ff1ca61175356034627a2edd4ee0186737445ff99bc8", func := "example.com/keyferry/keyferry/zzlaws_internal_dtlssrtp_b1.FnHoldTakesOrRefusesPastAll", spec := "fnHoldTakesOrRefusesPastAll", apart := false }
def FnHoldTakesOrRefusesPastAllSaid : Prop := fnHoldTakesOrRefusesPastAllRow.holds Try.pinned (OpenSpec.ofChange fnHoldTakesOrRefusesPastAllSpec)

/-- ITS FALSE NEIGHBOUR: 'it returns false'. Refute it at one input. -/
def fnHoldTakesOrRefusesPastAllWrong : ChangeSpec := { name := "fnHoldTakesOrRefusesPastAll", fn := fun _ => fun
  | [d1, d2, d3, d4] => { results := [.lit (.bool false)], args := [d1, d2, d3, d4] }
  | _ => none }
def FnHoldTakesOrRefusesPastAllWrongFalsely : Prop := fnHoldTakesOrRefusesPastAllRow.holds Try.pinned (OpenSpec.ofChange fnHoldTakesOrRefusesPastAllWrong)

/-- 'zzlaws_internal_dtlssrtp_b1.FnTakeHandsOverTheRunInOrder': WHATEVER THE INPUT: true; the input reads as it did. -/
def fnTakeHandsOverTheRunInOrderSpec : ChangeSpec := { name := "fnTakeHandsOverTheRunInOrder", fn := fun _ => fun
  | [d1, d2, d3, d4] => { results := [.lit (.bool true)], args := [d1, d2, d3, d4] }
  | _ => none }
def fnTakeHandsOverTheRunInOrderRow : OpenClaim := { program := "qxb6000464a", sum := "9c7e0b77133c583d13d0ff1ca61175356034627a2edd4ee0186737445ff99bc8", func := "example.com/keyferry/keyferry/zzlaws_internal_dtlssrtp_b1.FnTakeHandsOverTheRunInOrder", spec := "fnTakeHandsOverTheRunInOrder", apart := false }
def FnTakeHandsOverTheRunInOrderSaid : Prop := fnTakeHandsOverTheRunInOrderRow.holds Try.pinned (OpenSpec.ofChange fnTakeHandsOverTheRunInOrderSpec)

/-- ITS FALSE NEIGHBOUR: 'it returns false'. Refute it at one input. -/
def fnTakeHandsOverTheRunInOrderWrong : ChangeSpec := { name := "fnTakeHandsOverTheRunInOrder", fn := fun _ => fun
  | [d1, d2, d3, d4] => { results := [.lit (.bool false)], args := [d1, d2, d3, d4] }
  | _ => none }
def FnTakeHandsOverTheRunInOrderWrongFalsely : Prop := fnTakeHandsOverTheRunInOrderRow.holds Try.pinned (OpenSpec.ofChange fnTakeHandsOverTheRunInOrderWrong)

/-- 'zzlaws_internal_dtlssrtp_b1.FnTakeLatestHandsOverTheNewestWhole': WHATEVER THE INPUT: true; the input reads as it did. -/
def fnTakeLatestHandsOverTheNewestWholeSpec : ChangeSpec := { name := "fnTakeLatestHandsOverTheNewestWhole", fn := fun _ => fun
  | [d1, d2, d3, d4] => { results := [.lit (.bool true)], args := [d1, d2, d3, d4] }
  | _ => none }
def fnTakeLatestHandsOverTheNewestWholeRow : OpenClaim := { program := "qxb6000464a", sum := "9c7e0b77133c583d13d0ff1ca61175356034627a2edd4ee0186737445ff99bc8", func := "example.com/keyferry/keyferry/zzlaws_internal_dtlssrtp_b1.FnTakeLatestHandsOverTheNewestWhole", spec := "fnTakeLatestHandsOverTheNewestWhole", apart := false }
def FnTakeLatestHandsOverTheNewestWholeSaid : Prop := fnTakeLatestHandsOverTheNewestWholeRow.holds Try.pinned (OpenSpec.ofChange fnTakeLatestHandsOverTheNewestWholeSpec)

/-- ITS FALSE NEIGHBOUR: 'it returns false'. Refute it at one input. -/
def fnTakeLatestHandsOverTheNewestWholeWrong : ChangeSpec := { name := "fnTakeLatestHandsOverTheNewestWhole", fn := fun _ => fun
  | [d1, d2, d3, d4] => { results := [.lit (.bool false)], args := [d1, d2, d3, d4] }
  | _ => none }
def FnTakeLatestHandsOverTheNewestWholeWrongFalsely : Prop := fnTakeLatestHandsOverTheNewestWholeRow.holds Try.pinned (OpenSpec.ofChange fnTakeLatestHandsOverTheNewestWholeWrong)

end Rows
end Go.Proofs.Qxb6000464a
