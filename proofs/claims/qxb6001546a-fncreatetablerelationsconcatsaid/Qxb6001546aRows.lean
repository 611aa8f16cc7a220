/-
  No cell of these rows narrows 'for every input' (looked for: loops, veiled, ifaces, maps, wideKeys, modest, calm, conditions, laid).
  DERIVED. THE GIVEN ROWS OF THIS SEAT. 2 by the template 'for every input the law returns true; each argument reads behind the call as it read before'; 0 by the template 'total and deterministic' (their statements: Qxb6001546aTotals.lean).
  GIVEN WITH THE SEED: the statements are not yours to turn. If you find one false, say at which input.
  Laid BY PROGRAM, IN A SANDBOX (cutbox-rows.mjs): the forced cells as the released guide's own fill.sh prints them over the translation 88d8f23486910f56… (all of the seat's roots in one cut). By AI agents, Wed Nov 11 2026. No macro, syntax, notation, axiom, sorry.
-/
import Derived.Test.Qxb6001546aChecked
import GoSem.Claim
import GoSem.ClaimJoined
import GoSem.ClaimMapViews
import Derived.JoinedTies
import Derived.KernelRfl
namespace Go.Proofs.Qxb6001546a
/- THE CELL 'sum', in the pinned program and in every row, IS THE sha256 OF THE DUMP (.gsa) THAT Qxb6001546aProg.lean LOADS. Nothing in Lean hashes anything: it is a label: what it is worth is what the hold of that sum in a sandbox is worth. -/
noncomputable def Try.pinned : Pinned := { name := "qxb6001546a", sum := "88d8f23486910f56f497aaeab4264948c617fa931e373a498b7aa3dc5034e4f9", checked := Try.checked }
namespace Rows
def none {H : Type} : Left H := { results := [], args := [] }

/-- 'zzlaws_internal_migration_b1.FnCreateTableRelationsConcat': WHATEVER THE INPUT: true; the input reads as it did. -/
def fnCreateTableRelationsConcatSpec : ChangeSpec := { name := "fnCreateTableRelationsConcat", fn := fun _ => fun
  | [d1, d2, d3] => { results := [.lit (.bool true)], args := [d1, d2, d3] }
  | _ => none }
def fnCreateTableRelationsConcatRow : OpenClaim := { program := "qxb6001546a", sum := "88d8f23486910f56f497aaeab4264948c617fa931e373a498b7aa3dc5034e4f9", func := "example.com/shattuck/shattuck/zzlaws_internal_migration_b1.FnCreateTableRelationsConcat", spec := "fnCreateTableRelationsConcat", apart := false }
def FnCreateTableRelationsConcatSaid : Prop := fnCreateTableRelationsConcatRow.holds Try.pinned (OpenSpec.ofChange fnCreateTableRelationsConcatSpec)

/-- ITS FALSE NEIGHBOUR: 'it returns false'. Refute it at one input. -/
def fnCreateTableRelationsConcatWrong : ChangeSpec := { name := "fnCreateTableRelationsConcat", fn := fun _ => fun
  | [d1, d2, d3] => { results := [.lit (.bool false)], args := [d1, d2, d3] }
  | _ => none }
def FnCreateTableRelationsConcatWrongFalsely : Prop := fnCreateTableRelationsConcatRow.holds Try.pinned (OpenSpec.ofChange fnCreateTableRelationsConcatWrong)

/-- 'zzlaws_internal_migration_b1.FnAlterColumnConstraintsAgreeWithColumn': WHATEVER THE INPUT: true; the input reads as it did. -/
def fnAlterColumnConstraintsAgreeWithColumnSpec : ChangeSpec := { name := "fnAlterColumnConstraintsAgreeWithColumn", fn := fun _ => fun
  | [d1, d2, d3, d4, d5, d6, d7, d8, d9] => { results := [.lit (.bool true)], args := [d1, d2, d3, d4, d5, d6, d7, d8, d9] }
  | _ => none }
def fnAlterColumnConstraintsAgreeWithColumnRow : OpenClaim := { program := "qxb6001546a", sum := "88d8f23486910f56f497aaeab4264948c617fa931e373a498b7aa3dc5034e4f9", func := "example.com/shattuck/shattuck/zzlaws_internal_migration_b1.FnAlterColumnConstraintsAgreeWithColumn", spec := "fnAlterColumnConstraintsAgreeWithColumn", apart := false }
def FnAlterColumnConstraintsAgreeWithColumnSaid : Prop := fnAlterColumnConstraintsAgreeWithColumnRow.holds Try.pinned (OpenSpec.ofChange fnAlterColumnConstraintsAgreeWithColumnSpec)

/-- ITS FALSE NEIGHBOUR: 'it returns false'. Refute it at one input. -/
def fnAlterColumnConstraintsAgreeWithColumnWrong : ChangeSpec := { name := "fnAlterColumnConstraintsAgreeWithColumn", fn := fun _ => fun
  | [d1, d2, d3, d4, d5, d6, d7, d8, d9] => { results := [.lit (.bool false)], args := [d1, d2, d3, d4, d5, d6, d7, d8, d9] }
  | _ => none }
def FnAlterColumnConstraintsAgreeWithColumnWrongFalsely : Prop := fnAlterColumnConstraintsAgreeWithColumnRow.holds Try.pinned (OpenSpec.ofChange fnAlterColumnConstraintsAgreeWithColumnWrong)

end Rows
end Go.Proofs.Qxb6001546a
