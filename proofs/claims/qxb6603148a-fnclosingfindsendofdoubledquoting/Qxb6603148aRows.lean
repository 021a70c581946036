/-
  No cell of these rows narrows 'for every input' (looked for: loops, veiled, ifaces, maps, wideKeys, modest, calm, conditions, laid).
  DERIVED. THE GIVEN ROWS OF THIS SEAT. 2 by the template 'for every input the law returns true; each argument reads behind the call as it read before'; 0 by the template 'total and deterministic' (their statements: Qxb6603148aTotals.lean).
  GIVEN WITH THE SEED: the statements are not yours to turn. If you find one false, say at which input.
  Laid BY PROGRAM, IN A SANDBOX (cutbox-rows.mjs): the forced cells as the released guide's own fill.sh prints them over the translation a6ad059217150ad1… (all of the seat's roots in one cut). By AI agents, Wed Nov 11 2026. No macro, syntax, notation, axiom, sorry.
-/
import Derived.Test.Qxb6603148aChecked
import GoSem.Claim
import GoSem.ClaimJoined
import GoSem.ClaimMapViews
import Derived.JoinedTies
import Derived.KernelRfl
namespace Go.Proofs.Qxb6603148a
/- THE CELL 'sum', in the pinned program and in every row, IS THE sha256 OF THE DUMP (.gsa) THAT Qxb6603148aProg.lean LOADS. Nothing in Lean hashes anything: it is a label: what it is worth is what the hold of that sum in a sandbox is worth. -/
noncomputable def Try.pinned : Pinned := { name := "qxb6603148a", sum := "a6ad059217150ad1fa65079ffc5d27fdc88840f8c0d5b86fde2b1ca83bed809e", checked := Try.checked }
namespace Rows
def none {H : Type} : Left H := { results := [], args := [] }

/-- 'zzlaws_internal_migration_b1.FnClosingFindsEndOfDoubledQuoting': WHATEVER THE INPUT: true; the input reads as it did. -/
def fnClosingFindsEndOfDoubledQuotingSpec : ChangeSpec := { name := "fnClosingFindsEndOfDoubledQuoting", fn := fun _ => fun
  | [d1, d2, d3] => { results := [.lit (.bool true)], args := [d1, d2, d3] }
  | _ => none }
def fnClosingFindsEndOfDoubledQuotingRow : OpenClaim := { program := "qxb6603148a", sum := "a6ad059217150ad1fa65079ffc5d27fdc88840f8c0d5b86fde2b1ca83bed809e", func := "example.com/earnest-migrations/earnest-migrations/zzlaws_internal_migration_b1.FnClosingFindsEndOfDoubledQuoting", spec := "fnClosingFindsEndOfDoubledQuoting", apart := false }
def FnClosingFindsEndOfDoubledQuotingSaid : Prop := fnClosingFindsEndOfDoubledQuotingRow.holds Try.pinned (OpenSpec.ofChange fnClosingFindsEndOfDoubledQuotingSpec)

/-- ITS FALSE NEIGHBOUR: 'it returns false'. Refute it at one input. -/
def fnClosingFindsEndOfDoubledQuotingWrong : ChangeSpec := { name := "fnClosingFindsEndOfDoubledQuoting", fn := fun _ => fun
  | [d1, d2, d3] => { results := [.lit (.bool false)], args := [d1, d2, d3] }
  | _ => none }
def FnClosingFindsEndOfDoubledQuotingWrongFalsely : Prop := fnClosingFindsEndOfDoubledQuotingRow.holds Try.pinned (OpenSpec.ofChange fnClosingFindsEndOfDoubledQuotingWrong)

/-- 'zzlaws_internal_migration_b1.FnClosingClosedTokenShape': WHATEVER THE INPUT: true; the input reads as it did. -/
def fnClosingClosedTokenShapeSpec : ChangeSpec := { name := "fnClosingClosedTokenShape", fn := fun _ => fun
  | [d1, d2] => { results := [.lit (.bool true)], args := [d1, d2] }
  | _ => none }
def fnClosingClosedTokenShapeRow : OpenClaim := { program := "qxb6603148a", sum := "a6ad059217150ad1fa65079ffc5d27fdc88840f8c0d5b86fde2b1ca83bed809e", func := "example.com/earnest-migrations/earnest-migrations/zzlaws_internal_migration_b1.FnClosingClosedTokenShape", spec := "fnClosingClosedTokenShape", apart := false }
def FnClosingClosedTokenShapeSaid : Prop := fnClosingClosedTokenShapeRow.holds Try.pinned (OpenSpec.ofChange fnClosingClosedTokenShapeSpec)

/-- ITS FALSE NEIGHBOUR: 'it returns false'. Refute it at one input. -/
def fnClosingClosedTokenShapeWrong : ChangeSpec := { name := "fnClosingClosedTokenShape", fn := fun _ => fun
  | [d1, d2] => { results := [.lit (.bool false)], args := [d1, d2] }
  | _ => none }
def FnClosingClosedTokenShapeWrongFalsely : Prop := fnClosingClosedTokenShapeRow.holds Try.pinned (OpenSpec.ofChange fnClosingClosedTokenShapeWrong)

end Rows
end Go.Proofs.Qxb6603148a
