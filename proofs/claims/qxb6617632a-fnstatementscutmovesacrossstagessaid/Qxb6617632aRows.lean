/-
  No cell of these rows narrows 'for every input' (looked for: loops, veiled, ifaces, maps, wideKeys, modest, calm, conditions, laid).
  DERIVED. THE GIVEN ROWS OF THIS SEAT. 2 by the template 'for every input the law returns true; each argument reads behind the call as it read before'; 0 by the template 'total and deterministic' (their statements: Qxb6617632aTotals.lean).
  GIVEN WITH THE SEED: the statements are not yours to turn. If you find one false, say at which input.
  Laid BY PROGRAM, IN A SANDBOX (cutbox-rows.mjs): the forced cells as the released guide's own fill.sh prints them over the translation 55ad9c97e754e389… (all of the seat's roots in one cut). By AI agents, Wed Nov 11 2026. No macro, syntax, notation, axiom, sorry.
-/
import Derived.Test.Qxb6617632aChecked
import GoSem.Claim
import GoSem.ClaimJoined
import GoSem.ClaimMapViews
import Derived.JoinedTies
import Derived.KernelRfl
namespace Go.Proofs.Qxb6617632a
/- THE CELL 'sum', in the pinned program and in every row, IS THE sha256 OF THE DUMP (.gsa) THAT Qxb6617632aProg.lean LOADS. Nothing in Lean hashes anything: it is a label: what it is worth is what the hold of that sum in a sandbox is worth. -/
noncomputable def Try.pinned : Pinned := { name := "qxb6617632a", sum := "55ad9c97e754e389e90aaa5d9b20a568500f5de3e22c500ca9001e110c168538", checked := Try.checked }
namespace Rows
def none {H : Type} : Left H := { results := [], args := [] }

/-- 'zzlaws_pkg_postgres_b1.FnStatementsCutMovesAcrossStages': WHATEVER THE INPUT: true; the input reads as it did. -/
def fnStatementsCutMovesAcrossStagesSpec : ChangeSpec := { name := "fnStatementsCutMovesAcrossStages", fn := fun _ => fun
  | [d1, d2, d3, d4, d5, d6, d7] => { results := [.lit (.bool true)], args := [d1, d2, d3, d4, d5, d6, d7] }
  | _ => none }
def fnStatementsCutMovesAcrossStagesRow : OpenClaim := { program := "qxb6617632a", sum := "55ad9c97e754e389e90aaa5d9b20a568500f5de3e22c500ca9001e110c168538", func := "example.com/rollwright/rollwright/zzlaws_pkg_postgres_b1.FnStatementsCutMovesAcrossStages", spec := "fnStatementsCutMovesAcrossStages", apart := false }
def FnStatementsCutMovesAcrossStagesSaid : Prop := fnStatementsCutMovesAcrossStagesRow.holds Try.pinned (OpenSpec.ofChange fnStatementsCutMovesAcrossStagesSpec)

/-- ITS FALSE NEIGHBOUR: 'it returns false'. Refute it at one input. -/
def fnStatementsCutMovesAcrossStagesWrong : ChangeSpec := { name := "fnStatementsCutMovesAcrossStages", fn := fun _ => fun
  | [d1, d2, d3, d4, d5, d6, d7] => { results := [.lit (.bool false)], args := [d1, d2, d3, d4, d5, d6, d7] }
  | _ => none }
def FnStatementsCutMovesAcrossStagesWrongFalsely : Prop := fnStatementsCutMovesAcrossStagesRow.holds Try.pinned (OpenSpec.ofChange fnStatementsCutMovesAcrossStagesWrong)

/-- 'zzlaws_pkg_postgres_b1.FnStatementsInsertAnywhere': WHATEVER THE INPUT: true; the input reads as it did. -/
def fnStatementsInsertAnywhereSpec : ChangeSpec := { name := "fnStatementsInsertAnywhere", fn := fun _ => fun
  | [d1, d2, d3, d4, d5, d6, d7, d8] => { results := [.lit (.bool true)], args := [d1, d2, d3, d4, d5, d6, d7, d8] }
  | _ => none }
def fnStatementsInsertAnywhereRow : OpenClaim := { program := "qxb6617632a", sum := "55ad9c97e754e389e90aaa5d9b20a568500f5de3e22c500ca9001e110c168538", func := "example.com/rollwright/rollwright/zzlaws_pkg_postgres_b1.FnStatementsInsertAnywhere", spec := "fnStatementsInsertAnywhere", apart := false }
def FnStatementsInsertAnywhereSaid : Prop := fnStatementsInsertAnywhereRow.holds Try.pinned (OpenSpec.ofChange fnStatementsInsertAnywhereSpec)

/-- ITS FALSE NEIGHBOUR: 'it returns false'. Refute it at one input. -/
def fnStatementsInsertAnywhereWrong : ChangeSpec := { name := "fnStatementsInsertAnywhere", fn := fun _ => fun
  | [d1, d2, d3, d4, d5, d6, d7, d8] => { results := [.lit (.bool false)], args := [d1, d2, d3, d4, d5, d6, d7, d8] }
  | _ => none }
def FnStatementsInsertAnywhereWrongFalsely : Prop := fnStatementsInsertAnywhereRow.holds Try.pinned (OpenSpec.ofChange fnStatementsInsertAnywhereWrong)

end Rows
end Go.Proofs.Qxb6617632a
