/-
  DERIVED. GIVEN WITH THE SEED: THE CARDS: each row of Qxb6616546aFmtRows.lean that lists a variable, with what it lists TIED to the program's text (the seventh form; the later family's looks); each row that meets fmt, with fmt's text TOLD by the authors' own Lean function (tested against real Go, not proved from fmt's source: count such statements apart). THE CARD IS WHAT COUNTS. Prove the row's statement (the work); the ties are given (Qxb6616546aFmtTie.lean); close each card by the builder's one call (the guide's Derived/Test/ToyasCard.lean, 'card_holds'). Laid BY PROGRAM, IN A SANDBOX (cutbox-door.mjs). By AI agents, Wed Nov 11 2026. No macro, syntax, notation, axiom, sorry.
-/
import Derived.Test.Qxb6616546aFmtRows
import GoSem.ClaimSeven
namespace Go.Proofs.Qxb6616546aFmt
namespace Rows

/-- THE TOLD CARD OF 'zzlaws_pkg_caps_b1.FnFigureMatchesGroupingModel'. -/
def fnFigureMatchesGroupingModelCard : Claim7 := { stood := { row := fnFigureMatchesGroupingModelRow, standIns := [], harness := (true, "87984b32f4c673e340b18033e20b4f379b46e07f2f3b652296a937b47c593de0"), looks := false }, told := true, goes := false }
def FnFigureMatchesGroupingModelToldSaid : Prop := Claim7.holds Tryf.pinned (.plain (OpenSpec.ofChange fnFigureMatchesGroupingModelSpec)) fnFigureMatchesGroupingModelCard
/-- ITS FALSE NEIGHBOUR. Refute it at one input. -/
def FnFigureMatchesGroupingModelToldWrongFalsely : Prop := Claim7.holds Tryf.pinned (.plain (OpenSpec.ofChange fnFigureMatchesGroupingModelWrong)) fnFigureMatchesGroupingModelCard

/-- THE TOLD CARD OF 'zzlaws_pkg_caps_b1.FnFigureSplitsIntoHeadAndNotHeldTail'. -/
def fnFigureSplitsIntoHeadAndNotHeldTailCard : Claim7 := { stood := { row := fnFigureSplitsIntoHeadAndNotHeldTailRow, standIns := [], harness := (true, "87984b32f4c673e340b18033e20b4f379b46e07f2f3b652296a937b47c593de0"), looks := false }, told := true, goes := false }
def FnFigureSplitsIntoHeadAndNotHeldTailToldSaid : Prop := Claim7.holds Tryf.pinned (.plain (OpenSpec.ofChange fnFigureSplitsIntoHeadAndNotHeldTailSpec)) fnFigureSplitsIntoHeadAndNotHeldTailCard
/-- ITS FALSE NEIGHBOUR. Refute it at one input. -/
def FnFigureSplitsIntoHeadAndNotHeldTailToldWrongFalsely : Prop := Claim7.holds Tryf.pinned (.plain (OpenSpec.ofChange fnFigureSplitsIntoHeadAndNotHeldTailWrong)) fnFigureSplitsIntoHeadAndNotHeldTailCard
end Rows
end Go.Proofs.Qxb6616546aFmt
