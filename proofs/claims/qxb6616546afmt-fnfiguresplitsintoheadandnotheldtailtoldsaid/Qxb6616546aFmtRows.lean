/-
  No cell of these rows narrows 'for every input' (looked for: loops, veiled, ifaces, maps, wideKeys, modest, calm, conditions, laid).
  DERIVED. THE GIVEN ROWS OF THIS SEAT. 2 by the template 'for every input the law returns true; each argument reads behind the call as it read before'; 0 by the template 'total and deterministic' (their statements: Qxb6616546aFmtTotals.lean).
  GIVEN WITH THE SEED: the statements are not yours to turn. If you find one false, say at which input.
  Laid BY PROGRAM, IN A SANDBOX (cutbox-rows.mjs): the forced cells as the released guide's own fill.sh prints them over the translation 755632a97d34d225… (all of the seat's roots in one cut). By AI agents, Wed Nov 11 2026. No macro, syntax, notation, axiom, sorry.
-/
import Derived.Test.Qxb6616546aFmtChecked
import GoSem.Claim
import GoSem.ClaimJoined
import GoSem.ClaimMapViews
import Derived.JoinedTies
import Derived.KernelRfl
namespace Go.Proofs.Qxb6616546aFmt
/- THE CELL 'sum', in the pinned program and in every row, IS THE sha256 OF THE DUMP (.gsa) THAT Qxb6616546aFmtProg.lean LOADS. Nothing in Lean hashes anything: it is a label: what it is worth is what the hold of that sum in a sandbox is worth. -/
noncomputable def Tryf.pinned : Pinned := { name := "qxb6616546afmt", sum := "755632a97d34d2259445a11fa4f70d301a42fbcfa4e00e25c9a869f8abc98331", checked := Tryf.checked }
namespace Rows
def none {H : Type} : Left H := { results := [], args := [] }

/-- 'zzlaws_pkg_caps_b1.FnFigureMatchesGroupingModel': WHATEVER THE INPUT: true; the input reads as it did. -/
def fnFigureMatchesGroupingModelSpec : ChangeSpec := { name := "fnFigureMatchesGroupingModel", fn := fun _ => fun
  | [d1, d2, d3, d4, d5] => { results := [.lit (.bool true)], args := [d1, d2, d3, d4, d5] }
  | _ => none }
def fnFigureMatchesGroupingModelRow : OpenClaim := { program := "qxb6616546afmt", sum := "755632a97d34d2259445a11fa4f70d301a42fbcfa4e00e25c9a869f8abc98331", func := "example.com/vestwright/vestwright/zzlaws_pkg_caps_b1.FnFigureMatchesGroupingModel", spec := "fnFigureMatchesGroupingModel", stops := ["fmt.Sprintf"], inPlace := ["internal/abi.NoEscape", "internal/bytealg.MakeNoZero", "fmt.Sprintf"], apart := false }
/-- NO THEOREM (fmt's text is open here; it may be false): for the released tool's asking of the row's closed facts alone. THE STATEMENT IS 'FnFigureMatchesGroupingModelToldSaid' (Qxb6616546aFmtCards.lean). -/
def FnFigureMatchesGroupingModelFormAsk : Prop := fnFigureMatchesGroupingModelRow.holds Tryf.pinned (OpenSpec.ofChange fnFigureMatchesGroupingModelSpec)

/-- ITS FALSE NEIGHBOUR: 'it returns false'. Refute it at one input. -/
def fnFigureMatchesGroupingModelWrong : ChangeSpec := { name := "fnFigureMatchesGroupingModel", fn := fun _ => fun
  | [d1, d2, d3, d4, d5] => { results := [.lit (.bool false)], args := [d1, d2, d3, d4, d5] }
  | _ => none }
def FnFigureMatchesGroupingModelWrongFormAsk : Prop := fnFigureMatchesGroupingModelRow.holds Tryf.pinned (OpenSpec.ofChange fnFigureMatchesGroupingModelWrong)

/-- 'zzlaws_pkg_caps_b1.FnFigureSplitsIntoHeadAndNotHeldTail': WHATEVER THE INPUT: true; the input reads as it did. -/
def fnFigureSplitsIntoHeadAndNotHeldTailSpec : ChangeSpec := { name := "fnFigureSplitsIntoHeadAndNotHeldTail", fn := fun _ => fun
  | [d1, d2, d3, d4, d5, d6, d7, d8, d9] => { results := [.lit (.bool true)], args := [d1, d2, d3, d4, d5, d6, d7, d8, d9] }
  | _ => none }
def fnFigureSplitsIntoHeadAndNotHeldTailRow : OpenClaim := { program := "qxb6616546afmt", sum := "755632a97d34d2259445a11fa4f70d301a42fbcfa4e00e25c9a869f8abc98331", func := "example.com/vestwright/vestwright/zzlaws_pkg_caps_b1.FnFigureSplitsIntoHeadAndNotHeldTail", spec := "fnFigureSplitsIntoHeadAndNotHeldTail", stops := ["fmt.Sprintf"], inPlace := ["internal/abi.NoEscape", "internal/bytealg.MakeNoZero", "fmt.Sprintf"], apart := false }
/-- NO THEOREM (fmt's text is open here; it may be false): for the released tool's asking of the row's closed facts alone. THE STATEMENT IS 'FnFigureSplitsIntoHeadAndNotHeldTailToldSaid' (Qxb6616546aFmtCards.lean). -/
def FnFigureSplitsIntoHeadAndNotHeldTailFormAsk : Prop := fnFigureSplitsIntoHeadAndNotHeldTailRow.holds Tryf.pinned (OpenSpec.ofChange fnFigureSplitsIntoHeadAndNotHeldTailSpec)

/-- ITS FALSE NEIGHBOUR: 'it returns false'. Refute it at one input. -/
def fnFigureSplitsIntoHeadAndNotHeldTailWrong : ChangeSpec := { name := "fnFigureSplitsIntoHeadAndNotHeldTail", fn := fun _ => fun
  | [d1, d2, d3, d4, d5, d6, d7, d8, d9] => { results := [.lit (.bool false)], args := [d1, d2, d3, d4, d5, d6, d7, d8, d9] }
  | _ => none }
def FnFigureSplitsIntoHeadAndNotHeldTailWrongFormAsk : Prop := fnFigureSplitsIntoHeadAndNotHeldTailRow.holds Tryf.pinned (OpenSpec.ofChange fnFigureSplitsIntoHeadAndNotHeldTailWrong)

end Rows
end Go.Proofs.Qxb6616546aFmt
