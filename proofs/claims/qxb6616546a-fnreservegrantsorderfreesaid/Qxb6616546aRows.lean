/-
  No cell of these rows narrows 'for every input' (looked for: loops, veiled, ifaces, maps, wideKeys, modest, calm, conditions, laid).
  DERIVED. THE GIVEN ROWS OF THIS SEAT. 1 by the template 'for every input the law returns true; each argument reads behind the call as it read before'; 0 by the template 'total and deterministic' (their statements: Qxb6616546aTotals.lean).
  GIVEN WITH THE SEED: the statements are not yours to turn. If you find one false, say at which input.
  Laid BY PROGRAM, IN A SANDBOX (cutbox-rows.mjs): the forced cells as the released guide's own fill.sh prints them over the translation 0d1d839f8fbc2fa0… (all of the seat's roots in one cut). By AI agents, Wed Nov 11 2026. No macro, syntax, notation, axiom, sorry.
-/
import Derived.Test.Qxb6616546aChecked
import GoSem.Claim
import GoSem.ClaimJoined
import GoSem.ClaimMapViews
import Derived.JoinedTies
import Derived.KernelRfl
namespace Go.Proofs.Qxb6616546a
/- THE CELL 'sum', in the pinned program and in every row, IS THE sha256 OF THE DUMP (.gsa) THAT Qxb6616546aProg.lean LOADS. Nothing in Lean hashes anything: it is a label: what it is worth is what the hold of that sum in a sandbox is worth. -/
noncomputable def Try.pinned : Pinned := { name := "qxb6616546a", sum := "0d1d839f8fbc2fa0b69a70d51bc05a342dbdf66971bee34555c47a247ea3a468", checked := Try.checked }
namespace Rows
def none {H : Type} : Left H := { results := [], args := [] }

/-- 'zzlaws_pkg_caps_b1.FnReserveGrantsOrderFree': WHATEVER THE INPUT: true; the input reads as it did. -/
def fnReserveGrantsOrderFreeSpec : ChangeSpec := { name := "fnReserveGrantsOrderFree", fn := fun _ => fun
  | [d] => { results := [.lit (.bool true)], args := [d] }
  | _ => none }
def fnReserveGrantsOrderFreeRow : OpenClaim := { program := "qxb6616546a", sum := "0d1d839f8fbc2fa0b69a70d51bc05a342dbdf66971bee34555c47a247ea3a468", func := "example.com/vestwright/vestwright/zzlaws_pkg_caps_b1.FnReserveGrantsOrderFree", spec := "fnReserveGrantsOrderFree", inPlace := ["math/big.addVV", "math/bits.Add64", "math/big.subVV", "math/bits.Sub64"], recurses := true, apart := false }
def FnReserveGrantsOrderFreeSaid : Prop := fnReserveGrantsOrderFreeRow.holds Try.pinned (OpenSpec.ofChange fnReserveGrantsOrderFreeSpec)

/-- ITS FALSE NEIGHBOUR: 'it returns false'. Refute it at one input. -/
def fnReserveGrantsOrderFreeWrong : ChangeSpec := { name := "fnReserveGrantsOrderFree", fn := fun _ => fun
  | [d] => { results := [.lit (.bool false)], args := [d] }
  | _ => none }
def FnReserveGrantsOrderFreeWrongFalsely : Prop := fnReserveGrantsOrderFreeRow.holds Try.pinned (OpenSpec.ofChange fnReserveGrantsOrderFreeWrong)

end Rows
end Go.Proofs.Qxb6616546a
