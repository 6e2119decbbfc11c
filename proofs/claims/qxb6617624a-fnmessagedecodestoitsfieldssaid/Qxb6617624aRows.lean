/-
  No cell of these rows narrows 'for every input' (looked for: loops, veiled, ifaces, maps, wideKeys, modest, calm, conditions, laid).
  DERIVED. THE GIVEN ROWS OF THIS SEAT. 1 by the template 'for every input the law returns true; each argument reads behind the call as it read before'; 0 by the template 'total and deterministic' (their statements: Qxb6617624aTotals.lean).
  GIVEN WITH THE SEED: the statements are not yours to turn. If you find one false, say at which input.
  Laid BY PROGRAM, IN A SANDBOX (cutbox-rows.mjs): the forced cells as the released guide's own fill.sh prints them over the translation 799fca8bc572b6cb… (all of the seat's roots in one cut). By AI agents, Wed Nov 11 2026. No macro, syntax, notation, axiom, sorry.
-/
import Derived.Test.Qxb6617624aChecked
import GoSem.Claim
import GoSem.ClaimJoined
import GoSem.ClaimMapViews
import Derived.JoinedTies
import Derived.KernelRfl
namespace Go.Proofs.Qxb6617624a
/- THE CELL 'sum', in the pinned program and in every row, IS THE sha256 OF THE DUMP (.gsa) THAT Qxb6617624aProg.lean LOADS. Nothing in Lean hashes anything: it is a label: what it is worth is what the hold of that sum in a sandbox is worth. -/
noncomputable def Try.pinned : Pinned := { name := "qxb6617624a", sum := "799fca8bc572b6cb40e20e4848daea34ed5b95bf55083e5899a675dc7d363075", checked := Try.checked }
namespace Rows
def none {H : Type} : Left H := { results := [], args := [] }

/-- 'zzlaws_internal_simulate_b1.FnMessageDecodesToItsFields': WHATEVER THE INPUT: true; the input reads as it did. -/
def fnMessageDecodesToItsFieldsSpec : ChangeSpec := { name := "fnMessageDecodesToItsFields", fn := fun _ => fun
  | [d1, d2, d3, d4, d5] => { results := [.lit (.bool true)], args := [d1, d2, d3, d4, d5] }
  | _ => none }
def fnMessageDecodesToItsFieldsRow : OpenClaim := { program := "qxb6617624a", sum := "799fca8bc572b6cb40e20e4848daea34ed5b95bf55083e5899a675dc7d363075", func := "example.com/taplight/taplight/zzlaws_internal_simulate_b1.FnMessageDecodesToItsFields", spec := "fnMessageDecodesToItsFields", apart := false }
def FnMessageDecodesToItsFieldsSaid : Prop := fnMessageDecodesToItsFieldsRow.holds Try.pinned (OpenSpec.ofChange fnMessageDecodesToItsFieldsSpec)

/-- ITS FALSE NEIGHBOUR: 'it returns false'. Refute it at one input. -/
def fnMessageDecodesToItsFieldsWrong : ChangeSpec := { name := "fnMessageDecodesToItsFields", fn := fun _ => fun
  | [d1, d2, d3, d4, d5] => { results := [.lit (.bool false)], args := [d1, d2, d3, d4, d5] }
  | _ => none }
def FnMessageDecodesToItsFieldsWrongFalsely : Prop := fnMessageDecodesToItsFieldsRow.holds Try.pinned (OpenSpec.ofChange fnMessageDecodesToItsFieldsWrong)

end Rows
end Go.Proofs.Qxb6617624a
