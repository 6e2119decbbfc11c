/-
  Slices of strings as the walks of this seat see them: 'Strs w v ss': the value v is a slice that reads in w as the strings ss.
-/
import Derived.Test.Qxb6617632aRows
import Derived.WalkKit
import Derived.ProofKit
import Derived.OpenShut
import Derived.ShutString
import Derived.Below
import Derived.Laws.CopyOwn
import Derived.Laws.AppendOwnNone
import Derived.Deep.DeepCutAuto
import Derived.Deep.LoopGhost
import Derived.BigQuiet
import Derived.Outline
namespace Go.Proofs.Qxb6617632a
open Go.RowKit

theorem Try.info9 : (Try.prog.info? 9).map (fun i => (i.zero, i.size, i.bytes)) = some (some (.string ByteArray.empty), 1, 16) := by kernel_rfl
theorem Try.info9s : (Try.prog.info? 9).map (·.size) = some 1 := by kernel_rfl

/-- v is a slice of strings that reads in w as ss. -/
def StrsAt (w : World) (ao : Option Addr) (cap : Nat) (ss : List ByteArray) : Prop :=
  (ao = none → ss = [] ∧ cap = 0) ∧ ss.length ≤ cap ∧ ∀ j s, ss[j]? = some s → ∃ b off, ao = some ⟨b, off, none⟩ ∧ w.cell? ⟨b, off + j, none⟩ = some (.string s)

/-- All old cells read as they did. -/
def Keeps (w w' : World) : Prop := w.heap.size ≤ w'.heap.size ∧ ∀ a u, w.cell? a = some u → w'.cell? a = some u

theorem Keeps.refl (w : World) : Keeps w w := ⟨Nat.le_refl _, fun _ _ h => h⟩
theorem Keeps.trans {a b c : World} (h : Keeps a b) (k : Keeps b c) : Keeps a c := ⟨Nat.le_trans h.1 k.1, fun x u q => k.2 x u (h.2 x u q)⟩
theorem Keeps.below {w w' : World} (h : Below w.heap.size w w') : Keeps w w' :=
  ⟨h.size, fun a _ q => (h.cell (World.block_lt_of_cell? w a q)).trans q⟩

theorem StrsAt.keeps {w w' : World} {ao : Option Addr} {cap : Nat} {ss : List ByteArray} (h : StrsAt w ao cap ss) (k : Keeps w w') : StrsAt w' ao cap ss :=
  ⟨h.1, h.2.1, fun j s q => let ⟨b, off, h1, h2⟩ := h.2.2 j s q; ⟨b, off, h1, k.2 _ _ h2⟩⟩

theorem StrsAt.nil (w : World) : StrsAt w none 0 [] := ⟨fun _ => ⟨rfl, rfl⟩, by simp, fun j s h => by simp at h⟩

/-- Where there is an element the address is known, and all cells lie there. -/
theorem StrsAt.at {w : World} {ao : Option Addr} {cap : Nat} {ss : List ByteArray} (h : StrsAt w ao cap ss) (hp : 0 < ss.length) :
    ∃ b off, ao = some ⟨b, off, none⟩ ∧ ∀ j (hj : j < ss.length), w.cell? ⟨b, off + j, none⟩ = some (.string ss[j]) := by
  obtain ⟨b, off, h1, _⟩ := h.2.2 0 ss[0] (List.getElem?_eq_getElem hp)
  refine ⟨b, off, h1, fun j hj => ?_⟩
  obtain ⟨b', off', h1', h2'⟩ := h.2.2 j ss[j] (List.getElem?_eq_getElem hj)
  rw [h1] at h1'
  simp at h1'
  obtain ⟨rfl, rfl⟩ := h1'
  exact h2'

/-- What a call owns reads so. -/
theorem StrsAt.of_owns {w : World} {base g n cap : Nat} {ss : List ByteArray} (h : w.ownsRow base 9 1 (.slice (some ⟨g, 0, none⟩) n cap) n (ss.map Value.string)) : StrsAt w (some ⟨g, 0, none⟩) cap ss := by
  have hl := h.1
  refine ⟨fun q => (by cases q), ?_, fun j s q => ⟨g, 0, rfl, ?_⟩⟩
  · rcases h.2 with ⟨hv, _⟩ | ⟨g', cap', cur, hv, _, _, hc, _⟩
    · cases hv
    · cases hv
      simp at hl
      omega
  · have := h.cells (g := g) rfl j (.string s) (by simp [q])
    simpa [Addr.add_lit] using this

#print axioms StrsAt.of_owns
end Go.Proofs.Qxb6617632a
