import Derived.Test.Qxb6616546aFmtSplits
import Derived.ProofKit
import Derived.ChangeSlices
import Derived.ChangeSame
import Derived.ChangeMaps5
import Derived.ChangeOld
import Derived.SliceStrings
import Derived.Deep.SlicePairs
import Derived.JoinedOf
import Derived.Carry
import Derived.Stop.JoinedAt
import Derived.Stop.Texts
import Derived.Stop.JoinedTold
import Derived.SizedLaws
import Derived.SevenToldRow
namespace Go.Proofs.Qxb6616546aFmt
open Go.ChangeShapes Go.WideShapes Go.ChangeAt Go.RowKit Go.Kit
open Go.ChangeMaps (open_string shut_string)
open Go.Extern.Stop Go.Stop Go.Extern

theorem Tryf.own : ownKnob Tryf.prog.godebug = none := by kernel_rfl
theorem Tryf.laidOut : laidOutB Tryf.pinned.checked.prog = true := by kernel_rfl
theorem Tryf.stops : Tryf.pinned.checked.prog.stops = ["fmt.Sprintf"] := by kernel_rfl
theorem Tryf.stopKnobs : Tryf.pinned.checked.prog.stopKnobs = [] := by kernel_rfl
theorem Tryf.quiet (os : Os) : Stop.quiet Tryf.pinned.checked.prog os := by
  intro k hk
  rw [Tryf.stopKnobs] at hk
  cases hk

/-- What the walk is told of a slice of strings that came in. -/
def IsStrs (w : World) (a : Option Addr) (len cap : Nat) (ss : List ByteArray) : Prop :=
  len = ss.length ∧ StrsAt w a cap ss ∧ ss.length ≤ 9223372036854775807 ∧ ∀ s ∈ ss, s.size ≤ 9223372036854775807
/-- .. of a slice of pairs of strings. -/
def IsPairs (w : World) (a : Option Addr) (len cap : Nat) (ps : List (ByteArray × ByteArray)) : Prop :=
  len = ps.length ∧ PairsAt w a cap ps ∧ ps.length ≤ 9223372036854775807 ∧ ∀ p ∈ ps, p.1.size ≤ 9223372036854775807 ∧ p.2.size ≤ 9223372036854775807

theorem spot_of_cell {w : World} {x : Addr} {v : Value} (h : w.cell? x = some v) : x.spot = none := by
  unfold World.cell? at h
  cases hx : x.spot with
  | none => rfl
  | some v =>
    simp only [hx, Option.isSome_some, if_true] at h
    split at h <;> cases h

theorem isStrs_of {w : World} {x : Addr} {len cap : Nat} {ss : List ByteArray} (hl : len ≤ cap) (hm : cap ≤ maxLen) (hz : ss.length = cap)
    (hcell : ∀ i, i < ss.length → w.cell? (x.add i) = some (.string (ss.getD i ByteArray.empty))) (hwz : ∀ s ∈ ss, s.size ≤ maxLen) : ∃ ss, IsStrs w (some x) len cap ss := by
  refine ⟨ss.take len, by simp; omega, ⟨fun h => (by cases h), by simp; omega, ?_⟩, ?_, ?_⟩
  · intro j s hj
    have hjl : j < len ∧ j < ss.length := by
      have := (List.getElem?_eq_some_iff.1 hj).1
      simp at this; omega
    have h0 := hcell j hjl.2
    have hspot : x.spot = none := by
      have h00 := hcell 0 (by omega)
      have e0 : x.add 0 = x := by unfold Addr.add; simp
      rw [e0] at h00
      exact spot_of_cell h00
    refine ⟨x.block, x.off, ?_, ?_⟩
    · cases x; simp at hspot; subst hspot; rfl
    · have e : x.add j = ⟨x.block, x.off + j, none⟩ := by cases x; simp at hspot; subst hspot; rw [Addr.add_lit]
      rw [← e, h0]
      rw [List.getElem?_take_of_lt hjl.1] at hj
      rw [List.getD_eq_getElem?_getD, hj]; rfl
  · have := hm
    unfold maxLen at this
    simp; omega
  · intro s hs
    exact hwz s (List.mem_of_mem_take hs)

theorem isStrs_arg {H : Type} {enc : TypeId × Value → H} {W : World} {base : Nat} {held : Bool} {a : Option Addr} {len cap : Nat} {d : DataW H} {p : List MemPlace} (h : DataW.Trod enc Tryf.prog W base (fun _ => true) held 22 (.slice a len cap) d p) : ∃ ss, IsStrs W a len cap ss := by
  obtain ⟨fuel, hf⟩ := h
  rcases open_strings Tryf.underlying22 Tryf.underlying9 (by kernel_rfl) hf with ⟨hcs, _⟩ | ⟨x, l, c, ss, hcs, _, hl, hm, hz, _, hcell, hwz⟩
  · simp [Value.cells] at hcs
    obtain ⟨rfl, rfl, rfl⟩ := hcs
    exact ⟨[], rfl, StrsAt.nil W, by simp, by simp⟩
  · simp [Value.cells] at hcs
    obtain ⟨rfl, rfl, rfl⟩ := hcs
    exact isStrs_of hl hm (by simpa using hz) hcell hwz

theorem isPairs_arg {H : Type} {enc : TypeId × Value → H} {W : World} {base : Nat} {held : Bool} {a : Option Addr} {len cap : Nat} {d : DataW H} {p : List MemPlace} (h : DataW.Trod enc Tryf.prog W base (fun _ => true) held 23 (.slice a len cap) d p) : ∃ ps, IsPairs W a len cap ps := by
  obtain ⟨fuel, hf⟩ := h
  rcases Deep.open_slice_pairs Tryf.underlying23 Tryf.underlying34 (by kernel_rfl) rfl rfl (by kernel_rfl) (by kernel_rfl) hf with ⟨hcs, _⟩ | ⟨x, l, c, m, n, V0, V1, D0, D1, P0, P1, hcs, _, hl, hm, hmm, _, hcell⟩
  · simp [Value.cells] at hcs
    obtain ⟨rfl, rfl, rfl⟩ := hcs
    exact ⟨[], rfl, PairsAt.nil W, by simp, by simp⟩
  · simp [Value.cells] at hcs
    obtain ⟨rfl, rfl, rfl⟩ := hcs
    have hmc : m = cap := by simpa using hmm
    have hm' := hm
    unfold maxLen at hm'
    have each : ∀ i, i < len → ∃ p : ByteArray × ByteArray, V0 i = .string p.1 ∧ V1 i = .string p.2 ∧ p.1.size ≤ maxLen ∧ p.2.size ≤ maxLen := by
      intro i hi
      obtain ⟨_, _, t0, t1⟩ := hcell i (by omega)
      obtain ⟨s0, e0, _, q0⟩ := DataW.trod_string (t := 9) Tryf.underlying9 t0
      obtain ⟨s1, e1, _, q1⟩ := DataW.trod_string (t := 9) Tryf.underlying9 t1
      simp only [List.cons.injEq, and_true] at e0 e1
      exact ⟨(s0, s1), e0, e1, q0, q1⟩
    obtain ⟨f, hf'⟩ := Deep.choose_lt each
    have hget : ∀ (j : Nat) p, ((List.range len).map f)[j]? = some p → j < len ∧ p = f j := by
      intro j p hj
      have hjl : j < len := by have := (List.getElem?_eq_some_iff.1 hj).1; simpa using this
      rw [List.getElem?_map, List.getElem?_range hjl] at hj
      exact ⟨hjl, by injection hj with hj; exact hj.symm⟩
    refine ⟨(List.range len).map f, by simp, ⟨fun h => (by cases h), by simpa using hl, ?_⟩, by simp; omega, ?_⟩
    · intro j p hj
      obtain ⟨hjl, rfl⟩ := hget j p hj
      obtain ⟨c0, c1, _, _⟩ := hcell j (by omega)
      obtain ⟨e0, e1, _, _⟩ := hf' j hjl
      have hspot : x.spot = none := by
        have h00 := (hcell 0 (by omega)).1
        have e0 : x.add (0 * 2) = x := by unfold Addr.add; simp
        rw [e0] at h00
        exact spot_of_cell h00
      rw [e0] at c0
      rw [e1] at c1
      refine ⟨x.block, x.off, ?_, ?_, ?_⟩
      · cases x; simp at hspot; subst hspot; rfl
      · have e : x.add (j * 2) = ⟨x.block, x.off + j * 2, none⟩ := by cases x; simp at hspot; subst hspot; rw [Addr.add_lit]
        rw [← e]; exact c0
      · have e : x.add (j * 2 + 1) = ⟨x.block, x.off + j * 2 + 1, none⟩ := by cases x; simp at hspot; subst hspot; rw [Addr.add_lit]; rfl
        rw [← e]; exact c1
    · intro p hp
      obtain ⟨j, hj⟩ := List.getElem?_of_mem hp
      obtain ⟨hjl, rfl⟩ := hget j p hj
      obtain ⟨_, _, q0, q1⟩ := hf' j hjl
      exact ⟨q0, q1⟩

end Go.Proofs.Qxb6616546aFmt
