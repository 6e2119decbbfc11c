/-
  The rows that came in, opened.
-/
import Derived.Test.Qxb6616546aMain
import Derived.ChangeOld
import Derived.ChangeSlices
import Derived.Deep.SlicePairs
namespace Go.Proofs.Qxb6616546a
open Go.ChangeShapes Go.WideShapes Go.ChangeAt Go.RowKit
set_option linter.unusedVariables false

theorem spot_of_cell {w : World} {x : Addr} {v : Value} (h : w.cell? x = some v) : x.spot = none := by
  unfold World.cell? at h
  cases hx : x.spot with
  | none => rfl
  | some v =>
    simp only [hx, Option.isSome_some, if_true] at h
    split at h <;> cases h

theorem i64_bounds {n : Int} (h : (Lit.int .i64 n).wf = true) : -9223372036854775808 ≤ n ∧ n ≤ 9223372036854775807 := by
  have := Go.bounds_i64 h
  omega

/-- What one row that came in is. -/
def RowIn (w : World) (a : Addr) (i : Nat) (x : Row) : Prop :=
  (w.cell? (a.add (i * 5)) = some (.string x.name) ∧ w.cell? (a.add (i * 5 + 1)) = some (.int .i64 x.q) ∧ w.cell? (a.add (i * 5 + 2)) = some (.int .i64 x.r) ∧ w.cell? (a.add (i * 5 + 3)) = some (.string x.of) ∧ w.cell? (a.add (i * 5 + 4)) = some (.bool x.g)) ∧
    x.name.size ≤ maxLen ∧ x.of.size ≤ maxLen ∧ (-9223372036854775808 ≤ x.q ∧ x.q ≤ 9223372036854775807 ∧ -9223372036854775808 ≤ x.r ∧ x.r ≤ 9223372036854775807)

instance : Inhabited Row := ⟨⟨ByteArray.empty, 0, 0, ByteArray.empty, false⟩⟩

set_option maxRecDepth 100000 in
theorem rows_arg {H : Type} {enc : TypeId × Value → H} {W : World} {base : Nat} {held : Bool} {a : Option Addr} {len cap : Nat} {d : DataW H} {p : List MemPlace} (h : DataW.Trod enc Try.prog W base (fun _ => true) held 22 (.slice a len cap) d p) :
    ∃ rs, len = rs.length ∧ RowsAt W a cap rs ∧ Holds rs ∧ Fits rs := by
  obtain ⟨fuel, hf⟩ := h
  rcases Deep.open_slice Try.und22 hf with ⟨hcs, _⟩ | ⟨x, l, c, m, n, D, Pl, hcs, _, hl, hm, hmm, _, hcell⟩
  · simp [Value.cells] at hcs
    obtain ⟨rfl, rfl, rfl⟩ := hcs
    exact ⟨[], rfl, ⟨fun _ => ⟨rfl, rfl⟩, by simp, fun j r hj => by simp at hj⟩, ⟨by simp, by simp⟩, fun r hr => by simp at hr⟩
  · simp [Value.cells] at hcs
    obtain ⟨rfl, rfl, rfl⟩ := hcs
    have hmc : m = cap := by simpa using hmm
    have hm' := hm
    unfold maxLen at hm'
    have ce : Try.prog.cellsOf 25 = 5 := by kernel_rfl
    have each : ∀ i, i < len → ∃ r : Row, RowIn W x i r := by
      intro i hi
      obtain ⟨cs', h1, h2⟩ := hcell i (by omega)
      rw [ce] at h1
      obtain ⟨_, hlen, hc⟩ := World.cells?_some h1
      obtain ⟨xs, k, hk, hxy, _, hxl, hff⟩ := DataW.trod_struct Try.underlying25 h2
      match cs', hlen with
      | [v0, v1, v2, v3, v4], _ =>
        have g0 := hff 0 _ rfl
        have g1 := hff 1 _ rfl
        have g2 := hff 2 _ rfl
        have g3 := hff 3 _ rfl
        have g4 := hff 4 _ rfl
        have hx5 : xs.length = 5 := hxl
        match xs, hx5 with
        | [y0, y1, y2, y3, y4], _ =>
          have c9 : Try.prog.cellsOf 9 = 1 := by kernel_rfl
          have c2 : Try.prog.cellsOf 2 = 1 := by kernel_rfl
          have c4 : Try.prog.cellsOf 4 = 1 := by kernel_rfl
          simp [c9, c2, c4] at g0 g1 g2 g3 g4
          obtain ⟨s0, e0, _, q0⟩ := DataW.trod_string Try.underlying9 g0
          obtain ⟨n1, e1, _, q1⟩ := DataW.trod_int (k := .i64) Try.underlying2 g1
          obtain ⟨n2, e2, _, q2⟩ := DataW.trod_int (k := .i64) Try.underlying2 g2
          obtain ⟨s3, e3, _, q3⟩ := DataW.trod_string Try.underlying9 g3
          obtain ⟨b4, e4, _⟩ := DataW.trod_bool Try.underlying4 g4
          simp only [List.cons.injEq, and_true] at e0 e1 e2 e3 e4
          subst e0 e1 e2 e3 e4
          have k0 := hc 0 (by omega)
          have k1 := hc 1 (by omega)
          have k2 := hc 2 (by omega)
          have k3 := hc 3 (by omega)
          have k4 := hc 4 (by omega)
          rw [Deep.add_add] at k0 k1 k2 k3 k4
          have b1 := i64_bounds q1
          have b2 := i64_bounds q2
          exact ⟨⟨s0, n1, n2, s3, b4⟩, ⟨by simpa using k0, by simpa using k1, by simpa using k2, by simpa using k3, by simpa using k4⟩, q0, q3, b1.1, b1.2, b2.1, b2.2⟩
    obtain ⟨f, hf'⟩ := Deep.choose_lt each
    have hget : ∀ (j : Nat) p, ((List.range len).map f)[j]? = some p → j < len ∧ p = f j := by
      intro j p hj
      have hjl : j < len := by have := (List.getElem?_eq_some_iff.1 hj).1; simpa using this
      rw [List.getElem?_map, List.getElem?_range hjl] at hj
      exact ⟨hjl, by injection hj with hj; exact hj.symm⟩
    refine ⟨(List.range len).map f, by simp, ⟨fun h => (by cases h), by simpa using hl, ?_⟩, ⟨by simp; omega, ?_⟩, ?_⟩
    · intro j r hj
      obtain ⟨hjl, rfl⟩ := hget j r hj
      obtain ⟨⟨c0, c1, c2, c3, c4⟩, _⟩ := hf' j hjl
      have hspot : x.spot = none := by
        have h00 := (hf' 0 (by omega)).1.1
        have e0 : x.add (0 * 5) = x := by unfold Addr.add; simp
        rw [e0] at h00
        exact spot_of_cell h00
      have e : ∀ k, x.add (j * 5 + k) = ⟨x.block, x.off + j * 5 + k, none⟩ := fun k => by cases x; simp at hspot; subst hspot; rw [Addr.add_lit, Nat.add_assoc]
      have e0 : x.add (j * 5) = ⟨x.block, x.off + j * 5, none⟩ := e 0
      rw [e0] at c0
      rw [e] at c1 c2 c3 c4
      refine ⟨x.block, x.off, ?_, c0, c1, c2, c3, c4⟩
      cases x; simp at hspot; subst hspot; rfl
    · intro r hr
      obtain ⟨j, hj⟩ := List.getElem?_of_mem hr
      obtain ⟨hjl, rfl⟩ := hget j r hj
      obtain ⟨_, q0, q1, _⟩ := hf' j hjl
      unfold maxLen at q0 q1
      omega
    · intro r hr
      obtain ⟨j, hj⟩ := List.getElem?_of_mem hr
      obtain ⟨hjl, rfl⟩ := hget j r hj
      exact (hf' j hjl).2.2.2
end Go.Proofs.Qxb6616546a
