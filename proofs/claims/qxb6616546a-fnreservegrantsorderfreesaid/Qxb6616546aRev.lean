/-
  The reversed rows.
-/
import Derived.Test.Qxb6616546aBuild
namespace Go.Proofs.Qxb6616546a
open Go.RowKit
set_option linter.unusedVariables false

def rowZero : Value := .agg #[.string ByteArray.empty, .int .i64 0, .int .i64 0, .string ByteArray.empty, .bool false]
theorem Try.info25 : (Try.prog.info? 25).map (fun i => (i.zero, i.size, i.bytes)) = some (some rowZero, 5, 56) := by kernel_rfl
theorem Try.und22 : Try.prog.underlying 22 = some (.slice 25) := by kernel_rfl
def rowZ (n : Nat) : List Value := (madeCells rowZero.cells (n * 5)).toList
theorem rowZ_length (n : Nat) : (rowZ n).length = n * 5 := by unfold rowZ; rw [Array.length_toList, size_madeCells]
theorem makeR (w : World) (n : Nat) (hn : n ≤ 4096) : (Instr.makeSlice 22 (.int .i64 (n : Int)) (.int .i64 (n : Int))).run Try.prog w = .ok (.slice (some ⟨w.heap.size, 0, none⟩) n n) (w.alloc (.cells (rowZ n).toArray 25)) := by
  obtain ⟨i, hi, hz, hs, hb⟩ := info_parts Try.info25
  have h := run_make (P := Try.prog) w 22 25 i rowZero Try.und22 hi hz .i64 .i64 (n : Int) (n : Int) (by omega) (by omega) (by rw [hb]; omega) (by omega)
  rw [hs] at h
  unfold rowZ
  rw [Array.toArray_toList]
  simpa using h

structure RowL (l : List Value) (o : Nat) (x : Row) : Prop where
  name : l[o]? = some (.string x.name)
  q : l[o + 1]? = some (.int .i64 x.q)
  r : l[o + 2]? = some (.int .i64 x.r)
  of : l[o + 3]? = some (.string x.of)
  g : l[o + 4]? = some (.bool x.g)

/-- Block G: the last i rows are rs's first i, turned round. -/
def RevRow (w : World) (G : Nat) (rs : List Row) (i : Nat) : Prop :=
  ∃ l : List Value, l.length = rs.length * 5 ∧ w.heap[G]? = some (.cells l.toArray 25 (0, 0)) ∧ ∀ k x, k < i → rs[k]? = some x → RowL l ((rs.length - 1 - k) * 5) x

theorem RevRow.start (w : World) (rs : List Row) : RevRow (w.alloc (.cells (rowZ rs.length).toArray 25)) w.heap.size rs 0 :=
  ⟨_, rowZ_length _, heap_alloc_new w _, fun k x h => absurd h (Nat.not_lt_zero _)⟩
theorem RevRow.cells {w : World} {G i : Nat} {rs : List Row} (h : RevRow w G rs i) (j : Nat) (hj : j < rs.length * 5) : (∃ v, w.cell? ⟨G, j, none⟩ = some v) ∧ w.frozen? ⟨G, j, none⟩ = false := by
  obtain ⟨l, h1, h2, _⟩ := h
  obtain ⟨v, a, b⟩ := row_cell h2 j (by omega)
  exact ⟨⟨v, a⟩, b⟩
/-- The world with a row stored at o. -/
def put5 (w : World) (G o : Nat) (x : Row) : World :=
  ((((w.setCell ⟨G, o, none⟩ (.string x.name)).setCell ⟨G, o + 1, none⟩ (.int .i64 x.q)).setCell ⟨G, o + 2, none⟩ (.int .i64 x.r)).setCell ⟨G, o + 3, none⟩ (.string x.of)).setCell ⟨G, o + 4, none⟩ (.bool x.g)
theorem RevRow.next {w : World} {G i : Nat} {rs : List Row} (h : RevRow w G rs i) (x : Row) (hx : rs[i]? = some x) : RevRow (put5 w G ((rs.length - 1 - i) * 5) x) G rs (i + 1) := by
  obtain ⟨l, h1, h2, h3⟩ := h
  have hi : i < rs.length := (List.getElem?_eq_some_iff.1 hx).1
  refine ⟨_, ?_, row_store (row_store (row_store (row_store (row_store h2 _ _) _ _) _ _) _ _) _ _, fun k y hk hy => ?_⟩
  · simp [h1]
  · by_cases e : k = i
    · subst e
      rw [hx] at hy
      cases hy
      refine ⟨?_, ?_, ?_, ?_, ?_⟩
      · rw [List.getElem?_set_ne (by omega), List.getElem?_set_ne (by omega), List.getElem?_set_ne (by omega), List.getElem?_set_ne (by omega), List.getElem?_set_self (by omega)]
      · rw [List.getElem?_set_ne (by omega), List.getElem?_set_ne (by omega), List.getElem?_set_ne (by omega), List.getElem?_set_self (by simp; omega)]
      · rw [List.getElem?_set_ne (by omega), List.getElem?_set_ne (by omega), List.getElem?_set_self (by simp; omega)]
      · rw [List.getElem?_set_ne (by omega), List.getElem?_set_self (by simp; omega)]
      · rw [List.getElem?_set_self (by simp; omega)]
    · have hkl : k < rs.length := (List.getElem?_eq_some_iff.1 hy).1
      obtain ⟨a0, a1, a2, a3, a4⟩ := h3 k y (by omega) hy
      have hd : ∀ a b, a < 5 → b < 5 → (rs.length - 1 - i) * 5 + a ≠ (rs.length - 1 - k) * 5 + b := by omega
      refine ⟨?_, ?_, ?_, ?_, ?_⟩ <;> (rw [List.getElem?_set_ne (by omega), List.getElem?_set_ne (by omega), List.getElem?_set_ne (by omega), List.getElem?_set_ne (by omega), List.getElem?_set_ne (by omega)]; assumption)
theorem RevRow.rows {w : World} {G : Nat} {rs : List Row} (h : RevRow w G rs rs.length) : RowsAt w (some ⟨G, 0, none⟩) rs.length rs.reverse := by
  obtain ⟨l, h1, h2, h3⟩ := h
  refine ⟨fun q => (by cases q), by simp, fun j x hj => ⟨G, 0, rfl, ?_⟩⟩
  have hjl : j < rs.length := by have := (List.getElem?_eq_some_iff.1 hj).1; simpa using this
  rw [List.getElem?_reverse hjl] at hj
  obtain ⟨a0, a1, a2, a3, a4⟩ := h3 (rs.length - 1 - j) x (by omega) hj
  have e : rs.length - 1 - (rs.length - 1 - j) = j := by omega
  rw [e] at a0 a1 a2 a3 a4
  have hc : ∀ k, w.cell? ⟨G, k, none⟩ = l[k]? := fun k => by rw [cell_of_row _ _ _ _ _ _ h2]; simp
  rw [Nat.zero_add]
  exact ⟨(hc _).trans a0, (hc _).trans a1, (hc _).trans a2, (hc _).trans a3, (hc _).trans a4⟩
theorem put5_below {B : Nat} {w0 w : World} {G o : Nat} {x : Row} (h : Below B w0 w) (hG : B ≤ G) : Below B w0 (put5 w G o x) :=
  ((((h.setCell hG _).setCell hG _).setCell hG _).setCell hG _).setCell hG _
end Go.Proofs.Qxb6616546a
