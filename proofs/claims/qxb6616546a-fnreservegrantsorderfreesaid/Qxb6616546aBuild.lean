/-
  buildPlan.
-/
import Derived.Test.Qxb6616546aPlain
namespace Go.Proofs.Qxb6616546a
open Go.RowKit
set_option linter.unusedVariables false

def awZero : Value := .agg #[.string ByteArray.empty, .string ByteArray.empty, .int .i64 0, .pointer none, .int .i32 0, .pointer none, .int .i32 0, .pointer none, .int .i64 0, .string ByteArray.empty, .slice none 0 0, .pointer none, .pointer none, .pointer none, .pointer none, .pointer none, .pointer none, .pointer none]
theorem Try.info61 : (Try.prog.info? 61).map (fun i => (i.zero, i.size, i.bytes)) = some (some awZero, 18, 184) := by kernel_rfl
theorem Try.und43 : Try.prog.underlying 43 = some (.slice 61) := by kernel_rfl

/-- The cells of a new row of n awards. -/
def awZ (n : Nat) : List Value := (madeCells awZero.cells (n * 18)).toList
theorem awZ_length (n : Nat) : (awZ n).length = n * 18 := by unfold awZ; rw [Array.length_toList, size_madeCells]
theorem awZ_of (n i : Nat) (h : i < n) : (awZ n)[i * 18 + 15]? = some (.pointer none) := by
  unfold awZ madeCells
  rw [Array.getElem?_toList, Array.getElem?_map, Array.getElem?_range, if_pos (by omega)]
  have e : (i * 18 + 15) % awZero.cells.size = 15 := by
    have : awZero.cells.size = 18 := rfl
    rw [this]; omega
  show some (awZero.cells[(i * 18 + 15) % awZero.cells.size]!) = _
  rw [e]
  rfl
theorem makeA (w : World) (n : Nat) (hn : n ≤ 4096) : (Instr.makeSlice 43 (.int .i64 (n : Int)) (.int .i64 (n : Int))).run Try.prog w = .ok (.slice (some ⟨w.heap.size, 0, none⟩) n n) (w.alloc (.cells (awZ n).toArray 61)) := by
  obtain ⟨i, hi, hz, hs, hb⟩ := info_parts Try.info61
  have h := run_make (P := Try.prog) w 43 61 i awZero Try.und43 hi hz .i64 .i64 (n : Int) (n : Int) (by omega) (by omega) (by rw [hb]; omega) (by omega)
  rw [hs] at h
  unfold awZ
  rw [Array.toArray_toList]
  simpa using h

/-- The cells of an award, in a row's list. -/
structure AwL (w : World) (l : List Value) (o : Nat) (x : Row) : Prop where
  name : l[o]? = some (.string x.name)
  q : l[o + 2]? = some (.int .i64 x.q)
  r : ∃ p, l[o + 14]? = some (.pointer (some ⟨p, 0, none⟩)) ∧ w.heap[p]? = some (.cells #[.int .i64 x.r] 2 (0, 0))
  of : (x.g = false ∧ l[o + 15]? = some (.pointer none)) ∨ (x.g = true ∧ ∃ p, l[o + 15]? = some (.pointer (some ⟨p, 0, none⟩)) ∧ w.heap[p]? = some (.cells #[.string x.of] 9 (0, 0)))

/-- Block G is a row of awards, of which the first m read as rs's; the rest are no grants yet. -/
def ARow (w : World) (G : Nat) (rs : List Row) (m : Nat) (l : List Value) : Prop :=
  l.length = rs.length * 18 ∧ w.heap[G]? = some (.cells l.toArray 61 (0, 0)) ∧ (∀ i x, i < m → rs[i]? = some x → AwL w l (i * 18) x) ∧ ∀ i, m ≤ i → i < rs.length → l[i * 18 + 15]? = some (.pointer none)

theorem row_store {w : World} {G : Nat} {l : List Value} {t : TypeId} (h : w.heap[G]? = some (.cells l.toArray t (0, 0))) (j : Nat) (v : Value) : (w.setCell ⟨G, j, none⟩ v).heap[G]? = some (.cells (l.set j v).toArray t (0, 0)) := by
  have := heap_setCell_row h j v
  rw [List.setIfInBounds_toArray] at this
  exact this
theorem row_cell {w : World} {G : Nat} {l : List Value} {t : TypeId} (h : w.heap[G]? = some (.cells l.toArray t (0, 0))) (j : Nat) (hj : j < l.length) : ∃ v, w.cell? ⟨G, j, none⟩ = some v ∧ w.frozen? ⟨G, j, none⟩ = false := by
  refine ⟨l[j], ?_, by simp [World.frozen?, h]⟩
  rw [cell_of_row _ _ _ _ _ _ h]
  simp [hj]

/-- Kept where the row's list changes elsewhere, and no block of type 2 or 9 is turned. -/
theorem AwL.kept {w w' : World} {l l' : List Value} {o : Nat} {x : Row} (h : AwL w l o x) (hl : ∀ j, o ≤ j → j < o + 18 → l'[j]? = l[j]?) (hk : ∀ (p : Nat) (c : Array Value) (t : TypeId), (t = 2 ∨ t = 9) → w.heap[p]? = some (.cells c t (0, 0)) → w'.heap[p]? = some (.cells c t (0, 0))) : AwL w' l' o x := by
  refine ⟨by rw [hl _ (by omega) (by omega)]; exact h.name, by rw [hl _ (by omega) (by omega)]; exact h.q, ?_, ?_⟩
  · obtain ⟨p, h1, h2⟩ := h.r
    exact ⟨p, by rw [hl _ (by omega) (by omega)]; exact h1, hk p _ _ (.inl rfl) h2⟩
  · rcases h.of with ⟨h1, h2⟩ | ⟨h1, p, h2, h3⟩
    · exact .inl ⟨h1, by rw [hl _ (by omega) (by omega)]; exact h2⟩
    · exact .inr ⟨h1, p, by rw [hl _ (by omega) (by omega)]; exact h2, hk p _ _ (.inr rfl) h3⟩

/-- What buildPlan gives: the plan in block pb. -/
structure AwCells (w : World) (b o : Nat) (x : Row) : Prop where
  name : w.cell? ⟨b, o, none⟩ = some (.string x.name)
  q : w.cell? ⟨b, o + 2, none⟩ = some (.int .i64 x.q)
  r : ∃ p, w.cell? ⟨b, o + 14, none⟩ = some (.pointer (some ⟨p, 0, none⟩)) ∧ w.cell? ⟨p, 0, none⟩ = some (.int .i64 x.r)
  of : (x.g = false ∧ w.cell? ⟨b, o + 15, none⟩ = some (.pointer none)) ∨ (x.g = true ∧ ∃ p, w.cell? ⟨b, o + 15, none⟩ = some (.pointer (some ⟨p, 0, none⟩)) ∧ w.cell? ⟨p, 0, none⟩ = some (.string x.of))
theorem AwCells.keeps {w w' : World} {b o : Nat} {x : Row} (h : AwCells w b o x) (k : Keeps w w') : AwCells w' b o x :=
  ⟨k.2 _ _ h.name, k.2 _ _ h.q, let ⟨p, h1, h2⟩ := h.r; ⟨p, k.2 _ _ h1, k.2 _ _ h2⟩,
    h.of.imp (fun ⟨h1, h2⟩ => ⟨h1, k.2 _ _ h2⟩) (fun ⟨h1, p, h2, h3⟩ => ⟨h1, p, k.2 _ _ h2, k.2 _ _ h3⟩)⟩
def PlanAt (w : World) (pb : Nat) (rs : List Row) : Prop :=
  ∃ G, w.cell? ⟨pb, 2, none⟩ = some (.slice (some ⟨G, 0, none⟩) rs.length rs.length) ∧ ∀ i x, rs[i]? = some x → AwCells w G (i * 18) x
theorem PlanAt.keeps {w w' : World} {pb : Nat} {rs : List Row} (h : PlanAt w pb rs) (k : Keeps w w') : PlanAt w' pb rs :=
  let ⟨G, h1, h2⟩ := h; ⟨G, k.2 _ _ h1, fun i x hx => (h2 i x hx).keeps k⟩
def GivesPlan (w w' : World) (rs : List Row) (e : Ending) : Prop := ∃ pb, e = .returned (.pointer (some ⟨pb, 0, none⟩)) ∧ PlanAt w' pb rs ∧ Below w.heap.size w w'

theorem ARow.start (w : World) (rs : List Row) : ARow (w.alloc (.cells (awZ rs.length).toArray 61)) w.heap.size rs 0 (awZ rs.length) :=
  ⟨awZ_length _, heap_alloc_new w _, fun i x h => absurd h (Nat.not_lt_zero _), fun i _ h => awZ_of _ _ h⟩

theorem ARow.plan {w : World} {G : Nat} {rs : List Row} {l : List Value} (h : ARow w G rs rs.length l) (i : Nat) (x : Row) (hx : rs[i]? = some x) : AwCells w G (i * 18) x := by
  obtain ⟨h1, h2, h3, _⟩ := h
  have hi : i < rs.length := (List.getElem?_eq_some_iff.1 hx).1
  obtain ⟨a1, a2, a3, a4⟩ := h3 i x hi hx
  have hc : ∀ j, w.cell? ⟨G, j, none⟩ = l[j]? := fun j => by rw [cell_of_row _ _ _ _ _ _ h2]; simp
  refine ⟨(hc _).trans a1, (hc _).trans a2, ?_, ?_⟩
  · obtain ⟨p, r1, r2⟩ := a3
    exact ⟨p, (hc _).trans r1, by rw [cell_of_row _ _ _ _ _ _ r2]; rfl⟩
  · rcases a4 with ⟨r1, r2⟩ | ⟨r1, p, r2, r3⟩
    · exact .inl ⟨r1, (hc _).trans r2⟩
    · exact .inr ⟨r1, p, (hc _).trans r2, by rw [cell_of_row _ _ _ _ _ _ r3]; rfl⟩

/-- One round, first part: the award's three fields. -/
theorem ARow.three {w : World} {G m : Nat} {rs : List Row} {l : List Value} (h : ARow w G rs m l) (x : Row) (hx : rs[m]? = some x) :
    let l' := ((l.set (m * 18) (.string x.name)).set (m * 18 + 2) (.int .i64 x.q)).set (m * 18 + 14) (.pointer (some ⟨w.heap.size, 0, none⟩))
    let w' := (((w.alloc (.cells #[.int .i64 x.r] 2)).setCell ⟨G, m * 18, none⟩ (.string x.name)).setCell ⟨G, m * 18 + 2, none⟩ (.int .i64 x.q)).setCell ⟨G, m * 18 + 14, none⟩ (.pointer (some ⟨w.heap.size, 0, none⟩))
    l'.length = rs.length * 18 ∧ w'.heap[G]? = some (.cells l'.toArray 61 (0, 0)) ∧ (∀ i y, i < m → rs[i]? = some y → AwL w' l' (i * 18) y) ∧ (∀ i, m ≤ i → i < rs.length → l'[i * 18 + 15]? = some (.pointer none)) ∧
      l'[m * 18]? = some (.string x.name) ∧ l'[m * 18 + 2]? = some (.int .i64 x.q) ∧ l'[m * 18 + 14]? = some (.pointer (some ⟨w.heap.size, 0, none⟩)) ∧ w'.heap[w.heap.size]? = some (.cells #[.int .i64 x.r] 2 (0, 0)) := by
  intro l' w'
  obtain ⟨h1, h2, h3, h4⟩ := h
  have hm : m < rs.length := (List.getElem?_eq_some_iff.1 hx).1
  have hGlt : G < w.heap.size := (Array.getElem?_eq_some_iff.1 h2).1
  have hG1 : (w.alloc (.cells #[.int .i64 x.r] 2)).heap[G]? = some (.cells l.toArray 61 (0, 0)) := (Below.heap_alloc _ _ _ hGlt).trans h2
  have hG : w'.heap[G]? = some (.cells l'.toArray 61 (0, 0)) := row_store (row_store (row_store hG1 _ _) _ _) _ _
  have hoth : ∀ k, k ≠ G → w'.heap[k]? = (w.alloc (.cells #[.int .i64 x.r] 2)).heap[k]? := fun k hk =>
    (Below.heap_setCell _ _ _ _ hk).trans ((Below.heap_setCell _ _ _ _ hk).trans (Below.heap_setCell _ _ _ _ hk))
  refine ⟨by simp [l', h1], hG, fun i y hi hy => ?_, fun i hi hl => ?_, ?_, ?_, ?_, ?_⟩
  · refine (h3 i y hi hy).kept (fun j hj hj2 => ?_) (fun p c t ht hp => ?_)
    · simp only [l']
      rw [List.getElem?_set_ne (by omega), List.getElem?_set_ne (by omega), List.getElem?_set_ne (by omega)]
    · have hpG : p ≠ G := fun e => by
        rw [e, h2] at hp
        injection hp with hp
        injection hp with _ hp
        rcases ht with e | e <;> rw [e] at hp <;> cases hp
      rw [hoth p hpG, Below.heap_alloc _ _ _ (Array.getElem?_eq_some_iff.1 hp).1]
      exact hp
  · simp only [l']
    rw [List.getElem?_set_ne (by omega), List.getElem?_set_ne (by omega), List.getElem?_set_ne (by omega)]
    exact h4 i hi hl
  · simp only [l']
    rw [List.getElem?_set_ne (by omega), List.getElem?_set_ne (by omega), List.getElem?_set_self (by omega)]
  · simp only [l']
    rw [List.getElem?_set_ne (by omega), List.getElem?_set_self (by simp; omega)]
  · simp only [l']
    rw [List.getElem?_set_self (by simp; omega)]
  · rw [hoth _ (by omega)]
    exact heap_alloc_new w _

theorem ARow.plain {w : World} {G m : Nat} {rs : List Row} {l : List Value} (h : ARow w G rs m l) (x : Row) (hx : rs[m]? = some x) (hg : x.g = false) :
    ∃ l', ARow ((((w.alloc (.cells #[.int .i64 x.r] 2)).setCell ⟨G, m * 18, none⟩ (.string x.name)).setCell ⟨G, m * 18 + 2, none⟩ (.int .i64 x.q)).setCell ⟨G, m * 18 + 14, none⟩ (.pointer (some ⟨w.heap.size, 0, none⟩))) G rs (m + 1) l' := by
  obtain ⟨a1, a2, a3, a4, a5, a6, a7, a8⟩ := h.three x hx
  have hm : m < rs.length := (List.getElem?_eq_some_iff.1 hx).1
  refine ⟨_, a1, a2, fun i y hi hy => ?_, fun i hi hl => a4 i (by omega) hl⟩
  by_cases e : i = m
  · subst e
    rw [hx] at hy
    cases hy
    exact ⟨a5, a6, ⟨_, a7, a8⟩, .inl ⟨hg, a4 i (Nat.le_refl _) hm⟩⟩
  · exact a3 i y (by omega) hy

theorem ARow.grant {w : World} {G m : Nat} {rs : List Row} {l : List Value} (h : ARow w G rs m l) (x : Row) (hx : rs[m]? = some x) (hg : x.g = true) :
    ∃ l', ARow ((((((w.alloc (.cells #[.int .i64 x.r] 2)).setCell ⟨G, m * 18, none⟩ (.string x.name)).setCell ⟨G, m * 18 + 2, none⟩ (.int .i64 x.q)).setCell ⟨G, m * 18 + 14, none⟩ (.pointer (some ⟨w.heap.size, 0, none⟩))).alloc (.cells #[.string x.of] 9)).setCell ⟨G, m * 18 + 15, none⟩ (.pointer (some ⟨w.heap.size + 1, 0, none⟩))) G rs (m + 1) l' := by
  obtain ⟨a1, a2, a3, a4, a5, a6, a7, a8⟩ := h.three x hx
  have hm : m < rs.length := (List.getElem?_eq_some_iff.1 hx).1
  have hGlt : G < w.heap.size := (Array.getElem?_eq_some_iff.1 h.2.1).1
  generalize hl' : ((l.set (m * 18) (.string x.name)).set (m * 18 + 2) (.int .i64 x.q)).set (m * 18 + 14) (.pointer (some ⟨w.heap.size, 0, none⟩)) = l' at *
  have hsz : ((((w.alloc (.cells #[.int .i64 x.r] 2)).setCell ⟨G, m * 18, none⟩ (.string x.name)).setCell ⟨G, m * 18 + 2, none⟩ (.int .i64 x.q)).setCell ⟨G, m * 18 + 14, none⟩ (.pointer (some ⟨w.heap.size, 0, none⟩))).heap.size = w.heap.size + 1 := by simp [World.setCell]
  generalize (((w.alloc (.cells #[.int .i64 x.r] 2)).setCell ⟨G, m * 18, none⟩ (.string x.name)).setCell ⟨G, m * 18 + 2, none⟩ (.int .i64 x.q)).setCell ⟨G, m * 18 + 14, none⟩ (.pointer (some ⟨w.heap.size, 0, none⟩)) = w4 at *
  have hoth : ∀ k, k ≠ G → k < w4.heap.size → ((w4.alloc (.cells #[.string x.of] 9)).setCell ⟨G, m * 18 + 15, none⟩ (.pointer (some ⟨w.heap.size + 1, 0, none⟩))).heap[k]? = w4.heap[k]? := fun k hk hk2 =>
    (Below.heap_setCell _ _ _ _ hk).trans (Below.heap_alloc _ _ _ hk2)
  refine ⟨l'.set (m * 18 + 15) (.pointer (some ⟨w.heap.size + 1, 0, none⟩)), by simp [a1], row_store ((Below.heap_alloc _ _ _ (by omega)).trans a2) _ _, fun i y hi hy => ?_, fun i hi hl => ?_⟩
  · by_cases e : i = m
    · subst e
      rw [hx] at hy
      cases hy
      refine ⟨?_, ?_, ⟨w.heap.size, ?_, ?_⟩, .inr ⟨hg, w.heap.size + 1, ?_, ?_⟩⟩
      · rw [List.getElem?_set_ne (by omega)]; exact a5
      · rw [List.getElem?_set_ne (by omega)]; exact a6
      · rw [List.getElem?_set_ne (by omega)]; exact a7
      · rw [hoth _ (by omega) (by omega)]; exact a8
      · rw [List.getElem?_set_self (by omega)]
      · rw [Below.heap_setCell _ _ _ _ (by simp; omega), ← hsz]
        exact heap_alloc_new w4 _
    · refine (a3 i y (by omega) hy).kept (fun j hj hj2 => ?_) (fun p c t ht hp => ?_)
      · rw [List.getElem?_set_ne (by omega)]
      · have hpG : p ≠ G := fun e => by
          rw [e, a2] at hp
          injection hp with hp
          injection hp with _ hp
          rcases ht with e | e <;> rw [e] at hp <;> cases hp
        rw [hoth p hpG (Array.getElem?_eq_some_iff.1 hp).1]
        exact hp
  · rw [List.getElem?_set_ne (by omega)]
    exact a4 i (by omega) hl
end Go.Proofs.Qxb6616546a
