import Derived.Test.Qxb6617632aCat
import Derived.WalkSpells
namespace Go.Proofs.Qxb6617632a
open Go.RowKit

theorem block_of_owns {w : World} {base e g n : Nat} {xs : List Value} (h : w.ownsRow base e 1 (.slice (some ⟨g, 0, none⟩) n n) n xs) : base ≤ g ∧ xs.length = n ∧ w.heap[g]? = some (.cells xs.toArray e (0, 0)) := by
  have hl : xs.length = n := by simpa using h.1
  rcases h.2 with ⟨hv, _⟩ | ⟨g', cap', cur, hv, hb, hh, hc, _, hs, ht⟩
  · cases hv
  · cases hv
    refine ⟨hb, hl, ?_⟩
    rw [hh]
    congr 2
    apply Array.ext'
    rw [← ht, List.take_of_length_le (by simp [hs])]

theorem StrsAt.of_block {w : World} {g : Nat} {ss : List ByteArray} {t : TypeId} {fr : Nat × Nat} (h : w.heap[g]? = some (.cells (ss.map Value.string).toArray t fr)) : StrsAt w (some ⟨g, 0, none⟩) ss.length ss := by
  refine ⟨fun q => (by cases q), Nat.le_refl _, fun j s hj => ⟨g, 0, rfl, ?_⟩⟩
  rw [cell_of_row _ _ _ _ _ _ h]
  simp [hj]

theorem owns_of_block {w : World} {g base : Nat} {xs : List Value} (hb : base ≤ g) (hm : xs.length ≤ maxLen) (h : w.heap[g]? = some (.cells xs.toArray 9 (0, 0))) :
    w.ownsRow base 9 1 (.slice (some ⟨g, 0, none⟩) xs.length xs.length) xs.length xs :=
  ⟨by simp, .inr ⟨g, _, _, rfl, hb, h, Nat.le_refl _, hm, by simp, by simp⟩⟩

/-- 'copy(zzc, src)', zzc the call's own and as long as src. -/
theorem wpList_copy_strs (w : World) {ops : Array Oper} {rest : List Oper} {o : Oper} {a : Act} {Q : Exit → Act → World → Prop} (hgd : o.guard = none) (d s : Operand)
    (ho : o.op = .call { callee := .builtin .copy, args := #[d, s], argTypes := #[22, 22] })
    (base g : Nat) (ss : List ByteArray) (xs : List Value) (hd : a.eval d = .slice (some ⟨g, 0, none⟩) ss.length ss.length) (hown : w.ownsRow base 9 1 (.slice (some ⟨g, 0, none⟩) ss.length ss.length) ss.length xs)
    (ao : Option Addr) (c : Nat) (hs : a.eval s = .slice ao ss.length c) (hss : StrsAt w ao c ss) (B : Nat) (w0 : World) (hb : Below B w0 w) (hBg : B ≤ g)
    (h : ∀ w', StrsAt w' (some ⟨g, 0, none⟩) ss.length ss → Below B w0 w' → wpList Try.prog ops Q rest (a.put o.dst (goInt ss.length)) w') : wpList Try.prog ops Q (o :: rest) a w := by
  obtain ⟨_, hl, hh⟩ := block_of_owns hown
  refine wpList_copy_splice (cs := ss.map Value.string) (g := g) (off := 0) (cur := xs) (t := 9) (B := B) (w0 := w0) (dp := some ⟨g, 0, none⟩) (sp := ao) (dLen := ss.length) (dCap := ss.length) (sLen := ss.length) (sCap := c) (elem := 9)
    hgd d s 22 22 ho Try.underlying22 Try.info9s hd hs hh (by simp) ?_ (by simp [hl]) (strs_oneCell ss) hb hBg ?_
  · intro hp
    refine ⟨rfl, ?_⟩
    have hp' : 0 < ss.length := by simpa using hp
    obtain ⟨b, off, rfl, _⟩ := hss.at hp'
    exact ⟨_, rfl, hss.news⟩
  · intro w' hw' hb'
    have e : splice xs 0 (ss.map Value.string) = ss.map Value.string := by
      unfold splice
      simp [hl]
    have := hw'.out
    rw [e] at this
    have h2 := h w' (StrsAt.of_block this) hb'
    simpa using h2

/-- 'make([]string, n)'. -/
theorem wpList_make_strs (w : World) {ops : Array Oper} {rest : List Oper} {o : Oper} {a : Act} {Q : Exit → Act → World → Prop} (hgd : o.guard = none) (l c : Operand) (ho : o.op = Op.makeSlice 22 l c)
    (L C : Int) (n : Nat) (hl : a.eval l = .int .i64 L) (hc : a.eval c = .int .i64 C) (hL : L = (n : Int)) (hC : C = (n : Int)) (hn : n ≤ 1000000)
    (h : ∀ w', w'.ownsRow w.heap.size 9 1 (.slice (some ⟨w.heap.size, 0, none⟩) n n) n (List.replicate n (.string ByteArray.empty)) → Below w.heap.size w w' → w.heap.size < w'.heap.size →
      wpList Try.prog ops Q rest (a.put o.dst (.slice (some ⟨w.heap.size, 0, none⟩) n n)) w') : wpList Try.prog ops Q (o :: rest) a w := by
  obtain ⟨i0, hi, hz0, hz1, hz2⟩ := info_parts Try.info9
  refine wpList_make_full w hgd l c 22 ho w.heap.size 9 i0 (.string ByteArray.empty) 1 Try.underlying22 hi hz0 hz1 .i64 .i64 L C n hl hc hL hC (by rw [hz2]; omega) (by unfold maxLen; omega) (Nat.le_refl _) ?_
  intro w' hown hgr
  have e : (madeCells (Value.string ByteArray.empty).cells (n * 1)).toList = List.replicate n (.string ByteArray.empty) := by
    simp only [madeCells, Value.cells, Nat.mul_one, Array.toList_map, Array.toList_range]
    rw [List.eq_replicate_iff]
    refine ⟨by simp, fun b hb => ?_⟩
    obtain ⟨x, _, rfl⟩ := List.mem_map.1 hb
    have e1 : x % (#[Value.string ByteArray.empty] : Array Value).size = 0 := Nat.mod_one x
    rw [e1]
    rfl
  rw [e] at hown
  refine h w' hown ((Below.refl _ _).grown hgr (Nat.le_refl _) (fun _ q => by cases q)) ?_
  obtain ⟨_, _, hh⟩ := block_of_owns hown
  exact (Array.getElem?_eq_some_iff.1 hh).1

/-- Block G is a row of T.length cells of which the first m read as T's. -/
def RowUpTo (w : World) (G : Nat) (T : List ByteArray) (m : Nat) : Prop :=
  ∃ l : List Value, l.length = T.length ∧ w.heap[G]? = some (.cells l.toArray 9 (0, 0)) ∧ ∀ i, i < m → l[i]? = (T.map Value.string)[i]?

theorem RowUpTo.start {w : World} {base G n : Nat} {xs : List Value} {T : List ByteArray} (h : w.ownsRow base 9 1 (.slice (some ⟨G, 0, none⟩) n n) n xs) (hT : T.length = n) : RowUpTo w G T 0 := by
  obtain ⟨_, hl, hh⟩ := block_of_owns h
  exact ⟨xs, by omega, hh, fun i hi => by omega⟩

theorem RowUpTo.cell {w : World} {G : Nat} {T : List ByteArray} {m : Nat} (h : RowUpTo w G T m) (j : Nat) (hj : j < T.length) : ∃ v, w.cell? ⟨G, j, none⟩ = some v ∧ w.frozen? ⟨G, j, none⟩ = false := by
  obtain ⟨l, hl, hh, _⟩ := h
  refine ⟨l[j]'(by omega), ?_, by simp [World.frozen?, hh]⟩
  rw [cell_of_row _ _ _ _ _ _ hh]
  simp

theorem heap_setCell_row {w : World} {g : Nat} {cur : Array Value} {e : TypeId} {fr : Nat × Nat} (h : w.heap[g]? = some (.cells cur e fr)) (j : Nat) (v : Value) :
    (w.setCell ⟨g, j, none⟩ v).heap[g]? = some (.cells (cur.setIfInBounds j v) e fr) := by
  simp [World.setCell, Array.getElem?_modify, h]

theorem RowUpTo.store {w : World} {G : Nat} {T : List ByteArray} {m : Nat} (h : RowUpTo w G T m) (x : ByteArray) (hx : T[m]? = some x) : RowUpTo (w.setCell ⟨G, m, none⟩ (.string x)) G T (m + 1) := by
  obtain ⟨l, hl, hh, hf⟩ := h
  have hm : m < T.length := (List.getElem?_eq_some_iff.1 hx).1
  refine ⟨l.set m (.string x), by simp [hl], ?_, fun i hi => ?_⟩
  · rw [heap_setCell_row hh]
    simp
  · rw [List.getElem?_set]
    by_cases e : m = i
    · subst e
      have hx' := (List.getElem?_eq_some_iff.1 hx).2
      simp [hl, hm, hx']
    · rw [if_neg e]
      exact hf i (by omega)

theorem RowUpTo.full {w : World} {G : Nat} {T : List ByteArray} {m : Nat} (h : RowUpTo w G T m) (hm : T.length ≤ m) : StrsAt w (some ⟨G, 0, none⟩) T.length T := by
  obtain ⟨l, hl, hh, hf⟩ := h
  have e : l = T.map Value.string := by
    apply List.ext_getElem?
    intro i
    by_cases hi : i < m
    · exact hf i hi
    · rw [List.getElem?_eq_none (by omega), List.getElem?_eq_none (by simp; omega)]
  subst e
  exact StrsAt.of_block hh

#print axioms RowUpTo.full
#print axioms wpList_make_strs
#print axioms wpList_copy_strs
end Go.Proofs.Qxb6617632a
