import Derived.Test.Qxb6616546aFmtModel2
namespace Go.Proofs.Qxb6616546aFmt
open Go.RowKit

theorem block_of_owns {w : World} {base e g n : Nat} {xs : List Value} (h : w.ownsRow base e 1 (.slice (some ⟨g, 0, none⟩) n n) n xs) : base ≤ g ∧ xs.length = n ∧ w.heap[g]? = some (.cells xs.toArray e (0, 0)) := by
  have hl : xs.length = n := by simpa using h.1
  rcases h.2 with ⟨hv, _⟩ | ⟨g', cap', cur, hv, hb, hh, hc, _, hs, ht⟩
  · cases hv
  · cases hv
    refine ⟨hb, hl, ?_⟩
    rw [hh]
    congr 2
    apply Array.ext'
    rw [← ht, List.take_of_length_le (by simp [hs])]

/-- 'make([]string, n)'. -/
theorem wpList_make_strs (w : World) {ops : Array Oper} {rest : List Oper} {o : Oper} {a : Act} {Q : Exit → Act → World → Prop} (hgd : o.guard = none) (l c : Operand) (ho : o.op = Op.makeSlice 22 l c)
    (L C : Int) (n : Nat) (hl : a.eval l = .int .i64 L) (hc : a.eval c = .int .i64 C) (hL : L = (n : Int)) (hC : C = (n : Int)) (hn : n ≤ 1000000)
    (h : ∀ w' xs, w'.ownsRow w.heap.size 9 1 (.slice (some ⟨w.heap.size, 0, none⟩) n n) n xs → Below w.heap.size w w' →
      wpList Tryf.prog ops Q rest (a.put o.dst (.slice (some ⟨w.heap.size, 0, none⟩) n n)) w') : wpList Tryf.prog ops Q (o :: rest) a w := by
  obtain ⟨i0, hi, hz0, hz1, hz2⟩ := info_parts Tryf.info9
  refine wpList_make_full w hgd l c 22 ho w.heap.size 9 i0 (.string ByteArray.empty) 1 Tryf.underlying22 hi hz0 hz1 .i64 .i64 L C n hl hc hL hC (by rw [hz2]; omega) (by unfold maxLen; omega) (Nat.le_refl _) ?_
  intro w' hown hgr
  exact h w' _ hown ((Below.refl _ _).grown hgr (Nat.le_refl _) (fun _ q => by cases q))

/-- Block G is a row of T.length cells of which the first m read as T's. -/
def RowUpTo (w : World) (G : Nat) (T : List ByteArray) (m : Nat) : Prop :=
  ∃ l : List Value, l.length = T.length ∧ w.heap[G]? = some (.cells l.toArray 9 (0, 0)) ∧ ∀ i, i < m → l[i]? = (T.map Value.string)[i]?

theorem RowUpTo.start {w : World} {base G n : Nat} {xs : List Value} {T : List ByteArray} (h : w.ownsRow base 9 1 (.slice (some ⟨G, 0, none⟩) n n) n xs) (hT : T.length = n) : RowUpTo w G T 0 := by
  obtain ⟨_, hl, hh⟩ := block_of_owns h
  exact ⟨xs, by omega, hh, fun i hi => by omega⟩

theorem RowUpTo.cell {w : World} {G : Nat} {T : List ByteArray} {m : Nat} (h : RowUpTo w G T m) (j : Nat) (hj : j < T.length) : ∃ v, w.cell? ⟨G, j, none⟩ = some v ∧ w.frozen? ⟨G, j, none⟩ = false := by
  obtain ⟨l, hl, hh, _⟩ := h
  refine ⟨l[j]'(by omega), ?_, by simp [World.frozen?, hh]⟩
  rw [cell_of_row _ _ _ _ _ _ hh]
  simp

theorem RowUpTo.store {w : World} {G : Nat} {T : List ByteArray} {m : Nat} (h : RowUpTo w G T m) (x : ByteArray) (hx : T[m]? = some x) : RowUpTo (w.setCell ⟨G, m, none⟩ (.string x)) G T (m + 1) := by
  obtain ⟨l, hl, hh, hf⟩ := h
  have hm : m < T.length := (List.getElem?_eq_some_iff.1 hx).1
  refine ⟨l.set m (.string x), by simp [hl], ?_, fun i hi => ?_⟩
  · rw [heap_setCell_row hh]
    simp
  · rw [List.getElem?_set]
    by_cases e : m = i
    · subst e
      have hx' := (List.getElem?_eq_some_iff.1 hx).2
      simp [hl, hm, hx']
    · rw [if_neg e]
      exact hf i (by omega)

theorem RowUpTo.full {w : World} {G : Nat} {T : List ByteArray} {m : Nat} (h : RowUpTo w G T m) (hm : T.length ≤ m) : w.heap[G]? = some (.cells (T.map Value.string).toArray 9 (0, 0)) := by
  obtain ⟨l, hl, hh, hf⟩ := h
  have e : l = T.map Value.string := by
    apply List.ext_getElem?
    intro i
    by_cases hi : i < m
    · exact hf i hi
    · rw [List.getElem?_eq_none (by omega), List.getElem?_eq_none (by simp; omega)]
  subst e
  exact hh

/-- A string in quotes. -/
def quoB (s : ByteArray) : ByteArray := ⟨#[34]⟩ ++ s ++ ⟨#[34]⟩
theorem str_quoB (s : ByteArray) : str (quoB s) = quo (str s) := by
  unfold quoB str quo
  simp

set_option maxHeartbeats 1000000 in
set_option maxRecDepth 100000 in
theorem names_any (ao : Option Addr) (cap : Nat) (ss : List ByteArray) (w : World) (hss : StrsAt w ao cap ss) (hsl : ss.length ≤ 100000) (hz : ∀ s ∈ ss, s.size ≤ 1048576) (hlen : (names (strL ss)).length ≤ 40000000) :
    Calls Tryf.prog 21 #[.slice ao ss.length cap] w fun e w' => e = .returned (.string (B8 (names (strL ss)))) ∧ Below w.heap.size w w' := by
  obtain ⟨T, HT⟩ : ∃ T, Hid (T = ss.map quoB) := ⟨_, rfl⟩
  have HTl : Hid (T.length = ss.length) := by rw [HT.out]; show (ss.map quoB).length = _; simp
  have HTg : Hid (∀ j (h : j < ss.length), T[j]? = some (quoB ss[j])) := by
    intro j h
    rw [HT.out, List.getElem?_map, List.getElem?_eq_getElem h]
    rfl
  have HN : Hid (names (strL ss) = Lib.join (T.map (·.data.toList)) [44, 32]) := by
    show names (strL ss) = _
    rw [HT.out]
    unfold names strL
    rw [List.map_map, List.map_map]
    congr 1
  have HZ : Hid _ := hz
  clear hz
  go_enter Tryf.func21, Tryf.ntmps21
  go_wp2_with (at_make; refine wpList_make_strs _ rfl _ _ rfl _ _ ss.length rfl rfl rfl rfl (by omega) ?_; intro w1 xs hown1 hb1)
  have R0 := RowUpTo.start (T := T) hown1 HTl.out
  clear hown1
  go_loopw [11] (fun iv wr => ∃ i : Nat, i ≤ ss.length ∧ iv = .int .i64 i ∧ RowUpTo wr w.heap.size T i ∧ Below w.heap.size w wr) (fun iv _ => ss.length - (intOf iv).toNat)
  case atStart => exact ⟨0, by omega, rfl, R0, hb1⟩
  case round =>
    clear R0 hb1
    obtain ⟨i, hi, rfl, R, hbr⟩ := hrel
    by_cases hlt : i < ss.length
    · obtain ⟨b, off, rfl, hcell⟩ := (hss.keeps (Keeps.below hbr)).at (by omega)
      have hcj := hcell i ss[i] (List.getElem?_eq_getElem hlt)
      obtain ⟨v0, hv0, hf0⟩ := R.cell i (by rw [HTl.out]; omega)
      have R' := R.store (quoB ss[i]) (HTg.out i hlt)
      have hb' := hbr.setCell (p := ⟨w.heap.size, i, none⟩) (Nat.le_refl _) (.string (quoB ss[i]))
      have hsz := HZ.out ss[i] (List.getElem_mem hlt)
      have hq2 : quoB ss[i] = ⟨#[34]⟩ ++ ss[i] ++ ⟨#[34]⟩ := rfl
      rw [hq2] at R' hb'
      clear hcell hq2
      go_wp2
      go_roundw
      case rel => exact ⟨i + 1, by omega, by go_num, R', hb'⟩
      case measure => simp [intOf]; omega
    · have hblk := R.full (by rw [HTl.out]; omega)
      have hnl : (Lib.join (T.map (·.data.toList)) [44, 32]).length ≤ 140737488355328 := by rw [← HN.out]; omega
      have hcells : ∀ (j : Nat) x, T[j]? = some x → wr.cell? ⟨w.heap.size, 0 + j, none⟩ = some (.string x) := by
        intro j x hj
        rw [Nat.zero_add, cell_of_row _ _ _ _ _ _ hblk]
        simp [hj]
      have hbk : w.heap.size < wr.heap.size := (Array.getElem?_eq_some_iff.1 hblk).1
      have hJ : Hid (Calls Tryf.prog 23 #[.slice (some ⟨w.heap.size, 0, none⟩) ss.length ss.length, .string ⟨#[44, 32]⟩] wr fun e w' => e = .returned (.string ⟨(Lib.join (T.map (·.data.toList)) [44, 32]).toArray⟩) ∧ Below wr.heap.size wr w') := by
        have h := Tryf.strings_Join w.heap.size 0 ss.length T ⟨#[44, 32]⟩ wr hcells hbk (by rw [HTl.out]; omega) (by rw [HTl.out]; exact Nat.le_refl _) hnl
        rw [HTl.out] at h
        exact h
      clear hcells hblk hnl R
      have hle : w.heap.size ≤ wr.heap.size := Nat.le_of_lt hbk
      go_wp2_with fail
      refine Calls.mono hJ.out ?_
      rintro e w2 ⟨rfl, hb2⟩
      go_wp2_with fail
      go_ret
      refine ⟨?_, hbr.trans (hb2.mono hle)⟩
      rw [HN.out]
      rfl
end Go.Proofs.Qxb6616546aFmt
