import Derived.Test.Qxb6616546aFmtFigure
import Derived.Test.Qxb6616546aFmtBytes
namespace Go.Proofs.Qxb6616546aFmt
open Go.RowKit Go.Kit Go.Extern.Stop Go.Stop Go.Extern

theorem Tryf.info42 : (Tryf.prog.info? 42).map (fun i => (i.zero, i.size, i.bytes)) = some (some (.agg #[.string ByteArray.empty, .string ByteArray.empty]), 2, 32) := by kernel_rfl

theorem block_of_owns2 {w : World} {base e g n : Nat} {xs : List Value} (h : w.ownsRow base e 2 (.slice (some ⟨g, 0, none⟩) n n) n xs) : xs.length = n * 2 ∧ w.heap[g]? = some (.cells xs.toArray e (0, 0)) := by
  have hl : xs.length = n * 2 := h.1
  rcases h.2 with ⟨hv, _⟩ | ⟨g', cap', cur, hv, hb, hh, hc, _, hs, ht⟩
  · cases hv
  · cases hv
    refine ⟨hl, ?_⟩
    rw [hh]
    congr 2
    apply Array.ext'
    rw [← ht, List.take_of_length_le (by simp [hs])]

/-- Block G is a row of pairs of which the first m read as ps's. -/
def PRow (w : World) (G : Nat) (ps : List (ByteArray × ByteArray)) (m : Nat) : Prop :=
  ∃ l : List Value, l.length = ps.length * 2 ∧ w.heap[G]? = some (.cells l.toArray 42 (0, 0)) ∧ ∀ i p, i < m → ps[i]? = some p → l[i * 2]? = some (.string p.1) ∧ l[i * 2 + 1]? = some (.string p.2)

theorem PRow.cell {w : World} {G : Nat} {ps : List (ByteArray × ByteArray)} {m : Nat} (h : PRow w G ps m) (j : Nat) (hj : j < ps.length * 2) : ∃ v, w.cell? ⟨G, j, none⟩ = some v ∧ w.frozen? ⟨G, j, none⟩ = false := by
  obtain ⟨l, hl, hh, _⟩ := h
  refine ⟨l[j]'(by omega), ?_, by simp [World.frozen?, hh]⟩
  rw [cell_of_row _ _ _ _ _ _ hh]
  simp

theorem PRow.cell2 {w : World} {G : Nat} {ps : List (ByteArray × ByteArray)} {m : Nat} (h : PRow w G ps m) (j0 : Nat) (x : Value) (j : Nat) (hj : j < ps.length * 2) : ∃ v, (w.setCell ⟨G, j0, none⟩ x).cell? ⟨G, j, none⟩ = some v ∧ (w.setCell ⟨G, j0, none⟩ x).frozen? ⟨G, j, none⟩ = false := by
  obtain ⟨l, hl, hh, _⟩ := h
  have hh2 := heap_setCell_row hh j0 x
  rw [List.setIfInBounds_toArray] at hh2
  refine ⟨(l.set j0 x)[j]'(by simp; omega), ?_, by simp [World.frozen?, hh2]⟩
  rw [cell_of_row _ _ _ _ _ _ hh2]
  simp

theorem PRow.store {w : World} {G : Nat} {ps : List (ByteArray × ByteArray)} {m : Nat} (h : PRow w G ps m) (gx yx : ByteArray) (hx : ps[m]? = some (gx, yx)) : PRow ((w.setCell ⟨G, m * 2, none⟩ (.string gx)).setCell ⟨G, m * 2 + 1, none⟩ (.string yx)) G ps (m + 1) := by
  obtain ⟨l, hl, hh, hf⟩ := h
  have hm : m < ps.length := (List.getElem?_eq_some_iff.1 hx).1
  refine ⟨(l.set (m * 2) (.string gx)).set (m * 2 + 1) (.string yx), by simp [hl], ?_, fun i p hi hp => ?_⟩
  · rw [heap_setCell_row (heap_setCell_row hh _ _)]
    simp
  · by_cases e : m = i
    · subst e
      rw [hx] at hp
      cases hp
      refine ⟨?_, ?_⟩
      · rw [List.getElem?_set_ne (by omega), List.getElem?_set_self (by omega)]
      · rw [List.getElem?_set_self (by simp; omega)]
    · obtain ⟨q1, q2⟩ := hf i p (by omega) hp
      refine ⟨?_, ?_⟩
      · rw [List.getElem?_set_ne (by omega), List.getElem?_set_ne (by omega)]; exact q1
      · rw [List.getElem?_set_ne (by omega), List.getElem?_set_ne (by omega)]; exact q2

theorem PRow.pairs {w : World} {G : Nat} {ps : List (ByteArray × ByteArray)} (h : PRow w G ps ps.length) : PairsAt w (some ⟨G, 0, none⟩) ps.length ps := by
  obtain ⟨l, hl, hh, hf⟩ := h
  refine ⟨fun q => (by cases q), Nat.le_refl _, fun j p hj => ⟨G, 0, rfl, ?_⟩⟩
  have hjl : j < ps.length := (List.getElem?_eq_some_iff.1 hj).1
  obtain ⟨q1, q2⟩ := hf j p hjl hj
  rw [cell_of_row _ _ _ _ _ _ hh, cell_of_row _ _ _ _ _ _ hh]
  simp only [List.getElem?_toArray, Nat.zero_add]
  exact ⟨q1, q2⟩

/-- What grantRule gives: a rule that holds held, over and ps. -/
def GivesRule (w w' : World) (held : Int) (ov : Value) (ps : List (ByteArray × ByteArray)) (e : Ending) : Prop :=
  ∃ g ap cp, e = .returned (.pointer (some ⟨g, 0, none⟩)) ∧ w'.cell? ⟨g, 0, none⟩ = some (.int .i64 held) ∧ w'.cell? ⟨g, 1, none⟩ = some ov ∧ w'.cell? ⟨g, 2, none⟩ = some (.slice ap ps.length cp) ∧ PairsAt w' ap cp ps ∧ Below w.heap.size w w'

theorem rule_none (held : Int) (ao ap : Option Addr) (n co m cp : Nat) (set : Bool) (w : World) (h : set = false ∨ ap = none) :
    Calls Tryf.prog 8 #[.int .i64 held, .slice ao n co, .slice ap m cp, .bool set] w fun e w' => GivesRule w w' held (.slice ao n co) [] e := by
  have qN : ∀ (w : World) (a : Option Addr) (n c : Nat), (binOp .neq 23 (.slice a n c) (.slice none 0 0)).run Tryf.prog w = .ok (.bool (!a.isNone)) w := fun w a n c => run_neq_slice_nil_any w _ _ a n c 0 0 Tryf.underlying23
  have hb : Below w.heap.size w (w.alloc (.cells #[.int .i64 held, .slice ao n co, .slice none 0 0] 41)) := (Below.refl _ _).alloc (Nat.le_refl _) _
  have hh := heap_alloc_new w (.cells #[.int .i64 held, .slice ao n co, .slice none 0 0] 41)
  have H : Hid (GivesRule w (w.alloc (.cells #[.int .i64 held, .slice ao n co, .slice none 0 0] 41)) held (.slice ao n co) [] (.returned (.pointer (some ⟨w.heap.size, 0, none⟩)))) :=
    ⟨w.heap.size, none, 0, rfl, by rw [cell_of_row _ _ _ _ _ _ hh]; rfl, by rw [cell_of_row _ _ _ _ _ _ hh]; rfl, by rw [cell_of_row _ _ _ _ _ _ hh]; rfl, PairsAt.nil _, hb⟩
  clear hb hh
  cases set
  · go_enter Tryf.func8, Tryf.ntmps8
    go_wp2
    go_ret
    exact H.out
  · obtain rfl : ap = none := by rcases h with q | q; cases q; exact q
    go_enter Tryf.func8, Tryf.ntmps8
    go_wp2
    go_ret
    exact H.out

set_option maxHeartbeats 1000000 in
set_option maxRecDepth 100000 in
theorem rule_some (held : Int) (ao : Option Addr) (pa : Addr) (n co cp : Nat) (ps : List (ByteArray × ByteArray)) (w : World) (hp : PairsAt w (some pa) cp ps) (hl : ps.length ≤ 4096) :
    Calls Tryf.prog 8 #[.int .i64 held, .slice ao n co, .slice (some pa) ps.length cp, .bool true] w fun e w' => GivesRule w w' held (.slice ao n co) ps e := by
  have qN : ∀ (w : World) (a : Option Addr) (n c : Nat), (binOp .neq 23 (.slice a n c) (.slice none 0 0)).run Tryf.prog w = .ok (.bool (!a.isNone)) w := fun w a n c => run_neq_slice_nil_any w _ _ a n c 0 0 Tryf.underlying23
  obtain ⟨i0, hi, hz0, hz1, hz2⟩ := info_parts Tryf.info42
  have hb0 : Below w.heap.size w (w.alloc (.cells #[.int .i64 held, .slice ao n co, .slice none 0 0] 41)) := (Below.refl _ _).alloc (Nat.le_refl _) _
  have hh0 := heap_alloc_new w (.cells #[.int .i64 held, .slice ao n co, .slice none 0 0] 41)
  go_enter Tryf.func8, Tryf.ntmps8
  go_wp2_with (at_make; refine wpList_make_full _ rfl _ _ 39 rfl (w.heap.size + 1) 42 i0 _ 2 Tryf.underlying39 hi hz0 hz1 .i64 .i64 _ _ ps.length rfl rfl rfl rfl (by rw [hz2]; omega) (by unfold maxLen; omega) (by simp) ?_; intro w1 hown hgr)
  have hsz0 : (w.alloc (.cells #[.int .i64 held, .slice ao n co, .slice none 0 0] 41)).heap.size = w.heap.size + 1 := by simp
  rw [hsz0] at hown
  obtain ⟨hxl, hxb⟩ := block_of_owns2 hown
  have R0 : PRow w1 (w.heap.size + 1) ps 0 := ⟨_, hxl, hxb, fun i p hi => absurd hi (Nat.not_lt_zero _)⟩
  have hb1 : Below w.heap.size w w1 := hb0.grown hgr (by rw [hsz0]; omega) (fun _ q => by cases q)
  have hN1 : w1.heap[w.heap.size]? = some (.cells #[.int .i64 held, .slice ao n co, .slice none 0 0] 41 (0, 0)) := by
    rw [hgr.block _ (by rw [hsz0]; omega) (fun q => by cases q)]; exact hh0
  clear hown hxl hxb hb0 hh0 hgr
  go_loopw [26] (fun iv wr => ∃ i : Nat, i ≤ ps.length ∧ iv = .int .i64 i ∧ PRow wr (w.heap.size + 1) ps i ∧ Below w.heap.size w wr ∧ wr.heap[w.heap.size]? = some (.cells #[.int .i64 held, .slice ao n co, .slice none 0 0] 41 (0, 0))) (fun iv _ => ps.length - (intOf iv).toNat)
  case atStart => exact ⟨0, by omega, rfl, R0, hb1, hN1⟩
  case round =>
    clear R0 hb1 hN1
    obtain ⟨i, hi, rfl, R, hbr, hN⟩ := hrel
    by_cases hlt : i < ps.length
    · obtain ⟨gx, yx, hpj⟩ : ∃ gx yx, ps[i]? = some (gx, yx) := ⟨_, _, List.getElem?_eq_getElem hlt⟩
      obtain ⟨b, off, hpa, hcell⟩ := (hp.keeps (Keeps.below hbr)).at (by omega)
      obtain ⟨hc1, hc2⟩ := hcell i _ hpj
      obtain rfl : pa = ⟨b, off, none⟩ := by injection hpa
      have hbl : b < w.heap.size := by
        obtain ⟨b', off', hpa', hcell'⟩ := hp.at (by omega)
        obtain ⟨rfl, rfl⟩ : b = b' ∧ off = off' := by simpa using hpa'
        exact World.block_lt_of_cell? w _ (hcell' i _ hpj).1
      obtain ⟨v0, hv0, hf0⟩ := R.cell (i * 2) (by omega)
      obtain ⟨v1, hv1, hf1⟩ := R.cell (i * 2 + 1) (by omega)
      have R' := R.store gx yx hpj
      have hb' := (hbr.setCell (p := ⟨w.heap.size + 1, i * 2, none⟩) (by simp) (.string gx)).setCell (p := ⟨w.heap.size + 1, i * 2 + 1, none⟩) (by simp) (.string yx)
      have hN' : ((wr.setCell ⟨w.heap.size + 1, i * 2, none⟩ (.string gx)).setCell ⟨w.heap.size + 1, i * 2 + 1, none⟩ (.string yx)).heap[w.heap.size]? = some (.cells #[.int .i64 held, .slice ao n co, .slice none 0 0] 41 (0, 0)) := by
        rw [Below.heap_setCell _ _ _ _ (by simp), Below.heap_setCell _ _ _ _ (by simp)]
        exact hN
      have hne : (b == w.heap.size + 1) = false := by simp; omega
      clear hcell
      have hc2' : (wr.setCell ⟨w.heap.size + 1, i * 2, none⟩ (.string gx)).cell? ⟨b, off + i * 2 + 1, none⟩ = some (.string yx) := by
        rw [World.cell?_of_block (Below.heap_setCell _ _ _ _ (by simp; omega))]; exact hc2
      obtain ⟨v2, hv2, hf2⟩ := R.cell2 (i * 2) (.string gx) (i * 2 + 1) (by omega)
      clear hv1 hf1 hne hc2
      go_wp2_with fail
      go_roundw
      case rel => exact ⟨i + 1, by omega, by go_num, R', hb', hN'⟩
      case measure => simp [intOf]; omega
    · obtain rfl : i = ps.length := by omega
      have hNf : wr.frozen? ⟨w.heap.size, 2, none⟩ = false := by simp [World.frozen?, hN]
      have hNc : wr.cell? ⟨w.heap.size, 2, none⟩ = some (.slice none 0 0) := by rw [cell_of_row _ _ _ _ _ _ hN]; rfl
      have hN2 := heap_setCell_row hN 2 (.slice (some ⟨w.heap.size + 1, 0, none⟩) ps.length ps.length)
      have hP : PairsAt (wr.setCell ⟨w.heap.size, 2, none⟩ (.slice (some ⟨w.heap.size + 1, 0, none⟩) ps.length ps.length)) (some ⟨w.heap.size + 1, 0, none⟩) ps.length ps := by
        obtain ⟨l, r1, r2, r3⟩ := R
        exact PRow.pairs ⟨l, r1, (Below.heap_setCell _ _ _ _ (by simp)).trans r2, r3⟩
      have H : Hid (GivesRule w (wr.setCell ⟨w.heap.size, 2, none⟩ (.slice (some ⟨w.heap.size + 1, 0, none⟩) ps.length ps.length)) held (.slice ao n co) ps (.returned (.pointer (some ⟨w.heap.size, 0, none⟩)))) :=
        ⟨w.heap.size, _, _, rfl, by rw [cell_of_row _ _ _ _ _ _ hN2]; rfl, by rw [cell_of_row _ _ _ _ _ _ hN2]; rfl, by rw [cell_of_row _ _ _ _ _ _ hN2]; rfl, hP, hbr.setCell (Nat.le_refl _) _⟩
      clear hN2 hP R
      go_wp2_with fail
      go_ret
      exact H.out
end Go.Proofs.Qxb6616546aFmt
