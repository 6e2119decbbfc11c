import Derived.Test.Qxb6616546aBuild
namespace Go.Proofs.Qxb6616546a
open Go.RowKit
set_option linter.unusedVariables false

set_option maxHeartbeats 2000000 in
set_option maxRecDepth 100000 in
theorem build_any (ao : Option Addr) (cap : Nat) (rs : List Row) (w : World) (hr : RowsAt w ao cap rs) (hl : rs.length ≤ 4096) :
    Calls Try.prog 7 #[.slice ao rs.length cap] w fun e w' => GivesPlan w w' rs e := by
  have hmk := makeA w rs.length hl
  have A0 := ARow.start w rs
  have hb0 : Below w.heap.size w (w.alloc (.cells (awZ rs.length).toArray 61)) := (Below.refl _ _).alloc (Nat.le_refl _) _
  go_enter Try.func7, Try.ntmps7
  go_wp2_with fail
  clear hmk
  go_loopw [12] (fun iv wr => ∃ i : Nat, ∃ l, i ≤ rs.length ∧ iv = .int .i64 i ∧ ARow wr w.heap.size rs i l ∧ Below w.heap.size w wr) (fun iv _ => rs.length - (intOf iv).toNat)
  case atStart => exact ⟨0, _, by omega, rfl, A0, hb0⟩
  case round =>
    clear A0 hb0
    obtain ⟨i, l, hi, rfl, A, hbr⟩ := hrel
    by_cases hlt : i < rs.length
    · obtain ⟨x, hx⟩ : ∃ x, rs[i]? = some x := ⟨_, List.getElem?_eq_getElem hlt⟩
      obtain ⟨b, off, hpa, hbl, hcell⟩ := hr.at (by omega)
      subst hpa
      obtain ⟨k0, k1, k2, k3, k4⟩ := hcell i x hx
      clear hcell
      have hGs : w.heap.size < wr.heap.size := (Array.getElem?_eq_some_iff.1 A.2.1).1
      have hll := A.1
      -- the worlds of the round
      have b1 : Below w.heap.size w (wr.alloc (.cells #[.int .i64 x.r] 2)) := hbr.alloc (by omega) _
      have b2 := b1.setCell (p := ⟨w.heap.size, i * 18, none⟩) (Nat.le_refl _) (.string x.name)
      have b3 := b2.setCell (p := ⟨w.heap.size, i * 18 + 2, none⟩) (Nat.le_refl _) (.int .i64 x.q)
      have b4 := b3.setCell (p := ⟨w.heap.size, i * 18 + 14, none⟩) (Nat.le_refl _) (.pointer (some ⟨wr.heap.size, 0, none⟩))
      have c0 := (hbr.cell (p := ⟨b, off + i * 5 + 2, none⟩) hbl).trans k2
      have c1 := (b1.cell (p := ⟨b, off + i * 5, none⟩) hbl).trans k0
      have c2 := (b2.cell (p := ⟨b, off + i * 5 + 1, none⟩) hbl).trans k1
      have c4 := (b4.cell (p := ⟨b, off + i * 5 + 4, none⟩) hbl).trans k4
      have c3 := (b4.cell (p := ⟨b, off + i * 5 + 3, none⟩) hbl).trans k3
      have g1 : (wr.alloc (.cells #[.int .i64 x.r] 2)).heap[w.heap.size]? = some (.cells l.toArray 61 (0, 0)) := (Below.heap_alloc _ _ _ hGs).trans A.2.1
      have g2 := row_store g1 (i * 18) (.string x.name)
      have g3 := row_store g2 (i * 18 + 2) (.int .i64 x.q)
      have g4 := row_store g3 (i * 18 + 14) (.pointer (some ⟨wr.heap.size, 0, none⟩))
      obtain ⟨v1, e1, f1⟩ := row_cell g1 (i * 18) (by omega)
      obtain ⟨v2, e2, f2⟩ := row_cell g2 (i * 18 + 2) (by simp; omega)
      obtain ⟨v3, e3, f3⟩ := row_cell g3 (i * 18 + 14) (by simp; omega)
      clear k0 k1 k2 k3 k4 b1 b2 b3 g1 g2 g3
      have q2 : (wr.alloc (.cells #[.int .i64 x.r] 2)).setCell ⟨w.heap.size, i * 18, none⟩ (.string x.name) = (wr.setCell ⟨w.heap.size, i * 18, none⟩ (.string x.name)).alloc (.cells #[.int .i64 x.r] 2) := World.setCell_alloc_past _ _ _ _ hGs
      have q3 : ((wr.alloc (.cells #[.int .i64 x.r] 2)).setCell ⟨w.heap.size, i * 18, none⟩ (.string x.name)).setCell ⟨w.heap.size, i * 18 + 2, none⟩ (.int .i64 x.q) = ((wr.setCell ⟨w.heap.size, i * 18, none⟩ (.string x.name)).setCell ⟨w.heap.size, i * 18 + 2, none⟩ (.int .i64 x.q)).alloc (.cells #[.int .i64 x.r] 2) := by
        rw [q2]; exact World.setCell_alloc_past _ _ _ _ (by simpa [World.setCell] using hGs)
      have q4 : (((wr.alloc (.cells #[.int .i64 x.r] 2)).setCell ⟨w.heap.size, i * 18, none⟩ (.string x.name)).setCell ⟨w.heap.size, i * 18 + 2, none⟩ (.int .i64 x.q)).setCell ⟨w.heap.size, i * 18 + 14, none⟩ (.pointer (some ⟨wr.heap.size, 0, none⟩)) = (((wr.setCell ⟨w.heap.size, i * 18, none⟩ (.string x.name)).setCell ⟨w.heap.size, i * 18 + 2, none⟩ (.int .i64 x.q)).setCell ⟨w.heap.size, i * 18 + 14, none⟩ (.pointer (some ⟨wr.heap.size, 0, none⟩))).alloc (.cells #[.int .i64 x.r] 2) := by
        rw [q3]; exact World.setCell_alloc_past _ _ _ _ (by simpa [World.setCell] using hGs)
      rw [q2] at c2 e2 f2
      rw [q3] at e3 f3
      rw [q4] at c3 c4 b4 g4
      cases hg : x.g
      · rw [hg] at c4
        obtain ⟨l', HA⟩ := A.plain x hx hg
        rw [q4] at HA
        have HA : Hid _ := HA
        have HB : Hid _ := b4
        clear b4 g4 A hg c3 q2 q3 q4
        go_wp2_with fail
        go_roundw
        case rel => exact ⟨i + 1, l', by omega, by go_num, HA.out, HB.out⟩
        case measure => simp [intOf]; omega
      · rw [hg] at c4
        obtain ⟨l', HA⟩ := A.grant x hx hg
        rw [q4] at HA
        have hs4 : ((((wr.setCell ⟨w.heap.size, i * 18, none⟩ (.string x.name)).setCell ⟨w.heap.size, i * 18 + 2, none⟩ (.int .i64 x.q)).setCell ⟨w.heap.size, i * 18 + 14, none⟩ (.pointer (some ⟨wr.heap.size, 0, none⟩))).alloc (.cells #[.int .i64 x.r] 2)).heap.size = wr.heap.size + 1 := by simp [World.setCell]
        have g5 := (Below.heap_alloc _ (.cells #[.string x.of] 9) _ (by rw [hs4]; omega)).trans g4
        obtain ⟨v5, e5, f5⟩ := row_cell g5 (i * 18 + 15) (by simp; omega)
        have HB := (b4.alloc (by rw [hs4]; omega) (.cells #[.string x.of] 9)).setCell (p := ⟨w.heap.size, i * 18 + 15, none⟩) (Nat.le_refl _) (.pointer (some ⟨wr.heap.size + 1, 0, none⟩))
        rw [World.setCell_alloc_past _ _ _ _ (by rw [hs4]; omega), World.setCell_alloc_past _ _ _ _ (by simpa [World.setCell] using hGs)] at HA HB
        have HA : Hid _ := HA
        have HB : Hid _ := HB
        clear b4 g4 A hg g5 q2 q3 q4
        go_wp2_with fail
        go_roundw
        case rel => exact ⟨i + 1, l', by omega, by go_num, HA.out, HB.out⟩
        case measure => simp [intOf]; omega
    · obtain rfl : i = rs.length := by omega
      have hpl := A.plan
      have HP : Hid (∀ (wf : World) (pb : Nat), Below wr.heap.size wr wf → wf.cell? ⟨pb, 2, none⟩ = some (.slice (some ⟨w.heap.size, 0, none⟩) rs.length rs.length) → GivesPlan w wf rs (.returned (.pointer (some ⟨pb, 0, none⟩)))) :=
        fun wf pb hb hc => ⟨pb, rfl, ⟨w.heap.size, hc, fun i x hx => (hpl i x hx).keeps (Keeps.below hb)⟩, hbr.trans (hb.mono hbr.size)⟩
      clear hpl A hbr
      go_wp2_with fail
      go_ret
      refine HP.out _ _ ((Below.refl _ _).alloc (Nat.le_refl _) _) ?_
      rw [cell_of_row _ _ _ _ _ _ (heap_alloc_new wr _)]
      rfl
end Go.Proofs.Qxb6616546a
