/-
  ZZreserveGrants hands on what reserveGrants gives.
-/
import Derived.Test.Qxb6616546aGrants
namespace Go.Proofs.Qxb6616546a
open Go.RowKit
set_option linter.unusedVariables false

/-- The result variable's block alone is written. -/
theorem rg_store {w w1 wF : World} {rs : List Row} {hb bG bR : Nat} {oG oR : Option (Nat × Nat)} {ao : Option Addr} {co : Nat} (hrb : w1.heap[w.heap.size]? = some (.cells #[.pointer none, .pointer none, .slice none 0 0] 30 (0, 0)))
    (g1 : w1.heap[hb]? = some (.cells ((held rs rs).map (Value.int .i64)).toArray 2 (0, 0))) (g2 : BigAt w1 bG (gtot rs rs) oG) (g3 : BigAt w1 bR (rtot rs) oR) (g4 : StrsAt w1 ao co (over rs rs)) (g5 : Below w.heap.size w w1) (g6 : w.heap.size ≤ bG) (g7 : w.heap.size ≤ bR)
    (hos : wF.os = w1.os) (htp : wF.tape = w1.tape) (hou : wF.output = w1.output) (hsz : w1.heap.size ≤ wF.heap.size) (hk : ∀ k, k ≠ w.heap.size → wF.heap[k]? = w1.heap[k]?) :
    GivesRG w wF rs (.returned (.tuple #[.slice (some ⟨hb, 0, none⟩) rs.length rs.length, .agg #[.pointer (some ⟨bG, 0, none⟩), .pointer (some ⟨bR, 0, none⟩), .slice ao (over rs rs).length co]])) := by
  have nb : ∀ {b z o k}, BigAt w1 b z o → SB b o k → k ≠ w.heap.size := fun h q e => by
    obtain ⟨ob, e1, e2⟩ := h.blk q
    rw [e, hrb] at e1
    cases e1
    exact notBig_cells (by decide) (by decide) e2
  refine ⟨hb, bG, bR, oG, oR, ao, co, rfl, ?_, g2.kept (fun k q => hk k (nb g2 q)), g3.kept (fun k q => hk k (nb g3 q)), ⟨g4.1, g4.2.1, fun j s hs => ?_⟩, ⟨hos.trans g5.os, htp.trans g5.tape, hou.trans g5.output, Nat.le_trans g5.size hsz, fun k q => (hk k (by omega)).trans (g5.block k q)⟩, g6, g7⟩
  · rw [hk hb (fun e => by rw [e, hrb] at g1; injection g1 with g1; injection g1 with _ g1; cases g1)]
    exact g1
  · obtain ⟨b, off, e1, e2⟩ := g4.2.2 j s hs
    have hbne : b ≠ w.heap.size := fun e => by
      subst e
      rw [cell_of_row _ _ _ _ _ _ hrb] at e2
      rcases (show off + j = 0 ∨ off + j = 1 ∨ off + j = 2 ∨ 3 ≤ off + j by omega) with q | q | q | q
      · rw [q] at e2; cases e2
      · rw [q] at e2; cases e2
      · rw [q] at e2; cases e2
      · rw [Array.getElem?_eq_none (by simpa using q)] at e2; cases e2
    exact ⟨b, off, e1, (World.cell?_of_block (a := ⟨b, off + j, none⟩) (hk b hbne)).trans e2⟩

set_option maxHeartbeats 2000000 in
set_option maxRecDepth 100000 in
theorem zz_any (pb : Nat) (rs : List Row) (w : World) (hp : PlanAt w pb rs) (hl : rs.length ≤ 4096) (hF : Fits rs) (hz : ∀ r ∈ rs, r.name.size ≤ 9223372036854775807 ∧ r.of.size ≤ 9223372036854775807) :
    Calls Try.prog 6 #[.pointer (some ⟨pb, 0, none⟩)] w fun e w' => GivesRG w w' rs e := by
  have hb0 : Below w.heap.size w (w.alloc (.cells #[.pointer none, .pointer none, .slice none 0 0] 30)) := (Below.refl _ _).alloc (Nat.le_refl _) _
  have HG := hide (grants_any pb rs (w.alloc (.cells #[.pointer none, .pointer none, .slice none 0 0] 30)) (hp.keeps (Keeps.below hb0)) hl hF hz)
  have hn := heap_alloc_new w (.cells #[.pointer none, .pointer none, .slice none 0 0] 30)
  have hs0 : (w.alloc (.cells #[.pointer none, .pointer none, .slice none 0 0] 30)).heap.size = w.heap.size + 1 := by simp
  have HB := hide hb0
  have HN := hide hn
  clear hp hF hz hb0 hn
  go_enter Try.func6, Try.ntmps6
  go_wp2_with (go_at_call 12; refine Calls.mono HG.out ?_; rintro e w1 ⟨hb, bG, bR, oG, oR, ao, co, rfl, g1, g2, g3, g4, g5, g6, g7⟩; have hrb := (g5.block w.heap.size (by omega)).trans HN.out; have r0 : w1.cell? ⟨w.heap.size, 0, none⟩ = some (.pointer none) := (by rw [cell_of_row _ _ _ _ _ _ hrb]; rfl); have r1 : w1.cell? ⟨w.heap.size, 1, none⟩ = some (.pointer none) := (by rw [cell_of_row _ _ _ _ _ _ hrb]; rfl); have r2 : w1.cell? ⟨w.heap.size, 2, none⟩ = some (.slice none 0 0) := (by rw [cell_of_row _ _ _ _ _ _ hrb]; rfl); have f0 : w1.frozen? ⟨w.heap.size, 0, none⟩ = false := (by simp [World.frozen?, hrb]); have f1 : w1.frozen? ⟨w.heap.size, 1, none⟩ = false := (by simp [World.frozen?, hrb]); have f2 : w1.frozen? ⟨w.heap.size, 2, none⟩ = false := (by simp [World.frozen?, hrb]); have HRB := hide hrb; have G1 := hide g1; have G2 := hide g2; have G3 := hide g3; have G4 := hide g4; have G5 := hide g5; have G67 := hide (And.intro g6 g7); clear hrb g1 g2 g3 g4 g5 g6 g7)
  have hE := heap_setCell_row (heap_setCell_row (heap_setCell_row HRB.out 0 (.pointer (some ⟨bG, 0, none⟩))) 1 (.pointer (some ⟨bR, 0, none⟩))) 2 (.slice ao (over rs rs).length co)
  have q0 := cell_of_row _ _ 0 _ _ _ hE
  have q1 := cell_of_row _ _ 1 _ _ _ hE
  have q2 := cell_of_row _ _ 2 _ _ _ hE
  refine bodyPost_ret (v := .tuple #[.slice (some ⟨hb, 0, none⟩) rs.length rs.length, .agg #[.pointer (some ⟨bG, 0, none⟩), .pointer (some ⟨bR, 0, none⟩), .slice ao (over rs rs).length co]]) (by simp [results, Try.results6, go_sem, q0, q1, q2]) rfl ?_
  exact rg_store HRB.out G1.out G2.out G3.out G4.out (HB.out.trans (G5.out.mono (by omega))) (by have := G67.out.1; omega) (by have := G67.out.2; omega) rfl rfl rfl (by simp [World.setCell]) (fun k hk => by rw [Below.heap_setCell _ _ _ _ hk, Below.heap_setCell _ _ _ _ hk, Below.heap_setCell _ _ _ _ hk])
end Go.Proofs.Qxb6616546a
