/-
  What the law holds of the two calls' results.
-/
import Derived.Test.Qxb6616546aZZ
import Derived.Test.Qxb6616546aRev
import Derived.Test.Qxb6616546aCounts
namespace Go.Proofs.Qxb6616546a
open Go.RowKit
set_option linter.unusedVariables false

structure RGAt (w : World) (n hb gb bG bR : Nat) (ao : Option Addr) (co m : Nat) (zG zR : Int) (ss : List ByteArray) (hs : List Int) : Prop where
  row : w.heap[hb]? = some (.cells (hs.map (Value.int .i64)).toArray 2 (0, 0))
  hn : hs.length = n
  blk : w.heap[gb]? = some (.cells #[.pointer (some ⟨bG, 0, none⟩), .pointer (some ⟨bR, 0, none⟩), .slice ao m co] 30 (0, 0))
  hm : ss.length = m
  G : ∃ o, BigAt w bG zG o
  R : ∃ o, BigAt w bR zR o
  ov : StrsAt w ao co ss

theorem BigAt.below {w w' : World} {b : Nat} {z : Int} {o : Option (Nat × Nat)} (h : BigAt w b z o) (hb : Below w.heap.size w w') : BigAt w' b z o := h.kept (fun k q => hb.block k (h.lt q))

section
variable {w w' : World} {n hb gb bG bR : Nat} {ao : Option Addr} {co m : Nat} {zG zR : Int} {ss : List ByteArray} {hs : List Int}
theorem RGAt.below (h : RGAt w n hb gb bG bR ao co m zG zR ss hs) (b : Below w.heap.size w w') : RGAt w' n hb gb bG bR ao co m zG zR ss hs :=
  ⟨(b.block _ (Array.getElem?_eq_some_iff.1 h.row).1).trans h.row, h.hn, (b.block _ (Array.getElem?_eq_some_iff.1 h.blk).1).trans h.blk, h.hm, let ⟨o, q⟩ := h.G; ⟨o, q.below b⟩, let ⟨o, q⟩ := h.R; ⟨o, q.below b⟩, h.ov.keeps (Keeps.below b)⟩
theorem RGAt.cells (h : RGAt w n hb gb bG bR ao co m zG zR ss hs) : w.cell? ⟨gb, 0, none⟩ = some (.pointer (some ⟨bG, 0, none⟩)) ∧ w.cell? ⟨gb, 1, none⟩ = some (.pointer (some ⟨bR, 0, none⟩)) ∧ w.cell? ⟨gb, 2, none⟩ = some (.slice ao m co) := by
  refine ⟨?_, ?_, ?_⟩ <;> (rw [cell_of_row _ _ _ _ _ _ h.blk]; rfl)
theorem RGAt.at (h : RGAt w n hb gb bG bR ao co m zG zR ss hs) (i : Nat) (v : Int) (hi : hs[i]? = some v) : w.cell? ⟨hb, i, none⟩ = some (.int .i64 v) := by
  rw [cell_of_row _ _ _ _ _ _ h.row]
  simp [hi]
end

/-- Behind a call of ZZreserveGrants, its second result laid into a variable. -/
theorem rg_of {w w' : World} {rs : List Row} {e : Ending} (h : GivesRG w w' rs e) :
    ∃ hb bG bR ao co, e = .returned (.tuple #[.slice (some ⟨hb, 0, none⟩) rs.length rs.length, .agg #[.pointer (some ⟨bG, 0, none⟩), .pointer (some ⟨bR, 0, none⟩), .slice ao (over rs rs).length co]]) ∧
      RGAt (w'.alloc (.cells #[.pointer (some ⟨bG, 0, none⟩), .pointer (some ⟨bR, 0, none⟩), .slice ao (over rs rs).length co] 30)) rs.length hb w'.heap.size bG bR ao co (over rs rs).length (gtot rs rs) (rtot rs) (over rs rs) (held rs rs) ∧ Below w.heap.size w w' ∧ w.heap.size ≤ bG ∧ w.heap.size ≤ bR := by
  obtain ⟨hb, bG, bR, oG, oR, ao, co, he, g1, g2, g3, g4, g5, g6, g7⟩ := h
  have b : Below w'.heap.size w' (w'.alloc (.cells #[.pointer (some ⟨bG, 0, none⟩), .pointer (some ⟨bR, 0, none⟩), .slice ao (over rs rs).length co] 30)) := (Below.refl _ _).alloc (Nat.le_refl _) _
  exact ⟨hb, bG, bR, ao, co, he, ⟨(b.block _ (Array.getElem?_eq_some_iff.1 g1).1).trans g1, by simp [held], heap_alloc_new w' _, rfl, ⟨_, g2.below b⟩, ⟨_, g3.below b⟩, g4.keeps (Keeps.below b)⟩, g5, g6, g7⟩

theorem rg_of_rev {w w' : World} {rs : List Row} {e : Ending} (h : GivesRG w w' rs.reverse e) :
    ∃ hb bG bR ao co, e = .returned (.tuple #[.slice (some ⟨hb, 0, none⟩) rs.length rs.length, .agg #[.pointer (some ⟨bG, 0, none⟩), .pointer (some ⟨bR, 0, none⟩), .slice ao (over rs rs).length co]]) ∧
      RGAt (w'.alloc (.cells #[.pointer (some ⟨bG, 0, none⟩), .pointer (some ⟨bR, 0, none⟩), .slice ao (over rs rs).length co] 30)) rs.length hb w'.heap.size bG bR ao co (over rs rs).length (gtot rs rs) (rtot rs) (over rs rs).reverse (held rs rs).reverse ∧ Below w.heap.size w w' ∧ w.heap.size ≤ bG ∧ w.heap.size ≤ bR := by
  have := rg_of h
  rw [over_reverse, held_reverse, gtot_reverse, rtot_reverse, List.length_reverse, List.length_reverse] at this
  exact this
theorem Fits.reverse {rs : List Row} (h : Fits rs) : Fits rs.reverse := fun r hr => h r (by simpa using hr)

theorem below_calm {B : Nat} {a b c : World} (h : Below B a b) (hc : Calm b c) : Below B a c := h.trans ⟨hc.os, hc.tape, hc.output, by rw [hc.heap]; exact Nat.le_refl _, fun k _ => by rw [hc.heap]⟩
theorem Keeps.calm {a b : World} (hc : Calm a b) : Keeps a b := Keeps.below (below_calm (Below.refl _ _) hc)
theorem RGAt.calm {w w' : World} {n hb gb bG bR : Nat} {ao : Option Addr} {co m : Nat} {zG zR : Int} {ss : List ByteArray} {hs : List Int} (h : RGAt w n hb gb bG bR ao co m zG zR ss hs) (hc : Calm w w') : RGAt w' n hb gb bG bR ao co m zG zR ss hs := h.below (below_calm (Below.refl _ _) hc)

theorem eqP27_nil (a : Addr) (w : World) : (binOp .eql 27 (.pointer (some a)) (.pointer none)).run Try.prog w = .ok (.bool false) w := by
  have h : ∀ d : Nat, (Op.equalIn (d + 1) 27 (.pointer (some a)) (.pointer none)).run Try.prog w = .ok false w := fun d => by
    simp [Op.equalIn, run_underlying Try.und27, sizeOf, typeInfo]
  simp only [binOp]
  simp [Op.equal, Op.maxDepth, h 9999]

/-- Two numbers compare as one. -/
structure CmpOk (b c : Nat) (w : World) : Prop where
  out : Calls Try.prog 10 #[.pointer (some ⟨b, 0, none⟩), .pointer (some ⟨c, 0, none⟩)] w fun e w' => e = .returned (.int .i64 0) ∧ Calm w w'

/-- All that the last statement reads. -/
structure FinOk (g1 g2 bG1 bG2 bR1 bR2 S : Nat) (w : World) : Prop where
  c10 : w.cell? ⟨g1, 0, none⟩ = some (.pointer (some ⟨bG1, 0, none⟩))
  c11 : w.cell? ⟨g1, 1, none⟩ = some (.pointer (some ⟨bR1, 0, none⟩))
  c20 : w.cell? ⟨g2, 0, none⟩ = some (.pointer (some ⟨bG2, 0, none⟩))
  c21 : w.cell? ⟨g2, 1, none⟩ = some (.pointer (some ⟨bR2, 0, none⟩))
  big : ∃ zG zR o1 o2 o3 o4 o5, BigAt w bG1 zG o1 ∧ BigAt w bG2 zG o2 ∧ BigAt w bR1 zR o3 ∧ BigAt w bR2 zR o4 ∧ BigAt w S zR o5
  n1 : bG1 ≠ bG2
  n2 : bR1 ≠ bR2
  n3 : bR1 ≠ S
theorem BigAt.calm {w w' : World} {b : Nat} {z : Int} {o : Option (Nat × Nat)} (h : BigAt w b z o) (hc : Calm w w') : BigAt w' b z o := h.kept (fun k _ => by rw [hc.heap])
theorem FinOk.calm {g1 g2 bG1 bG2 bR1 bR2 S : Nat} {w w' : World} (h : FinOk g1 g2 bG1 bG2 bR1 bR2 S w) (hc : Calm w w') : FinOk g1 g2 bG1 bG2 bR1 bR2 S w' := by
  obtain ⟨a1, a2, a3, a4, ⟨zG, zR, o1, o2, o3, o4, o5, b1, b2, b3, b4, b5⟩, n1, n2, n3⟩ := h
  exact ⟨calm_cell hc a1, calm_cell hc a2, calm_cell hc a3, calm_cell hc a4, ⟨zG, zR, o1, o2, o3, o4, o5, b1.calm hc, b2.calm hc, b3.calm hc, b4.calm hc, b5.calm hc⟩, n1, n2, n3⟩
theorem FinOk.cmp {g1 g2 bG1 bG2 bR1 bR2 S : Nat} {w : World} (h : FinOk g1 g2 bG1 bG2 bR1 bR2 S w) : CmpOk bG1 bG2 w ∧ CmpOk bR1 bR2 w ∧ CmpOk bR1 S w := by
  obtain ⟨a1, a2, a3, a4, ⟨zG, zR, o1, o2, o3, o4, o5, b1, b2, b3, b4, b5⟩, n1, n2, n3⟩ := h
  exact ⟨⟨bigCmp_eq _ _ _ _ _ w b1 b2 n1⟩, ⟨bigCmp_eq _ _ _ _ _ w b3 b4 n2⟩, ⟨bigCmp_eq _ _ _ _ _ w b3 b5 n3⟩⟩

/-- The sum of the reserves: the big.Int S, made at world W, after i rows. -/
def SumAt (W : World) (rs : List Row) (i : Nat) (wr : World) : Prop := Below W.heap.size W wr ∧ ∃ o, BigAt wr W.heap.size (rtot (rs.take i)) o ∧ ∀ k, SB W.heap.size o k → W.heap.size ≤ k
theorem SumAt.start (W : World) (rs : List Row) : SumAt W rs 0 (W.alloc (.cells #[.bool false, .slice none 0 0] 38)) :=
  ⟨(Below.refl _ _).alloc (Nat.le_refl _) _, none, BigAt.zero_alloc W, fun k q => q.elim (fun q => Nat.le_of_eq q.symm) (fun ⟨_, q⟩ => by cases q)⟩
theorem SumAt.calm {W w w' : World} {rs : List Row} {i : Nat} (h : SumAt W rs i w) (hc : Calm w w') : SumAt W rs i w' := let ⟨h1, o, h2, h3⟩ := h; ⟨below_calm h1 hc, o, h2.calm hc, h3⟩
theorem SumAt.add {W wr : World} {rs : List Row} {i : Nat} {x : Row} (h : SumAt W rs i wr) (hx : rs[i]? = some x) (hl : rs.length ≤ 4096) (hF : Fits rs) (e1 : Ending) (w1 : World) (hn : GivesNew wr w1 x.r e1) :
    ∃ c, e1 = .returned (.pointer (some ⟨c, 0, none⟩)) ∧ Calls Try.prog 8 #[.pointer (some ⟨W.heap.size, 0, none⟩), .pointer (some ⟨W.heap.size, 0, none⟩), .pointer (some ⟨c, 0, none⟩)] w1 fun e w' => e = .returned (.pointer (some ⟨W.heap.size, 0, none⟩)) ∧ SumAt W rs (i + 1) w' := by
  obtain ⟨hb, o, hs, ho⟩ := h
  obtain ⟨c, oc, he, hc, hc1, hc2, hon⟩ := hn
  refine ⟨c, he, ?_⟩
  have hb1 : Below wr.heap.size wr w1 := ⟨hon.os, hon.tape, hon.output, hon.size, fun k hk => hon.block k hk (fun q => q)⟩
  have hq := hF x (List.mem_of_getElem? hx)
  refine Calls.mono (intAdd_any _ c _ x.r _ oc w1 (hs.below hb1) hc (fun k q r => ?_) (small_r rs i hF hl) (by omega)) (fun e w' q => ⟨q.1, ?_⟩)
  · have h1 := hs.lt q
    have h2 : wr.heap.size ≤ k := r.elim (fun r => by omega) (fun ⟨cap, r⟩ => hc2 k cap r)
    omega
  · rw [← rtot_next rs i x hx] at q
    obtain ⟨o', r1, r2, r3⟩ := q.2
    have hbw := hb.trans (hb1.mono hb.size)
    refine ⟨hbw.trans ⟨r2.os, r2.tape, r2.output, r2.size, fun k hk => r2.block k (Nat.lt_of_lt_of_le hk hbw.size) (fun q => by have := ho k q; omega)⟩, o', r1, fun k q => ?_⟩
    rcases q with q | ⟨cap, q⟩
    · omega
    · rcases r3 with e | ⟨g, c', e, hg⟩
      · rw [e] at q; exact ho k (.inr ⟨cap, q⟩)
      · rw [e] at q
        simp at q
        have := hbw.size
        omega
end Go.Proofs.Qxb6616546a
