/-
  reserveGrants, the second loop's state.
-/
import Derived.Test.Qxb6616546aLoop1
namespace Go.Proofs.Qxb6616546a
open Go.RowKit
set_option linter.unusedVariables false

def KA (rs : List Row) : Ix → Prop
  | .k y => InK rs y
  | _ => True

structure St2 (w0 w : World) (M gb hb rb : Nat) (rs : List Row) (bv : Ix → Nat) (ov : Ix → Option (Nat × Nat)) (val : Ix → Int) (hv : Value) (ss : List ByteArray) (hs : List Int) : Prop where
  sta : Sta w0 w M rs.length (InK rs) (KA rs) bv ov val
  sums : ∀ y, InK rs y → val (.k y) = gsum y rs
  blk : w.heap[gb]? = some (.cells #[.pointer (some ⟨bv .G, 0, none⟩), .pointer (some ⟨bv .R, 0, none⟩), hv] 30 (0, 0))
  row : w.heap[hb]? = some (.cells (hs.map (Value.int .i64)).toArray 2 (0, 0))
  res : w.heap[rb]? = some (.cells #[.pointer none, .pointer none, .slice none 0 0] 30 (0, 0))
  over : w.ownsRow w0.heap.size 9 1 hv ss.length (ss.map Value.string)
  gB : w0.heap.size ≤ gb
  hB : w0.heap.size ≤ hb
  ne : gb ≠ rb

/-- What holds in the second loop, by the values alone. -/
def V2 (w0 : World) (M gb hb rb : Nat) (rs : List Row) (bv : Ix → Nat) (zG zR zL : Int) (hv : Value) (ss : List ByteArray) (hs : List Int) (w : World) : Prop :=
  ∃ ov val, St2 w0 w M gb hb rb rs bv ov val hv ss hs ∧ val .G = zG ∧ val .R = zR ∧ val .L = zL

theorem ownsRow_same {w w' : World} {B : Nat} {e : TypeId} {v : Value} {n : Nat} {xs : List Value} (h : w.ownsRow B e 1 v n xs) (hk : ∀ (k : Nat) (c : Array Value), w.heap[k]? = some (.cells c e (0, 0)) → w'.heap[k]? = some (.cells c e (0, 0))) : w'.ownsRow B e 1 v n xs := by
  refine ⟨h.1, ?_⟩
  rcases h.2 with q | ⟨g, cap, cur, q1, q2, q3, q4⟩
  · exact .inl q
  · exact .inr ⟨g, cap, cur, q1, q2, hk _ _ q3, q4⟩

section
variable {w0 w w' : World} {M gb hb rb : Nat} {rs : List Row} {bv : Ix → Nat} {ov : Ix → Option (Nat × Nat)} {val : Ix → Int} {zG zR zL : Int} {hv : Value} {ss : List ByteArray} {hs : List Int}

theorem St2.set (h : St2 w0 w M gb hb rb rs bv ov val hv ss hs) (i : Ix) (hi : KA rs i) (hy : ∀ y, i ≠ .k y) {z : Int} (hr : BRes w w' (bv i) z (ov i)) : ∃ o', St2 w0 w' M gb hb rb rs bv (updX ov i o') (updX val i z) hv ss hs := by
  obtain ⟨o', hs'⟩ := h.sta.set i hi hr
  have hbig := h.sta.fam.big i hi
  refine ⟨o', hs', fun y q => ?_, hr.plain hbig h.blk (notBig_cells (by decide) (by decide)), hr.plain hbig h.row (notBig_cells (by decide) (by decide)), hr.plain hbig h.res (notBig_cells (by decide) (by decide)), ownsRow_same h.over (fun k c q => hr.plain hbig q (notBig_cells (by decide) (by decide))), h.gB, h.hB, h.ne⟩
  rw [updX_other _ _ (Ne.symm (hy y))]
  exact h.sums y q

theorem V2.setL (h : V2 w0 M gb hb rb rs bv zG zR zL hv ss hs w) (x : Int) (h0 : -9223372036854775808 ≤ x) (h1 : x ≤ 9223372036854775807) :
    Calls Try.prog 22 #[.pointer (some ⟨bv .L, 0, none⟩), .int .i64 x] w fun e w' => e = .returned (.pointer (some ⟨bv .L, 0, none⟩)) ∧ V2 w0 M gb hb rb rs bv zG zR x hv ss hs w' := by
  obtain ⟨ov, val, h, rfl, rfl, rfl⟩ := h
  refine Calls.mono (setInt64_any _ _ x _ w (h.sta.fam.big .L trivial) h0 h1) (fun e w' q => ⟨q.1, ?_⟩)
  obtain ⟨o', hs'⟩ := h.set .L trivial (fun y q => by cases q) q.2
  exact ⟨_, _, hs', updX_other _ _ (fun q => by cases q), updX_other _ _ (fun q => by cases q), updX_same _ _ _⟩

theorem V2.addR (h : V2 w0 M gb hb rb rs bv zG zR zL hv ss hs w) (h0 : zR.natAbs < 85070591730234615865843651857942052864) (h1 : zL.natAbs < 85070591730234615865843651857942052864) :
    Calls Try.prog 8 #[.pointer (some ⟨bv .R, 0, none⟩), .pointer (some ⟨bv .R, 0, none⟩), .pointer (some ⟨bv .L, 0, none⟩)] w fun e w' => e = .returned (.pointer (some ⟨bv .R, 0, none⟩)) ∧ V2 w0 M gb hb rb rs bv zG (zR + zL) zL hv ss hs w' := by
  obtain ⟨ov, val, h, rfl, rfl, rfl⟩ := h
  refine Calls.mono (intAdd_any _ _ _ _ _ _ w (h.sta.fam.big .R trivial) (h.sta.fam.big .L trivial) (h.sta.fam.apart .R .L trivial trivial (fun q => by cases q)) h0 h1) (fun e w' q => ⟨q.1, ?_⟩)
  obtain ⟨o', hs'⟩ := h.set .R trivial (fun y q => by cases q) q.2
  exact ⟨_, _, hs', updX_other _ _ (fun q => by cases q), updX_same _ _ _, updX_other _ _ (fun q => by cases q)⟩

theorem V2.addG (h : V2 w0 M gb hb rb rs bv zG zR zL hv ss hs w) (y : ByteArray) (hy : InK rs y) (h0 : zG.natAbs < 85070591730234615865843651857942052864) (h1 : (gsum y rs).natAbs < 85070591730234615865843651857942052864) :
    Calls Try.prog 8 #[.pointer (some ⟨bv .G, 0, none⟩), .pointer (some ⟨bv .G, 0, none⟩), .pointer (some ⟨bv (.k y), 0, none⟩)] w fun e w' => e = .returned (.pointer (some ⟨bv .G, 0, none⟩)) ∧ V2 w0 M gb hb rb rs bv (zG + gsum y rs) zR zL hv ss hs w' := by
  obtain ⟨ov, val, h, rfl, rfl, rfl⟩ := h
  have hv2 := h.sums y hy
  rw [← hv2] at h1 ⊢
  refine Calls.mono (intAdd_any _ _ _ _ _ _ w (h.sta.fam.big .G trivial) (h.sta.fam.big (.k y) hy) (h.sta.fam.apart .G (.k y) trivial hy (fun q => by cases q)) h0 h1) (fun e w' q => ⟨q.1, ?_⟩)
  obtain ⟨o', hs'⟩ := h.set .G trivial (fun y q => by cases q) q.2
  exact ⟨_, _, hs', updX_same _ _ _, updX_other _ _ (fun q => by cases q), updX_other _ _ (fun q => by cases q)⟩

theorem V2.subL (h : V2 w0 M gb hb rb rs bv zG zR zL hv ss hs w) (y : ByteArray) (hy : InK rs y) (h0 : zL.natAbs < 85070591730234615865843651857942052864) (h1 : (gsum y rs).natAbs < 85070591730234615865843651857942052864) :
    Calls Try.prog 23 #[.pointer (some ⟨bv .L, 0, none⟩), .pointer (some ⟨bv .L, 0, none⟩), .pointer (some ⟨bv (.k y), 0, none⟩)] w fun e w' => e = .returned (.pointer (some ⟨bv .L, 0, none⟩)) ∧ V2 w0 M gb hb rb rs bv zG zR (zL - gsum y rs) hv ss hs w' := by
  obtain ⟨ov, val, h, rfl, rfl, rfl⟩ := h
  have hv2 := h.sums y hy
  rw [← hv2] at h1 ⊢
  refine Calls.mono (intSub_any _ _ _ _ _ _ w (h.sta.fam.big .L trivial) (h.sta.fam.big (.k y) hy) (h.sta.fam.apart .L (.k y) trivial hy (fun q => by cases q)) h0 h1) (fun e w' q => ⟨q.1, ?_⟩)
  obtain ⟨o', hs'⟩ := h.set .L trivial (fun y q => by cases q) q.2
  exact ⟨_, _, hs', updX_other _ _ (fun q => by cases q), updX_other _ _ (fun q => by cases q), updX_same _ _ _⟩

theorem V2.sign (h : V2 w0 M gb hb rb rs bv zG zR zL hv ss hs w) : Calls Try.prog 24 #[.pointer (some ⟨bv .L, 0, none⟩)] w fun e w' => e = .returned (.int .i64 (sgn zL)) ∧ w = w' := by
  obtain ⟨ov, val, h, rfl, rfl, rfl⟩ := h
  exact sign_any _ _ _ w (h.sta.fam.big .L trivial)
theorem V2.int64 (h : V2 w0 M gb hb rb rs bv zG zR zL hv ss hs w) (hz : 0 < zL) : Calls Try.prog 25 #[.pointer (some ⟨bv .L, 0, none⟩)] w fun e w' => e = .returned (.int .i64 (wrap64 zL)) ∧ w = w' := by
  obtain ⟨ov, val, h, rfl, rfl, rfl⟩ := h
  exact int64_pos _ _ _ w (h.sta.fam.big .L trivial) hz
theorem V2.look (h : V2 w0 M gb hb rb rs bv zG zR zL hv ss hs w) (y : ByteArray) (hy : y.size ≤ 9223372036854775807) :
    (Instr.lookup 73 (.map (some M)) (.string y) true).run Try.prog w = .ok (.tuple #[pvOf (InK rs) bv y, .bool (dec (InK rs y))]) w := by
  obtain ⟨ov, val, h, rfl, rfl, rfl⟩ := h
  exact h.sta.look y hy
theorem V2.below (h : V2 w0 M gb hb rb rs bv zG zR zL hv ss hs w) : Below w0.heap.size w0 w := by
  obtain ⟨ov, val, h, rfl, rfl, rfl⟩ := h
  exact h.sta.below
theorem V2.cells (h : V2 w0 M gb hb rb rs bv zG zR zL hv ss hs w) : w.cell? ⟨gb, 0, none⟩ = some (.pointer (some ⟨bv .G, 0, none⟩)) ∧ w.cell? ⟨gb, 1, none⟩ = some (.pointer (some ⟨bv .R, 0, none⟩)) ∧ w.cell? ⟨gb, 2, none⟩ = some hv ∧ ∀ j, w.frozen? ⟨gb, j, none⟩ = false := by
  obtain ⟨ov, val, h, rfl, rfl, rfl⟩ := h
  refine ⟨?_, ?_, ?_, fun j => by simp [World.frozen?, h.blk]⟩ <;> (rw [cell_of_row _ _ _ _ _ _ h.blk]; rfl)
theorem V2.hrow (h : V2 w0 M gb hb rb rs bv zG zR zL hv ss hs w) (i : Nat) (hi : i < hs.length) : (∃ v, w.cell? ⟨hb, i, none⟩ = some v) ∧ w.frozen? ⟨hb, i, none⟩ = false := by
  obtain ⟨ov, val, h, rfl, rfl, rfl⟩ := h
  refine ⟨⟨.int .i64 hs[i], ?_⟩, by simp [World.frozen?, h.row]⟩
  rw [cell_of_row _ _ _ _ _ _ h.row]
  simp [hi]
theorem V2.gbase (h : V2 w0 M gb hb rb rs bv zG zR zL hv ss hs w) : w0.heap.size ≤ gb ∧ gb < w.heap.size ∧ w0.heap.size ≤ w.heap.size := by
  obtain ⟨ov, val, h, rfl, rfl, rfl⟩ := h
  exact ⟨h.gB, (Array.getElem?_eq_some_iff.1 h.blk).1, h.sta.size⟩
theorem V2.over (h : V2 w0 M gb hb rb rs bv zG zR zL hv ss hs w) : w.ownsRow w0.heap.size 9 1 hv ss.length (ss.map Value.string) := by
  obtain ⟨ov, val, h, rfl, rfl, rfl⟩ := h
  exact h.over

/-- Kept while blocks of other kinds are made or one cell row of kind 9 or 2 or 30 is written. -/
theorem St2.keep (h : St2 w0 w M gb hb rb rs bv ov val hv ss hs) {hv' : Value} {ss' : List ByteArray} {hs' : List Int} (hb' : Below w0.heap.size w w') (hbig : ∀ (k : Nat) (ob : Obj), w.heap[k]? = some ob → IsBig ob → w'.heap[k]? = some ob) (hm : ∀ (k : Nat) es ck, w.heap[k]? = some (.map es ck) → w'.heap[k]? = some (.map es ck))
    (h1 : w'.heap[gb]? = some (.cells #[.pointer (some ⟨bv .G, 0, none⟩), .pointer (some ⟨bv .R, 0, none⟩), hv'] 30 (0, 0))) (h2 : w'.heap[hb]? = some (.cells (hs'.map (Value.int .i64)).toArray 2 (0, 0))) (h3 : w'.heap[rb]? = some (.cells #[.pointer none, .pointer none, .slice none 0 0] 30 (0, 0)))
    (h4 : w'.ownsRow w0.heap.size 9 1 hv' ss'.length (ss'.map Value.string)) : St2 w0 w' M gb hb rb rs bv ov val hv' ss' hs' := by
  refine ⟨h.sta.kept hb' hbig ?_, h.sums, h1, h2, h3, h4, h.gB, h.hB, h.ne⟩
  obtain ⟨es, ck, e⟩ := h.sta.mapBlk
  rw [hm _ _ _ e, e]

/-- 'heldBack[i] = v'. -/
theorem V2.hold (h : V2 w0 M gb hb rb rs bv zG zR zL hv ss hs w) (i : Nat) (v : Int) : V2 w0 M gb hb rb rs bv zG zR zL hv ss (hs.set i v) (w.setCell ⟨hb, i, none⟩ (.int .i64 v)) := by
  obtain ⟨ov, val, h, rfl, rfl, rfl⟩ := h
  have hoth : ∀ (k : Nat) (ob : Obj), w.heap[k]? = some ob → (∀ c fr, ob ≠ .cells c 2 fr) → (w.setCell ⟨hb, i, none⟩ (.int .i64 v)).heap[k]? = some ob := fun k ob e hn => by
    rw [Below.heap_setCell _ _ _ _ (fun q => ?_), e]
    subst q
    rw [h.row] at e
    cases e
    exact hn _ _ rfl
  refine ⟨ov, val, h.keep ((Below.refl _ _).setCell h.hB _) (fun k ob e hb => hoth k ob e (fun c fr q => ?_)) (fun k es ck e => hoth k _ e (fun c fr q => by cases q)) (hoth _ _ h.blk (fun c fr q => by cases q)) ?_ (hoth _ _ h.res (fun c fr q => by cases q)) (ownsRow_same h.over (fun k c e => hoth k _ e (fun c fr q => by cases q))), rfl, rfl, rfl⟩
  · subst q
    exact notBig_cells (by decide) (by decide) hb
  · rw [row_store h.row, List.map_set]

/-- 'g.Over = append(g.Over, name)': behind the append, the store. -/
theorem V2.push (h : V2 w0 M gb hb rb rs bv zG zR zL hv ss hs w) {w1 w3 : World} (nm : ByteArray) (hv' : Value) (hb1 : Below w.heap.size w w1) (hg : w1.grownBy w3 hv.ownBlock) (ho : w3.ownsRow w0.heap.size 9 1 hv' (ss.length + 1) (ss.map Value.string ++ [.string nm])) :
    V2 w0 M gb hb rb rs bv zG zR zL hv' (ss ++ [nm]) hs (w3.setCell ⟨gb, 2, none⟩ hv') ∧ (∃ v, w3.cell? ⟨gb, 2, none⟩ = some v) ∧ w3.frozen? ⟨gb, 2, none⟩ = false := by
  obtain ⟨ov, val, h, rfl, rfl, rfl⟩ := h
  have hown : ∀ k, hv.ownBlock = some k → w0.heap.size ≤ k ∧ ∃ c, w.heap[k]? = some (.cells c 9 (0, 0)) := fun k hk => by
    rcases h.over.2 with ⟨q, _⟩ | ⟨g, cap, cur, q1, q2, q3, q4⟩
    · rw [q] at hk; cases hk
    · rw [q1] at hk; cases hk; exact ⟨q2, _, q3⟩
  have hoth : ∀ (k : Nat) (ob : Obj), w.heap[k]? = some ob → (∀ c fr, ob ≠ .cells c 9 fr) → w3.heap[k]? = some ob := fun k ob e hn => by
    have hk := (Array.getElem?_eq_some_iff.1 e).1
    rw [hg.block k (Nat.lt_of_lt_of_le hk hb1.size) (fun q => ?_), hb1.block k hk, e]
    obtain ⟨_, c, q2⟩ := hown k q.symm
    rw [e] at q2
    cases q2
    exact hn _ _ rfl
  have hg3 := hoth _ _ h.blk (fun c fr q => by cases q)
  have hoth2 : ∀ (k : Nat) (ob : Obj), w3.heap[k]? = some ob → k ≠ gb → (w3.setCell ⟨gb, 2, none⟩ hv').heap[k]? = some ob := fun k ob e hn => by
    rw [Below.heap_setCell _ _ _ _ hn, e]
  have hne : ∀ (k : Nat) (ob : Obj), w.heap[k]? = some ob → (∀ c fr, ob ≠ .cells c 30 fr) → k ≠ gb := fun k ob e hn q => by
    subst q
    rw [h.blk] at e
    cases e
    exact hn _ _ rfl
  have hlt : w0.heap.size ≤ w.heap.size := h.sta.size
  refine ⟨⟨ov, val, h.keep ?_ (fun k ob e hb => ?_) (fun k es ck e => hoth2 k _ (hoth k _ e (fun c fr q => by cases q)) (hne k _ e (fun c fr q => by cases q))) ?_ (hoth2 _ _ (hoth _ _ h.row (fun c fr q => by cases q)) (hne _ _ h.row (fun c fr q => by cases q))) (hoth2 _ _ (hoth _ _ h.res (fun c fr q => by cases q)) (Ne.symm h.ne)) ?_, rfl, rfl, rfl⟩, ⟨hv, ?_⟩, ?_⟩
  · exact (((hb1.mono hlt).grown hg (Nat.le_trans hlt hb1.size) (fun k q => (hown k q).1))).setCell h.gB _
  · refine hoth2 k ob (hoth k ob e (fun c fr q => ?_)) (hne k ob e (fun c fr q => ?_)) <;> (subst q; exact notBig_cells (by decide) (by decide) hb)
  · rw [heap_setCell_row hg3]
    rfl
  · rw [List.length_append, List.map_append]
    refine ownsRow_same ho (fun k c e => hoth2 k _ e (fun q => ?_))
    subst q
    rw [hg3] at e
    cases e
  · rw [cell_of_row _ _ _ _ _ _ hg3]; rfl
  · simp [World.frozen?, hg3]
end
end Go.Proofs.Qxb6616546a
