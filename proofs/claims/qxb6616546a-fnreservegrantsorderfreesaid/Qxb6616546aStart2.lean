/-
  reserveGrants between the loops, and at its end.
-/
import Derived.Test.Qxb6616546aLoop2
namespace Go.Proofs.Qxb6616546a
open Go.RowKit
set_option linter.unusedVariables false

theorem Try.info2 : (Try.prog.info? 2).map (fun i => (i.zero, i.size, i.bytes)) = some (some (.int .i64 0), 1, 8) := by kernel_rfl
theorem Try.und26 : Try.prog.underlying 26 = some (.slice 2) := by kernel_rfl
def zerosI (n : Nat) : Array Value := ((List.replicate n (0 : Int)).map (Value.int .i64)).toArray
theorem makeH (w : World) (n : Nat) (hn : n ≤ 4096) : (Instr.makeSlice 26 (.int .i64 (n : Int)) (.int .i64 (n : Int))).run Try.prog w = .ok (.slice (some ⟨w.heap.size, 0, none⟩) n n) (w.alloc (.cells (zerosI n) 2)) := by
  obtain ⟨i, hi, hz, hs, hb⟩ := info_parts Try.info2
  have h := run_make (P := Try.prog) w 26 2 i (.int .i64 0) Try.und26 hi hz .i64 .i64 (n : Int) (n : Int) (by omega) (by omega) (by rw [hb]; omega) (by omega)
  have e : madeCells (Value.int .i64 0).cells n = zerosI n := by
    apply Array.ext'
    have : (Value.int .i64 0).cells = #[Value.int .i64 0] := rfl
    rw [this, toList_madeCells_one]
    unfold zerosI
    simp
  rw [hs, Nat.mul_one] at h
  simp only [Int.toNat_natCast, e] at h
  exact h

theorem neqP57_nil (w : World) : (binOp .neq 57 (.pointer none) (.pointer none)).run Try.prog w = .ok (.bool false) w := by
  have hp : Try.prog.underlying 57 = some (.pointer 9) := by kernel_rfl
  have h : ∀ d : Nat, (Op.equalIn (d + 1) 57 (.pointer none) (.pointer none)).run Try.prog w = .ok true w := fun d => by
    simp [Op.equalIn, run_underlying hp, sizeOf, typeInfo]
  simp only [binOp]
  simp [Op.equal, Op.maxDepth, h 9999]
theorem neqP57_some (p : Addr) (w : World) : (binOp .neq 57 (.pointer (some p)) (.pointer none)).run Try.prog w = .ok (.bool true) w := by
  have hp : Try.prog.underlying 57 = some (.pointer 9) := by kernel_rfl
  have h : ∀ d : Nat, (Op.equalIn (d + 1) 57 (.pointer (some p)) (.pointer none)).run Try.prog w = .ok false w := fun d => by
    simp [Op.equalIn, run_underlying hp, sizeOf, typeInfo]
  simp only [binOp]
  simp [Op.equal, Op.maxDepth, h 9999]

abbrev big0 : Obj := .cells #[.bool false, .slice none 0 0] 38
def ptr (b : Nat) : Value := .pointer (some ⟨b, 0, none⟩)

theorem sb_none {b k : Nat} (h : SB b none k) : k = b := h.elim id (fun ⟨_, q⟩ => by cases q)

/-- The world at the head of the second loop. -/
def W6 (wl : World) (n : Nat) : World :=
  (((((wl.alloc (.cells (zerosI n) 2)).alloc (.cells #[.bool false, .slice none 0 0] 38)).alloc (.cells #[.bool false, .slice none 0 0] 38)).alloc (.cells #[] 9)).alloc
    (.cells #[.pointer (some ⟨wl.heap.size + 1, 0, none⟩), .pointer (some ⟨wl.heap.size + 1 + 1, 0, none⟩), .slice (some ⟨wl.heap.size + 1 + 1 + 1, 0, none⟩) 0 0] 30)).alloc (.cells #[.bool false, .slice none 0 0] 38)

theorem V2.start {w0 wl : World} {M rb : Nat} {rs : List Row} (L : Lp1 w0 M rs rs.length wl) (hres : wl.heap[rb]? = some (.cells #[.pointer none, .pointer none, .slice none 0 0] 30 (0, 0))) :
    ∃ bv : Ix → Nat, bv .G = wl.heap.size + 1 ∧ bv .R = wl.heap.size + 1 + 1 ∧ bv .L = wl.heap.size + 1 + 1 + 1 + 1 + 1 ∧ V2 w0 M (wl.heap.size + 1 + 1 + 1 + 1) wl.heap.size rb rs bv 0 0 0 (.slice (some ⟨wl.heap.size + 1 + 1 + 1, 0, none⟩) 0 0) [] (List.replicate rs.length 0) (W6 wl rs.length) ∧ Below wl.heap.size wl (W6 wl rs.length) := by
  obtain ⟨bv, ov, val, h1, h2⟩ := L
  rw [List.take_length] at h1 h2
  have rbl : rb < wl.heap.size := (Array.getElem?_eq_some_iff.1 hres).1
  have hB := h1.size
  generalize hw1 : wl.alloc (.cells (zerosI rs.length) 2) = w1
  have s1 : w1.heap.size = wl.heap.size + 1 := by rw [← hw1]; simp
  have b1 : Below wl.heap.size wl w1 := by rw [← hw1]; exact (Below.refl _ _).alloc (Nat.le_refl _) _
  have n1 : w1.heap[wl.heap.size]? = some (.cells (zerosI rs.length) 2 (0, 0)) := by rw [← hw1]; exact heap_alloc_new wl _
  have t1 := h1.grow b1
  generalize hw2 : w1.alloc (.cells #[.bool false, .slice none 0 0] 38) = w2
  have s2 : w2.heap.size = wl.heap.size + 1 + 1 := by rw [← hw2]; simp [s1]
  have b2 : Below w1.heap.size w1 w2 := by rw [← hw2]; exact (Below.refl _ _).alloc (Nat.le_refl _) _
  have g2 : BigAt w2 w1.heap.size 0 none := by rw [← hw2]; exact BigAt.zero_alloc w1
  have t2 := t1.add .G (fun ⟨y, q, _⟩ => by cases q) (fun y q => by cases q) b2 g2 (fun k q => by rw [sb_none q]; exact Nat.le_refl _)
  generalize hw3 : w2.alloc (.cells #[.bool false, .slice none 0 0] 38) = w3
  have s3 : w3.heap.size = wl.heap.size + 1 + 1 + 1 := by rw [← hw3]; simp [s2]
  have b3 : Below w2.heap.size w2 w3 := by rw [← hw3]; exact (Below.refl _ _).alloc (Nat.le_refl _) _
  have g3 : BigAt w3 w2.heap.size 0 none := by rw [← hw3]; exact BigAt.zero_alloc w2
  have t3 := t2.add .R (fun q => q.elim (fun ⟨y, q, _⟩ => by cases q) (fun q => by cases q)) (fun y q => by cases q) b3 g3 (fun k q => by rw [sb_none q]; exact Nat.le_refl _)
  generalize hw4 : w3.alloc (.cells #[] 9) = w4
  have s4 : w4.heap.size = wl.heap.size + 1 + 1 + 1 + 1 := by rw [← hw4]; simp [s3]
  have b4 : Below w3.heap.size w3 w4 := by rw [← hw4]; exact (Below.refl _ _).alloc (Nat.le_refl _) _
  have n4 : w4.heap[wl.heap.size + 1 + 1 + 1]? = some (.cells #[] 9 (0, 0)) := by rw [← hw4, ← s3]; exact heap_alloc_new w3 _
  have t4 := t3.grow b4
  generalize hw5 : w4.alloc (.cells #[.pointer (some ⟨wl.heap.size + 1, 0, none⟩), .pointer (some ⟨wl.heap.size + 1 + 1, 0, none⟩), .slice (some ⟨wl.heap.size + 1 + 1 + 1, 0, none⟩) 0 0] 30) = w5
  have s5 : w5.heap.size = wl.heap.size + 1 + 1 + 1 + 1 + 1 := by rw [← hw5]; simp [s4]
  have b5 : Below w4.heap.size w4 w5 := by rw [← hw5]; exact (Below.refl _ _).alloc (Nat.le_refl _) _
  have n5 : w5.heap[wl.heap.size + 1 + 1 + 1 + 1]? = some (.cells #[.pointer (some ⟨wl.heap.size + 1, 0, none⟩), .pointer (some ⟨wl.heap.size + 1 + 1, 0, none⟩), .slice (some ⟨wl.heap.size + 1 + 1 + 1, 0, none⟩) 0 0] 30 (0, 0)) := by rw [← hw5, ← s4]; exact heap_alloc_new w4 _
  have t5 := t4.grow b5
  have e6 : W6 wl rs.length = w5.alloc (.cells #[.bool false, .slice none 0 0] 38) := by unfold W6; rw [hw1, hw2, hw3, hw4, hw5]
  rw [e6]
  generalize hw6 : w5.alloc (.cells #[.bool false, .slice none 0 0] 38) = w6
  have b6 : Below w5.heap.size w5 w6 := by rw [← hw6]; exact (Below.refl _ _).alloc (Nat.le_refl _) _
  have g6 : BigAt w6 w5.heap.size 0 none := by rw [← hw6]; exact BigAt.zero_alloc w5
  have t6 := t5.add .L (fun q => q.elim (fun q => q.elim (fun ⟨y, q, _⟩ => by cases q) (fun q => by cases q)) (fun q => by cases q)) (fun y q => by cases q) b6 g6 (fun k q => by rw [sb_none q]; exact Nat.le_refl _)
  have B12 : Below wl.heap.size wl w2 := b1.trans (b2.mono (by omega))
  have B13 : Below wl.heap.size wl w3 := B12.trans (b3.mono (by omega))
  have B14 : Below wl.heap.size wl w4 := B13.trans (b4.mono (by omega))
  have B15 : Below wl.heap.size wl w5 := B14.trans (b5.mono (by omega))
  have B16 : Below wl.heap.size wl w6 := B15.trans (b6.mono (by omega))
  refine ⟨_, ?_, ?_, ?_, ⟨_, _, ⟨t6.congr (fun y => Iff.rfl) (fun i => ?_), fun y hy => ?_, ?_, ?_, ?_, ?_, ?_, ?_, ?_⟩, ?_, ?_, ?_⟩, B16⟩
  · rw [updX_other _ _ (fun q => by cases q), updX_other _ _ (fun q => by cases q), updX_same, s1]
  · rw [updX_other _ _ (fun q => by cases q), updX_same, s2]
  · rw [updX_same, s5]
  · cases i with
    | k y => exact ⟨fun q => q.elim (fun q => q.elim (fun q => q.elim (fun ⟨z, q, r⟩ => by injection q with q; subst q; exact r) (fun q => by cases q)) (fun q => by cases q)) (fun q => by cases q), fun q => .inl (.inl (.inl ⟨y, rfl, q⟩))⟩
    | G => exact ⟨fun _ => trivial, fun _ => .inl (.inl (.inr rfl))⟩
    | R => exact ⟨fun _ => trivial, fun _ => .inl (.inr rfl)⟩
    | L => exact ⟨fun _ => trivial, fun _ => .inr rfl⟩
  · rw [updX_other _ _ (fun q => by cases q), updX_other _ _ (fun q => by cases q), updX_other _ _ (fun q => by cases q)]
    exact h2 y hy
  · rw [updX_other _ _ (fun q => by cases q), updX_other _ _ (fun q => by cases q), updX_same, s1, updX_other _ _ (fun q => by cases q), updX_same, s2, b6.block _ (by omega)]
    exact n5
  · rw [b6.block _ (by omega), b5.block _ (by omega), b4.block _ (by omega), b3.block _ (by omega), b2.block _ (by omega)]
    exact n1
  · rw [B16.block _ rbl]; exact hres
  · refine ⟨rfl, .inr ⟨_, 0, #[], rfl, by omega, ?_, Nat.le_refl _, by decide, rfl, rfl⟩⟩
    rw [b6.block _ (by omega), b5.block _ (by omega)]
    exact n4
  · omega
  · exact hB
  · omega
  · rw [updX_other _ _ (fun q => by cases q), updX_other _ _ (fun q => by cases q), updX_same]
  · rw [updX_other _ _ (fun q => by cases q), updX_same]
  · rw [updX_same]
end Go.Proofs.Qxb6616546a
