import Derived.Test.Qxb6617632aSmall
import Derived.Deep.RegionHeld3
namespace Go.Proofs.Qxb6617632a
open Go.RowKit

/-- The strings of the first k of five lists, end to end. -/
def cat (k : Nat) (s0 s1 s2 s3 s4 : List ByteArray) : List ByteArray := match k with
  | 0 => [] | 1 => s0 | 2 => s0 ++ s1 | 3 => s0 ++ s1 ++ s2 | 4 => s0 ++ s1 ++ s2 ++ s3 | _ => s0 ++ s1 ++ s2 ++ s3 ++ s4

theorem cat_succ (k : Nat) (hk : k ≤ 4) (s0 s1 s2 s3 s4 : List ByteArray) : cat (k + 1) s0 s1 s2 s3 s4 = cat k s0 s1 s2 s3 s4 ++ stg k s0 s1 s2 s3 s4 := by
  rcases (show k = 0 ∨ k = 1 ∨ k = 2 ∨ k = 3 ∨ k = 4 from by omega) with rfl | rfl | rfl | rfl | rfl <;> simp [cat, stg]

theorem cat_length (k : Nat) (s0 s1 s2 s3 s4 : List ByteArray) : (cat k s0 s1 s2 s3 s4).length = cnt k s0 s1 s2 s3 s4 := by
  unfold cat cnt
  split <;> simp [Nat.add_assoc]

theorem cnt_le (k : Nat) (s0 s1 s2 s3 s4 : List ByteArray) : cnt k s0 s1 s2 s3 s4 ≤ cnt 5 s0 s1 s2 s3 s4 := by
  unfold cnt
  split <;> simp <;> omega

theorem strs_oneCell (ss : List ByteArray) : ∀ u ∈ ss.map Value.string, u.oneCell' = true := by
  intro u hu
  obtain ⟨_, _, rfl⟩ := List.mem_map.1 hu
  rfl

theorem StrsAt.news {w : World} {ad : Addr} {cap : Nat} {ss : List ByteArray} (h : StrsAt w (some ad) cap ss) : ∀ j u, (ss.map Value.string)[j]? = some u → w.cell? (ad.add j) = some u := by
  intro j u hu
  rw [List.getElem?_map] at hu
  obtain ⟨s, hs, rfl⟩ := Option.map_eq_some_iff.1 hu
  obtain ⟨b, off, h1, h2⟩ := h.2.2 j s hs
  cases h1
  rw [Addr.add_lit]
  exact h2

/-- 'append(all, stage...)': all nil or the call's own, stage whatever reads as strings. -/
theorem wpList_append_strs (w : World) {ops : Array Oper} {rest : List Oper} {o : Oper} {a : Act} {Q : Exit → Act → World → Prop} (hgd : o.guard = none) (s x : Operand)
    (ho : o.op = .call { callee := .builtin .append, args := #[s, x], argTypes := #[22, 22] })
    (base : Nat) (v : Value) (n : Nat) (xs : List Value) (hs : a.eval s = v) (hown : w.ownsRow base 9 1 v n xs)
    (ao : Option Addr) (c : Nat) (ss : List ByteArray) (hx : a.eval x = .slice ao ss.length c) (hss : StrsAt w ao c ss)
    (hb : n + ss.length ≤ 1000000) (hbase : base ≤ w.heap.size)
    (h : ∀ v' w', w'.ownsRow base 9 1 v' (n + ss.length) (xs ++ ss.map Value.string) → w.grownBy w' v.ownBlock → wpList Try.prog ops Q rest (a.put o.dst v') w') : wpList Try.prog ops Q (o :: rest) a w := by
  obtain ⟨i0, hi, hz0, hz1, hz2⟩ := info_parts Try.info9
  cases ao with
  | none =>
    obtain ⟨rfl, rfl⟩ := hss.1 rfl
    exact wpList_append_own_none hgd s x 22 ho base 9 i0 1 Try.underlying22 hi v n xs hs hown hx (h v w (by simpa using hown) (World.grownBy.refl _ _))
  | some ad =>
    refine wpList_append_own w hgd s x 22 ho base 9 i0 (.string ByteArray.empty) 1 16 Try.underlying22 hi hz0 hz1 hz2 rfl (by decide) v n xs hs hown ad ss.length c (ss.map Value.string) hx (by simp) hss.news (strs_oneCell ss) (by unfold maxLen; omega) (by omega) hbase ?_
    intro v' w' r1 r2 _
    exact h v' w' r1 r2

theorem stg_cell {w wr : World} {B : Nat} (k : Nat) (hk : k ≤ 4) {a0 a1 a2 a3 a4 : Option Addr} {c0 c1 c2 c3 c4 : Nat} {s0 s1 s2 s3 s4 : List ByteArray}
    (h0 : StrsAt w a0 c0 s0) (h1 : StrsAt w a1 c1 s1) (h2 : StrsAt w a2 c2 s2) (h3 : StrsAt w a3 c3 s3) (h4 : StrsAt w a4 c4 s4)
    (hc : wr.heap[B]? = some (.cells #[.slice a0 s0.length c0, .slice a1 s1.length c1, .slice a2 s2.length c2, .slice a3 s3.length c3, .slice a4 s4.length c4] 22 (0, 0))) :
    ∃ ao cap, wr.cell? ⟨B, k, none⟩ = some (.slice ao (stg k s0 s1 s2 s3 s4).length cap) ∧ StrsAt w ao cap (stg k s0 s1 s2 s3 s4) := by
  rcases (show k = 0 ∨ k = 1 ∨ k = 2 ∨ k = 3 ∨ k = 4 from by omega) with rfl | rfl | rfl | rfl | rfl
  · exact ⟨a0, c0, by simp [World.cell?, hc, stg], h0⟩
  · exact ⟨a1, c1, by simp [World.cell?, hc, stg], h1⟩
  · exact ⟨a2, c2, by simp [World.cell?, hc, stg], h2⟩
  · exact ⟨a3, c3, by simp [World.cell?, hc, stg], h3⟩
  · exact ⟨a4, c4, by simp [World.cell?, hc, stg], h4⟩

/-- The ending: a slice that reads as ss. -/
def GivesStrs (w' : World) (ss : List ByteArray) (e : Ending) : Prop := ∃ ao cap, e = .returned (.slice ao ss.length cap) ∧ StrsAt w' ao cap ss

theorem StrsAt.of_ownsAny {w : World} {base n : Nat} {v : Value} {ss : List ByteArray} (h : w.ownsRow base 9 1 v n (ss.map Value.string)) : ∃ ao cap, v = .slice ao ss.length cap ∧ StrsAt w ao cap ss := by
  have hl : ss.length = n := by simpa using h.1
  rcases h.2 with ⟨hv, hn⟩ | ⟨g', cap', cur, hv, _, _, hc, _⟩
  · subst hn
    have : ss = [] := List.eq_nil_of_length_eq_zero hl
    subst this
    exact ⟨none, 0, hv, StrsAt.nil w⟩
  · subst hl
    subst hv
    exact ⟨_, _, rfl, StrsAt.of_owns h⟩

theorem GivesStrs.of_owns {w : World} {base n : Nat} {v : Value} {ss : List ByteArray} (h : w.ownsRow base 9 1 v n (ss.map Value.string)) : GivesStrs w ss (.returned v) := by
  obtain ⟨ao, cap, rfl, h2⟩ := StrsAt.of_ownsAny h
  exact ⟨ao, cap, rfl, h2⟩

set_option maxHeartbeats 1000000 in
theorem statements_any {a0 a1 a2 a3 a4 : Option Addr} {c0 c1 c2 c3 c4 : Nat} {s0 s1 s2 s3 s4 : List ByteArray} {w : World} (g : Nat)
    (g0 : w.cell? ⟨g, 0, none⟩ = some (.slice a0 s0.length c0)) (g1 : w.cell? ⟨g, 1, none⟩ = some (.slice a1 s1.length c1)) (g2 : w.cell? ⟨g, 2, none⟩ = some (.slice a2 s2.length c2))
    (g3 : w.cell? ⟨g, 3, none⟩ = some (.slice a3 s3.length c3)) (g4 : w.cell? ⟨g, 4, none⟩ = some (.slice a4 s4.length c4))
    (h0 : StrsAt w a0 c0 s0) (h1 : StrsAt w a1 c1 s1) (h2 : StrsAt w a2 c2 s2) (h3 : StrsAt w a3 c3 s3) (h4 : StrsAt w a4 c4 s4)
    (hm : cnt 5 s0 s1 s2 s3 s4 ≤ 1000000) :
    Calls Try.prog 11 #[.pointer (some ⟨g, 0, none⟩)] w fun e w' => GivesStrs w' (cat 5 s0 s1 s2 s3 s4) e ∧ Below w.heap.size w w' := by
  go_enter Try.func11, Try.ntmps11
  go_wp2
  go_region_held3 (fun w' => w'.cell? ⟨g, 0, none⟩ = some (.slice a0 s0.length c0) ∧ w'.cell? ⟨g, 1, none⟩ = some (.slice a1 s1.length c1) ∧ w'.cell? ⟨g, 2, none⟩ = some (.slice a2 s2.length c2) ∧ w'.cell? ⟨g, 3, none⟩ = some (.slice a3 s3.length c3) ∧ w'.cell? ⟨g, 4, none⟩ = some (.slice a4 s4.length c4)) (go_keep) (fail)
  go_wp2
  go_loopw [3, 28] (fun v i wr => ∃ k : Nat, k ≤ 5 ∧ i = .int .i64 k ∧ wr.ownsRow (w.heap.size + 1) 9 1 v (cat k s0 s1 s2 s3 s4).length ((cat k s0 s1 s2 s3 s4).map Value.string) ∧ Below w.heap.size w wr ∧ w.heap.size + 1 ≤ wr.heap.size ∧
      wr.heap[w.heap.size]? = some (.cells #[.slice a0 s0.length c0, .slice a1 s1.length c1, .slice a2 s2.length c2, .slice a3 s3.length c3, .slice a4 s4.length c4] 22 (0, 0)))
    (fun _ i _ => 5 - (intOf i).toNat)
  case atStart => exact ⟨0, by omega, rfl, World.ownsRow_nil _ _ _ _, ((Below.refl _ _).alloc (Nat.le_refl _) _).drew, by simp, heap_alloc_new w _⟩
  case round =>
    obtain ⟨k, hk, rfl, hown, hbel, hsz, hblk⟩ := hrel
    by_cases hlt : k < 5
    · obtain ⟨ao, cap, hcell, hs⟩ := stg_cell k (by omega) h0 h1 h2 h3 h4 hblk
      have hs' := hs.keeps (Keeps.below hbel)
      have HC : Hid (cat (k + 1) s0 s1 s2 s3 s4 = cat k s0 s1 s2 s3 s4 ++ stg k s0 s1 s2 s3 s4) := cat_succ k (by omega) s0 s1 s2 s3 s4
      have hbd : (cat k s0 s1 s2 s3 s4).length + (stg k s0 s1 s2 s3 s4).length ≤ 1000000 := by
        rw [cat_length, ← cnt_succ k (by omega)]
        exact Nat.le_trans (cnt_le _ _ _ _ _ _) hm
      go_wp2_with (at_builtin; refine wpList_append_strs _ rfl _ _ rfl (w.heap.size + 1) _ _ _ rfl hown ao cap _ rfl hs' hbd hsz ?_)
      intro v' w1 hown' hgrow
      have hlen : (cat (k + 1) s0 s1 s2 s3 s4).length = (cat k s0 s1 s2 s3 s4).length + (stg k s0 s1 s2 s3 s4).length := by rw [HC.out]; simp
      have R : w1.ownsRow (w.heap.size + 1) 9 1 v' (cat (k + 1) s0 s1 s2 s3 s4).length ((cat (k + 1) s0 s1 s2 s3 s4).map Value.string) := by
        rw [hlen, HC.out, List.map_append]; exact hown'
      have hb1 : Below w.heap.size w w1 := hbel.grown hgrow (by omega) (fun j hj => by have := (hown.lt j hj).1; omega)
      have hblk1 : w1.heap[w.heap.size]? = some (.cells #[.slice a0 s0.length c0, .slice a1 s1.length c1, .slice a2 s2.length c2, .slice a3 s3.length c3, .slice a4 s4.length c4] 22 (0, 0)) := by
        rw [hgrow.block _ (by omega) (fun e => by have := (hown.lt _ e.symm).1; omega)]; exact hblk
      have hsz1 : w.heap.size + 1 ≤ w1.heap.size := Nat.le_trans hsz hgrow.size
      clear hown' hgrow hown hs hs' hcell hblk hlen
      go_wp2
      go_roundw
      case rel => exact ⟨k + 1, by omega, by go_num, R, hb1, hsz1, hblk1⟩
      case measure => simp [intOf]; omega
    · go_wp2
      go_ret
      obtain rfl : k = 5 := by omega
      exact ⟨GivesStrs.of_owns hown, hbel⟩

set_option maxHeartbeats 1000000 in
theorem zz_any {a0 a1 a2 a3 a4 : Option Addr} {c0 c1 c2 c3 c4 : Nat} {s0 s1 s2 s3 s4 : List ByteArray} {w : World}
    (h0 : StrsAt w a0 c0 s0) (h1 : StrsAt w a1 c1 s1) (h2 : StrsAt w a2 c2 s2) (h3 : StrsAt w a3 c3 s3) (h4 : StrsAt w a4 c4 s4)
    (hm : cnt 5 s0 s1 s2 s3 s4 ≤ 1000000) :
    Calls Try.prog 8 #[.slice a0 s0.length c0, .slice a1 s1.length c1, .slice a2 s2.length c2, .slice a3 s3.length c3, .slice a4 s4.length c4] w fun e w' => GivesStrs w' (cat 5 s0 s1 s2 s3 s4) e ∧ Below w.heap.size w w' := by
  have hb0 : ∀ o, Below w.heap.size w (w.alloc o) := fun o => (Below.refl _ _).alloc (Nat.le_refl _) o
  have hc : ∀ (l : Array Value) (j : Nat), (w.alloc (.cells l 31)).cell? ⟨w.heap.size, j, none⟩ = l[j]? := by
    intro l j
    rw [cell_of_row _ _ _ l 31 (0, 0) (heap_alloc_new w _)]
  go_enter Try.func8, Try.ntmps8
  go_wp2_with fail
  refine (statements_any w.heap.size (hc _ 0) (hc _ 1) (hc _ 2) (hc _ 3) (hc _ 4) (h0.keeps (Keeps.below (hb0 _))) (h1.keeps (Keeps.below (hb0 _))) (h2.keeps (Keeps.below (hb0 _))) (h3.keeps (Keeps.below (hb0 _))) (h4.keeps (Keeps.below (hb0 _))) hm).mono ?_
  rintro e w1 ⟨⟨ao, cap, rfl, hs⟩, hb⟩
  have hb1 : Below w.heap.size w w1 := (hb0 _).trans (hb.mono (by simp))
  clear hc hb0 hb
  go_wp2
  go_ret
  exact ⟨⟨ao, cap, rfl, hs⟩, hb1⟩
#print axioms zz_any
end Go.Proofs.Qxb6617632a
