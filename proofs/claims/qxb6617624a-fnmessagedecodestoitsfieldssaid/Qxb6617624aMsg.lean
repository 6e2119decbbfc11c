import Derived.Test.Qxb6617624aEnc
namespace Go.Proofs.Qxb6617624a
open Go.RowKit

def pduOf (id st ei : Int) (z4 : List Int) : List Int := encInt id ++ encInt st ++ encInt ei ++ encEl 48 z4
def bodyOf (id st ei : Int) (z3 z4 : List Int) : List Int := encInt 1 ++ encEl 4 z3 ++ encEl 162 (pduOf id st ei z4)
/-- The datagram. -/
def msgOf (id st ei : Int) (z3 z4 : List Int) : List Int := encEl 48 (bodyOf id st ei z3 z4)

theorem encInt_le (v : Int) : (encInt v).length ≤ 10 := by
  have := octs_range v
  rw [encInt_length]; omega
theorem encEl_le (t : Int) (c : List Int) : (encEl t c).length ≤ 5 + c.length := by
  have := hdr_length_le t c.length
  rw [encEl_length]; omega
theorem pdu_le (id st ei : Int) (z4 : List Int) : (pduOf id st ei z4).length ≤ 35 + z4.length := by
  have := encInt_le id; have := encInt_le st; have := encInt_le ei; have := encEl_le 48 z4
  simp [pduOf]; omega
theorem body_le (id st ei : Int) (z3 z4 : List Int) : (bodyOf id st ei z3 z4).length ≤ 55 + z3.length + z4.length := by
  have := encInt_le 1; have := encEl_le 4 z3; have := encEl_le 162 (pduOf id st ei z4); have := pdu_le id st ei z4
  simp [bodyOf]; omega
theorem msg_le (id st ei : Int) (z3 z4 : List Int) : (msgOf id st ei z3 z4).length ≤ 60 + z3.length + z4.length := by
  have := encEl_le 48 (bodyOf id st ei z3 z4); have := body_le id st ei z3 z4
  unfold msgOf; omega

/-- The ending: a slice that reads as xs; nothing old has turned. -/
def GivesInts (w w' : World) (xs : List Int) (e : Ending) : Prop := ∃ ao cap, e = .returned (.slice ao xs.length cap) ∧ IntsAt w'.heap.size w' ao cap xs ∧ Below w.heap.size w w'

set_option maxHeartbeats 1000000 in
set_option maxRecDepth 100000 in
theorem message_any (g r : Nat) (id st ei : Int) (a3 a4 : Option Addr) (c3 c4 : Nat) (z3 z4 : List Int) (w : World)
    (g0 : w.cell? ⟨g, 0, none⟩ = some (.pointer (some ⟨r, 0, none⟩))) (g1 : w.cell? ⟨g, 1, none⟩ = some (.int .i64 st)) (g2 : w.cell? ⟨g, 2, none⟩ = some (.int .i64 ei)) (g3 : w.cell? ⟨g, 3, none⟩ = some (.slice a4 z4.length c4))
    (r0 : w.cell? ⟨r, 0, none⟩ = some (.slice a3 z3.length c3)) (r2 : w.cell? ⟨r, 2, none⟩ = some (.int .i32 id))
    (h3 : IntsAt w.heap.size w a3 c3 z3) (h4 : IntsAt w.heap.size w a4 c4 z4) (l3 : z3.length ≤ 524288) (l4 : z4.length ≤ 524288)
    (hi0 : -2147483648 ≤ id) (hi1 : id ≤ 2147483647) (hs0 : -9223372036854775808 ≤ st) (hs1 : st ≤ 9223372036854775807) (he0 : -9223372036854775808 ≤ ei) (he1 : ei ≤ 9223372036854775807) :
    Calls Try.prog 9 #[.pointer (some ⟨g, 0, none⟩)] w fun e w' => GivesInts w w' (msgOf id st ei z3 z4) e := by
  have hg : g < w.heap.size := World.block_lt_of_cell? w _ g0
  have hr : r < w.heap.size := World.block_lt_of_cell? w _ r0
  have li := encInt_le id
  have ls := encInt_le st
  have le := encInt_le ei
  have l48 := encEl_le 48 z4
  go_enter Try.func9, Try.ntmps9
  go_wp2_with fail
  refine (integer_app w.heap.size _ [] id w (Own.nil _ _ (Nat.le_refl _)) (by omega) (by omega) (by simp)).mono ?_
  rintro e w1 ⟨v1, rfl, o1, b1⟩
  have e1 : w1.cell? ⟨g, 1, none⟩ = some (.int .i64 st) := (b1.cell (by exact hg)).trans g1
  go_wp2_with fail
  refine (integer_app w.heap.size v1 _ st w1 o1 hs0 hs1 (by simp; omega)).mono ?_
  rintro e w2 ⟨v2, rfl, o2, b2⟩
  replace b2 := b1.trans b2
  have e2 : w2.cell? ⟨g, 2, none⟩ = some (.int .i64 ei) := (b2.cell (by exact hg)).trans g2
  clear o1 e1 b1
  go_wp2_with fail
  refine (integer_app w.heap.size v2 _ ei w2 o2 he0 he1 (by simp; omega)).mono ?_
  rintro e w3 ⟨v3, rfl, o3, b3⟩
  replace b3 := b2.trans b3
  have e3 : w3.cell? ⟨g, 3, none⟩ = some (.slice a4 z4.length c4) := (b3.cell (by exact hg)).trans g3
  clear o2 e2 b2
  go_wp2_with fail
  refine (element_app w.heap.size w.heap.size v3 _ 48 a4 c4 z4 w3 o3 (h4.below b3 (Nat.le_refl _)) (Nat.le_refl _) (by omega) (by simp; omega)).mono ?_
  rintro e w4 ⟨v4, rfl, o4, b4⟩
  replace b4 := b3.trans b4
  clear o3 e3 b3
  have o4' : Own w4 w.heap.size v4 (pduOf id st ei z4) := by simpa [pduOf] using o4
  clear o4
  have lp := pdu_le id st ei z4
  obtain ⟨aP, cP, rfl, rP⟩ := o4'.reads
  go_wp2_with fail
  refine (integer_app w4.heap.size _ [] 1 w4 (Own.nil _ _ (Nat.le_refl _)) (by omega) (by omega) (by simp)).mono ?_
  rintro e w5 ⟨v5, rfl, o5, b5⟩
  have b50 : Below w.heap.size w w5 := b4.trans (b5.mono b4.size)
  have e0 : w5.cell? ⟨g, 0, none⟩ = some (.pointer (some ⟨r, 0, none⟩)) := (b50.cell (by exact hg)).trans g0
  have e5 : w5.cell? ⟨r, 0, none⟩ = some (.slice a3 z3.length c3) := (b50.cell (by exact hr)).trans r0
  have l1 := encInt_le 1
  go_wp2_with fail
  refine (element_app w4.heap.size w.heap.size v5 _ 4 a3 c3 z3 w5 o5 (h3.below b50 (Nat.le_refl _)) b4.size (by omega) (by simp; omega)).mono ?_
  rintro e w6 ⟨v6, rfl, o6, b6⟩
  replace b6 := b5.trans b6
  have lc := encEl_le 4 z3
  clear o5 e0 e5 b5 b50
  go_wp2_with fail
  refine (element_app w4.heap.size w4.heap.size v6 _ 162 aP cP (pduOf id st ei z4) w6 o6 (rP.below b6 (Nat.le_refl _)) (Nat.le_refl _) (by omega) (by simp; omega)).mono ?_
  rintro e w7 ⟨v7, rfl, o7, b7⟩
  replace b7 := b6.trans b7
  have b70 : Below w.heap.size w w7 := b4.trans (b7.mono b4.size)
  have o7' : Own w7 w4.heap.size v7 (bodyOf id st ei z3 z4) := by simpa [bodyOf] using o7
  clear o6 o7 b6 b7 b4 rP
  have lb := body_le id st ei z3 z4
  obtain ⟨aM, cM, rfl, rM⟩ := o7'.reads
  clear o7' o4'
  have HM : Hid (msgOf id st ei z3 z4 = encEl 48 (bodyOf id st ei z3 z4)) := rfl
  generalize bodyOf id st ei z3 z4 = bd at *
  have hll : 1 + lenLen bd.length + bd.length ≤ 5000000 := by
    have := lenOcts_range bd.length
    unfold lenLen
    split <;> omega
  obtain ⟨i0, hi, hz0, hz1, hz2⟩ := info_parts Try.info5
  have HI : Hid _ := hz2
  have hby : i0.bytes * (1 + lenLen bd.length + bd.length) ≤ 281474976710656 := by rw [HI.out]; omega
  go_wp2_with (first
    | (go_at_call 12; refine (elementLen_any _ _ (by omega)).mono ?_; rintro e w' ⟨rfl, rfl⟩)
    | (at_make; refine wpList_make_own _ rfl _ _ 22 rfl w7.heap.size 5 i0 (.int .u8 0) 1 Try.underlying22 hi hz0 hz1 .i64 .i64 _ (1 + lenLen bd.length + bd.length) rfl rfl (by simp) hby (by unfold maxLen; omega) (Nat.le_refl _) ?_; intro w8 o8 gr8))
  have b8 : Below w7.heap.size w7 w8 := (Below.refl _ _).grown gr8 (Nat.le_refl _) (fun _ q => by cases q)
  refine (element_app w7.heap.size w7.heap.size _ [] 48 aM cM bd w8 ⟨o8, b8.size⟩ (rM.below b8 (Nat.le_refl _)) (Nat.le_refl _) (by omega) (by simp)).mono ?_
  rintro e w9 ⟨v9, rfl, o9, b9⟩
  have b90 : Below w.heap.size w w9 := b70.trans ((b8.trans b9).mono b70.size)
  have o9' : Own w9 w7.heap.size v9 (encEl 48 bd) := by simpa using o9
  obtain ⟨aR, cR, rfl, rR⟩ := o9'.reads
  clear o9 o9' o8 gr8 b8 b9 rM
  go_wp2
  go_ret
  rw [HM.out]
  exact ⟨_, _, rfl, rR, b90⟩

set_option maxHeartbeats 1000000 in
set_option maxRecDepth 100000 in
theorem zzmsg_any (id st ei : Int) (a3 a4 : Option Addr) (c3 c4 : Nat) (z3 z4 : List Int) (w : World)
    (h3 : IntsAt w.heap.size w a3 c3 z3) (h4 : IntsAt w.heap.size w a4 c4 z4) (l3 : z3.length ≤ 524288) (l4 : z4.length ≤ 524288)
    (hi0 : -2147483648 ≤ id) (hi1 : id ≤ 2147483647) (hs0 : -9223372036854775808 ≤ st) (hs1 : st ≤ 9223372036854775807) (he0 : -9223372036854775808 ≤ ei) (he1 : ei ≤ 9223372036854775807) :
    Calls Try.prog 5 #[.int .i32 id, .int .i64 st, .int .i64 ei, .slice a3 z3.length c3, .slice a4 z4.length c4] w fun e w' => GivesInts w w' (msgOf id st ei z3 z4) e := by
  have hb : ∀ o1 o2, Below w.heap.size w ((w.alloc o1).alloc o2) := fun o1 o2 => ((Below.refl _ _).alloc (Nat.le_refl _) o1).alloc (by simp) o2
  have hc1 : ∀ (o1 : Obj) (l : Array Value) (j : Nat), ((w.alloc o1).alloc (.cells l 37)).cell? ⟨w.heap.size + 1, j, none⟩ = l[j]? := by
    intro o1 l j
    have e : w.heap.size + 1 = (w.alloc o1).heap.size := by simp
    rw [e, cell_of_row _ _ _ l 37 (0, 0) (heap_alloc_new _ _)]
  have hc2 : ∀ (l : Array Value) (o2 : Obj) (j : Nat), ((w.alloc (.cells l 34)).alloc o2).cell? ⟨w.heap.size, j, none⟩ = l[j]? := by
    intro l o2 j
    rw [cell_of_row _ _ _ l 34 (0, 0) ((Below.heap_alloc _ _ _ (by simp)).trans (heap_alloc_new w _))]
  have hsz : ∀ o1 o2, w.heap.size ≤ ((w.alloc o1).alloc o2).heap.size := fun o1 o2 => (hb o1 o2).size
  go_enter Try.func5, Try.ntmps5
  go_wp2_with fail
  refine (message_any (w.heap.size + 1) w.heap.size id st ei a3 a4 c3 c4 z3 z4 _ (hc1 _ _ 0) (hc1 _ _ 1) (hc1 _ _ 2) (hc1 _ _ 3) (hc2 _ _ 0) (hc2 _ _ 2) ((h3.below (hb _ _) (Nat.le_refl _)).mono (hsz _ _)) ((h4.below (hb _ _) (Nat.le_refl _)).mono (hsz _ _)) l3 l4 hi0 hi1 hs0 hs1 he0 he1).mono ?_
  rintro e w1 ⟨ao, cap, rfl, r1, b1⟩
  have b2 : Below w.heap.size w w1 := (hb _ _).trans (b1.mono (hsz _ _))
  clear hc1 hc2 hsz hb b1
  go_wp2
  go_ret
  exact ⟨_, _, rfl, r1, b2⟩
#print axioms zzmsg_any
end Go.Proofs.Qxb6617624a
