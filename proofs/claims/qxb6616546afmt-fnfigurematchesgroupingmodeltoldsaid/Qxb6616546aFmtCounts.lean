import Derived.Test.Qxb6616546aFmtBase
namespace Go.Proofs.Qxb6616546aFmt
open Go.RowKit

/-- t' is t with n more, or one past the bound. -/
def Acc (t : Int) (n : Nat) (t' : Int) : Prop := 0 ≤ t' ∧ t' ≤ 1048577 ∧ (t' ≤ 1048576 → t' = t + n)
def GivesAcc (t : Int) (n : Nat) (e : Ending) : Prop := ∃ t', e = .returned (.int .i64 t') ∧ Acc t n t'

theorem addLen_any (t : Int) (n : Nat) (w : World) (h0 : 0 ≤ t) (h1 : t ≤ 1048577) (hn : n ≤ 9223372036854775807) :
    Calls Tryf.prog 13 #[.int .i64 t, .int .i64 (n : Int)] w fun e w' => GivesAcc t n e ∧ w = w' := by
  go_enter Tryf.func13, Tryf.ntmps13
  go_wp2
  · go_ret
    exact ⟨⟨_, rfl, by omega, by omega, by omega⟩, rfl⟩
  · go_ret
    exact ⟨⟨_, rfl, by omega, by omega, by omega⟩, rfl⟩

/-- The bytes that a slice of strings, of pairs, counts for. -/
def sumS (ss : List ByteArray) : Nat := (ss.map ByteArray.size).sum
def sumP (ps : List (ByteArray × ByteArray)) : Nat := (ps.map fun p => p.1.size + p.2.size).sum
theorem sumS_succ (ss : List ByteArray) (j : Nat) (s : ByteArray) (h : ss[j]? = some s) : sumS (ss.take (j + 1)) = sumS (ss.take j) + s.size := by
  unfold sumS
  rw [List.take_add_one, h]
  simp
theorem sumP_succ (ps : List (ByteArray × ByteArray)) (j : Nat) (p : ByteArray × ByteArray) (h : ps[j]? = some p) : sumP (ps.take (j + 1)) = sumP (ps.take j) + (p.1.size + p.2.size) := by
  unfold sumP
  rw [List.take_add_one, h]
  simp
theorem le_sum {l : List Nat} {n : Nat} (h : n ∈ l) : n ≤ l.sum := by
  induction l with
  | nil => simp at h
  | cons a l ih =>
    rw [List.sum_cons]
    rcases List.mem_cons.1 h with e | e
    · omega
    · have := ih e; omega
theorem sumS_mem {ss : List ByteArray} {s : ByteArray} (h : s ∈ ss) : s.size ≤ sumS ss := by
  unfold sumS
  exact le_sum (List.mem_map_of_mem h)
theorem sumP_mem {ps : List (ByteArray × ByteArray)} {p : ByteArray × ByteArray} (h : p ∈ ps) : p.1.size + p.2.size ≤ sumP ps := by
  unfold sumP
  exact le_sum (List.mem_map_of_mem (f := fun p : ByteArray × ByteArray => p.1.size + p.2.size) h)

/-- What a counter gives: one past the bound, or the sum, and then the slice is short. -/
def GivesCnt (t : Int) (len n : Nat) (e : Ending) : Prop := ∃ t', e = .returned (.int .i64 t') ∧ 0 ≤ t' ∧ t' ≤ 1048577 ∧ (t' ≤ 1048576 → t' = t + n ∧ len ≤ 4096)

set_option maxHeartbeats 1000000 in
set_option maxRecDepth 100000 in
theorem stringsBytes_any (t : Int) (ao : Option Addr) (cap : Nat) (ss : List ByteArray) (w : World) (h0 : 0 ≤ t) (h1 : t ≤ 1048577) (hs : StrsAt w ao cap ss) (hm : ss.length ≤ 9223372036854775807) (hz : ∀ s ∈ ss, s.size ≤ 9223372036854775807) :
    Calls Tryf.prog 14 #[.int .i64 t, .slice ao ss.length cap] w fun e w' => GivesCnt t ss.length (16 * ss.length + sumS ss) e ∧ w = w' := by
  have HZ : Hid _ := hz
  clear hz
  by_cases hbig : 1048576 < t
  · go_enter Tryf.func14, Tryf.ntmps14
    go_wp2
    go_ret
    exact ⟨⟨_, rfl, by omega, by omega, by omega⟩, rfl⟩
  by_cases hlong : 4096 < ss.length
  · go_enter Tryf.func14, Tryf.ntmps14
    go_wp2
    go_ret
    exact ⟨⟨_, rfl, by omega, by omega, by omega⟩, rfl⟩
  have HA : Hid _ := addLen_any t (16 * ss.length) w h0 h1 (by omega)
  have hcast : ((16 * ss.length : Nat) : Int) = 16 * (ss.length : Int) := by omega
  rw [hcast] at HA
  go_enter Tryf.func14, Tryf.ntmps14
  go_wp2_with (go_at_call 13; refine Calls.mono HA.out ?_; rintro e w1 ⟨⟨t1, rfl, g1, g2, g3⟩, rfl⟩)
  go_loop [0, 5] (fun tv jv => ∃ (j : Nat) (z : Int), j ≤ ss.length ∧ jv = .int .i64 j ∧ tv = .int .i64 z ∧ 0 ≤ z ∧ z ≤ 1048577 ∧ (z ≤ 1048576 → z = t + (16 * ss.length + sumS (ss.take j) : Nat))) (fun _ jv => ss.length - (intOf jv).toNat)
  case atStart => exact ⟨0, t1, by omega, rfl, rfl, g1, g2, fun h => by have := g3 h; simp [sumS]; omega⟩
  case round =>
    obtain ⟨j, z, hj, rfl, rfl, z1, z2, z3⟩ := hrel
    clear g1 g2 g3 HA
    by_cases hjl : j < ss.length
    · by_cases hzm : z ≤ 1048576
      · obtain ⟨s, hsj⟩ : ∃ s, ss[j]? = some s := ⟨_, List.getElem?_eq_getElem hjl⟩
        obtain ⟨b, off, rfl, hcell⟩ := hs.at (by omega)
        have hcj := hcell j s hsj
        have hsz := HZ.out s (List.mem_of_getElem? hsj)
        have HB : Hid _ := addLen_any z s.size w z1 z2 hsz
        have hsu := sumS_succ ss j s hsj
        clear hcell
        go_wp2_with (go_at_call 13; refine Calls.mono HB.out ?_; rintro e w1 ⟨⟨t2, rfl, g1, g2, g3⟩, rfl⟩)
        go_round
        case rel => exact ⟨j + 1, t2, by omega, by go_num, rfl, g1, g2, fun h => by have := g3 h; have := z3 hzm; rw [hsu]; omega⟩
        case measure => simp [intOf]; omega
      · go_wp2
        go_ret
        exact ⟨⟨_, rfl, z1, z2, by omega⟩, rfl⟩
    · obtain rfl : j = ss.length := by omega
      rw [List.take_length] at z3
      go_wp2
      go_ret
      exact ⟨⟨_, rfl, z1, z2, fun h => ⟨z3 h, by omega⟩⟩, rfl⟩

set_option maxHeartbeats 1000000 in
set_option maxRecDepth 100000 in
theorem notHeldBytes_any (t : Int) (ao : Option Addr) (cap : Nat) (ps : List (ByteArray × ByteArray)) (w : World) (h0 : 0 ≤ t) (h1 : t ≤ 1048577) (hs : PairsAt w ao cap ps) (hm : ps.length ≤ 9223372036854775807) (hz : ∀ p ∈ ps, p.1.size ≤ 9223372036854775807 ∧ p.2.size ≤ 9223372036854775807) :
    Calls Tryf.prog 15 #[.int .i64 t, .slice ao ps.length cap] w fun e w' => GivesCnt t ps.length (32 * ps.length + sumP ps) e ∧ w = w' := by
  have HZ : Hid _ := hz
  clear hz
  by_cases hbig : 1048576 < t
  · go_enter Tryf.func15, Tryf.ntmps15
    go_wp2
    go_ret
    exact ⟨⟨_, rfl, by omega, by omega, by omega⟩, rfl⟩
  by_cases hlong : 4096 < ps.length
  · go_enter Tryf.func15, Tryf.ntmps15
    go_wp2
    go_ret
    exact ⟨⟨_, rfl, by omega, by omega, by omega⟩, rfl⟩
  have HA : Hid _ := addLen_any t (32 * ps.length) w h0 h1 (by omega)
  have hcast : ((32 * ps.length : Nat) : Int) = 32 * (ps.length : Int) := by omega
  rw [hcast] at HA
  go_enter Tryf.func15, Tryf.ntmps15
  go_wp2_with (go_at_call 13; refine Calls.mono HA.out ?_; rintro e w1 ⟨⟨t1, rfl, g1, g2, g3⟩, rfl⟩)
  go_loop [0, 5] (fun tv jv => ∃ (j : Nat) (z : Int), j ≤ ps.length ∧ jv = .int .i64 j ∧ tv = .int .i64 z ∧ 0 ≤ z ∧ z ≤ 1048577 ∧ (z ≤ 1048576 → z = t + (32 * ps.length + sumP (ps.take j) : Nat))) (fun _ jv => ps.length - (intOf jv).toNat)
  case atStart => exact ⟨0, t1, by omega, rfl, rfl, g1, g2, fun h => by have := g3 h; simp [sumP]; omega⟩
  case round =>
    obtain ⟨j, z, hj, rfl, rfl, z1, z2, z3⟩ := hrel
    clear g1 g2 g3 HA
    by_cases hjl : j < ps.length
    · by_cases hzm : z ≤ 1048576
      · obtain ⟨gx, yx, hsj⟩ : ∃ gx yx, ps[j]? = some (gx, yx) := ⟨_, _, List.getElem?_eq_getElem hjl⟩
        obtain ⟨b, off, rfl, hcell⟩ := hs.at (by omega)
        obtain ⟨hc1, hc2⟩ := hcell j _ hsj
        have hsz := HZ.out _ (List.mem_of_getElem? hsj)
        have HB : Hid _ := addLen_any z gx.size w z1 z2 hsz.1
        have hsu := sumP_succ ps j _ hsj
        clear hcell
        go_upto_if 37 with (go_at_call 13; refine Calls.mono HB.out ?_; rintro e w1 ⟨⟨t2, rfl, g1, g2, g3⟩, rfl⟩)
        by_cases ht2 : t2 ≤ 1048576
        · have HB2 : Hid _ := addLen_any t2 yx.size w g1 g2 hsz.2
          go_wp2_with (go_at_call 13; refine Calls.mono HB2.out ?_; rintro e w1 ⟨⟨t3, rfl, k1, k2, k3⟩, rfl⟩)
          go_round
          case rel => exact ⟨j + 1, t3, by omega, by go_num, rfl, k1, k2, fun h => by have := k3 h; have := g3 ht2; have := z3 hzm; rw [hsu]; simp; omega⟩
          case measure => simp [intOf]; omega
        · go_wp2_with fail
          go_round
          case rel => exact ⟨j + 1, t2, by omega, by go_num, rfl, g1, g2, fun h => absurd h ht2⟩
          case measure => simp [intOf]; omega
      · go_wp2
        go_ret
        exact ⟨⟨_, rfl, z1, z2, by omega⟩, rfl⟩
    · obtain rfl : j = ps.length := by omega
      rw [List.take_length] at z3
      go_wp2
      go_ret
      exact ⟨⟨_, rfl, z1, z2, fun h => ⟨z3 h, by omega⟩⟩, rfl⟩

/-- What figureBytes gives. -/
def GivesFig (t : Int) (n1 n2 n : Nat) (e : Ending) : Prop := ∃ t', e = .returned (.int .i64 t') ∧ 0 ≤ t' ∧ t' ≤ 1048577 ∧ (t' ≤ 1048576 → t' = t + n ∧ n1 ≤ 4096 ∧ n2 ≤ 4096)

set_option maxHeartbeats 1000000 in
set_option maxRecDepth 100000 in
theorem figureBytes_any (t : Int) (ao ap : Option Addr) (co cp : Nat) (ss : List ByteArray) (ps : List (ByteArray × ByteArray)) (wi be : ByteArray) (w : World) (h0 : 0 ≤ t) (h1 : t ≤ 1048577) (hs : StrsAt w ao co ss) (hp : PairsAt w ap cp ps)
    (hm : ss.length ≤ 9223372036854775807) (hz : ∀ s ∈ ss, s.size ≤ 9223372036854775807) (hm2 : ps.length ≤ 9223372036854775807) (hz2 : ∀ p ∈ ps, p.1.size ≤ 9223372036854775807 ∧ p.2.size ≤ 9223372036854775807) (hwi : wi.size ≤ 9223372036854775807) (hbe : be.size ≤ 9223372036854775807) :
    Calls Tryf.prog 6 #[.int .i64 t, .slice ao ss.length co, .slice ap ps.length cp, .string wi, .string be] w fun e w' => GivesFig t ss.length ps.length (wi.size + be.size + (16 * ss.length + sumS ss) + (32 * ps.length + sumP ps)) e ∧ w = w' := by
  have HS : Hid (∀ t : Int, 0 ≤ t → t ≤ 1048577 → Calls Tryf.prog 14 #[.int .i64 t, .slice ao ss.length co] w fun e w' => GivesCnt t ss.length (16 * ss.length + sumS ss) e ∧ w = w') := fun t a b => stringsBytes_any t ao co ss w a b hs hm hz
  have HP : Hid (∀ t : Int, 0 ≤ t → t ≤ 1048577 → Calls Tryf.prog 15 #[.int .i64 t, .slice ap ps.length cp] w fun e w' => GivesCnt t ps.length (32 * ps.length + sumP ps) e ∧ w = w') := fun t a b => notHeldBytes_any t ap cp ps w a b hp hm2 hz2
  have HW : Hid _ := addLen_any t wi.size w h0 h1 hwi
  clear hs hp hz hz2
  by_cases hbig : 1048576 < t
  · go_enter Tryf.func6, Tryf.ntmps6
    go_wp2
    go_ret
    exact ⟨⟨_, rfl, by omega, by omega, by omega⟩, rfl⟩
  go_enter Tryf.func6, Tryf.ntmps6
  go_upto_if 18 with (go_at_call 13; refine Calls.mono HW.out ?_; rintro e w1 ⟨⟨t1, rfl, g1, g2, g3⟩, rfl⟩)
  by_cases ht1 : t1 ≤ 1048576
  · have HB : Hid _ := addLen_any t1 be.size w g1 g2 hbe
    go_wp2_with (first
      | (go_at_call 13; refine Calls.mono HB.out ?_; rintro e w1 ⟨⟨t2, rfl, k1, k2, k3⟩, rfl⟩)
      | (go_at_call 14; refine Calls.mono (HS.out t2 k1 k2) ?_; rintro e w1 ⟨⟨t3, rfl, l1, l2, l3⟩, rfl⟩)
      | (go_at_call 15; refine Calls.mono (HP.out t3 l1 l2) ?_; rintro e w1 ⟨⟨t4, rfl, m1, m2, m3⟩, rfl⟩))
    go_ret
    refine ⟨⟨_, rfl, m1, m2, fun h => ?_⟩, rfl⟩
    obtain ⟨e4, q4⟩ := m3 h
    obtain ⟨e3, q3⟩ := l3 (by omega)
    have e2 := k3 (by omega)
    have e1 := g3 ht1
    exact ⟨by omega, q3, q4⟩
  · go_wp2_with fail
    go_ret
    exact ⟨⟨_, rfl, g1, g2, by omega⟩, rfl⟩

end Go.Proofs.Qxb6616546aFmt
