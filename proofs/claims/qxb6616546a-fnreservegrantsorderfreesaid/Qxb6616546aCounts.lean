/-
  The two bounds: zzBytes and awardRowsTooBig.
-/
import Derived.Test.Qxb6616546aPlain
namespace Go.Proofs.Qxb6616546a
open Go.RowKit
set_option linter.unusedVariables false

def Acc (t : Int) (n : Nat) (t' : Int) : Prop := 0 ≤ t' ∧ t' ≤ 1048577
def GivesAcc (t : Int) (n : Nat) (e : Ending) : Prop := ∃ t', e = .returned (.int .i64 t') ∧ Acc t n t'
theorem addLen_any (t : Int) (n : Nat) (w : World) (h0 : 0 ≤ t) (h1 : t ≤ 1048577) (hn : n ≤ 9223372036854775807) :
    Calls Try.prog 11 #[.int .i64 t, .int .i64 (n : Int)] w fun e w' => GivesAcc t n e ∧ w = w' := by
  go_enter Try.func11, Try.ntmps11
  go_wp2
  · go_ret
    exact ⟨⟨_, rfl, by omega, by omega⟩, rfl⟩
  · go_ret
    exact ⟨⟨_, rfl, by omega, by omega⟩, rfl⟩

/-- The rows' strings and their number are what a machine holds. -/
def Holds (rs : List Row) : Prop := rs.length ≤ 9223372036854775807 ∧ ∀ r ∈ rs, r.name.size ≤ 9223372036854775807 ∧ r.of.size ≤ 9223372036854775807

def SomeBool (e : Ending) : Prop := ∃ r, e = .returned (.bool r)
theorem SomeBool.mk (r : Bool) : SomeBool (.returned (.bool r)) := ⟨r, rfl⟩
def GivesBig (n : Nat) (e : Ending) : Prop := ∃ r, e = .returned (.bool r) ∧ (r = false → n ≤ 4096)

set_option maxHeartbeats 2000000 in
set_option maxRecDepth 100000 in
theorem bytes_any (ao : Option Addr) (cap : Nat) (rs : List Row) (w : World) (hr : RowsAt w ao cap rs) (hh : Holds rs) :
    Calls Try.prog 4 #[.slice ao rs.length cap] w fun e w' => SomeBool e ∧ w = w' := by
  have HZ : Hid _ := hh.2
  have hm := hh.1
  clear hh
  go_enter Try.func4, Try.ntmps4
  go_wp2
  any_goals (go_ret; exact ⟨SomeBool.mk _, rfl⟩)
  go_loop [3, 4] (fun t jv => ∃ (j : Nat) (z : Int), j ≤ rs.length ∧ jv = .int .i64 j ∧ t = .int .i64 z ∧ 0 ≤ z ∧ z ≤ 1048576) (fun _ jv => rs.length - (intOf jv).toNat)
  case atStart => exact ⟨0, _, by omega, rfl, rfl, by omega, by omega⟩
  case round =>
    obtain ⟨j, z, hj, rfl, rfl, hz3, hz4⟩ := hrel
    by_cases hjl : j < rs.length
    · obtain ⟨x, hx⟩ : ∃ x, rs[j]? = some x := ⟨_, List.getElem?_eq_getElem hjl⟩
      obtain ⟨b, off, rfl, hbl, hcell⟩ := hr.at (by omega)
      obtain ⟨k0, k1, k2, k3, k4⟩ := hcell j x hx
      have hs1 := (HZ.out x (List.mem_of_getElem? hx)).1
      have hs2 := (HZ.out x (List.mem_of_getElem? hx)).2
      clear hcell k1 k2 k4
      go_wp2
      any_goals (go_ret; exact ⟨SomeBool.mk _, rfl⟩)
      go_round
      case rel => exact ⟨j + 1, _, by omega, by go_num, rfl, by omega, by omega⟩
      case measure => simp [intOf]; omega
    clear hr HZ
    go_wp2
    any_goals (go_ret; exact ⟨SomeBool.mk _, rfl⟩)

set_option maxHeartbeats 2000000 in
set_option maxRecDepth 100000 in
theorem tooBig_any (ao : Option Addr) (cap : Nat) (rs : List Row) (w : World) (hr : RowsAt w ao cap rs) (hh : Holds rs) :
    Calls Try.prog 5 #[.slice ao rs.length cap] w fun e w' => GivesBig rs.length e ∧ w = w' := by
  have HZ : Hid _ := hh.2
  have hm := hh.1
  clear hh
  by_cases hlong : 4096 < rs.length
  · go_enter Try.func5, Try.ntmps5
    go_wp2
    go_ret
    exact ⟨⟨_, rfl, fun q => by cases q⟩, rfl⟩
  have HA : Hid _ := addLen_any 0 (48 * rs.length) w (by omega) (by omega) (by omega)
  have hcast : ((48 * rs.length : Nat) : Int) = 48 * (rs.length : Int) := by omega
  rw [hcast] at HA
  go_enter Try.func5, Try.ntmps5
  go_wp2_with (go_at_call 11; refine Calls.mono HA.out ?_; rintro e w1 ⟨⟨t1, rfl, g1, g2⟩, rfl⟩)
  go_loop [3, 4] (fun tv jv => ∃ (j : Nat) (z : Int), j ≤ rs.length ∧ jv = .int .i64 j ∧ tv = .int .i64 z ∧ 0 ≤ z ∧ z ≤ 1048577) (fun _ jv => rs.length - (intOf jv).toNat)
  case atStart => exact ⟨0, t1, by omega, rfl, rfl, g1, g2⟩
  case round =>
    obtain ⟨j, z, hj, rfl, rfl, z1, z2⟩ := hrel
    clear g1 g2 HA
    by_cases hjl : j < rs.length
    · by_cases hzm : z ≤ 1048576
      · obtain ⟨x, hx⟩ : ∃ x, rs[j]? = some x := ⟨_, List.getElem?_eq_getElem hjl⟩
        obtain ⟨b, off, rfl, hbl, hcell⟩ := hr.at (by omega)
        obtain ⟨k0, k1, k2, k3, k4⟩ := hcell j x hx
        have hs1 := (HZ.out x (List.mem_of_getElem? hx)).1
        have hs2 := (HZ.out x (List.mem_of_getElem? hx)).2
        clear hcell k1 k2 k4
        have HB : Hid _ := addLen_any z x.name.size w z1 z2 hs1
        go_upto_region 8 with (go_at_call 11; refine Calls.mono HB.out ?_; rintro e w1 ⟨⟨t2, rfl, g1, g2⟩, rfl⟩)
        clear HB
        by_cases hz2 : t2 ≤ 1048576
        · have HB : Hid _ := addLen_any t2 x.of.size w g1 g2 hs2
          go_wp2_with (go_at_call 11; refine Calls.mono HB.out ?_; rintro e w1 ⟨⟨t3, rfl, g3, g4⟩, rfl⟩)
          go_round
          case rel => exact ⟨j + 1, t3, by omega, by go_num, rfl, g3, g4⟩
          case measure => simp [intOf]; omega
        · go_wp2
          go_round
          case rel => exact ⟨j + 1, t2, by omega, by go_num, rfl, g1, g2⟩
          case measure => simp [intOf]; omega
      · go_wp2
        go_ret
        exact ⟨⟨_, rfl, fun _ => by omega⟩, rfl⟩
    · go_wp2
      go_ret
      exact ⟨⟨_, rfl, fun _ => by omega⟩, rfl⟩
end Go.Proofs.Qxb6616546a
