import Derived.Test.Qxb6617632aStrs
namespace Go.Proofs.Qxb6617632a
open Go.RowKit

/-- The k-th of five. -/
def stg {α : Type} (k : Nat) (a b c d e : α) : α := match k with | 0 => a | 1 => b | 2 => c | 3 => d | _ => e

theorem stage_any (k : Nat) (v0 v1 v2 v3 v4 : Value) (w : World) (hk : k ≤ 4) :
    Calls Try.prog 7 #[.int .i64 k, v0, v1, v2, v3, v4] w fun e w' => e = .returned (stg k v0 v1 v2 v3 v4) ∧ w = w' := by
  rcases (show k = 0 ∨ k = 1 ∨ k = 2 ∨ k = 3 ∨ k = 4 from by omega) with rfl | rfl | rfl | rfl | rfl
  all_goals
    go_enter Try.func7, Try.ntmps7
    go_wp2
    go_ret
    exact ⟨rfl, rfl⟩

theorem stage_strs (k : Nat) {a0 a1 a2 a3 a4 : Option Addr} {c0 c1 c2 c3 c4 : Nat} {s0 s1 s2 s3 s4 : List ByteArray} {w : World} (hk : k ≤ 4)
    (h0 : StrsAt w a0 c0 s0) (h1 : StrsAt w a1 c1 s1) (h2 : StrsAt w a2 c2 s2) (h3 : StrsAt w a3 c3 s3) (h4 : StrsAt w a4 c4 s4) :
    Calls Try.prog 7 #[.int .i64 k, .slice a0 s0.length c0, .slice a1 s1.length c1, .slice a2 s2.length c2, .slice a3 s3.length c3, .slice a4 s4.length c4] w fun e w' =>
      (∃ ao cap, e = .returned (.slice ao (stg k s0 s1 s2 s3 s4).length cap) ∧ StrsAt w ao cap (stg k s0 s1 s2 s3 s4)) ∧ w = w' := by
  refine (stage_any k _ _ _ _ _ w hk).mono ?_
  rintro e w' ⟨rfl, rfl⟩
  refine ⟨?_, rfl⟩
  rcases (show k = 0 ∨ k = 1 ∨ k = 2 ∨ k = 3 ∨ k = 4 from by omega) with rfl | rfl | rfl | rfl | rfl
  · exact ⟨a0, c0, rfl, h0⟩
  · exact ⟨a1, c1, rfl, h1⟩
  · exact ⟨a2, c2, rfl, h2⟩
  · exact ⟨a3, c3, rfl, h3⟩
  · exact ⟨a4, c4, rfl, h4⟩

/-- How many strings lie in the first k of five lists. -/
def cnt (k : Nat) (s0 s1 s2 s3 s4 : List ByteArray) : Nat := match k with
  | 0 => 0 | 1 => s0.length | 2 => s0.length + s1.length | 3 => s0.length + s1.length + s2.length | 4 => s0.length + s1.length + s2.length + s3.length
  | _ => s0.length + s1.length + s2.length + s3.length + s4.length

theorem cnt_succ (k : Nat) (hk : k ≤ 4) (s0 s1 s2 s3 s4 : List ByteArray) : cnt (k + 1) s0 s1 s2 s3 s4 = cnt k s0 s1 s2 s3 s4 + (stg k s0 s1 s2 s3 s4).length := by
  rcases (show k = 0 ∨ k = 1 ∨ k = 2 ∨ k = 3 ∨ k = 4 from by omega) with rfl | rfl | rfl | rfl | rfl <;> simp [cnt, stg]

/-- The ending: a bool; where it says no, B holds. -/
def NoSays (B : Prop) (e : Ending) : Prop := ∃ r, e = .returned (.bool r) ∧ (r = false → B)
theorem NoSays.yes {B : Prop} : NoSays B (.returned (.bool true)) := ⟨true, rfl, fun h => by cases h⟩
theorem NoSays.no {B : Prop} (h : B) : NoSays B (.returned (.bool false)) := ⟨false, rfl, fun _ => h⟩

set_option maxHeartbeats 400000 in
theorem tooLarge_any {a0 a1 a2 a3 a4 : Option Addr} {c0 c1 c2 c3 c4 : Nat} {s0 s1 s2 s3 s4 : List ByteArray} {w : World} (x : Int) (hx0 : 0 ≤ x) (hx1 : x ≤ 1048592)
    (h0 : StrsAt w a0 c0 s0) (h1 : StrsAt w a1 c1 s1) (h2 : StrsAt w a2 c2 s2) (h3 : StrsAt w a3 c3 s3) (h4 : StrsAt w a4 c4 s4)

    (hm : ∀ k, k ≤ 4 → (stg k s0 s1 s2 s3 s4).length ≤ 9223372036854775807) (hz : ∀ k, k ≤ 4 → ∀ s ∈ stg k s0 s1 s2 s3 s4, s.size ≤ 9223372036854775807) :
    Calls Try.prog 6 #[.slice a0 s0.length c0, .slice a1 s1.length c1, .slice a2 s2.length c2, .slice a3 s3.length c3, .slice a4 s4.length c4, .int .i64 x] w fun e w' =>
      NoSays (x + 16 * cnt 5 s0 s1 s2 s3 s4 ≤ 1048576) e ∧ w = w' := by
  by_cases hx : 1048576 < x
  · go_enter Try.func6, Try.ntmps6
    go_wp2
    go_ret
    exact ⟨NoSays.yes, rfl⟩
  · go_enter Try.func6, Try.ntmps6
    go_wp2
    go_loop [13, 14, 15, 16] (fun t st _ _ => ∃ (k : Nat) (z : Int), k ≤ 5 ∧ st = .int .i64 k ∧ t = .int .i64 z ∧ x + 16 * cnt k s0 s1 s2 s3 s4 ≤ z ∧ z ≤ 1048576) (fun _ st _ _ => 5 - (intOf st).toNat)
    case atStart => exact ⟨0, x, by omega, rfl, rfl, by simp [cnt], by omega⟩
    case round =>
      obtain ⟨k, z, hk, rfl, rfl, hz1, hz2⟩ := hrel
      by_cases hlt : k < 5
      · have hms := hm k (by omega)
        have hzs := hz k (by omega)
        have HC : Hid (cnt (k + 1) s0 s1 s2 s3 s4 = cnt k s0 s1 s2 s3 s4 + (stg k s0 s1 s2 s3 s4).length) := cnt_succ k (by omega) s0 s1 s2 s3 s4
        go_wp2_with (go_at_call 7; refine (stage_strs k (by omega) h0 h1 h2 h3 h4).mono ?_; rintro e w' ⟨⟨ao, cap, rfl, hs⟩, rfl⟩)
        generalize stg k s0 s1 s2 s3 s4 = S at *
        go_loop [13, 16] (fun t jv => ∃ (j : Nat) (z' : Int), j ≤ S.length ∧ jv = .int .i64 j ∧ t = .int .i64 z' ∧ z + 16 * j ≤ z' ∧ z' ≤ 1048576) (fun _ jv => S.length - (intOf jv).toNat)
        case atStart => exact ⟨0, z, by omega, rfl, rfl, by omega, by omega⟩
        case round =>
          obtain ⟨j, z', hj, rfl, rfl, hz3, hz4⟩ := hrel
          by_cases hjl : j < S.length
          · obtain ⟨b, off, rfl, hcell⟩ := hs.at (by omega)
            have hcj := hcell j hjl
            have hsz := hzs S[j] (List.getElem_mem hjl)
            clear hcell hs
            go_wp2
            · go_ret
              exact ⟨NoSays.yes, rfl⟩
            · go_ret
              exact ⟨NoSays.yes, rfl⟩
            · go_round
              case rel => exact ⟨j + 1, _, by omega, by go_num, rfl, by omega, by omega⟩
              case measure => simp [intOf]; omega
          · go_wp2
            go_round
            case rel => exact ⟨k + 1, _, by omega, by go_num, rfl, by have := HC.out; omega, by omega⟩
            case measure => simp [intOf]; omega
      · go_wp2
        go_ret
        obtain rfl : k = 5 := by omega
        exact ⟨NoSays.no (by omega), rfl⟩
end Go.Proofs.Qxb6617632a
