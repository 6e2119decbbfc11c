import Derived.Test.Qxb6617632aSmall
namespace Go.Proofs.Qxb6617632a
open Go.RowKit

/-- The ending: some bool. -/
def SomeBool (e : Ending) : Prop := ∃ r, e = .returned (.bool r)
theorem SomeBool.mk (r : Bool) : SomeBool (.returned (.bool r)) := ⟨r, rfl⟩

set_option maxHeartbeats 1000000 in
set_option maxRecDepth 100000 in
theorem bytes5_any {a0 a1 a2 a3 a4 : Option Addr} {c0 c1 c2 c3 c4 : Nat} {s0 s1 s2 s3 s4 : List ByteArray} {w : World} (k p : Int)
    (h0 : StrsAt w a0 c0 s0) (h1 : StrsAt w a1 c1 s1) (h2 : StrsAt w a2 c2 s2) (h3 : StrsAt w a3 c3 s3) (h4 : StrsAt w a4 c4 s4)
    (m0 : s0.length ≤ 9223372036854775807) (m1 : s1.length ≤ 9223372036854775807) (m2 : s2.length ≤ 9223372036854775807) (m3 : s3.length ≤ 9223372036854775807) (m4 : s4.length ≤ 9223372036854775807)
    (z0 : ∀ s ∈ s0, s.size ≤ 9223372036854775807) (z1 : ∀ s ∈ s1, s.size ≤ 9223372036854775807) (z2 : ∀ s ∈ s2, s.size ≤ 9223372036854775807) (z3 : ∀ s ∈ s3, s.size ≤ 9223372036854775807) (z4 : ∀ s ∈ s4, s.size ≤ 9223372036854775807) :
    Calls Try.prog 5 #[.slice a0 s0.length c0, .slice a1 s1.length c1, .slice a2 s2.length c2, .slice a3 s3.length c3, .slice a4 s4.length c4, .int .i64 k, .int .i64 p] w fun e w' => SomeBool e ∧ w = w' := by
  go_enter Try.func5, Try.ntmps5
  go_wp2
  · go_ret
    exact ⟨SomeBool.mk _, rfl⟩
  go_loop [15, 16] (fun t jv => ∃ (j : Nat) (z : Int), j ≤ s0.length ∧ jv = .int .i64 j ∧ t = .int .i64 z ∧ 0 ≤ z ∧ z ≤ 1048576) (fun _ jv => s0.length - (intOf jv).toNat)
  case atStart => exact ⟨0, _, by omega, rfl, rfl, by omega, by omega⟩
  case round =>
    obtain ⟨j, z, hj, rfl, rfl, hz3, hz4⟩ := hrel
    by_cases hjl : j < s0.length
    · obtain ⟨b, off, rfl, hcell⟩ := h0.at (by omega)
      have hcj := hcell j hjl
      have hsz := z0 s0[j] (List.getElem_mem hjl)
      clear hcell
      go_wp2
      · go_ret
        exact ⟨SomeBool.mk _, rfl⟩
      · go_ret
        exact ⟨SomeBool.mk _, rfl⟩
      · go_round
        case rel => exact ⟨j + 1, _, by omega, by go_num, rfl, by omega, by omega⟩
        case measure => simp [intOf]; omega
    clear h0 z0
    go_wp2
    · go_ret
      exact ⟨SomeBool.mk _, rfl⟩
    · go_ret
      exact ⟨SomeBool.mk _, rfl⟩
    go_loop [15, 17] (fun t jv => ∃ (j : Nat) (z : Int), j ≤ s1.length ∧ jv = .int .i64 j ∧ t = .int .i64 z ∧ 0 ≤ z ∧ z ≤ 1048576) (fun _ jv => s1.length - (intOf jv).toNat)
    case atStart => exact ⟨0, _, by omega, rfl, rfl, by omega, by omega⟩
    case round =>
      obtain ⟨j, z, hj, rfl, rfl, hz3, hz4⟩ := hrel
      by_cases hjl : j < s1.length
      · obtain ⟨b, off, rfl, hcell⟩ := h1.at (by omega)
        have hcj := hcell j hjl
        have hsz := z1 s1[j] (List.getElem_mem hjl)
        clear hcell
        go_wp2
        · go_ret
          exact ⟨SomeBool.mk _, rfl⟩
        · go_ret
          exact ⟨SomeBool.mk _, rfl⟩
        · go_round
          case rel => exact ⟨j + 1, _, by omega, by go_num, rfl, by omega, by omega⟩
          case measure => simp [intOf]; omega
      clear h1 z1
      go_wp2
      · go_ret
        exact ⟨SomeBool.mk _, rfl⟩
      · go_ret
        exact ⟨SomeBool.mk _, rfl⟩
      go_loop [15, 18] (fun t jv => ∃ (j : Nat) (z : Int), j ≤ s2.length ∧ jv = .int .i64 j ∧ t = .int .i64 z ∧ 0 ≤ z ∧ z ≤ 1048576) (fun _ jv => s2.length - (intOf jv).toNat)
      case atStart => exact ⟨0, _, by omega, rfl, rfl, by omega, by omega⟩
      case round =>
        obtain ⟨j, z, hj, rfl, rfl, hz3, hz4⟩ := hrel
        by_cases hjl : j < s2.length
        · obtain ⟨b, off, rfl, hcell⟩ := h2.at (by omega)
          have hcj := hcell j hjl
          have hsz := z2 s2[j] (List.getElem_mem hjl)
          clear hcell
          go_wp2
          · go_ret
            exact ⟨SomeBool.mk _, rfl⟩
          · go_ret
            exact ⟨SomeBool.mk _, rfl⟩
          · go_round
            case rel => exact ⟨j + 1, _, by omega, by go_num, rfl, by omega, by omega⟩
            case measure => simp [intOf]; omega
        clear h2 z2
        go_wp2
        · go_ret
          exact ⟨SomeBool.mk _, rfl⟩
        · go_ret
          exact ⟨SomeBool.mk _, rfl⟩
        go_loop [15, 19] (fun t jv => ∃ (j : Nat) (z : Int), j ≤ s3.length ∧ jv = .int .i64 j ∧ t = .int .i64 z ∧ 0 ≤ z ∧ z ≤ 1048576) (fun _ jv => s3.length - (intOf jv).toNat)
        case atStart => exact ⟨0, _, by omega, rfl, rfl, by omega, by omega⟩
        case round =>
          obtain ⟨j, z, hj, rfl, rfl, hz3, hz4⟩ := hrel
          by_cases hjl : j < s3.length
          · obtain ⟨b, off, rfl, hcell⟩ := h3.at (by omega)
            have hcj := hcell j hjl
            have hsz := z3 s3[j] (List.getElem_mem hjl)
            clear hcell
            go_wp2
            · go_ret
              exact ⟨SomeBool.mk _, rfl⟩
            · go_ret
              exact ⟨SomeBool.mk _, rfl⟩
            · go_round
              case rel => exact ⟨j + 1, _, by omega, by go_num, rfl, by omega, by omega⟩
              case measure => simp [intOf]; omega
          clear h3 z3
          go_wp2
          · go_ret
            exact ⟨SomeBool.mk _, rfl⟩
          · go_ret
            exact ⟨SomeBool.mk _, rfl⟩
          go_loop [15, 20] (fun t jv => ∃ (j : Nat) (z : Int), j ≤ s4.length ∧ jv = .int .i64 j ∧ t = .int .i64 z ∧ 0 ≤ z ∧ z ≤ 1048576) (fun _ jv => s4.length - (intOf jv).toNat)
          case atStart => exact ⟨0, _, by omega, rfl, rfl, by omega, by omega⟩
          case round =>
            obtain ⟨j, z, hj, rfl, rfl, hz3, hz4⟩ := hrel
            by_cases hjl : j < s4.length
            · obtain ⟨b, off, rfl, hcell⟩ := h4.at (by omega)
              have hcj := hcell j hjl
              have hsz := z4 s4[j] (List.getElem_mem hjl)
              clear hcell
              go_wp2
              · go_ret
                exact ⟨SomeBool.mk _, rfl⟩
              · go_ret
                exact ⟨SomeBool.mk _, rfl⟩
              · go_round
                case rel => exact ⟨j + 1, _, by omega, by go_num, rfl, by omega, by omega⟩
                case measure => simp [intOf]; omega
            clear h4 z4
            go_wp2
            go_ret
            exact ⟨SomeBool.mk _, rfl⟩

set_option maxHeartbeats 1000000 in
set_option maxRecDepth 100000 in
theorem bytes10_any {a0 a1 a2 a3 a4 : Option Addr} {c0 c1 c2 c3 c4 : Nat} {s0 s1 s2 s3 s4 : List ByteArray} {w : World} (k p : Int) (s : ByteArray) (hs : s.size ≤ 9223372036854775807)
    (h0 : StrsAt w a0 c0 s0) (h1 : StrsAt w a1 c1 s1) (h2 : StrsAt w a2 c2 s2) (h3 : StrsAt w a3 c3 s3) (h4 : StrsAt w a4 c4 s4)
    (m0 : s0.length ≤ 9223372036854775807) (m1 : s1.length ≤ 9223372036854775807) (m2 : s2.length ≤ 9223372036854775807) (m3 : s3.length ≤ 9223372036854775807) (m4 : s4.length ≤ 9223372036854775807)
    (z0 : ∀ s ∈ s0, s.size ≤ 9223372036854775807) (z1 : ∀ s ∈ s1, s.size ≤ 9223372036854775807) (z2 : ∀ s ∈ s2, s.size ≤ 9223372036854775807) (z3 : ∀ s ∈ s3, s.size ≤ 9223372036854775807) (z4 : ∀ s ∈ s4, s.size ≤ 9223372036854775807) :
    Calls Try.prog 10 #[.slice a0 s0.length c0, .slice a1 s1.length c1, .slice a2 s2.length c2, .slice a3 s3.length c3, .slice a4 s4.length c4, .int .i64 k, .int .i64 p, .string s] w fun e w' => SomeBool e ∧ w = w' := by
  go_enter Try.func10, Try.ntmps10
  go_wp2
  · go_ret
    exact ⟨SomeBool.mk _, rfl⟩
  go_loop [17, 18] (fun t jv => ∃ (j : Nat) (z : Int), j ≤ s0.length ∧ jv = .int .i64 j ∧ t = .int .i64 z ∧ 0 ≤ z ∧ z ≤ 1048576) (fun _ jv => s0.length - (intOf jv).toNat)
  case atStart => exact ⟨0, _, by omega, rfl, rfl, by omega, by omega⟩
  case round =>
    obtain ⟨j, z, hj, rfl, rfl, hz3, hz4⟩ := hrel
    by_cases hjl : j < s0.length
    · obtain ⟨b, off, rfl, hcell⟩ := h0.at (by omega)
      have hcj := hcell j hjl
      have hsz := z0 s0[j] (List.getElem_mem hjl)
      clear hcell
      go_wp2
      · go_ret
        exact ⟨SomeBool.mk _, rfl⟩
      · go_ret
        exact ⟨SomeBool.mk _, rfl⟩
      · go_round
        case rel => exact ⟨j + 1, _, by omega, by go_num, rfl, by omega, by omega⟩
        case measure => simp [intOf]; omega
    clear h0 z0
    go_wp2
    · go_ret
      exact ⟨SomeBool.mk _, rfl⟩
    · go_ret
      exact ⟨SomeBool.mk _, rfl⟩
    go_loop [17, 19] (fun t jv => ∃ (j : Nat) (z : Int), j ≤ s1.length ∧ jv = .int .i64 j ∧ t = .int .i64 z ∧ 0 ≤ z ∧ z ≤ 1048576) (fun _ jv => s1.length - (intOf jv).toNat)
    case atStart => exact ⟨0, _, by omega, rfl, rfl, by omega, by omega⟩
    case round =>
      obtain ⟨j, z, hj, rfl, rfl, hz3, hz4⟩ := hrel
      by_cases hjl : j < s1.length
      · obtain ⟨b, off, rfl, hcell⟩ := h1.at (by omega)
        have hcj := hcell j hjl
        have hsz := z1 s1[j] (List.getElem_mem hjl)
        clear hcell
        go_wp2
        · go_ret
          exact ⟨SomeBool.mk _, rfl⟩
        · go_ret
          exact ⟨SomeBool.mk _, rfl⟩
        · go_round
          case rel => exact ⟨j + 1, _, by omega, by go_num, rfl, by omega, by omega⟩
          case measure => simp [intOf]; omega
      clear h1 z1
      go_wp2
      · go_ret
        exact ⟨SomeBool.mk _, rfl⟩
      · go_ret
        exact ⟨SomeBool.mk _, rfl⟩
      go_loop [17, 20] (fun t jv => ∃ (j : Nat) (z : Int), j ≤ s2.length ∧ jv = .int .i64 j ∧ t = .int .i64 z ∧ 0 ≤ z ∧ z ≤ 1048576) (fun _ jv => s2.length - (intOf jv).toNat)
      case atStart => exact ⟨0, _, by omega, rfl, rfl, by omega, by omega⟩
      case round =>
        obtain ⟨j, z, hj, rfl, rfl, hz3, hz4⟩ := hrel
        by_cases hjl : j < s2.length
        · obtain ⟨b, off, rfl, hcell⟩ := h2.at (by omega)
          have hcj := hcell j hjl
          have hsz := z2 s2[j] (List.getElem_mem hjl)
          clear hcell
          go_wp2
          · go_ret
            exact ⟨SomeBool.mk _, rfl⟩
          · go_ret
            exact ⟨SomeBool.mk _, rfl⟩
          · go_round
            case rel => exact ⟨j + 1, _, by omega, by go_num, rfl, by omega, by omega⟩
            case measure => simp [intOf]; omega
        clear h2 z2
        go_wp2
        · go_ret
          exact ⟨SomeBool.mk _, rfl⟩
        · go_ret
          exact ⟨SomeBool.mk _, rfl⟩
        go_loop [17, 21] (fun t jv => ∃ (j : Nat) (z : Int), j ≤ s3.length ∧ jv = .int .i64 j ∧ t = .int .i64 z ∧ 0 ≤ z ∧ z ≤ 1048576) (fun _ jv => s3.length - (intOf jv).toNat)
        case atStart => exact ⟨0, _, by omega, rfl, rfl, by omega, by omega⟩
        case round =>
          obtain ⟨j, z, hj, rfl, rfl, hz3, hz4⟩ := hrel
          by_cases hjl : j < s3.length
          · obtain ⟨b, off, rfl, hcell⟩ := h3.at (by omega)
            have hcj := hcell j hjl
            have hsz := z3 s3[j] (List.getElem_mem hjl)
            clear hcell
            go_wp2
            · go_ret
              exact ⟨SomeBool.mk _, rfl⟩
            · go_ret
              exact ⟨SomeBool.mk _, rfl⟩
            · go_round
              case rel => exact ⟨j + 1, _, by omega, by go_num, rfl, by omega, by omega⟩
              case measure => simp [intOf]; omega
          clear h3 z3
          go_wp2
          · go_ret
            exact ⟨SomeBool.mk _, rfl⟩
          · go_ret
            exact ⟨SomeBool.mk _, rfl⟩
          go_loop [17, 22] (fun t jv => ∃ (j : Nat) (z : Int), j ≤ s4.length ∧ jv = .int .i64 j ∧ t = .int .i64 z ∧ 0 ≤ z ∧ z ≤ 1048576) (fun _ jv => s4.length - (intOf jv).toNat)
          case atStart => exact ⟨0, _, by omega, rfl, rfl, by omega, by omega⟩
          case round =>
            obtain ⟨j, z, hj, rfl, rfl, hz3, hz4⟩ := hrel
            by_cases hjl : j < s4.length
            · obtain ⟨b, off, rfl, hcell⟩ := h4.at (by omega)
              have hcj := hcell j hjl
              have hsz := z4 s4[j] (List.getElem_mem hjl)
              clear hcell
              go_wp2
              · go_ret
                exact ⟨SomeBool.mk _, rfl⟩
              · go_ret
                exact ⟨SomeBool.mk _, rfl⟩
              · go_round
                case rel => exact ⟨j + 1, _, by omega, by go_num, rfl, by omega, by omega⟩
                case measure => simp [intOf]; omega
            clear h4 z4
            go_wp2
            · go_ret
              exact ⟨SomeBool.mk _, rfl⟩
            · go_ret
              exact ⟨SomeBool.mk _, rfl⟩
            go_ret
            exact ⟨SomeBool.mk _, rfl⟩

end Go.Proofs.Qxb6617632a
