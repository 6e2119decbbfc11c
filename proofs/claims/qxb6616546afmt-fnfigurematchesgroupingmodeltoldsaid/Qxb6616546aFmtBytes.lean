import Derived.Test.Qxb6616546aFmtCounts
namespace Go.Proofs.Qxb6616546aFmt
open Go.RowKit

/-- The ending: some bool. -/
def SomeBool (e : Ending) : Prop := ∃ r, e = .returned (.bool r)
theorem SomeBool.mk (r : Bool) : SomeBool (.returned (.bool r)) := ⟨r, rfl⟩

set_option maxHeartbeats 2000000 in
set_option maxRecDepth 100000 in
theorem zz5_any (k : Int) (a0 a1 : Option Addr) (c0 c1 : Nat) (ss : List ByteArray) (ps : List (ByteArray × ByteArray)) (wi be : ByteArray) (w : World) (h0 : StrsAt w a0 c0 ss) (h1 : PairsAt w a1 c1 ps)
    (m0 : ss.length ≤ 9223372036854775807) (z0 : ∀ s ∈ ss, s.size ≤ 9223372036854775807) (m1 : ps.length ≤ 9223372036854775807) (z1 : ∀ p ∈ ps, p.1.size ≤ 9223372036854775807 ∧ p.2.size ≤ 9223372036854775807) (hwi : wi.size ≤ 9223372036854775807) (hbe : be.size ≤ 9223372036854775807) :
    Calls Tryf.prog 5 #[.int .i64 k, .slice a0 ss.length c0, .slice a1 ps.length c1, .string wi, .string be] w fun e w' => SomeBool e ∧ w = w' := by
  have Z0 : Hid _ := z0
  have Z1 : Hid _ := z1
  clear z0 z1
  go_enter Tryf.func5, Tryf.ntmps5
  go_wp2
  any_goals (go_ret; exact ⟨SomeBool.mk _, rfl⟩)
  go_loop [11, 12] (fun t jv => ∃ (j : Nat) (z : Int), j ≤ ss.length ∧ jv = .int .i64 j ∧ t = .int .i64 z ∧ 0 ≤ z ∧ z ≤ 1048576) (fun _ jv => ss.length - (intOf jv).toNat)
  case atStart => exact ⟨0, _, by omega, rfl, rfl, by omega, by omega⟩
  case round =>
    obtain ⟨j, z, hj, rfl, rfl, hz3, hz4⟩ := hrel
    by_cases hjl : j < ss.length
    · obtain ⟨b, off, rfl, hcell⟩ := h0.at (by omega)
      have hcj := hcell j ss[j] (List.getElem?_eq_getElem hjl)
      have hsz := Z0.out ss[j] (List.getElem_mem hjl)
      clear hcell
      go_wp2
      any_goals (go_ret; exact ⟨SomeBool.mk _, rfl⟩)
      go_round
      case rel => exact ⟨j + 1, _, by omega, by go_num, rfl, by omega, by omega⟩
      case measure => simp [intOf]; omega
    clear h0 Z0
    go_wp2
    any_goals (go_ret; exact ⟨SomeBool.mk _, rfl⟩)
    go_loop [11, 13] (fun t jv => ∃ (j : Nat) (z : Int), j ≤ ps.length ∧ jv = .int .i64 j ∧ t = .int .i64 z ∧ 0 ≤ z ∧ z ≤ 1048576) (fun _ jv => ps.length - (intOf jv).toNat)
    case atStart => exact ⟨0, _, by omega, rfl, rfl, by omega, by omega⟩
    case round =>
      obtain ⟨j, z, hj, rfl, rfl, hz3, hz4⟩ := hrel
      by_cases hjl : j < ps.length
      · obtain ⟨b, off, rfl, hcell⟩ := h1.at (by omega)
        obtain ⟨gx, yx, hpj⟩ : ∃ gx yx, ps[j]? = some (gx, yx) := ⟨_, _, List.getElem?_eq_getElem hjl⟩
        obtain ⟨hc1, hc2⟩ := hcell j _ hpj
        have hsz := Z1.out _ (List.mem_of_getElem? hpj)
        have hs1 := hsz.1
        have hs2 := hsz.2
        clear hcell hsz
        simp only at hs1 hs2 hc1 hc2
        go_wp2
        any_goals (go_ret; exact ⟨SomeBool.mk _, rfl⟩)
        go_round
        case rel => exact ⟨j + 1, _, by omega, by go_num, rfl, by omega, by omega⟩
        case measure => simp [intOf]; omega
      clear h1 Z1
      go_wp2
      any_goals (go_ret; exact ⟨SomeBool.mk _, rfl⟩)

set_option maxHeartbeats 2000000 in
set_option maxRecDepth 100000 in
theorem zz10_any (k k2 : Int) (a0 a1 a2 : Option Addr) (c0 c1 c2 : Nat) (ss sq : List ByteArray) (ps : List (ByteArray × ByteArray)) (wi be wj bf : ByteArray) (w : World) (h0 : StrsAt w a0 c0 ss) (h1 : PairsAt w a1 c1 ps) (h2 : StrsAt w a2 c2 sq)
    (m0 : ss.length ≤ 9223372036854775807) (z0 : ∀ s ∈ ss, s.size ≤ 9223372036854775807) (m1 : ps.length ≤ 9223372036854775807) (z1 : ∀ p ∈ ps, p.1.size ≤ 9223372036854775807 ∧ p.2.size ≤ 9223372036854775807) (hwi : wi.size ≤ 9223372036854775807) (hbe : be.size ≤ 9223372036854775807)
    (m2 : sq.length ≤ 9223372036854775807) (z2 : ∀ s ∈ sq, s.size ≤ 9223372036854775807) (hwj : wj.size ≤ 9223372036854775807) (hbf : bf.size ≤ 9223372036854775807) :
    Calls Tryf.prog 10 #[.int .i64 k, .slice a0 ss.length c0, .slice a1 ps.length c1, .string wi, .string be, .int .i64 k2, .slice a2 sq.length c2, .string wj, .string bf] w fun e w' => SomeBool e ∧ w = w' := by
  have Z0 : Hid _ := z0
  have Z1 : Hid _ := z1
  have Z2 : Hid _ := z2
  clear z0 z1 z2
  go_enter Tryf.func10, Tryf.ntmps10
  go_wp2
  any_goals (go_ret; exact ⟨SomeBool.mk _, rfl⟩)
  go_loop [19, 20] (fun t jv => ∃ (j : Nat) (z : Int), j ≤ ss.length ∧ jv = .int .i64 j ∧ t = .int .i64 z ∧ 0 ≤ z ∧ z ≤ 1048576) (fun _ jv => ss.length - (intOf jv).toNat)
  case atStart => exact ⟨0, _, by omega, rfl, rfl, by omega, by omega⟩
  case round =>
    obtain ⟨j, z, hj, rfl, rfl, hz3, hz4⟩ := hrel
    by_cases hjl : j < ss.length
    · obtain ⟨b, off, rfl, hcell⟩ := h0.at (by omega)
      have hcj := hcell j ss[j] (List.getElem?_eq_getElem hjl)
      have hsz := Z0.out ss[j] (List.getElem_mem hjl)
      clear hcell
      go_wp2
      any_goals (go_ret; exact ⟨SomeBool.mk _, rfl⟩)
      go_round
      case rel => exact ⟨j + 1, _, by omega, by go_num, rfl, by omega, by omega⟩
      case measure => simp [intOf]; omega
    clear h0 Z0
    go_wp2
    any_goals (go_ret; exact ⟨SomeBool.mk _, rfl⟩)
    go_loop [19, 21] (fun t jv => ∃ (j : Nat) (z : Int), j ≤ ps.length ∧ jv = .int .i64 j ∧ t = .int .i64 z ∧ 0 ≤ z ∧ z ≤ 1048576) (fun _ jv => ps.length - (intOf jv).toNat)
    case atStart => exact ⟨0, _, by omega, rfl, rfl, by omega, by omega⟩
    case round =>
      obtain ⟨j, z, hj, rfl, rfl, hz3, hz4⟩ := hrel
      by_cases hjl : j < ps.length
      · obtain ⟨b, off, rfl, hcell⟩ := h1.at (by omega)
        obtain ⟨gx, yx, hpj⟩ : ∃ gx yx, ps[j]? = some (gx, yx) := ⟨_, _, List.getElem?_eq_getElem hjl⟩
        obtain ⟨hc1, hc2⟩ := hcell j _ hpj
        have hsz := Z1.out _ (List.mem_of_getElem? hpj)
        have hs1 := hsz.1
        have hs2 := hsz.2
        clear hcell hsz
        simp only at hs1 hs2 hc1 hc2
        go_wp2
        any_goals (go_ret; exact ⟨SomeBool.mk _, rfl⟩)
        go_round
        case rel => exact ⟨j + 1, _, by omega, by go_num, rfl, by omega, by omega⟩
        case measure => simp [intOf]; omega
      clear h1 Z1
      go_wp2
      any_goals (go_ret; exact ⟨SomeBool.mk _, rfl⟩)
      go_loop [19, 22] (fun t jv => ∃ (j : Nat) (z : Int), j ≤ sq.length ∧ jv = .int .i64 j ∧ t = .int .i64 z ∧ 0 ≤ z ∧ z ≤ 1048576) (fun _ jv => sq.length - (intOf jv).toNat)
      case atStart => exact ⟨0, _, by omega, rfl, rfl, by omega, by omega⟩
      case round =>
        obtain ⟨j, z, hj, rfl, rfl, hz3, hz4⟩ := hrel
        by_cases hjl : j < sq.length
        · obtain ⟨b, off, rfl, hcell⟩ := h2.at (by omega)
          have hcj := hcell j sq[j] (List.getElem?_eq_getElem hjl)
          have hsz := Z2.out sq[j] (List.getElem_mem hjl)
          clear hcell
          go_wp2
          any_goals (go_ret; exact ⟨SomeBool.mk _, rfl⟩)
          go_round
          case rel => exact ⟨j + 1, _, by omega, by go_num, rfl, by omega, by omega⟩
          case measure => simp [intOf]; omega
        clear h2 Z2
        go_wp2
        any_goals (go_ret; exact ⟨SomeBool.mk _, rfl⟩)

end Go.Proofs.Qxb6616546aFmt
