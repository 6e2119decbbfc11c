import Derived.Test.Qxb6617624aInts
import Derived.Deep.CutBlock
namespace Go.Proofs.Qxb6617624a
open Go.RowKit

/-- How many octets are left to count. -/
def left (m : Nat) : Nat := if m = 0 then 0 else if m < 256 then 1 else if m < 65536 then 2 else 3

theorem left_step (m : Nat) (h0 : 0 < m) (h1 : m < 16777216) : left m = 1 + left (m / 256) := by
  unfold left
  repeat' split
  all_goals omega

theorem left_lenOcts (n : Nat) (h : 128 ≤ n) : left n = lenOcts n := by
  unfold left lenOcts
  repeat' split
  all_goals omega

theorem left_le (m : Nat) : left m ≤ 3 := by
  unfold left
  repeat' split
  all_goals omega

theorem left_pos (m : Nat) (h : 0 < m) : 1 ≤ left m := by
  unfold left
  repeat' split
  all_goals omega

theorem ret_int {k : IntKind} {a b : Int} (h : a = b) : Ending.returned (.int k a) = .returned (.int k b) := by rw [h]

/-- What lengthLen answers. -/
def lenLen (n : Nat) : Nat := if n < 128 then 1 else 1 + lenOcts n

set_option maxRecDepth 100000 in
theorem lengthLen_any (n : Nat) (w : World) (hn : n < 16777216) : Calls Try.prog 14 #[.int .i64 n] w fun e w' => e = .returned (.int .i64 (lenLen n)) ∧ w = w' := by
  by_cases h : n < 128
  · have e : ((lenLen n : Nat) : Int) = 1 := by unfold lenLen; rw [if_pos h]; rfl
    rw [e]
    clear e
    go_enter Try.func14, Try.ntmps14
    go_wp2
    go_ret
    exact ⟨rfl, rfl⟩
  · have e : lenLen n = 1 + left n := by unfold lenLen; rw [if_neg h, left_lenOcts n (by omega)]
    rw [e]
    clear e
    go_enter Try.func14, Try.ntmps14
    go_wp2
    go_loop [0, 3] (fun mv ov => ∃ m o : Nat, m < 16777216 ∧ o ≤ 4 ∧ o + left m = 1 + left n ∧ mv = .int .i64 m ∧ ov = .int .i64 o) (fun mv _ => (intOf mv).toNat)
    case atStart => exact ⟨n, 1, by omega, by omega, rfl, rfl, rfl⟩
    case round =>
      obtain ⟨m, o, hm, ho, heq, rfl, rfl⟩ := hrel
      have HE : Hid _ := heq
      clear heq
      by_cases h0 : 0 < m
      · go_wp2
        go_round
        case rel => exact ⟨m / 256, o + 1, by omega, by have := HE.out; have := left_le n; have := left_pos m h0; omega, by have := HE.out; rw [left_step m h0 hm] at this; omega, by go_num, by go_num⟩
        case measure => simp [intOf]; omega
      · go_wp2
        go_ret
        refine ⟨ret_int ?_, rfl⟩
        have := HE.out
        obtain rfl : m = 0 := by omega
        have e0 : left 0 = 0 := rfl
        omega

theorem lengthLen_big (n : Nat) (w : World) (hn : n < 16777216) (h : 128 ≤ n) : Calls Try.prog 14 #[.int .i64 n] w fun e w' => e = .returned (.int .i64 ((lenOcts n : Int) + 1)) ∧ w = w' := by
  refine (lengthLen_any n w hn).mono ?_
  rintro e w' ⟨rfl, rfl⟩
  refine ⟨ret_int ?_, rfl⟩
  unfold lenLen
  rw [if_neg (by omega)]
  omega

theorem lenOcts_range (n : Nat) : 1 ≤ lenOcts n ∧ lenOcts n ≤ 3 := by
  unfold lenOcts
  repeat' split
  all_goals omega

theorem or128 (k : Nat) (h : 1 ≤ k ∧ k ≤ 3) : bits .or .u8 128 (k : Int) = 128 + (k : Int) := by
  rcases (show k = 1 ∨ k = 2 ∨ k = 3 from by omega) with rfl | rfl | rfl <;> decide +kernel

/-- The ending: a slice that owns xs. -/
def GivesOwn (w w' : World) (B : Nat) (xs : List Int) (e : Ending) : Prop := ∃ v', e = .returned v' ∧ Own w' B v' xs ∧ Below B w w'

set_option maxRecDepth 100000 in
theorem header_app (B : Nat) (v : Value) (xs : List Int) (tag : Int) (n : Nat) (w : World) (hown : Own w B v xs) (hn : n < 16777216) (hx : xs.length ≤ 50000000) :
    Calls Try.prog 13 #[v, .int .u8 tag, .int .i64 n] w fun e w' => GivesOwn w w' B (xs ++ hdr tag n) e := by
  by_cases h : n < 128
  · go_enter Try.func13, Try.ntmps13
    go_wp2_with (first
      | (at_builtin; refine wpList_append_byte _ _ rfl _ _ rfl B _ xs (by rfl) hown (by rfl) (by omega) ?_; intro v1 w1 hown1 hb1)
      | (at_builtin; refine wpList_append_byte _ _ rfl _ _ rfl B _ _ (by rfl) hown1 (by rfl) (by simp; omega) ?_; intro v2 w2 hown2 hb2))
    go_ret
    refine ⟨_, rfl, ?_, hb1.trans hb2⟩
    rw [hdr_small tag n h, show ([tag, (n : Int)] : List Int) = [tag] ++ [(n : Int)] from rfl, ← List.append_assoc]
    exact hown2
  · have hk := lenOcts_range n
    have hor := or128 _ hk
    have hl := lengthLen_big n
    have HL : Hid _ := hl
    have HH : Hid (hdr tag n = [tag] ++ [128 + (lenOcts n : Int)] ++ bytesOf n (lenOcts n)) := by unfold hdr; rw [if_neg h]; rfl
    clear hl
    generalize lenOcts n = k at *
    have hk1 := hk.1
    have hk2 := hk.2
    clear hk
    go_enter Try.func13, Try.ntmps13
    go_wp2_with (first
      | (at_builtin; refine wpList_append_byte _ _ rfl _ _ rfl B _ xs (by rfl) hown (by rfl) (by omega) ?_; intro v1 w1 hown1 hb1)
      | (go_at_call 14; refine (HL.out _ hn (by omega)).mono ?_; rintro e w' ⟨rfl, rfl⟩)
      | (at_builtin; refine wpList_append_byte _ _ rfl _ _ rfl B _ _ (by rfl) hown1 (by rfl) (by simp; omega) ?_; intro v2 w2 hown2 hb2))
    go_loopw [0, 8] (fun bv jv wr => ∃ (j : Nat) (acc : List Int), j ≤ k ∧ jv = .int .i64 ((j : Int) - 1) ∧ acc ++ bytesOf n j = bytesOf n k ∧ Own wr B bv (xs ++ [tag] ++ [128 + (k : Int)] ++ acc) ∧ Below B w wr) (fun _ jv _ => ((intOf jv) + 1).toNat)
    case atStart => exact ⟨k, [], Nat.le_refl _, rfl, rfl, by simpa using hown2, hb1.trans hb2⟩
    case round =>
      clear hown1 hown2 hb1 hb2 hown
      obtain ⟨j, acc, hj, rfl, hacc, ho, hbr⟩ := hrel
      have HA : Hid _ := hacc
      clear hacc
      cases j with
      | zero =>
        go_wp2
        go_ret
        refine ⟨_, rfl, ?_, hbr⟩
        have := HA.out
        simp only [bytesOf, List.append_nil] at this
        rw [HH.out, ← this]
        simpa using ho
      | succ j =>
        have hal : acc.length + (j + 1) = k := by
          have := congrArg List.length HA.out
          simpa [bytesOf_length] using this
        have HAL : Hid _ := hal
        have hal2 : acc.length ≤ 3 := by omega
        clear hal
        rw [show ((j + 1 : Nat) : Int) - 1 = (j : Int) from by omega]
        go_wp2_with (at_builtin; refine wpList_append_byte _ _ rfl _ _ rfl B _ _ (by rfl) ho (by rfl) (by simp; omega) ?_; intro v3 w3 hown3 hb3)
        go_roundw
        case rel =>
          refine ⟨j, acc ++ [shB n j], by omega, by go_num, ?_, ?_, hbr.trans hb3⟩
          · have := HA.out
            simpa [bytesOf] using this
          · rw [← List.append_assoc]
            exact hown3
        case measure => simp [intOf]

theorem element_app (B B' : Nat) (v : Value) (xs : List Int) (tag : Int) (ao : Option Addr) (c : Nat) (zs : List Int) (w : World) (hown : Own w B v xs) (hz : IntsAt B' w ao c zs) (hB : B' ≤ B) (hn : zs.length ≤ 5000000) (hx : xs.length ≤ 50000000) :
    Calls Try.prog 11 #[v, .int .u8 tag, .slice ao zs.length c] w fun e w' => GivesOwn w w' B (xs ++ encEl tag zs) e := by
  go_enter Try.func11, Try.ntmps11
  go_wp2_with fail
  refine (header_app B v xs tag zs.length w hown (by omega) hx).mono ?_
  rintro e w1 ⟨v1, rfl, hown1, hb1⟩
  have hz1 := hz.below hb1 hB
  have hhl := hdr_length_le tag zs.length
  go_wp2_with (at_builtin; refine wpList_append_ints _ rfl _ _ rfl B _ _ (by rfl) hown1 ao c zs (by rfl) B' hz1 (by simp; omega) ?_; intro v2 w2 hown2 hb2)
  go_ret
  refine ⟨_, rfl, ?_, hb1.trans hb2⟩
  unfold encEl
  rw [← List.append_assoc]
  exact hown2

theorem elementLen_any (n : Nat) (w : World) (hn : n < 16777216) : Calls Try.prog 12 #[.int .i64 n] w fun e w' => e = .returned (.int .i64 ((1 + lenLen n + n : Nat) : Int)) ∧ w = w' := by
  have hl : lenLen n ≤ 4 := by
    have := lenOcts_range n
    unfold lenLen
    split <;> omega
  go_enter Try.func12, Try.ntmps12
  go_wp2_with (go_at_call 14; refine (lengthLen_any n _ hn).mono ?_; rintro e w' ⟨rfl, rfl⟩)
  go_ret
  exact ⟨ret_int (by simp), rfl⟩

set_option maxRecDepth 100000 in
theorem integer_app (B : Nat) (v : Value) (xs : List Int) (n : Int) (w : World) (hown : Own w B v xs) (hn0 : -9223372036854775808 ≤ n) (hn1 : n ≤ 9223372036854775807) (hx : xs.length ≤ 40000000) :
    Calls Try.prog 10 #[v, .int .u8 2, .int .i64 n] w fun e w' => GivesOwn w w' B (xs ++ encInt n) e := by
  go_enter Try.func10, Try.ntmps10
  go_upto_block 0 with fail
  go_cut [7] from 9 to 22 (fun kv wc => wc = w ∧ kv = .int .i64 (octs n))
  case first =>
    go_wp2_with fail
    go_loop [7] (fun kv => ∃ k : Nat, octs n ≤ k ∧ k ≤ 8 ∧ kv = .int .i64 k) (fun kv => (intOf kv).toNat)
    case atStart => exact ⟨8, (octs_range n).2, by omega, rfl⟩
    case round =>
      obtain ⟨k, hk1, hk8, rfl⟩ := hrel
      have ho1 := (octs_range n).1
      by_cases hlt : octs n < k
      · rcases (show k = 2 ∨ k = 3 ∨ k = 4 ∨ k = 5 ∨ k = 6 ∨ k = 7 ∨ k = 8 from by omega) with rfl | rfl | rfl | rfl | rfl | rfl | rfl
        · have ht := test_yes2 n hlt
          go_wp2
          go_round
          case rel => exact ⟨1, by omega, by omega, rfl⟩
          case measure => simp [intOf]
        · have ht := test_yes3 n hlt
          go_wp2
          go_round
          case rel => exact ⟨2, by omega, by omega, rfl⟩
          case measure => simp [intOf]
        · have ht := test_yes4 n hlt
          go_wp2
          go_round
          case rel => exact ⟨3, by omega, by omega, rfl⟩
          case measure => simp [intOf]
        · have ht := test_yes5 n hlt
          go_wp2
          go_round
          case rel => exact ⟨4, by omega, by omega, rfl⟩
          case measure => simp [intOf]
        · have ht := test_yes6 n hlt
          go_wp2
          go_round
          case rel => exact ⟨5, by omega, by omega, rfl⟩
          case measure => simp [intOf]
        · have ht := test_yes7 n hlt
          go_wp2
          go_round
          case rel => exact ⟨6, by omega, by omega, rfl⟩
          case measure => simp [intOf]
        · have ht := test_yes8 n hlt
          go_wp2
          go_round
          case rel => exact ⟨7, by omega, by omega, rfl⟩
          case measure => simp [intOf]
      · have hoe : octs n = k := by omega
        rcases (show k = 1 ∨ k = 2 ∨ k = 3 ∨ k = 4 ∨ k = 5 ∨ k = 6 ∨ k = 7 ∨ k = 8 from by omega) with rfl | rfl | rfl | rfl | rfl | rfl | rfl | rfl
        · have HO : Hid _ := hoe
          clear hoe hk1 ho1 hlt
          go_wp2
          go_meet
          case rel => exact ⟨rfl, by rw [HO.out]; rfl⟩
        · have ht := test_no2 n hoe hn0 hn1
          have HO : Hid _ := hoe
          clear hoe hk1 ho1 hlt
          go_wp2
          go_meet
          case rel => exact ⟨rfl, by rw [HO.out]; rfl⟩
        · have ht := test_no3 n hoe hn0 hn1
          have HO : Hid _ := hoe
          clear hoe hk1 ho1 hlt
          go_wp2
          go_meet
          case rel => exact ⟨rfl, by rw [HO.out]; rfl⟩
        · have ht := test_no4 n hoe hn0 hn1
          have HO : Hid _ := hoe
          clear hoe hk1 ho1 hlt
          go_wp2
          go_meet
          case rel => exact ⟨rfl, by rw [HO.out]; rfl⟩
        · have ht := test_no5 n hoe hn0 hn1
          have HO : Hid _ := hoe
          clear hoe hk1 ho1 hlt
          go_wp2
          go_meet
          case rel => exact ⟨rfl, by rw [HO.out]; rfl⟩
        · have ht := test_no6 n hoe hn0 hn1
          have HO : Hid _ := hoe
          clear hoe hk1 ho1 hlt
          go_wp2
          go_meet
          case rel => exact ⟨rfl, by rw [HO.out]; rfl⟩
        · have ht := test_no7 n hoe hn0 hn1
          have HO : Hid _ := hoe
          clear hoe hk1 ho1 hlt
          go_wp2
          go_meet
          case rel => exact ⟨rfl, by rw [HO.out]; rfl⟩
        · have ht := test_no8 n hoe hn0 hn1
          have HO : Hid _ := hoe
          clear hoe hk1 ho1 hlt
          go_wp2
          go_meet
          case rel => exact ⟨rfl, by rw [HO.out]; rfl⟩
  case rest =>
    obtain ⟨rfl, rfl⟩ := hcut
    have hr := octs_range n
    have HE : Hid (encInt n = [2] ++ [(octs n : Int)] ++ bytesOf n (octs n)) := by unfold encInt; rw [hdr_small _ _ (by omega)]; rfl
    generalize octs n = k at *
    have hk1 := hr.1
    have hk2 := hr.2
    clear hr
    go_wp2_with fail
    refine (header_app B v xs 2 k wc hown (by omega) (by omega)).mono ?_
    rintro e w1 ⟨v1, rfl, hown1, hb1⟩
    rw [hdr_small _ _ (by omega)] at hown1
    go_wp2
    go_loopw [0, 8] (fun bv jv wr => ∃ (j : Nat) (acc : List Int), j ≤ k ∧ jv = .int .i64 ((j : Int) - 1) ∧ acc ++ bytesOf n j = bytesOf n k ∧ Own wr B bv (xs ++ [2, (k : Int)] ++ acc) ∧ Below B wc wr) (fun _ jv _ => ((intOf jv) + 1).toNat)
    case atStart => exact ⟨k, [], Nat.le_refl _, rfl, rfl, by simpa using hown1, hb1⟩
    case round =>
      clear hown1 hb1 hown
      obtain ⟨j, acc, hj, rfl, hacc, ho, hbr⟩ := hrel
      have HA : Hid _ := hacc
      clear hacc
      cases j with
      | zero =>
        go_wp2
        go_ret
        refine ⟨_, rfl, ?_, hbr⟩
        have := HA.out
        simp only [bytesOf, List.append_nil] at this
        rw [HE.out, ← this]
        simpa using ho
      | succ j =>
        have hal : acc.length + (j + 1) = k := by
          have := congrArg List.length HA.out
          simpa [bytesOf_length] using this
        have HAL : Hid _ := hal
        have hal2 : acc.length ≤ 8 := by omega
        clear hal
        rw [show ((j + 1 : Nat) : Int) - 1 = (j : Int) from by omega]
        go_wp2_with (at_builtin; refine wpList_append_byte _ _ rfl _ _ rfl B _ _ (by rfl) ho (by rfl) (by simp; omega) ?_; intro v3 w3 hown3 hb3)
        go_roundw
        case rel =>
          refine ⟨j, acc ++ [shB n j], by omega, by go_num, ?_, ?_, hbr.trans hb3⟩
          · have := HA.out
            simpa [bytesOf] using this
          · rw [← List.append_assoc]
            exact hown3
        case measure => simp [intOf]
#print axioms integer_app
end Go.Proofs.Qxb6617624a
