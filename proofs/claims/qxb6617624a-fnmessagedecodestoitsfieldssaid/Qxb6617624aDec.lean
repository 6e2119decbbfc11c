import Derived.Test.Qxb6617624aMsg
namespace Go.Proofs.Qxb6617624a
open Go.RowKit

/-- The ending: an element's tag and the bounds of its content. -/
def GivesHdr (tag : Int) (p n : Nat) (e : Ending) : Prop := ∃ s t : Nat, e = .returned (.tuple #[.int .u8 tag, .int .i64 s, .int .i64 t, .bool true]) ∧ s = p ∧ t = p + n

theorem and127 (k : Nat) (h : 1 ≤ k ∧ k ≤ 3) : bits .and .u8 (128 + (k : Int)) 127 = (k : Int) := by
  rcases (show k = 1 ∨ k = 2 ∨ k = 3 from by omega) with rfl | rfl | rfl <;> decide +kernel

theorem top_ne (n : Nat) (h : 128 ≤ n) (h' : n < 16777216) : shB n (lenOcts n - 1) ≠ 0 := by
  unfold shB lenOcts
  repeat' split
  all_goals simp
  all_goals omega

theorem whole_lt (n : Nat) (h' : n < 16777216) : (n : Int) / 2 ^ (8 * lenOcts n) = 0 := by
  unfold lenOcts
  repeat' split
  all_goals simp
  all_goals omega

set_option maxHeartbeats 1000000 in
set_option maxRecDepth 100000 in
theorem header_any (B : Nat) (ao : Option Addr) (cap : Nat) (zs : List Int) (tag : Int) (n pos lim : Nat) (w : World) (hz : IntsAt B w ao cap zs) (hl : zs.length ≤ 100000000)
    (hget : ∀ i, i < (hdr tag n).length → zs[pos + i]? = (hdr tag n)[i]?) (hlim : lim ≤ zs.length) (hend : pos + (hdr tag n).length + n ≤ lim) (hn : n < 16777216) :
    Calls Try.prog 6 #[.slice ao zs.length cap, .int .i64 pos, .int .i64 lim] w fun e w' => GivesHdr tag (pos + (hdr tag n).length) n e ∧ w = w' := by
  by_cases h : n < 128
  · rw [hdr_small tag n h] at *
    simp at hget hend
    have g0 := hget 0 (by omega)
    have g1 := hget 1 (by omega)
    obtain ⟨b, off, rfl, _, hc⟩ := hz.at (by omega)
    have c0 := hc pos _ g0
    have c1 := hc (pos + 1) _ g1
    clear hget hc hz g0 g1
    go_enter Try.func6, Try.ntmps6
    go_wp2
    exact bodyPost_ret (v := .tuple #[.int .u8 tag, .int .i64 ((pos + 2 : Nat) : Int), .int .i64 ((pos + 2 + n : Nat) : Int), .bool true]) (by simp [results, Try.results6, go_sem]) rfl ⟨⟨pos + 2, pos + 2 + n, rfl, rfl, rfl⟩, rfl⟩
  · have hk := lenOcts_range n
    have ha := and127 _ hk
    have htop := top_ne n (by omega) hn
    have hw0 := whole_lt n hn
    have hhl : (hdr tag n).length = 2 + lenOcts n := by rw [hdr_length, if_neg h]
    have hhd : hdr tag n = tag :: (128 + (lenOcts n : Int)) :: bytesOf n (lenOcts n) := by unfold hdr; rw [if_neg h]; rfl
    rw [hhl] at hget hend ⊢
    rw [hhd] at hget
    clear hhl hhd
    generalize lenOcts n = k at *
    have hk1 := hk.1
    have hk2 := hk.2
    clear hk
    have g0 := hget 0 (by omega)
    have g1 := hget 1 (by omega)
    have g2 : ∀ i, i < k → zs[pos + 2 + i]? = some (shB n (k - 1 - i)) := by
      intro i hi
      have := hget (2 + i) (by omega)
      rw [show 2 + i = i + 1 + 1 from by omega, List.getElem?_cons_succ, List.getElem?_cons_succ, bytesOf_get _ _ _ hi] at this
      rw [← this]
      congr 1
      omega
    obtain ⟨b, off, rfl, _, hc⟩ := hz.at (by omega)
    have c0 := hc pos _ g0
    have c1 := hc (pos + 1) _ g1
    have HC : Hid (∀ i, i < k → w.cell? ⟨b, off + (pos + 2 + i), none⟩ = some (.int .u8 (shB n (k - 1 - i)))) := fun i hi => hc _ _ (g2 i hi)
    have c2 := HC.out 0 (by omega)
    have hsr := shB_range n (k - 1)
    simp only [Nat.sub_zero, Nat.add_zero] at c2
    obtain ⟨tp, Htp⟩ : ∃ tp, Hid (tp = shB n (k - 1)) := ⟨_, rfl⟩
    rw [← Htp.out] at c2 hsr htop
    have htb : (tp == 0) = false := by simpa using htop
    have ht0 := hsr.1
    have ht1 := hsr.2
    have HW : Hid _ := hw0
    have hkb : ((k : Int) == 0) = false := by simp; omega
    have hkc : decide ((3 : Int) < (k : Int)) = false := by simp; omega
    have hkd : decide ((lim : Int) - ((pos : Int) + 2) < (k : Int)) = false := by simp; omega
    clear hget hc hz g0 g1 g2 hsr htop hw0
    go_enter Try.func6, Try.ntmps6
    go_wp2
    go_loop [12, 14] (fun nv iv => ∃ (i : Nat) (x : Int), i ≤ k ∧ iv = .int .i64 i ∧ nv = .int .i64 x ∧ 0 ≤ x ∧ x ≤ n ∧ x = (n : Int) / 2 ^ (8 * (k - i))) (fun _ iv => k - (intOf iv).toNat)
    case atStart => exact ⟨0, 0, by omega, rfl, rfl, by omega, by omega, by rw [Nat.sub_zero]; exact HW.out.symm⟩
    case round =>
      obtain ⟨i, x, hi, rfl, rfl, hx0, hxn, hx⟩ := hrel
      have HX : Hid _ := hx
      clear hx
      by_cases hik : i < k
      · have ci := HC.out i hik
        have hbr := shB_range n (k - 1 - i)
        have hst := div_step (n : Int) (k - 1 - i)
        rw [show k - 1 - i + 1 = k - i from by omega, ← HX.out] at hst
        obtain ⟨bt, Hbt⟩ : ∃ bt, Hid (bt = shB n (k - 1 - i)) := ⟨_, rfl⟩
        rw [← Hbt.out] at ci hbr hst
        have hb0 := hbr.1
        have hb1 := hbr.2
        have hor := or_i64 x bt hb0 hb1 (by omega) (by omega)
        have hle : (n : Int) / 2 ^ (8 * (k - 1 - i)) ≤ n := Int.ediv_le_self _ (by omega)
        have HS : Hid _ := And.intro hst hle
        clear hbr hst hle
        go_wp2
        go_round
        case rel => exact ⟨i + 1, x * 256 + bt, by omega, by go_num, rfl, by omega, by rw [HS.out.1]; exact HS.out.2, by rw [HS.out.1, show k - (i + 1) = k - 1 - i from by omega]⟩
        case measure => simp [intOf]; omega
      · have hxe : x = n := by
          have := HX.out
          rw [show k - i = 0 from by omega] at this
          simpa using this
        obtain rfl : i = k := by omega
        subst hxe
        go_wp2
        exact bodyPost_ret (v := .tuple #[.int .u8 tag, .int .i64 ((pos + (2 + i) : Nat) : Int), .int .i64 ((pos + (2 + i) + n : Nat) : Int), .bool true]) (by simp [results, Try.results6, go_sem]; omega) rfl ⟨⟨pos + (2 + i), pos + (2 + i) + n, rfl, rfl, rfl⟩, rfl⟩

/-- The ending: an integer and where the next element starts. -/
def GivesInt (v : Int) (p : Nat) (e : Ending) : Prop := ∃ t : Nat, e = .returned (.tuple #[.int .i64 v, .int .i64 t, .bool true]) ∧ t = p

set_option maxHeartbeats 1000000 in
set_option maxRecDepth 100000 in
theorem integer_any (B : Nat) (ao : Option Addr) (cap : Nat) (zs : List Int) (v : Int) (pos lim : Nat) (w : World) (hz : IntsAt B w ao cap zs) (hl : zs.length ≤ 100000000)
    (hget : ∀ i, i < (encInt v).length → zs[pos + i]? = (encInt v)[i]?) (hlim : lim ≤ zs.length) (hend : pos + (encInt v).length ≤ lim) (hv0 : -9223372036854775808 ≤ v) (hv1 : v ≤ 9223372036854775807) :
    Calls Try.prog 7 #[.slice ao zs.length cap, .int .i64 pos, .int .i64 lim] w fun e w' => GivesInt v (pos + (encInt v).length) e ∧ w = w' := by
  have hr := octs_range v
  have hsg := sign_of v _ rfl hv0 hv1
  have hft := first_two v _ rfl
  have hlen := encInt_length v
  have henc : encInt v = hdr 2 (octs v) ++ bytesOf v (octs v) := rfl
  rw [hlen] at hget hend ⊢
  rw [henc] at hget
  clear hlen henc
  generalize octs v = k at *
  have hk1 := hr.1
  have hk2 := hr.2
  have hhl : (hdr 2 k).length = 2 := by rw [hdr_small _ _ (by omega)]; rfl
  have hg1 : ∀ i, i < (hdr 2 k).length → zs[pos + i]? = (hdr 2 k)[i]? := by
    intro i hi
    rw [hget i (by omega), List.getElem?_append_left hi]
  have hg2 : ∀ i, i < k → zs[pos + 2 + i]? = some (shB v (k - 1 - i)) := by
    intro i hi
    have := hget (2 + i) (by omega)
    rw [List.getElem?_append_right (by omega), hhl, show 2 + i - 2 = i from by omega, bytesOf_get _ _ _ hi] at this
    rw [← this]
    congr 1
    omega
  have HD : Hid _ := header_any B ao cap zs 2 k pos lim w hz hl hg1 hlim (by omega) (by omega)
  obtain ⟨b, off, rfl, _, hc⟩ := hz.at (by omega)
  have HC : Hid (∀ i, i < k → w.cell? ⟨b, off + (pos + 2 + i), none⟩ = some (.int .u8 (shB v (k - 1 - i)))) := fun i hi => hc _ _ (hg2 i hi)
  have HSG : Hid _ := hsg
  have HFT : Hid _ := hft
  have Hhl : Hid _ := hhl
  have c0 := HC.out 0 (by omega)
  simp only [Nat.sub_zero, Nat.add_zero] at c0
  have hsr := shB_range v (k - 1)
  obtain ⟨t0, Ht0⟩ : ∃ tp, Hid (tp = shB v (k - 1)) := ⟨_, rfl⟩
  rw [← Ht0.out] at c0 hsr
  have ht0 := hsr.1
  have ht1 := hsr.2
  clear hget hg1 hg2 hc hz hsg hft hr hhl hsr
  go_enter Try.func7, Try.ntmps7
  go_wp2_with fail
  refine Calls.mono HD.out ?_
  rintro e w' ⟨⟨s, t, rfl, hs, ht⟩, rfl⟩
  rw [Hhl.out] at hs ht
  have HS : Hid (s = pos + 2) := hs
  have HT : Hid (t = s + k) := by show t = s + k; omega
  have hs1 : s ≤ pos + 2 := by omega
  have hs2 : pos + 2 ≤ s := by omega
  have ht1' : t ≤ s + k := by omega
  have ht2' : s + k ≤ t := by omega
  rw [← HS.out] at c0
  clear hs ht HD
  go_upto_if 43 with fail
  go_cut [] from 43 to 43 (fun wc => wc = w)
  case first =>
    by_cases hk : k = 1
    · go_wp2
      go_meet
      case rel => rfl
    · have c1 := HC.out 1 (by omega)
      have hsr := shB_range v (k - 1 - 1)
      have hft := HFT.out (by omega) hv0 hv1
      rw [show k - 1 - 1 = k - 2 from by omega] at c1 hsr
      obtain ⟨u1, Hu1⟩ : ∃ tp, Hid (tp = shB v (k - 2)) := ⟨_, rfl⟩
      rw [← Hu1.out] at c1 hsr hft
      rw [← Ht0.out] at hft
      rw [← HS.out] at c1
      have hu0 := hsr.1
      have hu1 := hsr.2
      have hf1 := hft.1
      have hf2 := hft.2
      clear hsr hft
      by_cases q0 : t0 = 0
      · have q1 : (t0 == 0) = true := by simpa using q0
        have q2 : (t0 == 255) = false := by simp; omega
        have q3 := hf1 q0
        have q4 : decide (u1 < 128) = false := by simp; omega
        clear hf1 hf2 q0
        go_wp2
        go_meet
        case rel => rfl
      · have q1 : (t0 == 0) = false := by simpa using q0
        by_cases q5 : t0 = 255
        · have q2 : (t0 == 255) = true := by simpa using q5
          have q3 := hf2 q5
          have q4 : decide (128 ≤ u1) = false := by simp; omega
          clear hf1 hf2 q0 q5
          go_wp2
          go_meet
          case rel => rfl
        · have q2 : (t0 == 255) = false := by simpa using q5
          clear hf1 hf2 q0 q5
          go_wp2
          go_meet
          case rel => rfl
  case rest =>
    subst hcut
    go_upto_if 69 with fail
    go_cut [16] from 69 to 69 (fun xv wc' => wc' = wc ∧ xv = .int .i64 (v / 2 ^ (8 * k)))
    case first =>
      by_cases hv : v < 0
      · have hq := HSG.out.1 hv
        rw [← Ht0.out] at hq
        have hq1 := hq.1
        have HQ : Hid _ := hq.2
        clear hq
        go_wp2
        go_meet
        case rel => exact ⟨rfl, by rw [HQ.out]⟩
      · have hq := HSG.out.2 (by omega)
        rw [← Ht0.out] at hq
        have hq1 := hq.1
        have HQ : Hid _ := hq.2
        clear hq
        go_wp2
        go_meet
        case rel => exact ⟨rfl, by rw [HQ.out]⟩
    case rest =>
      obtain ⟨rfl, rfl⟩ := hcut
      obtain ⟨x0, Hx0⟩ : ∃ x0, Hid (x0 = v / 2 ^ (8 * k)) := ⟨_, rfl⟩
      rw [← Hx0.out]
      go_wp2
      go_loop [16, 17] (fun xv iv => ∃ (i : Nat) (x : Int), i ≤ k ∧ iv = .int .i64 ((s + i : Nat) : Int) ∧ xv = .int .i64 x ∧ x = v / 2 ^ (8 * (k - i))) (fun _ iv => t - (intOf iv).toNat)
      case atStart => exact ⟨0, x0, by omega, rfl, rfl, by rw [Nat.sub_zero]; exact Hx0.out⟩
      case round =>
        obtain ⟨i, x, hi, rfl, rfl, hx⟩ := hrel
        have HX : Hid _ := hx
        clear hx
        by_cases hik : i < k
        · have ci := HC.out i hik
          have hbr := shB_range v (k - 1 - i)
          have hst := div_step v (k - 1 - i)
          have hbd := ediv_bounds v (8 * (k - 1 - i)) hv0 hv1
          rw [show k - 1 - i + 1 = k - i from by omega, ← HX.out] at hst
          rw [← hst] at hbd
          rw [← HS.out] at ci
          obtain ⟨bt, Hbt⟩ : ∃ bt, Hid (bt = shB v (k - 1 - i)) := ⟨_, rfl⟩
          rw [← Hbt.out] at ci hbr hst hbd
          have hb0 := hbr.1
          have hb1 := hbr.2
          have hx0 : -36028797018963968 ≤ x := by omega
          have hx1 : x ≤ 36028797018963967 := by omega
          have hor := or_i64 x bt hb0 hb1 (by omega) (by omega)
          have HST : Hid _ := hst
          clear hbr hst hbd
          go_wp2
          go_round
          case rel => exact ⟨i + 1, x * 256 + bt, by omega, by go_num, rfl, by rw [HST.out, show k - (i + 1) = k - 1 - i from by omega]⟩
          case measure => simp [intOf]; omega
        · have hxe : x = v := by
            have := HX.out
            rw [show k - i = 0 from by omega] at this
            simpa using this
          subst hxe
          clear HX
          go_wp2
          exact bodyPost_ret (v := .tuple #[.int .i64 x, .int .i64 (t : Int), .bool true]) (by simp [results, Try.results7, go_sem]) rfl ⟨⟨t, rfl, by rw [HT.out, HS.out]; omega⟩, rfl⟩

/-- 'zzSameBytes' where the octets are those. -/
theorem same_any (B : Nat) (ao a2 : Option Addr) (cap c2 : Nat) (zs want : List Int) (s t : Nat) (w : World) (hz : IntsAt B w ao cap zs) (hw : IntsAt B w a2 c2 want) (hB : B ≤ w.heap.size) (hl : zs.length ≤ 100000000)
    (hget : ∀ i, i < want.length → zs[s + i]? = want[i]?) (ht1 : t ≤ s + want.length) (ht2 : s + want.length ≤ t) (hend : t ≤ zs.length) :
    Calls Try.prog 8 #[.slice ao zs.length cap, .int .i64 s, .int .i64 t, .slice a2 want.length c2] w fun e w' => e = .returned (.bool true) ∧ Below w.heap.size w w' := by
  have hq : (((t : Int) - (s : Int)) != (want.length : Int)) = false := by simp; omega
  go_enter Try.func8, Try.ntmps8
  go_wp2
  go_loopw [9] (fun jv wr => ∃ j : Nat, j ≤ want.length ∧ jv = .int .i64 j ∧ Below w.heap.size w wr) (fun jv _ => want.length - (intOf jv).toNat)
  case atStart => exact ⟨0, by omega, rfl, Below.refl _ _⟩
  case round =>
    obtain ⟨j, hj, rfl, hbr⟩ := hrel
    by_cases hjp : j < want.length
    · obtain ⟨b, off, rfl, _, hc⟩ := (hz.below hbr hB).at (by omega)
      obtain ⟨b2, off2, rfl, _, hc2⟩ := (hw.below hbr hB).at (by omega)
      have hg := hget j hjp
      rw [List.getElem?_eq_getElem hjp] at hg
      have x1 := hc (s + j) _ hg
      have x2 := hc2 j _ (List.getElem?_eq_getElem hjp)
      clear hc hc2 hg
      generalize want[j] = wj at *
      go_wp2_with fail
      go_quiet (fail)
      go_wp2
      go_roundw
      case rel => exact ⟨j + 1, by omega, by go_num, below_drewN hbr _⟩
      case measure => simp [intOf]; omega
    · go_wp2
      go_ret
      exact ⟨rfl, hbr⟩

theorem bytes_any (a0 a1 a2 : Int) (ao3 ao4 : Option Addr) (n3 c3 n4 c4 : Nat) (w : World) (h3 : n3 ≤ 9223372036854775807) (h4 : n4 ≤ 9223372036854775807) :
    Calls Try.prog 4 #[.int .i32 a0, .int .i64 a1, .int .i64 a2, .slice ao3 n3 c3, .slice ao4 n4 c4] w fun e w' => (∃ r, e = .returned (.bool r)) ∧ w = w' := by
  go_enter Try.func4, Try.ntmps4
  go_wp2
  all_goals go_ret
  all_goals exact ⟨⟨_, rfl⟩, rfl⟩
#print axioms integer_any
#print axioms same_any
end Go.Proofs.Qxb6617624a
