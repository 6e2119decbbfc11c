import Derived.Test.Qxb6617624aParts
namespace Go.Proofs.Qxb6617624a
open Go.RowKit

set_option maxHeartbeats 4000000 in
set_option maxRecDepth 100000 in
theorem msg_main (id st ei : Int) (a3 a4 : Option Addr) (c3 c4 : Nat) (z3 z4 : List Int) (w : World)
    (h3 : IntsAt w.heap.size w a3 c3 z3) (h4 : IntsAt w.heap.size w a4 c4 z4) (l3 : z3.length ≤ 524288) (l4 : z4.length ≤ 524288)
    (hi0 : -2147483648 ≤ id) (hi1 : id ≤ 2147483647) (hs0 : -9223372036854775808 ≤ st) (hs1 : st ≤ 9223372036854775807) (he0 : -9223372036854775808 ≤ ei) (he1 : ei ≤ 9223372036854775807) :
    Calls Try.prog 3 #[.int .i32 id, .int .i64 st, .int .i64 ei, .slice a3 z3.length c3, .slice a4 z4.length c4] w fun e w' => e = .returned (.bool true) ∧ Below w.heap.size w w' := by
  have hne := fun (w : World) (a : Option Addr) (n c : Nat) => run_neq_slice_nil_any (P := Try.prog) w 22 5 a n c 0 0 Try.underlying22
  go_enter Try.func3, Try.ntmps3
  go_upto_if 36 with (go_at_call 4; refine (bytes_any _ _ _ _ _ _ _ _ _ _ (by omega) (by omega)).mono ?_; rintro e w' ⟨⟨r, rfl⟩, rfl⟩; cases r)
  · go_ret
    exact ⟨rfl, Below.refl _ _⟩
  · go_cut [3] from 36 to 36 (fun v wc => ∃ ao cap, v = .slice ao z3.length cap ∧ IntsAt wc.heap.size wc ao cap z3 ∧ Below w.heap.size w wc)
    case first =>
      cases a3 with
      | none =>
        go_wp2
        go_meet
        case rel => exact ⟨none, c3, rfl, h3, Below.refl _ _⟩
      | some ad =>
        go_wp2_with (first
          | (at_make; refine wpList_make_bytes _ rfl _ _ rfl _ _ z3.length rfl rfl rfl rfl (by omega) ?_; intro wm xs hown1 hb1)
          | (with_reducible (show wpList _ _ _ (⟨_, Op.call ⟨Callee.builtin Builtin.copy, _, _⟩, _, _, _, _⟩ :: _) _ _); refine wpList_copy_ints _ rfl _ _ rfl w.heap.size w.heap.size z3 _ rfl hown1 _ _ w.heap.size rfl (h3.below hb1 (Nat.le_refl _)) w.heap.size w hb1 (Nat.le_refl _) ?_; intro wn hst hbn))
        go_meet
        case rel => exact ⟨_, _, rfl, hst, hbn⟩
    case rest =>
      obtain ⟨b3, d3, rfl, g3, bel0⟩ := hcut
      replace h4 := (h4.below bel0 (Nat.le_refl _)).mono bel0.size
      clear h3
      obtain ⟨w1, ew⟩ : ∃ x, x = wc := ⟨_, rfl⟩
      subst ew
      go_upto_if 45 with fail
      go_cut [4] from 45 to 45 (fun v wc => ∃ ao cap, v = .slice ao z4.length cap ∧ IntsAt wc.heap.size wc ao cap z4 ∧ Below w1.heap.size w1 wc)
      case first =>
        cases a4 with
        | none =>
          go_wp2
          go_meet
          case rel => exact ⟨none, c4, rfl, h4, Below.refl _ _⟩
        | some ad =>
          go_wp2_with (first
            | (at_make; refine wpList_make_bytes _ rfl _ _ rfl _ _ z4.length rfl rfl rfl rfl (by omega) ?_; intro wm xs hown1 hb1)
            | (with_reducible (show wpList _ _ _ (⟨_, Op.call ⟨Callee.builtin Builtin.copy, _, _⟩, _, _, _, _⟩ :: _) _ _); refine wpList_copy_ints _ rfl _ _ rfl w1.heap.size w1.heap.size z4 _ rfl hown1 _ _ w1.heap.size rfl (h4.below hb1 (Nat.le_refl _)) w1.heap.size w1 hb1 (Nat.le_refl _) ?_; intro wn hst hbn))
          go_meet
          case rel => exact ⟨_, _, rfl, hst, hbn⟩
      case rest =>
        obtain ⟨b4, d4, rfl, g4, bel1⟩ := hcut
        replace g3 := (g3.below bel1 (Nat.le_refl _)).mono bel1.size
        have belw := bel0.trans (bel1.mono bel0.size)
        clear h4 bel0 bel1
        obtain ⟨w2, ew⟩ : ∃ x, x = wc := ⟨_, rfl⟩
        subst ew
        go_wp2_with fail
        refine (zzmsg_any id st ei b3 b4 d3 d4 z3 z4 w2 g3 g4 l3 l4 hi0 hi1 hs0 hs1 he0 he1).mono ?_
        rintro e w3 ⟨aM, cM, rfl, gM, bel3⟩
        replace g3 := (g3.below bel3 (Nat.le_refl _)).mono bel3.size
        replace g4 := (g4.below bel3 (Nat.le_refl _)).mono bel3.size
        replace belw := belw.trans (bel3.mono belw.size)
        clear bel3
        have hML := msg_length id st ei z3 z4
        have hBL := body_length id st ei z3 z4
        have hPL := pdu_length id st ei z4
        have hMle := msg_le id st ei z3 z4
        have hF := msg_facts id st ei z3 z4
        generalize msgOf id st ei z3 z4 = M at *
        generalize bodyOf id st ei z3 z4 = Bd at *
        generalize pduOf id st ei z4 = Pd at *
        have HF : Hid _ := hF
        clear hF
        -- the lengths as letters
        have e48 := hdr_length_le 48 Bd.length
        have HL : Hid (M.length = (hdr 48 Bd.length).length + Bd.length ∧ Bd.length = (encInt 1).length + (hdr 4 z3.length).length + z3.length + (hdr 162 Pd.length).length + Pd.length ∧ Pd.length = (encInt id).length + (encInt st).length + (encInt ei).length + (hdr 48 z4.length).length + z4.length) := ⟨hML, hBL, hPL⟩
        have hMb : M.length ≤ 1048640 := by omega
        clear hML hBL hPL hMle e48
        go_wp2_with fail
        refine (header_any w3.heap.size aM cM M 48 Bd.length 0 M.length w3 gM (by omega) (HF.out.1 0 rfl) (Nat.le_refl _) (by have := HL.out; omega) (by have := HL.out; omega)).mono ?_
        rintro e w' ⟨⟨s1, t1, rfl, es1, et1⟩, rfl⟩
        have ht1 : t1 = M.length := by have := HL.out; omega
        have hb1 : (((t1 : Nat) : Int) != (M.length : Int)) = false := by rw [ht1]; simp
        have HS1 : Hid (s1 = (hdr 48 Bd.length).length ∧ t1 = M.length) := ⟨by omega, ht1⟩
        clear es1 et1 ht1
        go_wp2_with fail
        refine (integer_any w3.heap.size aM cM M 1 s1 t1 w3 gM (by omega) (HF.out.2.1 s1 HS1.out.1) (by have := HS1.out; omega) (by have := HS1.out; have := HL.out; omega) (by omega) (by omega)).mono ?_
        rintro e w' ⟨⟨p1, rfl, ep1⟩, rfl⟩
        have HP1 : Hid _ := ep1
        clear ep1
        go_wp2_with fail
        refine (header_any w3.heap.size aM cM M 4 z3.length p1 t1 w3 gM (by omega) (HF.out.2.2.1 p1 (by have := HS1.out; have := HP1.out; omega)) (by have := HS1.out; omega) (by have := HS1.out; have := HP1.out; have := HL.out; omega) (by omega)).mono ?_
        rintro e w' ⟨⟨s2, t2, rfl, es2, et2⟩, rfl⟩
        have HS2 : Hid _ := And.intro es2 et2
        clear es2 et2
        go_wp2_with fail
        refine (same_any w3.heap.size aM b3 cM d3 M z3 s2 t2 w3 gM g3 (Nat.le_refl _) (by omega) (HF.out.2.2.2.1 s2 (by have := HS1.out; have := HP1.out; have := HS2.out; omega)) (by have := HS2.out; omega) (by have := HS2.out; omega) (by have := HS1.out; have := HP1.out; have := HS2.out; have := HL.out; omega)).mono ?_
        rintro e w4 ⟨rfl, bel4⟩
        replace gM := (gM.below bel4 (Nat.le_refl _)).mono bel4.size
        replace g4 := (g4.below bel4 (Nat.le_refl _)).mono bel4.size
        replace belw := belw.trans (bel4.mono belw.size)
        clear bel4 g3
        go_wp2_with fail
        refine (header_any w4.heap.size aM cM M 162 Pd.length t2 t1 w4 gM (by omega) (HF.out.2.2.2.2.1 t2 (by have := HS1.out; have := HP1.out; have := HS2.out; omega)) (by have := HS1.out; omega) (by have := HS1.out; have := HP1.out; have := HS2.out; have := HL.out; omega) (by have := HL.out; omega)).mono ?_
        rintro e w' ⟨⟨s3, t3, rfl, es3, et3⟩, rfl⟩
        have ht3 : t3 = t1 := by have := HS1.out; have := HP1.out; have := HS2.out; have := HL.out; omega
        have hb3 : (((t3 : Nat) : Int) != ((t1 : Nat) : Int)) = false := by rw [ht3]; simp
        have HS3 : Hid (s3 = t2 + (hdr 162 Pd.length).length ∧ t3 = M.length) := ⟨by omega, by have := HS1.out; omega⟩
        clear es3 et3 ht3
        go_wp2_with fail
        refine (integer_any w4.heap.size aM cM M id s3 t3 w4 gM (by omega) (HF.out.2.2.2.2.2.1 s3 (by have := HS1.out; have := HP1.out; have := HS2.out; have := HS3.out; omega)) (by have := HS3.out; omega) (by have := HS1.out; have := HP1.out; have := HS2.out; have := HS3.out; have := HL.out; omega) (by omega) (by omega)).mono ?_
        rintro e w' ⟨⟨p2, rfl, ep2⟩, rfl⟩
        have HP2 : Hid (p2 + (encInt st).length + (encInt ei).length + (hdr 48 z4.length).length + z4.length = M.length ∧ p2 = (hdr 48 Bd.length).length + (encInt 1).length + (hdr 4 z3.length).length + z3.length + (hdr 162 Pd.length).length + (encInt id).length) := by
          have := HS1.out; have := HP1.out; have := HS2.out; have := HS3.out; have := HL.out
          constructor <;> omega
        clear ep2
        go_wp2_with fail
        refine (integer_any w4.heap.size aM cM M st p2 t3 w4 gM (by omega) (HF.out.2.2.2.2.2.2.1 p2 (by have := HP2.out; omega)) (by have := HS3.out; omega) (by have := HP2.out; have := HS3.out; omega) hs0 hs1).mono ?_
        rintro e w' ⟨⟨p3, rfl, ep3⟩, rfl⟩
        have HP3 : Hid _ := ep3
        clear ep3
        go_wp2_with fail
        refine (integer_any w4.heap.size aM cM M ei p3 t3 w4 gM (by omega) (HF.out.2.2.2.2.2.2.2.1 p3 (by have := HP2.out; have := HP3.out; omega)) (by have := HS3.out; omega) (by have := HP2.out; have := HP3.out; have := HS3.out; omega) he0 he1).mono ?_
        rintro e w' ⟨⟨p4, rfl, ep4⟩, rfl⟩
        have HP4 : Hid _ := ep4
        clear ep4
        go_wp2_with fail
        refine (header_any w4.heap.size aM cM M 48 z4.length p4 t3 w4 gM (by omega) (HF.out.2.2.2.2.2.2.2.2.1 p4 (by have := HP2.out; have := HP3.out; have := HP4.out; omega)) (by have := HS3.out; omega) (by have := HP2.out; have := HP3.out; have := HP4.out; have := HS3.out; omega) (by omega)).mono ?_
        rintro e w' ⟨⟨s5, t5, rfl, es5, et5⟩, rfl⟩
        have ht5 : t5 = t3 := by have := HP2.out; have := HP3.out; have := HP4.out; have := HS3.out; omega
        have hb5 : (((t5 : Nat) : Int) != ((t3 : Nat) : Int)) = false := by rw [ht5]; simp
        have HS5 : Hid (s5 = p4 + (hdr 48 z4.length).length ∧ t5 = s5 + z4.length ∧ t5 = M.length) := ⟨by omega, by omega, by have := HS3.out; omega⟩
        clear es5 et5 ht5
        go_wp2_with fail
        refine (same_any w4.heap.size aM b4 cM d4 M z4 s5 t5 w4 gM g4 (Nat.le_refl _) (by omega) (HF.out.2.2.2.2.2.2.2.2.2 s5 (by have := HP2.out; have := HP3.out; have := HP4.out; have := HS5.out; omega)) (by have := HS5.out; omega) (by have := HS5.out; omega) (by have := HS5.out; omega)).mono ?_
        rintro e w5 ⟨rfl, bel5⟩
        replace belw := belw.trans (bel5.mono belw.size)
        clear bel5 gM g4
        go_wp2
        go_ret
        exact ⟨rfl, belw⟩

set_option maxRecDepth 100000 in
theorem msg_any (id st ei : Int) (a3 a4 : Option Addr) (c3 c4 : Nat) (z3 z4 : List Int) (w : World)
    (h3 : IntsAt w.heap.size w a3 c3 z3) (h4 : IntsAt w.heap.size w a4 c4 z4) (m3 : z3.length ≤ 9223372036854775807) (m4 : z4.length ≤ 9223372036854775807)
    (hi0 : -2147483648 ≤ id) (hi1 : id ≤ 2147483647) (hs0 : -9223372036854775808 ≤ st) (hs1 : st ≤ 9223372036854775807) (he0 : -9223372036854775808 ≤ ei) (he1 : ei ≤ 9223372036854775807) :
    Calls Try.prog 3 #[.int .i32 id, .int .i64 st, .int .i64 ei, .slice a3 z3.length c3, .slice a4 z4.length c4] w fun e w' => e = .returned (.bool true) ∧ Below w.heap.size w w' := by
  by_cases l3 : z3.length ≤ 524288
  · by_cases l4 : z4.length ≤ 524288
    · exact msg_main id st ei a3 a4 c3 c4 z3 z4 w h3 h4 l3 l4 hi0 hi1 hs0 hs1 he0 he1
    · go_enter Try.func3, Try.ntmps3
      go_wp2_with (go_at_call 4; refine (bytes_any _ _ _ _ _ _ _ _ _ _ (by omega) (by omega)).mono ?_; rintro e w' ⟨⟨r, rfl⟩, rfl⟩; cases r)
      all_goals (go_ret; exact ⟨rfl, Below.refl _ _⟩)
  · go_enter Try.func3, Try.ntmps3
    go_wp2_with (go_at_call 4; refine (bytes_any _ _ _ _ _ _ _ _ _ _ (by omega) (by omega)).mono ?_; rintro e w' ⟨⟨r, rfl⟩, rfl⟩; cases r)
    all_goals (go_ret; exact ⟨rfl, Below.refl _ _⟩)
#print axioms msg_any
end Go.Proofs.Qxb6617624a
