import Derived.Test.Qxb6617632aCopy
import Derived.Test.Qxb6617632aBytes
import Derived.Deep.CutBlock
import Derived.Deep.QuietTactic
import Derived.WalkSmall
namespace Go.Proofs.Qxb6617632a
open Go.RowKit

/-- The i-th list, H put in its place where k is i, M where k + 1 is i. -/
def upd2 (k i : Nat) (H M s : List ByteArray) : List ByteArray := if k = i then H else if k + 1 = i then M else s

theorem cat_upd2 (k p : Nat) (hk : k ≤ 3) (H M s0 s1 s2 s3 s4 : List ByteArray) (hH : H = (stg k s0 s1 s2 s3 s4).take p) (hM : M = (stg k s0 s1 s2 s3 s4).drop p ++ stg (k + 1) s0 s1 s2 s3 s4) :
    cat 5 (upd2 k 0 H M s0) (upd2 k 1 H M s1) (upd2 k 2 H M s2) (upd2 k 3 H M s3) (upd2 k 4 H M s4) = cat 5 s0 s1 s2 s3 s4 := by
  have key : ∀ (S B : List ByteArray), S.take p ++ (S.drop p ++ B) = S ++ B := by
    intro S B
    rw [← List.append_assoc, List.take_append_drop]
  rcases (show k = 0 ∨ k = 1 ∨ k = 2 ∨ k = 3 from by omega) with rfl | rfl | rfl | rfl <;> simp only [stg] at hH hM <;> subst hH <;> subst hM <;> simp [cat, upd2, key]

theorem cnt_upd2 (k p : Nat) (hk : k ≤ 3) (H M s0 s1 s2 s3 s4 : List ByteArray) (hH : H = (stg k s0 s1 s2 s3 s4).take p) (hM : M = (stg k s0 s1 s2 s3 s4).drop p ++ stg (k + 1) s0 s1 s2 s3 s4) :
    cnt 5 (upd2 k 0 H M s0) (upd2 k 1 H M s1) (upd2 k 2 H M s2) (upd2 k 3 H M s3) (upd2 k 4 H M s4) = cnt 5 s0 s1 s2 s3 s4 := by
  rw [← cat_length, ← cat_length, cat_upd2 k p hk H M s0 s1 s2 s3 s4 hH hM]

theorem cat_get (k : Nat) (hk : k ≤ 4) (s0 s1 s2 s3 s4 : List ByteArray) (j : Nat) (hj : j < (stg k s0 s1 s2 s3 s4).length) : (cat 5 s0 s1 s2 s3 s4)[cnt k s0 s1 s2 s3 s4 + j]? = (stg k s0 s1 s2 s3 s4)[j]? := by
  have key : ∀ (A S B : List ByteArray) (h : j < S.length), (A ++ S ++ B)[A.length + j]? = S[j]? := by
    intro A S B h
    rw [List.append_assoc, List.getElem?_append_right (by omega), List.getElem?_append_left (by omega), show A.length + j - A.length = j from by omega]
  rcases (show k = 0 ∨ k = 1 ∨ k = 2 ∨ k = 3 ∨ k = 4 from by omega) with rfl | rfl | rfl | rfl | rfl
  · have := key [] s0 (s1 ++ s2 ++ s3 ++ s4) hj
    simpa [cat, stg, cnt] using this
  · have := key s0 s1 (s2 ++ s3 ++ s4) hj
    simpa [cat, stg, cnt] using this
  · have := key (s0 ++ s1) s2 (s3 ++ s4) hj
    simpa [cat, stg, cnt] using this
  · have := key (s0 ++ s1 ++ s2) s3 s4 hj
    simpa [cat, stg, cnt, Nat.add_assoc] using this
  · have := key (s0 ++ s1 ++ s2 ++ s3) s4 [] hj
    simpa [cat, stg, cnt, Nat.add_assoc] using this

/-- 'b1Same' on two slices that read alike. -/
theorem same_any {aG aA : Option Addr} {cG cA : Nat} {G : List ByteArray} {w : World} (gG : StrsAt w aG cG G) (gA : StrsAt w aA cA G) (hl : G.length ≤ 1000000) :
    Calls Try.prog 9 #[.slice aG G.length cG, .slice aA G.length cA] w fun e w' => e = .returned (.bool true) ∧ Below w.heap.size w w' := by
  go_enter Try.func9, Try.ntmps9
  go_wp2
  go_loopw [5] (fun jv wr => ∃ j : Nat, j ≤ G.length ∧ jv = .int .i64 j ∧ Below w.heap.size w wr) (fun jv _ => G.length - (intOf jv).toNat)
  case atStart => exact ⟨0, by omega, rfl, Below.refl _ _⟩
  case round =>
    obtain ⟨j, hj, rfl, hbr⟩ := hrel
    by_cases hjp : j < G.length
    · obtain ⟨bG, oG, rfl, hcG⟩ := (gG.keeps (Keeps.below hbr)).at (by omega)
      obtain ⟨bA, oA, rfl, hcA⟩ := (gA.keeps (Keeps.below hbr)).at (by omega)
      have h1 := hcG j hjp
      have h2 := hcA j hjp
      clear hcG hcA
      go_wp2_with fail
      go_quiet (fail)
      go_wp2
      go_roundw
      case rel => exact ⟨j + 1, by omega, by go_num, below_drewN hbr _⟩
      case measure => simp [intOf]; omega
    · go_wp2
      go_ret
      exact ⟨rfl, hbr⟩

set_option maxHeartbeats 4000000 in
set_option maxRecDepth 100000 in
theorem cut_main {a0 a1 a2 a3 a4 : Option Addr} {c0 c1 c2 c3 c4 : Nat} {s0 s1 s2 s3 s4 : List ByteArray} {w : World} (k p : Int)
    (hk0 : 0 ≤ k) (hk3 : k ≤ 3) (hp0 : -9223372036854775808 ≤ p) (hp1 : p ≤ 9223372036854775807)
    (h0 : StrsAt w a0 c0 s0) (h1 : StrsAt w a1 c1 s1) (h2 : StrsAt w a2 c2 s2) (h3 : StrsAt w a3 c3 s3) (h4 : StrsAt w a4 c4 s4)
    (m0 : s0.length ≤ 9223372036854775807) (m1 : s1.length ≤ 9223372036854775807) (m2 : s2.length ≤ 9223372036854775807) (m3 : s3.length ≤ 9223372036854775807) (m4 : s4.length ≤ 9223372036854775807)
    (z0 : ∀ s ∈ s0, s.size ≤ 9223372036854775807) (z1 : ∀ s ∈ s1, s.size ≤ 9223372036854775807) (z2 : ∀ s ∈ s2, s.size ≤ 9223372036854775807) (z3 : ∀ s ∈ s3, s.size ≤ 9223372036854775807) (z4 : ∀ s ∈ s4, s.size ≤ 9223372036854775807) :
    Calls Try.prog 3 #[.slice a0 s0.length c0, .slice a1 s1.length c1, .slice a2 s2.length c2, .slice a3 s3.length c3, .slice a4 s4.length c4, .int .i64 k, .int .i64 p] w fun e w' => e = .returned (.bool true) ∧ Below w.heap.size w w' := by
  obtain ⟨kn, rfl⟩ := Int.eq_ofNat_of_zero_le hk0
  have hne := fun (w : World) (a : Option Addr) (n c : Nat) => run_neq_slice_nil_any (P := Try.prog) w 22 9 a n c 0 0 Try.underlying22
  have hbt := bytes5_any (kn : Int) p h0 h1 h2 h3 h4 m0 m1 m2 m3 m4 z0 z1 z2 z3 z4
  have htl := tooLarge_any 0 (by omega) (by omega) h0 h1 h2 h3 h4
    (by intro j hj; rcases (show j = 0 ∨ j = 1 ∨ j = 2 ∨ j = 3 ∨ j = 4 from by omega) with rfl | rfl | rfl | rfl | rfl <;> assumption)
    (by intro j hj; rcases (show j = 0 ∨ j = 1 ∨ j = 2 ∨ j = 3 ∨ j = 4 from by omega) with rfl | rfl | rfl | rfl | rfl <;> assumption)
  have HB : Hid _ := hbt
  have HT : Hid _ := htl
  clear hbt htl z0 z1 z2 z3 z4
  go_enter Try.func3, Try.ntmps3
  go_upto_if 60 with (first | (go_at_call 5; refine Calls.mono HB.out ?_; rintro e w' ⟨⟨r, rfl⟩, rfl⟩; cases r) | (go_at_call 6; refine Calls.mono HT.out ?_; rintro e w' ⟨⟨r, rfl, hbd⟩, rfl⟩; cases r))
  · go_ret
    exact ⟨rfl, Below.refl _ _⟩
  · have hcn : cnt 5 s0 s1 s2 s3 s4 ≤ 65536 := by have := hbd trivial; omega
    have hln : s0.length + s1.length + s2.length + s3.length + s4.length ≤ 65536 := hcn
    clear hbd HB HT
    go_cut [0] from 60 to 60 (fun v wc => ∃ ao cap, v = .slice ao s0.length cap ∧ StrsAt wc ao cap s0 ∧ Below w.heap.size w wc)
    case first =>
      cases a0 with
      | none =>
        go_wp2
        go_meet
        case rel => exact ⟨none, c0, rfl, h0, Below.refl _ _⟩
      | some ad =>
        go_wp2_with (first
          | (at_make; refine wpList_make_strs _ rfl _ _ rfl _ _ s0.length rfl rfl rfl rfl (by omega) ?_; intro wm hown1 hb1 hlt1)
          | (with_reducible (show wpList _ _ _ (⟨_, Op.call ⟨Callee.builtin Builtin.copy, _, _⟩, _, _, _, _⟩ :: _) _ _); refine wpList_copy_strs _ rfl _ _ rfl w.heap.size w.heap.size s0 _ rfl hown1 _ _ rfl (h0.keeps (Keeps.below hb1)) w.heap.size w hb1 (Nat.le_refl _) ?_; intro wn hst hbn))
        go_meet
        case rel => exact ⟨_, _, rfl, hst, hbn⟩
    case rest =>
      obtain ⟨b0, d0, rfl, g0, bel0⟩ := hcut
      have kp := Keeps.below bel0
      replace h1 := h1.keeps kp
      replace h2 := h2.keeps kp
      replace h3 := h3.keeps kp
      replace h4 := h4.keeps kp
      clear h0 kp
      have belw := bel0
      clear bel0
      obtain ⟨w1, ew⟩ : ∃ x, x = wc := ⟨_, rfl⟩
      subst ew
      go_upto_if 69 with fail
      go_cut [1] from 69 to 69 (fun v wc => ∃ ao cap, v = .slice ao s1.length cap ∧ StrsAt wc ao cap s1 ∧ Below w1.heap.size w1 wc)
      case first =>
        cases a1 with
        | none =>
          go_wp2
          go_meet
          case rel => exact ⟨none, c1, rfl, h1, Below.refl _ _⟩
        | some ad =>
          go_wp2_with (first
            | (at_make; refine wpList_make_strs _ rfl _ _ rfl _ _ s1.length rfl rfl rfl rfl (by omega) ?_; intro wm hown1 hb1 hlt1)
            | (with_reducible (show wpList _ _ _ (⟨_, Op.call ⟨Callee.builtin Builtin.copy, _, _⟩, _, _, _, _⟩ :: _) _ _); refine wpList_copy_strs _ rfl _ _ rfl w1.heap.size w1.heap.size s1 _ rfl hown1 _ _ rfl (h1.keeps (Keeps.below hb1)) w1.heap.size w1 hb1 (Nat.le_refl _) ?_; intro wn hst hbn))
          go_meet
          case rel => exact ⟨_, _, rfl, hst, hbn⟩
      case rest =>
        obtain ⟨b1, d1, rfl, g1, bel1⟩ := hcut
        have kp := Keeps.below bel1
        replace g0 := g0.keeps kp
        replace h2 := h2.keeps kp
        replace h3 := h3.keeps kp
        replace h4 := h4.keeps kp
        clear h1 kp
        replace belw := belw.trans (bel1.mono belw.size)
        clear bel1
        obtain ⟨w2, ew⟩ : ∃ x, x = wc := ⟨_, rfl⟩
        subst ew
        go_upto_if 78 with fail
        go_cut [2] from 78 to 78 (fun v wc => ∃ ao cap, v = .slice ao s2.length cap ∧ StrsAt wc ao cap s2 ∧ Below w2.heap.size w2 wc)
        case first =>
          cases a2 with
          | none =>
            go_wp2
            go_meet
            case rel => exact ⟨none, c2, rfl, h2, Below.refl _ _⟩
          | some ad =>
            go_wp2_with (first
              | (at_make; refine wpList_make_strs _ rfl _ _ rfl _ _ s2.length rfl rfl rfl rfl (by omega) ?_; intro wm hown1 hb1 hlt1)
              | (with_reducible (show wpList _ _ _ (⟨_, Op.call ⟨Callee.builtin Builtin.copy, _, _⟩, _, _, _, _⟩ :: _) _ _); refine wpList_copy_strs _ rfl _ _ rfl w2.heap.size w2.heap.size s2 _ rfl hown1 _ _ rfl (h2.keeps (Keeps.below hb1)) w2.heap.size w2 hb1 (Nat.le_refl _) ?_; intro wn hst hbn))
            go_meet
            case rel => exact ⟨_, _, rfl, hst, hbn⟩
        case rest =>
          obtain ⟨b2, d2, rfl, g2, bel2⟩ := hcut
          have kp := Keeps.below bel2
          replace g0 := g0.keeps kp
          replace g1 := g1.keeps kp
          replace h3 := h3.keeps kp
          replace h4 := h4.keeps kp
          clear h2 kp
          replace belw := belw.trans (bel2.mono belw.size)
          clear bel2
          obtain ⟨w3, ew⟩ : ∃ x, x = wc := ⟨_, rfl⟩
          subst ew
          go_upto_if 87 with fail
          go_cut [3] from 87 to 87 (fun v wc => ∃ ao cap, v = .slice ao s3.length cap ∧ StrsAt wc ao cap s3 ∧ Below w3.heap.size w3 wc)
          case first =>
            cases a3 with
            | none =>
              go_wp2
              go_meet
              case rel => exact ⟨none, c3, rfl, h3, Below.refl _ _⟩
            | some ad =>
              go_wp2_with (first
                | (at_make; refine wpList_make_strs _ rfl _ _ rfl _ _ s3.length rfl rfl rfl rfl (by omega) ?_; intro wm hown1 hb1 hlt1)
                | (with_reducible (show wpList _ _ _ (⟨_, Op.call ⟨Callee.builtin Builtin.copy, _, _⟩, _, _, _, _⟩ :: _) _ _); refine wpList_copy_strs _ rfl _ _ rfl w3.heap.size w3.heap.size s3 _ rfl hown1 _ _ rfl (h3.keeps (Keeps.below hb1)) w3.heap.size w3 hb1 (Nat.le_refl _) ?_; intro wn hst hbn))
              go_meet
              case rel => exact ⟨_, _, rfl, hst, hbn⟩
          case rest =>
            obtain ⟨b3, d3, rfl, g3, bel3⟩ := hcut
            have kp := Keeps.below bel3
            replace g0 := g0.keeps kp
            replace g1 := g1.keeps kp
            replace g2 := g2.keeps kp
            replace h4 := h4.keeps kp
            clear h3 kp
            replace belw := belw.trans (bel3.mono belw.size)
            clear bel3
            obtain ⟨w4, ew⟩ : ∃ x, x = wc := ⟨_, rfl⟩
            subst ew
            go_upto_if 96 with fail
            go_cut [4] from 96 to 96 (fun v wc => ∃ ao cap, v = .slice ao s4.length cap ∧ StrsAt wc ao cap s4 ∧ Below w4.heap.size w4 wc)
            case first =>
              cases a4 with
              | none =>
                go_wp2
                go_meet
                case rel => exact ⟨none, c4, rfl, h4, Below.refl _ _⟩
              | some ad =>
                go_wp2_with (first
                  | (at_make; refine wpList_make_strs _ rfl _ _ rfl _ _ s4.length rfl rfl rfl rfl (by omega) ?_; intro wm hown1 hb1 hlt1)
                  | (with_reducible (show wpList _ _ _ (⟨_, Op.call ⟨Callee.builtin Builtin.copy, _, _⟩, _, _, _, _⟩ :: _) _ _); refine wpList_copy_strs _ rfl _ _ rfl w4.heap.size w4.heap.size s4 _ rfl hown1 _ _ rfl (h4.keeps (Keeps.below hb1)) w4.heap.size w4 hb1 (Nat.le_refl _) ?_; intro wn hst hbn))
                go_meet
                case rel => exact ⟨_, _, rfl, hst, hbn⟩
            case rest =>
              obtain ⟨b4, d4, rfl, g4, bel4⟩ := hcut
              have kp := Keeps.below bel4
              replace g0 := g0.keeps kp
              replace g1 := g1.keeps kp
              replace g2 := g2.keeps kp
              replace g3 := g3.keeps kp
              clear h4 kp
              replace belw := belw.trans (bel4.mono belw.size)
              clear bel4
              obtain ⟨w5, ew⟩ : ∃ x, x = wc := ⟨_, rfl⟩
              subst ew
              go_wp2_with fail
              refine (stage_strs kn (by omega) g0 g1 g2 g3 g4).mono ?_
              rintro e w' ⟨⟨ao, cap, rfl, gS⟩, rfl⟩
              have hSl : (stg kn s0 s1 s2 s3 s4).length + (stg (kn + 1) s0 s1 s2 s3 s4).length ≤ 65536 := by
                have e1 := cnt_succ kn (by omega) s0 s1 s2 s3 s4
                have e2 := cnt_succ (kn + 1) (by omega) s0 s1 s2 s3 s4
                have e3 := cnt_le (kn + 1 + 1) s0 s1 s2 s3 s4
                omega
              obtain ⟨S, HS⟩ : ∃ S, Hid (S = stg kn s0 s1 s2 s3 s4) := ⟨_, rfl⟩
              rw [← HS.out] at gS hSl ⊢
              by_cases hp : 0 ≤ p
              · by_cases hp2 : p ≤ S.length
                · obtain ⟨pn, rfl⟩ := Int.eq_ofNat_of_zero_le hp
                  have hp3 : pn ≤ S.length := by omega
                  go_wp2_with fail
                  rw [show ((kn : Int) + 1) = ((kn + 1 : Nat) : Int) from by omega]
                  refine (stage_strs (kn + 1) (by omega) g0 g1 g2 g3 g4).mono ?_
                  rintro e w' ⟨⟨ao2, cap2, rfl, gU⟩, rfl⟩
                  obtain ⟨U, HU⟩ : ∃ U, Hid (U = stg (kn + 1) s0 s1 s2 s3 s4) := ⟨_, rfl⟩
                  rw [← HU.out] at gU hSl ⊢
                  obtain ⟨Hd, HH⟩ : ∃ Hd, Hid (Hd = S.take pn) := ⟨_, rfl⟩
                  have HHl : Hid (Hd.length = pn) := by rw [HH.out]; show (List.take pn S).length = pn; simp; omega
                  go_wp2_with (at_make; refine wpList_make_strs _ rfl _ _ rfl _ _ pn rfl rfl rfl rfl (by omega) ?_; intro w6 hown6 hb6 hlt6)
                  have R0 := RowUpTo.start (T := Hd) hown6 HHl.out
                  clear hown6 hlt6
                  go_loopw [23] (fun jv wr => ∃ j : Nat, j ≤ pn ∧ jv = .int .i64 j ∧ RowUpTo wr w5.heap.size Hd j ∧ Below w5.heap.size w5 wr) (fun jv _ => pn - (intOf jv).toNat)
                  case atStart => exact ⟨0, by omega, rfl, R0, hb6⟩
                  case round =>
                    clear R0 hb6
                    obtain ⟨j, hj, rfl, R, hbr⟩ := hrel
                    by_cases hjp : j < pn
                    · obtain ⟨b, off, rfl, hcell⟩ := (gS.keeps (Keeps.below hbr)).at (by omega)
                      have hcj := hcell j (by omega)
                      obtain ⟨v0, hv0, hf0⟩ := R.cell j (by rw [HHl.out]; omega)
                      have R' := R.store S[j] (by rw [HH.out, List.getElem?_take_of_lt hjp, List.getElem?_eq_getElem (by omega)])
                      have hb' := hbr.setCell (p := ⟨w5.heap.size, j, none⟩) (Nat.le_refl _) (.string S[j])
                      clear hcell
                      go_wp2
                      go_roundw
                      case rel => exact ⟨j + 1, by omega, by go_num, R', hb'⟩
                      case measure => simp [intOf]; omega
                    · have gH := R.full (by rw [HHl.out]; omega)
                      rw [HHl.out] at gH
                      have kp := Keeps.below hbr
                      replace belw := belw.trans (hbr.mono belw.size)
                      replace g0 := g0.keeps kp
                      replace g1 := g1.keeps kp
                      replace g2 := g2.keeps kp
                      replace g3 := g3.keeps kp
                      replace g4 := g4.keeps kp
                      replace gS := gS.keeps kp
                      replace gU := gU.keeps kp
                      clear R kp hbr
                      obtain ⟨w7, ew⟩ : ∃ x, x = wr := ⟨_, rfl⟩
                      subst ew
                      obtain ⟨M, HM⟩ : ∃ M, Hid (M = S.drop pn ++ U) := ⟨_, rfl⟩
                      have HMl : Hid (M.length = S.length - pn + U.length) := by rw [HM.out]; show (List.drop pn S ++ U).length = _; simp
                      have HM1 : Hid (∀ j (h : j < S.length), pn ≤ j → M[j - pn]? = some S[j]) := by
                        intro j h hj
                        rw [HM.out, List.getElem?_append_left (by simp; omega), List.getElem?_drop, show pn + (j - pn) = j from by omega, List.getElem?_eq_getElem h]
                      have HM2 : Hid (∀ j (h : j < U.length), M[S.length - pn + j]? = some U[j]) := by
                        intro j h
                        rw [HM.out, List.getElem?_append_right (by simp), show S.length - pn + j - (List.drop pn S).length = j from by simp, List.getElem?_eq_getElem h]
                      go_wp2_with (at_make; refine wpList_make_strs _ rfl _ _ rfl _ _ (S.length - pn + U.length) rfl rfl (by omega) (by omega) (by omega) ?_; intro w8 hown8 hb8 hlt8)
                      have R0 := RowUpTo.start (T := M) hown8 HMl.out
                      clear hown8 hlt8
                      go_loopw [25] (fun jv wr => ∃ j : Nat, pn ≤ j ∧ j ≤ S.length ∧ jv = .int .i64 j ∧ RowUpTo wr w7.heap.size M (j - pn) ∧ Below w7.heap.size w7 wr) (fun jv _ => S.length - (intOf jv).toNat)
                      case atStart => exact ⟨pn, by omega, by omega, rfl, by rw [Nat.sub_self]; exact R0, hb8⟩
                      case round =>
                        clear R0 hb8
                        obtain ⟨j, hjn, hjs, rfl, R, hbr⟩ := hrel
                        by_cases hjp : j < S.length
                        · obtain ⟨b, off, rfl, hcell⟩ := (gS.keeps (Keeps.below hbr)).at (by omega)
                          have hcj := hcell j hjp
                          obtain ⟨v0, hv0, hf0⟩ := R.cell (j - pn) (by rw [HMl.out]; omega)
                          have R' := R.store S[j] (HM1.out j hjp hjn)
                          rw [show j - pn + 1 = j + 1 - pn from by omega] at R'
                          have hb' := hbr.setCell (p := ⟨w7.heap.size, j - pn, none⟩) (Nat.le_refl _) (.string S[j])
                          clear hcell
                          go_wp2
                          go_roundw
                          case rel => exact ⟨j + 1, by omega, by omega, by go_num, R', hb'⟩
                          case measure => simp [intOf]; omega
                        · obtain rfl : S.length = j := by omega
                          go_wp2
                          go_loopw [26] (fun jv wr => ∃ j : Nat, j ≤ U.length ∧ jv = .int .i64 j ∧ RowUpTo wr w7.heap.size M (S.length - pn + j) ∧ Below w7.heap.size w7 wr) (fun jv _ => U.length - (intOf jv).toNat)
                          case atStart => exact ⟨0, by omega, rfl, R, hbr⟩
                          case round =>
                            clear R hbr
                            obtain ⟨j, hjs, rfl, R, hbr⟩ := hrel
                            by_cases hjp : j < U.length
                            · obtain ⟨b, off, rfl, hcell⟩ := (gU.keeps (Keeps.below hbr)).at (by omega)
                              have hcj := hcell j hjp
                              obtain ⟨v0, hv0, hf0⟩ := R.cell (S.length - pn + j) (by rw [HMl.out]; omega)
                              have R' := R.store U[j] (HM2.out j hjp)
                              have hb' := hbr.setCell (p := ⟨w7.heap.size, S.length - pn + j, none⟩) (Nat.le_refl _) (.string U[j])
                              clear hcell
                              go_wp2
                              go_roundw
                              case rel => exact ⟨j + 1, by omega, by go_num, R', hb'⟩
                              case measure => simp [intOf]; omega
                            · have gM := R.full (by rw [HMl.out]; omega)
                              rw [HMl.out] at gM
                              have kp := Keeps.below hbr
                              replace belw := belw.trans (hbr.mono belw.size)
                              replace g0 := g0.keeps kp
                              replace g1 := g1.keeps kp
                              replace g2 := g2.keeps kp
                              replace g3 := g3.keeps kp
                              replace g4 := g4.keeps kp
                              replace gH := gH.keeps kp
                              clear R kp hbr gS gU
                              go_upto_block 6 with fail
                              rw [← HMl.out] at gM ⊢
                              have gH' : StrsAt wr (some ⟨w5.heap.size, 0, none⟩) Hd.length Hd := by rw [HHl.out]; exact gH
                              go_cut [27, 28, 29, 30, 31] from 191 to 191 (fun v0 v1 v2 v3 v4 wc => wc = wr ∧ ∃ e0 e1 e2 e3 e4 f0 f1 f2 f3 f4, v0 = .slice e0 (upd2 kn 0 Hd M s0).length f0 ∧ v1 = .slice e1 (upd2 kn 1 Hd M s1).length f1 ∧ v2 = .slice e2 (upd2 kn 2 Hd M s2).length f2 ∧ v3 = .slice e3 (upd2 kn 3 Hd M s3).length f3 ∧ v4 = .slice e4 (upd2 kn 4 Hd M s4).length f4 ∧
                                StrsAt wr e0 f0 (upd2 kn 0 Hd M s0) ∧ StrsAt wr e1 f1 (upd2 kn 1 Hd M s1) ∧ StrsAt wr e2 f2 (upd2 kn 2 Hd M s2) ∧ StrsAt wr e3 f3 (upd2 kn 3 Hd M s3) ∧ StrsAt wr e4 f4 (upd2 kn 4 Hd M s4))
                              case first =>
                                have hHl := HHl.out
                                rcases (show kn = 0 ∨ kn = 1 ∨ kn = 2 ∨ kn = 3 from by omega) with rfl | rfl | rfl | rfl
                                · go_wp2
                                  go_meet
                                  case rel => exact ⟨rfl, _, _, _, _, _, _, _, _, _, _, congrArg (fun n => Value.slice _ n _) hHl.symm, rfl, rfl, rfl, rfl, gH, gM, g2, g3, g4⟩
                                · go_wp2
                                  go_meet
                                  case rel => exact ⟨rfl, _, _, _, _, _, _, _, _, _, _, rfl, congrArg (fun n => Value.slice _ n _) hHl.symm, rfl, rfl, rfl, g0, gH, gM, g3, g4⟩
                                · go_wp2
                                  go_meet
                                  case rel => exact ⟨rfl, _, _, _, _, _, _, _, _, _, _, rfl, rfl, congrArg (fun n => Value.slice _ n _) hHl.symm, rfl, rfl, g0, g1, gH, gM, g4⟩
                                · go_wp2
                                  go_meet
                                  case rel => exact ⟨rfl, _, _, _, _, _, _, _, _, _, _, rfl, rfl, rfl, congrArg (fun n => Value.slice _ n _) hHl.symm, rfl, g0, g1, g2, gH, gM⟩
                              case rest =>
                                obtain ⟨rfl, e0, e1, e2, e3, e4, f0, f1, f2, f3, f4, rfl, rfl, rfl, rfl, rfl, t0, t1, t2, t3, t4⟩ := hcut
                                have HC2 : Hid (cat 5 (upd2 kn 0 Hd M s0) (upd2 kn 1 Hd M s1) (upd2 kn 2 Hd M s2) (upd2 kn 3 Hd M s3) (upd2 kn 4 Hd M s4) = cat 5 s0 s1 s2 s3 s4) :=
                                  cat_upd2 kn pn (by omega) Hd M s0 s1 s2 s3 s4 (by rw [← HS.out]; exact HH.out) (by rw [← HS.out, ← HU.out]; exact HM.out)
                                have hcu : cnt 5 (upd2 kn 0 Hd M s0) (upd2 kn 1 Hd M s1) (upd2 kn 2 Hd M s2) (upd2 kn 3 Hd M s3) (upd2 kn 4 Hd M s4) ≤ 1000000 := by
                                  rw [cnt_upd2 kn pn (by omega) Hd M s0 s1 s2 s3 s4 (by rw [← HS.out]; exact HH.out) (by rw [← HS.out, ← HU.out]; exact HM.out)]
                                  omega
                                clear gH gH' gM
                                go_wp2_with fail
                                refine (zz_any g0 g1 g2 g3 g4 (by omega)).mono ?_
                                rintro e w9 ⟨⟨aG, cG, rfl, gG⟩, bel9⟩
                                replace belw := belw.trans (bel9.mono belw.size)
                                have kp := Keeps.below bel9
                                replace t0 := t0.keeps kp
                                replace t1 := t1.keeps kp
                                replace t2 := t2.keeps kp
                                replace t3 := t3.keeps kp
                                replace t4 := t4.keeps kp
                                replace g0 := g0.keeps kp
                                replace g1 := g1.keeps kp
                                replace g2 := g2.keeps kp
                                replace g3 := g3.keeps kp
                                replace g4 := g4.keeps kp
                                clear kp bel9
                                go_wp2_with fail
                                refine (zz_any t0 t1 t2 t3 t4 hcu).mono ?_
                                rintro e w10 ⟨⟨aA, cA, rfl, gA⟩, bel10⟩
                                replace belw := belw.trans (bel10.mono belw.size)
                                rw [HC2.out] at gA ⊢
                                have kp := Keeps.below bel10
                                replace gG := gG.keeps kp
                                replace g0 := g0.keeps kp
                                replace g1 := g1.keeps kp
                                replace g2 := g2.keeps kp
                                replace g3 := g3.keeps kp
                                replace g4 := g4.keeps kp
                                clear t0 t1 t2 t3 t4 bel10 kp hcu HC2
                                have hGl : (cat 5 s0 s1 s2 s3 s4).length = cnt 5 s0 s1 s2 s3 s4 := cat_length _ _ _ _ _ _
                                have HGl : Hid _ := hGl
                                have HG : Hid (∀ st, st ≤ 4 → ∀ j, j < (stg st s0 s1 s2 s3 s4).length → (cat 5 s0 s1 s2 s3 s4)[cnt st s0 s1 s2 s3 s4 + j]? = (stg st s0 s1 s2 s3 s4)[j]?) := fun st h j hj => cat_get st h s0 s1 s2 s3 s4 j hj
                                have hGb : (cat 5 s0 s1 s2 s3 s4).length ≤ 65536 := by omega
                                clear hGl
                                generalize cat 5 s0 s1 s2 s3 s4 = G at *
                                go_wp2_with fail
                                refine (same_any gG gA (by omega)).mono ?_
                                rintro e w11 ⟨rfl, bel11⟩
                                replace belw := belw.trans (bel11.mono belw.size)
                                have kp := Keeps.below bel11
                                replace gG := gG.keeps kp
                                replace g0 := g0.keeps kp
                                replace g1 := g1.keeps kp
                                replace g2 := g2.keeps kp
                                replace g3 := g3.keeps kp
                                replace g4 := g4.keeps kp
                                clear kp bel11 gA
                                go_wp2_with fail
                                go_loopw [34, 35] (fun pv sv wr => ∃ st : Nat, st ≤ 5 ∧ sv = .int .i64 st ∧ pv = .int .i64 (cnt st s0 s1 s2 s3 s4) ∧ Below w11.heap.size w11 wr) (fun _ sv _ => 5 - (intOf sv).toNat)
                                case atStart => exact ⟨0, by omega, rfl, rfl, Below.refl _ _⟩
                                case round =>
                                  obtain ⟨st, hst, rfl, rfl, hbr⟩ := hrel
                                  have hc1 := cnt_le st s0 s1 s2 s3 s4
                                  by_cases hlt : st < 5
                                  · have HC : Hid (cnt (st + 1) s0 s1 s2 s3 s4 = cnt st s0 s1 s2 s3 s4 + (stg st s0 s1 s2 s3 s4).length) := cnt_succ st (by omega) s0 s1 s2 s3 s4
                                    have hc2 : cnt st s0 s1 s2 s3 s4 + (stg st s0 s1 s2 s3 s4).length ≤ G.length := by
                                      rw [← HC.out, HGl.out]; exact cnt_le _ _ _ _ _ _
                                    have HGs := HG.out st (by omega)
                                    have kp := Keeps.below hbr
                                    go_wp2_with (go_at_call 7; refine (stage_strs st (by omega) (g0.keeps kp) (g1.keeps kp) (g2.keeps kp) (g3.keeps kp) (g4.keeps kp)).mono ?_; rintro e w' ⟨⟨aq, capq, rfl, gq⟩, rfl⟩)
                                    have HGq : Hid _ := HGs
                                    clear HGs kp
                                    obtain ⟨w12, ew⟩ : ∃ x, x = wr := ⟨_, rfl⟩
                                    subst ew
                                    generalize stg st s0 s1 s2 s3 s4 = Q at *
                                    generalize cnt st s0 s1 s2 s3 s4 = cs at *
                                    go_loopw [34, 37] (fun pv jv wx => ∃ j : Nat, j ≤ Q.length ∧ jv = .int .i64 j ∧ pv = .int .i64 ((cs + j : Nat) : Int) ∧ Below w12.heap.size w12 wx) (fun _ jv _ => Q.length - (intOf jv).toNat)
                                    case atStart => exact ⟨0, by omega, rfl, rfl, Below.refl _ _⟩
                                    case round =>
                                      obtain ⟨j, hj, rfl, rfl, hbx⟩ := hrel
                                      by_cases hjl : j < Q.length
                                      · obtain ⟨bG, oG, rfl, hcG⟩ := (gG.keeps ((Keeps.below hbr).trans (Keeps.below hbx))).at (by omega)
                                        obtain ⟨bQ, oQ, rfl, hcQ⟩ := (gq.keeps (Keeps.below hbx)).at (by omega)
                                        have hc1' := hcQ j hjl
                                        have hc2' : wr.cell? ⟨bG, oG + (cs + j), none⟩ = some (.string Q[j]) := by
                                          rw [hcG (cs + j) (by omega)]
                                          have := HGq.out j hjl
                                          rw [List.getElem?_eq_getElem (by omega), List.getElem?_eq_getElem hjl] at this
                                          rw [Option.some.inj this]
                                        have hlG : cs + j < G.length := by omega
                                        clear hcG hcQ
                                        go_wp2_with fail
                                        have hd : decide ((G.length : Int) ≤ (cs : Int) + (j : Int)) = false := by simp; omega
                                        go_quiet (fail)
                                        go_wp2
                                        go_roundw
                                        case rel => exact ⟨j + 1, by omega, by go_num, by go_num, below_drewN hbx _⟩
                                        case measure => simp [intOf]; omega
                                      · go_wp2
                                        go_roundw
                                        case rel => exact ⟨st + 1, by omega, by go_num, by rw [HC.out]; congr 1; omega, hbr.trans (hbx.mono hbr.size)⟩
                                        case measure => simp [intOf]; omega
                                  · obtain rfl : st = 5 := by omega
                                    have hq : ((cnt 5 s0 s1 s2 s3 s4 : Int) == (G.length : Int)) = true := by rw [HGl.out]; simp
                                    go_wp2
                                    go_ret
                                    exact ⟨rfl, belw.trans (hbr.mono belw.size)⟩
                · go_wp2
                  go_ret
                  exact ⟨rfl, belw⟩
              · go_wp2
                go_ret
                exact ⟨rfl, belw⟩
  · go_ret
    exact ⟨rfl, Below.refl _ _⟩

set_option maxHeartbeats 1000000 in
set_option maxRecDepth 100000 in
theorem cut_any {a0 a1 a2 a3 a4 : Option Addr} {c0 c1 c2 c3 c4 : Nat} {s0 s1 s2 s3 s4 : List ByteArray} {w : World} (k p : Int)
    (hp0 : -9223372036854775808 ≤ p) (hp1 : p ≤ 9223372036854775807)
    (h0 : StrsAt w a0 c0 s0) (h1 : StrsAt w a1 c1 s1) (h2 : StrsAt w a2 c2 s2) (h3 : StrsAt w a3 c3 s3) (h4 : StrsAt w a4 c4 s4)
    (m0 : s0.length ≤ 9223372036854775807) (m1 : s1.length ≤ 9223372036854775807) (m2 : s2.length ≤ 9223372036854775807) (m3 : s3.length ≤ 9223372036854775807) (m4 : s4.length ≤ 9223372036854775807)
    (z0 : ∀ s ∈ s0, s.size ≤ 9223372036854775807) (z1 : ∀ s ∈ s1, s.size ≤ 9223372036854775807) (z2 : ∀ s ∈ s2, s.size ≤ 9223372036854775807) (z3 : ∀ s ∈ s3, s.size ≤ 9223372036854775807) (z4 : ∀ s ∈ s4, s.size ≤ 9223372036854775807) :
    Calls Try.prog 3 #[.slice a0 s0.length c0, .slice a1 s1.length c1, .slice a2 s2.length c2, .slice a3 s3.length c3, .slice a4 s4.length c4, .int .i64 k, .int .i64 p] w fun e w' => e = .returned (.bool true) ∧ Below w.heap.size w w' := by
  by_cases hk : 0 ≤ k ∧ k ≤ 3
  · exact cut_main k p hk.1 hk.2 hp0 hp1 h0 h1 h2 h3 h4 m0 m1 m2 m3 m4 z0 z1 z2 z3 z4
  · have hk' : k < 0 ∨ 3 < k := by omega
    clear hk
    have hbt := bytes5_any k p h0 h1 h2 h3 h4 m0 m1 m2 m3 m4 z0 z1 z2 z3 z4
    have htl := tooLarge_any 0 (by omega) (by omega) h0 h1 h2 h3 h4
      (by intro j hj; rcases (show j = 0 ∨ j = 1 ∨ j = 2 ∨ j = 3 ∨ j = 4 from by omega) with rfl | rfl | rfl | rfl | rfl <;> assumption)
      (by intro j hj; rcases (show j = 0 ∨ j = 1 ∨ j = 2 ∨ j = 3 ∨ j = 4 from by omega) with rfl | rfl | rfl | rfl | rfl <;> assumption)
    have HB : Hid _ := hbt
    have HT : Hid _ := htl
    clear hbt htl z0 z1 z2 z3 z4
    rcases hk' with hk' | hk'
    · go_enter Try.func3, Try.ntmps3
      go_wp2_with (first | (go_at_call 5; refine Calls.mono HB.out ?_; rintro e w' ⟨⟨r, rfl⟩, rfl⟩; cases r) | (go_at_call 6; refine Calls.mono HT.out ?_; rintro e w' ⟨⟨r, rfl, hbd⟩, rfl⟩; cases r))
      all_goals (go_ret; exact ⟨rfl, Below.refl _ _⟩)
    · go_enter Try.func3, Try.ntmps3
      go_wp2_with (first | (go_at_call 5; refine Calls.mono HB.out ?_; rintro e w' ⟨⟨r, rfl⟩, rfl⟩; cases r) | (go_at_call 6; refine Calls.mono HT.out ?_; rintro e w' ⟨⟨r, rfl, hbd⟩, rfl⟩; cases r))
      all_goals (go_ret; exact ⟨rfl, Below.refl _ _⟩)
#print axioms cut_any
end Go.Proofs.Qxb6617632a
