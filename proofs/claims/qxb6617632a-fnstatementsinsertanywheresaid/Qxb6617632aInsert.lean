import Derived.Test.Qxb6617632aCopy
import Derived.Test.Qxb6617632aBytes
import Derived.Deep.CutBlock
import Derived.Deep.QuietTactic
import Derived.WalkSmall
namespace Go.Proofs.Qxb6617632a
open Go.RowKit

/-- The i-th list, T put in its place where k is i. -/
def upd (k i : Nat) (T s : List ByteArray) : List ByteArray := if k = i then T else s

theorem cnt_upd (k : Nat) (hk : k ≤ 4) (T s0 s1 s2 s3 s4 : List ByteArray) (hT : (stg k s0 s1 s2 s3 s4).length + 1 = T.length) :
    cnt 5 (upd k 0 T s0) (upd k 1 T s1) (upd k 2 T s2) (upd k 3 T s3) (upd k 4 T s4) = cnt 5 s0 s1 s2 s3 s4 + 1 := by
  rcases (show k = 0 ∨ k = 1 ∨ k = 2 ∨ k = 3 ∨ k = 4 from by omega) with rfl | rfl | rfl | rfl | rfl <;> simp [cnt, upd, stg] at hT ⊢ <;> omega

theorem cat_upd (k p : Nat) (hk : k ≤ 4) (x : ByteArray) (T s0 s1 s2 s3 s4 : List ByteArray) (hp : p ≤ (stg k s0 s1 s2 s3 s4).length) (hT : T = (stg k s0 s1 s2 s3 s4).take p ++ x :: (stg k s0 s1 s2 s3 s4).drop p) :
    cat 5 (upd k 0 T s0) (upd k 1 T s1) (upd k 2 T s2) (upd k 3 T s3) (upd k 4 T s4) = (cat 5 s0 s1 s2 s3 s4).take (cnt k s0 s1 s2 s3 s4 + p) ++ x :: (cat 5 s0 s1 s2 s3 s4).drop (cnt k s0 s1 s2 s3 s4 + p) := by
  have key : ∀ (A S B : List ByteArray), p ≤ S.length → (A ++ S ++ B).take (A.length + p) ++ x :: (A ++ S ++ B).drop (A.length + p) = A ++ (S.take p ++ x :: S.drop p) ++ B := by
    intro A S B h
    rw [List.append_assoc A S B, List.take_length_add_append, List.drop_length_add_append, List.take_append_of_le_length h, List.drop_append_of_le_length h]
    simp
  rcases (show k = 0 ∨ k = 1 ∨ k = 2 ∨ k = 3 ∨ k = 4 from by omega) with rfl | rfl | rfl | rfl | rfl <;> simp only [stg] at hp hT <;> subst hT
  · have := key [] s0 (s1 ++ s2 ++ s3 ++ s4) hp
    simp [cat, upd, cnt] at this ⊢
    exact this.symm
  · have := key s0 s1 (s2 ++ s3 ++ s4) hp
    simp [cat, upd, cnt] at this ⊢
    exact this.symm
  · have := key (s0 ++ s1) s2 (s3 ++ s4) hp
    simp [cat, upd, cnt] at this ⊢
    exact this.symm
  · have := key (s0 ++ s1 ++ s2) s3 s4 hp
    simp [cat, upd, cnt, Nat.add_assoc] at this ⊢
    exact this.symm
  · have := key (s0 ++ s1 ++ s2 ++ s3) s4 [] hp
    simp [cat, upd, cnt, Nat.add_assoc] at this ⊢
    exact this.symm

/-- What the last loops compare. -/
theorem ins_facts {A G : List ByteArray} {m : Nat} {x : ByteArray} (hm : m ≤ G.length) (hA : A = G.take m ++ x :: G.drop m) :
    A.length = G.length + 1 ∧ (∀ j (h : j < G.length), j < m → A[j]? = some G[j]) ∧ A[m]? = some x ∧ (∀ j (h : j < G.length), m ≤ j → A[j + 1]? = some G[j]) := by
  subst hA
  refine ⟨by simp; omega, ?_, ?_, ?_⟩
  · intro j hj hjm
    rw [List.getElem?_append_left (by simp; omega), List.getElem?_take_of_lt hjm, List.getElem?_eq_getElem hj]
  · rw [List.getElem?_append_right (by simp; omega)]
    have : m - (G.take m).length = 0 := by simp; omega
    rw [this]; rfl
  · intro j hj hjm
    rw [List.getElem?_append_right (by simp; omega)]
    have : j + 1 - (G.take m).length = (j - m) + 1 := by simp; omega
    rw [this, List.getElem?_cons_succ, List.getElem?_drop, show m + (j - m) = j from by omega, List.getElem?_eq_getElem hj]

set_option maxHeartbeats 4000000 in
set_option maxRecDepth 100000 in
theorem insert_main {a0 a1 a2 a3 a4 : Option Addr} {c0 c1 c2 c3 c4 : Nat} {s0 s1 s2 s3 s4 : List ByteArray} {w : World} (k p : Int) (s : ByteArray)
    (hs : s.size ≤ 1048576) (hk0 : 0 ≤ k) (hk4 : k ≤ 4) (hp0 : -9223372036854775808 ≤ p) (hp1 : p ≤ 9223372036854775807)
    (h0 : StrsAt w a0 c0 s0) (h1 : StrsAt w a1 c1 s1) (h2 : StrsAt w a2 c2 s2) (h3 : StrsAt w a3 c3 s3) (h4 : StrsAt w a4 c4 s4)
    (m0 : s0.length ≤ 9223372036854775807) (m1 : s1.length ≤ 9223372036854775807) (m2 : s2.length ≤ 9223372036854775807) (m3 : s3.length ≤ 9223372036854775807) (m4 : s4.length ≤ 9223372036854775807)
    (z0 : ∀ s ∈ s0, s.size ≤ 9223372036854775807) (z1 : ∀ s ∈ s1, s.size ≤ 9223372036854775807) (z2 : ∀ s ∈ s2, s.size ≤ 9223372036854775807) (z3 : ∀ s ∈ s3, s.size ≤ 9223372036854775807) (z4 : ∀ s ∈ s4, s.size ≤ 9223372036854775807) :
    Calls Try.prog 4 #[.slice a0 s0.length c0, .slice a1 s1.length c1, .slice a2 s2.length c2, .slice a3 s3.length c3, .slice a4 s4.length c4, .int .i64 k, .int .i64 p, .string s] w fun e w' => e = .returned (.bool true) ∧ Below w.heap.size w w' := by
  obtain ⟨kn, rfl⟩ := Int.eq_ofNat_of_zero_le hk0
  have hne := fun (w : World) (a : Option Addr) (n c : Nat) => run_neq_slice_nil_any (P := Try.prog) w 22 9 a n c 0 0 Try.underlying22
  have hbt := bytes10_any (kn : Int) p s (by omega) h0 h1 h2 h3 h4 m0 m1 m2 m3 m4 z0 z1 z2 z3 z4
  have htl := tooLarge_any (16 + (s.size : Int)) (by omega) (by omega) h0 h1 h2 h3 h4
    (by intro j hj; rcases (show j = 0 ∨ j = 1 ∨ j = 2 ∨ j = 3 ∨ j = 4 from by omega) with rfl | rfl | rfl | rfl | rfl <;> assumption)
    (by intro j hj; rcases (show j = 0 ∨ j = 1 ∨ j = 2 ∨ j = 3 ∨ j = 4 from by omega) with rfl | rfl | rfl | rfl | rfl <;> assumption)
  have HB : Hid _ := hbt
  have HT : Hid _ := htl
  clear hbt htl z0 z1 z2 z3 z4
  go_enter Try.func4, Try.ntmps4
  go_upto_if 67 with (first | (go_at_call 10; refine Calls.mono HB.out ?_; rintro e w' ⟨⟨r, rfl⟩, rfl⟩; cases r) | (go_at_call 6; refine Calls.mono HT.out ?_; rintro e w' ⟨⟨r, rfl, hbd⟩, rfl⟩; cases r))
  · go_ret
    exact ⟨rfl, Below.refl _ _⟩
  · have hcn : cnt 5 s0 s1 s2 s3 s4 ≤ 65536 := by have := hbd trivial; omega
    have hln : s0.length + s1.length + s2.length + s3.length + s4.length ≤ 65536 := hcn
    clear hbd HB HT
    go_cut [0] from 67 to 67 (fun v wc => ∃ ao cap, v = .slice ao s0.length cap ∧ StrsAt wc ao cap s0 ∧ Below w.heap.size w wc)
    case first =>
      cases a0 with
      | none =>
        go_wp2
        go_meet
        case rel => exact ⟨none, c0, rfl, h0, Below.refl _ _⟩
      | some ad =>
        go_wp2_with (first
          | (at_make; refine wpList_make_strs _ rfl _ _ rfl _ _ s0.length rfl rfl rfl rfl (by omega) ?_; intro wm hown1 hb1 hlt1)
          | (with_reducible (show wpList _ _ _ (⟨_, Op.call ⟨Callee.builtin Builtin.copy, _, _⟩, _, _, _, _⟩ :: _) _ _); refine wpList_copy_strs _ rfl _ _ rfl w.heap.size w.heap.size s0 _ rfl hown1 _ _ rfl (h0.keeps (Keeps.below hb1)) w.heap.size w hb1 (Nat.le_refl _) ?_; intro wn hst hbn))
        go_meet
        case rel => exact ⟨_, _, rfl, hst, hbn⟩
    case rest =>
      obtain ⟨b0, d0, rfl, g0, bel0⟩ := hcut
      have kp := Keeps.below bel0
      replace h1 := h1.keeps kp
      replace h2 := h2.keeps kp
      replace h3 := h3.keeps kp
      replace h4 := h4.keeps kp
      clear h0 kp
      have belw := bel0
      clear bel0
      obtain ⟨w1, ew⟩ : ∃ x, x = wc := ⟨_, rfl⟩
      subst ew
      go_upto_if 76 with fail
      go_cut [1] from 76 to 76 (fun v wc => ∃ ao cap, v = .slice ao s1.length cap ∧ StrsAt wc ao cap s1 ∧ Below w1.heap.size w1 wc)
      case first =>
        cases a1 with
        | none =>
          go_wp2
          go_meet
          case rel => exact ⟨none, c1, rfl, h1, Below.refl _ _⟩
        | some ad =>
          go_wp2_with (first
            | (at_make; refine wpList_make_strs _ rfl _ _ rfl _ _ s1.length rfl rfl rfl rfl (by omega) ?_; intro wm hown1 hb1 hlt1)
            | (with_reducible (show wpList _ _ _ (⟨_, Op.call ⟨Callee.builtin Builtin.copy, _, _⟩, _, _, _, _⟩ :: _) _ _); refine wpList_copy_strs _ rfl _ _ rfl w1.heap.size w1.heap.size s1 _ rfl hown1 _ _ rfl (h1.keeps (Keeps.below hb1)) w1.heap.size w1 hb1 (Nat.le_refl _) ?_; intro wn hst hbn))
          go_meet
          case rel => exact ⟨_, _, rfl, hst, hbn⟩
      case rest =>
        obtain ⟨b1, d1, rfl, g1, bel1⟩ := hcut
        have kp := Keeps.below bel1
        replace g0 := g0.keeps kp
        replace h2 := h2.keeps kp
        replace h3 := h3.keeps kp
        replace h4 := h4.keeps kp
        clear h1 kp
        replace belw := belw.trans (bel1.mono belw.size)
        clear bel1
        obtain ⟨w2, ew⟩ : ∃ x, x = wc := ⟨_, rfl⟩
        subst ew
        go_upto_if 85 with fail
        go_cut [2] from 85 to 85 (fun v wc => ∃ ao cap, v = .slice ao s2.length cap ∧ StrsAt wc ao cap s2 ∧ Below w2.heap.size w2 wc)
        case first =>
          cases a2 with
          | none =>
            go_wp2
            go_meet
            case rel => exact ⟨none, c2, rfl, h2, Below.refl _ _⟩
          | some ad =>
            go_wp2_with (first
              | (at_make; refine wpList_make_strs _ rfl _ _ rfl _ _ s2.length rfl rfl rfl rfl (by omega) ?_; intro wm hown1 hb1 hlt1)
              | (with_reducible (show wpList _ _ _ (⟨_, Op.call ⟨Callee.builtin Builtin.copy, _, _⟩, _, _, _, _⟩ :: _) _ _); refine wpList_copy_strs _ rfl _ _ rfl w2.heap.size w2.heap.size s2 _ rfl hown1 _ _ rfl (h2.keeps (Keeps.below hb1)) w2.heap.size w2 hb1 (Nat.le_refl _) ?_; intro wn hst hbn))
            go_meet
            case rel => exact ⟨_, _, rfl, hst, hbn⟩
        case rest =>
          obtain ⟨b2, d2, rfl, g2, bel2⟩ := hcut
          have kp := Keeps.below bel2
          replace g0 := g0.keeps kp
          replace g1 := g1.keeps kp
          replace h3 := h3.keeps kp
          replace h4 := h4.keeps kp
          clear h2 kp
          replace belw := belw.trans (bel2.mono belw.size)
          clear bel2
          obtain ⟨w3, ew⟩ : ∃ x, x = wc := ⟨_, rfl⟩
          subst ew
          go_upto_if 94 with fail
          go_cut [3] from 94 to 94 (fun v wc => ∃ ao cap, v = .slice ao s3.length cap ∧ StrsAt wc ao cap s3 ∧ Below w3.heap.size w3 wc)
          case first =>
            cases a3 with
            | none =>
              go_wp2
              go_meet
              case rel => exact ⟨none, c3, rfl, h3, Below.refl _ _⟩
            | some ad =>
              go_wp2_with (first
                | (at_make; refine wpList_make_strs _ rfl _ _ rfl _ _ s3.length rfl rfl rfl rfl (by omega) ?_; intro wm hown1 hb1 hlt1)
                | (with_reducible (show wpList _ _ _ (⟨_, Op.call ⟨Callee.builtin Builtin.copy, _, _⟩, _, _, _, _⟩ :: _) _ _); refine wpList_copy_strs _ rfl _ _ rfl w3.heap.size w3.heap.size s3 _ rfl hown1 _ _ rfl (h3.keeps (Keeps.below hb1)) w3.heap.size w3 hb1 (Nat.le_refl _) ?_; intro wn hst hbn))
              go_meet
              case rel => exact ⟨_, _, rfl, hst, hbn⟩
          case rest =>
            obtain ⟨b3, d3, rfl, g3, bel3⟩ := hcut
            have kp := Keeps.below bel3
            replace g0 := g0.keeps kp
            replace g1 := g1.keeps kp
            replace g2 := g2.keeps kp
            replace h4 := h4.keeps kp
            clear h3 kp
            replace belw := belw.trans (bel3.mono belw.size)
            clear bel3
            obtain ⟨w4, ew⟩ : ∃ x, x = wc := ⟨_, rfl⟩
            subst ew
            go_upto_if 103 with fail
            go_cut [4] from 103 to 103 (fun v wc => ∃ ao cap, v = .slice ao s4.length cap ∧ StrsAt wc ao cap s4 ∧ Below w4.heap.size w4 wc)
            case first =>
              cases a4 with
              | none =>
                go_wp2
                go_meet
                case rel => exact ⟨none, c4, rfl, h4, Below.refl _ _⟩
              | some ad =>
                go_wp2_with (first
                  | (at_make; refine wpList_make_strs _ rfl _ _ rfl _ _ s4.length rfl rfl rfl rfl (by omega) ?_; intro wm hown1 hb1 hlt1)
                  | (with_reducible (show wpList _ _ _ (⟨_, Op.call ⟨Callee.builtin Builtin.copy, _, _⟩, _, _, _, _⟩ :: _) _ _); refine wpList_copy_strs _ rfl _ _ rfl w4.heap.size w4.heap.size s4 _ rfl hown1 _ _ rfl (h4.keeps (Keeps.below hb1)) w4.heap.size w4 hb1 (Nat.le_refl _) ?_; intro wn hst hbn))
                go_meet
                case rel => exact ⟨_, _, rfl, hst, hbn⟩
            case rest =>
              obtain ⟨b4, d4, rfl, g4, bel4⟩ := hcut
              have kp := Keeps.below bel4
              replace g0 := g0.keeps kp
              replace g1 := g1.keeps kp
              replace g2 := g2.keeps kp
              replace g3 := g3.keeps kp
              clear h4 kp
              replace belw := belw.trans (bel4.mono belw.size)
              clear bel4
              obtain ⟨w5, ew⟩ : ∃ x, x = wc := ⟨_, rfl⟩
              subst ew
              go_wp2_with fail
              refine (stage_strs kn (by omega) g0 g1 g2 g3 g4).mono ?_
              rintro e w' ⟨⟨ao, cap, rfl, gS⟩, rfl⟩
              have hSl : (stg kn s0 s1 s2 s3 s4).length ≤ 65536 := by
                have e1 := cnt_succ kn (by omega) s0 s1 s2 s3 s4
                have e2 := cnt_le (kn + 1) s0 s1 s2 s3 s4
                omega
              obtain ⟨S, HS⟩ : ∃ S, Hid (S = stg kn s0 s1 s2 s3 s4) := ⟨_, rfl⟩
              rw [← HS.out] at gS hSl ⊢
              by_cases hp : 0 ≤ p
              · by_cases hp2 : p ≤ S.length
                · obtain ⟨pn, rfl⟩ := Int.eq_ofNat_of_zero_le hp
                  obtain ⟨T, HT⟩ : ∃ T, Hid (T = S.take pn ++ s :: S.drop pn) := ⟨_, rfl⟩
                  obtain ⟨hTl', hT1, hT2, hT3⟩ := ins_facts (by omega) HT.out
                  have hTl := hTl'.symm
                  clear hTl'
                  have HTs : Hid _ := And.intro hT1 (And.intro hT2 hT3)
                  have HTl : Hid _ := hTl
                  clear hT1 hT2 hT3 hTl
                  go_wp2_with (at_make; refine wpList_make_strs _ rfl _ _ rfl _ _ (S.length + 1) rfl rfl (by omega) (by omega) (by omega) ?_; intro w6 hown6 hb6 hlt6)
                  have R0 := RowUpTo.start (T := T) hown6 HTl.out.symm
                  clear hown6 hlt6
                  go_loopw [24] (fun jv wr => ∃ j : Nat, j ≤ pn ∧ jv = .int .i64 j ∧ RowUpTo wr w5.heap.size T j ∧ Below w5.heap.size w5 wr) (fun jv _ => pn - (intOf jv).toNat)
                  case atStart => exact ⟨0, by omega, rfl, R0, hb6⟩
                  case round =>
                    clear R0 hb6
                    obtain ⟨j, hj, rfl, R, hbr⟩ := hrel
                    by_cases hjp : j < pn
                    · obtain ⟨b, off, rfl, hcell⟩ := (gS.keeps (Keeps.below hbr)).at (by omega)
                      have hcj := hcell j (by omega)
                      obtain ⟨v0, hv0, hf0⟩ := R.cell j (by rw [← HTl.out]; omega)
                      have R' := R.store S[j] (HTs.out.1 j (by omega) hjp)
                      have hb' := hbr.setCell (p := ⟨w5.heap.size, j, none⟩) (Nat.le_refl _) (.string S[j])
                      clear hcell
                      go_wp2
                      go_roundw
                      case rel => exact ⟨j + 1, by omega, by go_num, R', hb'⟩
                      case measure => simp [intOf]; omega
                    · obtain rfl : pn = j := by omega
                      obtain ⟨v0, hv0, hf0⟩ := R.cell pn (by rw [← HTl.out]; omega)
                      have R' := R.store s HTs.out.2.1
                      have hb' := hbr.setCell (p := ⟨w5.heap.size, pn, none⟩) (Nat.le_refl _) (.string s)
                      clear R hbr
                      go_wp2
                      go_loopw [25] (fun jv wr => ∃ j : Nat, pn ≤ j ∧ j ≤ S.length ∧ jv = .int .i64 j ∧ RowUpTo wr w5.heap.size T (j + 1) ∧ Below w5.heap.size w5 wr) (fun jv _ => S.length - (intOf jv).toNat)
                      case atStart => exact ⟨pn, by omega, by omega, rfl, R', hb'⟩
                      case round =>
                        clear R' hb' hv0 hf0
                        obtain ⟨j, hjn, hjs, rfl, R, hbr⟩ := hrel
                        by_cases hjp : j < S.length
                        · obtain ⟨b, off, rfl, hcell⟩ := (gS.keeps (Keeps.below hbr)).at (by omega)
                          have hcj := hcell j hjp
                          obtain ⟨v0, hv0, hf0⟩ := R.cell (j + 1) (by rw [← HTl.out]; omega)
                          have R' := R.store S[j] (HTs.out.2.2 j hjp hjn)
                          have hb' := hbr.setCell (p := ⟨w5.heap.size, j + 1, none⟩) (Nat.le_refl _) (.string S[j])
                          clear hcell
                          go_wp2
                          go_roundw
                          case rel => exact ⟨j + 1, by omega, by omega, by go_num, R', hb'⟩
                          case measure => simp [intOf]; omega
                        · have gT := R.full (by rw [← HTl.out]; omega)
                          have kp := Keeps.below hbr
                          replace belw := belw.trans (hbr.mono belw.size)
                          replace g0 := g0.keeps kp
                          replace g1 := g1.keeps kp
                          replace g2 := g2.keeps kp
                          replace g3 := g3.keeps kp
                          replace g4 := g4.keeps kp
                          clear R kp hbr gS
                          rw [show S.length + 1 = T.length from HTl.out]
                          go_upto_block 4 with fail
                          go_cut [26, 27, 28, 29, 30] from 168 to 168 (fun v0 v1 v2 v3 v4 wc => wc = wr ∧ ∃ e0 e1 e2 e3 e4 f0 f1 f2 f3 f4, v0 = .slice e0 (upd kn 0 T s0).length f0 ∧ v1 = .slice e1 (upd kn 1 T s1).length f1 ∧ v2 = .slice e2 (upd kn 2 T s2).length f2 ∧ v3 = .slice e3 (upd kn 3 T s3).length f3 ∧ v4 = .slice e4 (upd kn 4 T s4).length f4 ∧
                            StrsAt wr e0 f0 (upd kn 0 T s0) ∧ StrsAt wr e1 f1 (upd kn 1 T s1) ∧ StrsAt wr e2 f2 (upd kn 2 T s2) ∧ StrsAt wr e3 f3 (upd kn 3 T s3) ∧ StrsAt wr e4 f4 (upd kn 4 T s4))
                          case first =>
                            rcases (show kn = 0 ∨ kn = 1 ∨ kn = 2 ∨ kn = 3 ∨ kn = 4 from by omega) with rfl | rfl | rfl | rfl | rfl
                            · go_wp2
                              go_meet
                              case rel => exact ⟨rfl, _, _, _, _, _, _, _, _, _, _, rfl, rfl, rfl, rfl, rfl, gT, g1, g2, g3, g4⟩
                            · go_wp2
                              go_meet
                              case rel => exact ⟨rfl, _, _, _, _, _, _, _, _, _, _, rfl, rfl, rfl, rfl, rfl, g0, gT, g2, g3, g4⟩
                            · go_wp2
                              go_meet
                              case rel => exact ⟨rfl, _, _, _, _, _, _, _, _, _, _, rfl, rfl, rfl, rfl, rfl, g0, g1, gT, g3, g4⟩
                            · go_wp2
                              go_meet
                              case rel => exact ⟨rfl, _, _, _, _, _, _, _, _, _, _, rfl, rfl, rfl, rfl, rfl, g0, g1, g2, gT, g4⟩
                            · go_wp2
                              go_meet
                              case rel => exact ⟨rfl, _, _, _, _, _, _, _, _, _, _, rfl, rfl, rfl, rfl, rfl, g0, g1, g2, g3, gT⟩
                          case rest =>
                            obtain ⟨rfl, e0, e1, e2, e3, e4, f0, f1, f2, f3, f4, rfl, rfl, rfl, rfl, rfl, t0, t1, t2, t3, t4⟩ := hcut
                            have hcu : cnt 5 (upd kn 0 T s0) (upd kn 1 T s1) (upd kn 2 T s2) (upd kn 3 T s3) (upd kn 4 T s4) ≤ 1000000 := by
                              rw [cnt_upd kn (by omega) T s0 s1 s2 s3 s4 (by rw [← HS.out]; exact HTl.out)]
                              omega
                            go_wp2
                            go_loop [31, 32] (fun ov sv => ∃ st : Nat, st ≤ kn ∧ sv = .int .i64 st ∧ ov = .int .i64 (cnt st s0 s1 s2 s3 s4)) (fun _ sv => kn - (intOf sv).toNat)
                            case atStart => exact ⟨0, by omega, rfl, rfl⟩
                            case round =>
                              obtain ⟨st, hst, rfl, rfl⟩ := hrel
                              have hc1 := cnt_le st s0 s1 s2 s3 s4
                              by_cases hlt : st < kn
                              · have HC : Hid (cnt (st + 1) s0 s1 s2 s3 s4 = cnt st s0 s1 s2 s3 s4 + (stg st s0 s1 s2 s3 s4).length) := cnt_succ st (by omega) s0 s1 s2 s3 s4
                                have hc2 : cnt st s0 s1 s2 s3 s4 + (stg st s0 s1 s2 s3 s4).length ≤ 65536 := by
                                  rw [← HC.out]; exact Nat.le_trans (cnt_le _ _ _ _ _ _) hcn
                                go_wp2_with (go_at_call 7; refine (stage_strs st (by omega) g0 g1 g2 g3 g4).mono ?_; rintro e w' ⟨⟨aq, capq, rfl, _⟩, rfl⟩)
                                go_round
                                case rel => exact ⟨st + 1, by omega, by go_num, by rw [HC.out]; go_num⟩
                                case measure => simp [intOf]; omega
                              · obtain rfl : st = kn := by omega
                                go_wp2_with fail
                                refine (zz_any g0 g1 g2 g3 g4 (by omega)).mono ?_
                                rintro e w7 ⟨⟨aG, cG, rfl, gG⟩, bel7⟩
                                replace belw := belw.trans (bel7.mono belw.size)
                                have kp := Keeps.below bel7
                                replace t0 := t0.keeps kp
                                replace t1 := t1.keeps kp
                                replace t2 := t2.keeps kp
                                replace t3 := t3.keeps kp
                                replace t4 := t4.keeps kp
                                clear g0 g1 g2 g3 g4 gT kp bel7
                                go_wp2_with fail
                                refine (zz_any t0 t1 t2 t3 t4 hcu).mono ?_
                                rintro e w8 ⟨⟨aA, cA, rfl, gA⟩, bel8⟩
                                replace belw := belw.trans (bel8.mono belw.size)
                                replace gG := gG.keeps (Keeps.below bel8)
                                clear t0 t1 t2 t3 t4 bel8
                                have hml : cnt st s0 s1 s2 s3 s4 + pn ≤ (cat 5 s0 s1 s2 s3 s4).length := by
                                  have e1 := cnt_succ st (by omega) s0 s1 s2 s3 s4
                                  have e2 := cnt_le (st + 1) s0 s1 s2 s3 s4
                                  have e3 : S.length = (stg st s0 s1 s2 s3 s4).length := by rw [HS.out]
                                  rw [cat_length]
                                  omega
                                have hF := ins_facts (A := cat 5 (upd st 0 T s0) (upd st 1 T s1) (upd st 2 T s2) (upd st 3 T s3) (upd st 4 T s4)) (G := cat 5 s0 s1 s2 s3 s4) (m := cnt st s0 s1 s2 s3 s4 + pn) (x := s) hml (cat_upd st pn (by omega) s T s0 s1 s2 s3 s4 (by rw [← HS.out]; omega) (by rw [← HS.out]; exact HT.out))
                                have hGl : (cat 5 s0 s1 s2 s3 s4).length ≤ 65536 := by rw [cat_length]; exact hcn
                                generalize cat 5 (upd st 0 T s0) (upd st 1 T s1) (upd st 2 T s2) (upd st 3 T s3) (upd st 4 T s4) = A at *
                                generalize cat 5 s0 s1 s2 s3 s4 = G at *
                                generalize cnt st s0 s1 s2 s3 s4 = cm at *
                                obtain ⟨hAl, HF⟩ : A.length = G.length + 1 ∧ Hid _ := hF
                                rw [hAl]
                                clear hcu
                                go_wp2_with fail
                                obtain ⟨bA, oA, rfl, hcA⟩ := gA.at (by omega)
                                have HcA : Hid _ := hcA
                                have hltA : bA < w8.heap.size := World.block_lt_of_cell? w8 _ (hcA 0 (by omega))
                                clear hcA gA
                                go_loopw [36] (fun jv wr => ∃ j : Nat, j ≤ cm + pn ∧ jv = .int .i64 j ∧ Below w8.heap.size w8 wr) (fun jv _ => cm + pn - (intOf jv).toNat)
                                case atStart => exact ⟨0, by omega, rfl, Below.refl _ _⟩
                                case round =>
                                  obtain ⟨j, hj, rfl, hbr⟩ := hrel
                                  by_cases hjp : j < cm + pn
                                  · obtain ⟨bG, oG, rfl, hcG⟩ := (gG.keeps (Keeps.below hbr)).at (by omega)
                                    have hcj := hcG j (by omega)
                                    have hca : wr.cell? ⟨bA, oA + j, none⟩ = some (.string G[j]) := by
                                      rw [hbr.cell (by exact hltA), HcA.out j (by omega)]
                                      have := HF.out.1 j (by omega) hjp
                                      rw [List.getElem?_eq_getElem (by omega)] at this
                                      rw [Option.some.inj this]
                                    clear hcG
                                    go_wp2_with fail
                                    go_quiet (fail)
                                    go_wp2
                                    go_roundw
                                    case rel => exact ⟨j + 1, by omega, by go_num, below_drewN hbr _⟩
                                    case measure => simp [intOf]; omega
                                  · obtain ⟨m, Hm⟩ : ∃ m, Hid (m = j) := ⟨_, rfl⟩
                                    have hca : wr.cell? ⟨bA, oA + (cm + pn), none⟩ = some (.string s) := by
                                      rw [hbr.cell (by exact hltA), HcA.out (cm + pn) (by omega)]
                                      have := HF.out.2.1
                                      rw [List.getElem?_eq_getElem (by omega)] at this
                                      rw [Option.some.inj this]
                                    clear Hm
                                    go_wp2
                                    go_loopw [37] (fun jv wr => ∃ j : Nat, cm + pn ≤ j ∧ j ≤ G.length ∧ jv = .int .i64 j ∧ Below w8.heap.size w8 wr) (fun jv _ => G.length - (intOf jv).toNat)
                                    case atStart => exact ⟨cm + pn, by omega, by omega, by go_num, hbr⟩
                                    case round =>
                                      clear hca hbr
                                      obtain ⟨i, hi1, hi2, rfl, hbr⟩ := hrel
                                      by_cases hip : i < G.length
                                      · obtain ⟨bG, oG, rfl, hcG⟩ := (gG.keeps (Keeps.below hbr)).at (by omega)
                                        have hcj := hcG i (by omega)
                                        have hca : wr.cell? ⟨bA, oA + (i + 1), none⟩ = some (.string G[i]) := by
                                          rw [hbr.cell (by exact hltA), HcA.out (i + 1) (by omega)]
                                          have := HF.out.2.2 i (by omega) hi1
                                          rw [List.getElem?_eq_getElem (by omega)] at this
                                          rw [Option.some.inj this]
                                        clear hcG
                                        go_wp2_with fail
                                        go_quiet (fail)
                                        go_wp2
                                        go_roundw
                                        case rel => exact ⟨i + 1, by omega, by omega, by go_num, below_drewN hbr _⟩
                                        case measure => simp [intOf]; omega
                                      · go_wp2
                                        go_ret
                                        exact ⟨rfl, belw.trans (hbr.mono belw.size)⟩
                · go_wp2
                  go_ret
                  exact ⟨rfl, belw⟩
              · go_wp2
                go_ret
                exact ⟨rfl, belw⟩
  · go_ret
    exact ⟨rfl, Below.refl _ _⟩

set_option maxHeartbeats 1000000 in
set_option maxRecDepth 100000 in
theorem insert_any {a0 a1 a2 a3 a4 : Option Addr} {c0 c1 c2 c3 c4 : Nat} {s0 s1 s2 s3 s4 : List ByteArray} {w : World} (k p : Int) (s : ByteArray)
    (hs : s.size ≤ 9223372036854775807) (hp0 : -9223372036854775808 ≤ p) (hp1 : p ≤ 9223372036854775807)
    (h0 : StrsAt w a0 c0 s0) (h1 : StrsAt w a1 c1 s1) (h2 : StrsAt w a2 c2 s2) (h3 : StrsAt w a3 c3 s3) (h4 : StrsAt w a4 c4 s4)
    (m0 : s0.length ≤ 9223372036854775807) (m1 : s1.length ≤ 9223372036854775807) (m2 : s2.length ≤ 9223372036854775807) (m3 : s3.length ≤ 9223372036854775807) (m4 : s4.length ≤ 9223372036854775807)
    (z0 : ∀ s ∈ s0, s.size ≤ 9223372036854775807) (z1 : ∀ s ∈ s1, s.size ≤ 9223372036854775807) (z2 : ∀ s ∈ s2, s.size ≤ 9223372036854775807) (z3 : ∀ s ∈ s3, s.size ≤ 9223372036854775807) (z4 : ∀ s ∈ s4, s.size ≤ 9223372036854775807) :
    Calls Try.prog 4 #[.slice a0 s0.length c0, .slice a1 s1.length c1, .slice a2 s2.length c2, .slice a3 s3.length c3, .slice a4 s4.length c4, .int .i64 k, .int .i64 p, .string s] w fun e w' => e = .returned (.bool true) ∧ Below w.heap.size w w' := by
  by_cases hsz : s.size ≤ 1048576
  · by_cases hk : 0 ≤ k ∧ k ≤ 4
    · exact insert_main k p s hsz hk.1 hk.2 hp0 hp1 h0 h1 h2 h3 h4 m0 m1 m2 m3 m4 z0 z1 z2 z3 z4
    · have hk' : k < 0 ∨ 4 < k := by omega
      clear hk
      have hbt := bytes10_any k p s (by omega) h0 h1 h2 h3 h4 m0 m1 m2 m3 m4 z0 z1 z2 z3 z4
      have htl := tooLarge_any (16 + (s.size : Int)) (by omega) (by omega) h0 h1 h2 h3 h4
        (by intro j hj; rcases (show j = 0 ∨ j = 1 ∨ j = 2 ∨ j = 3 ∨ j = 4 from by omega) with rfl | rfl | rfl | rfl | rfl <;> assumption)
        (by intro j hj; rcases (show j = 0 ∨ j = 1 ∨ j = 2 ∨ j = 3 ∨ j = 4 from by omega) with rfl | rfl | rfl | rfl | rfl <;> assumption)
      have HB : Hid _ := hbt
      have HT : Hid _ := htl
      clear hbt htl z0 z1 z2 z3 z4
      rcases hk' with hk' | hk'
      · go_enter Try.func4, Try.ntmps4
        go_wp2_with (first | (go_at_call 10; refine Calls.mono HB.out ?_; rintro e w' ⟨⟨r, rfl⟩, rfl⟩; cases r) | (go_at_call 6; refine Calls.mono HT.out ?_; rintro e w' ⟨⟨r, rfl, hbd⟩, rfl⟩; cases r))
        all_goals (go_ret; exact ⟨rfl, Below.refl _ _⟩)
      · go_enter Try.func4, Try.ntmps4
        go_wp2_with (first | (go_at_call 10; refine Calls.mono HB.out ?_; rintro e w' ⟨⟨r, rfl⟩, rfl⟩; cases r) | (go_at_call 6; refine Calls.mono HT.out ?_; rintro e w' ⟨⟨r, rfl, hbd⟩, rfl⟩; cases r))
        all_goals (go_ret; exact ⟨rfl, Below.refl _ _⟩)
  · have hbt := bytes10_any k p s (by omega) h0 h1 h2 h3 h4 m0 m1 m2 m3 m4 z0 z1 z2 z3 z4
    have HB : Hid _ := hbt
    clear hbt z0 z1 z2 z3 z4
    go_enter Try.func4, Try.ntmps4
    go_wp2_with (go_at_call 10; refine Calls.mono HB.out ?_; rintro e w' ⟨⟨r, rfl⟩, rfl⟩; cases r)
    all_goals (go_ret; exact ⟨rfl, Below.refl _ _⟩)
#print axioms insert_any
end Go.Proofs.Qxb6617632a
