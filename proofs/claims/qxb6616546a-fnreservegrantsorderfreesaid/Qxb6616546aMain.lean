/-
  The law, walked.
-/
import Derived.Test.Qxb6616546aEnds
import Derived.Test.Qxb6616546aBuild2
namespace Go.Proofs.Qxb6616546a
open Go.RowKit
set_option linter.unusedVariables false

def GivesTrue (w w' : World) (e : Ending) : Prop := e = .returned (.bool true) ∧ Below w.heap.size w w'

set_option maxHeartbeats 4000000 in
set_option maxRecDepth 100000 in
theorem law_any (ao : Option Addr) (cap : Nat) (rs : List Row) (w : World) (hr : RowsAt w ao cap rs) (hh : Holds rs) (hF : Fits rs) :
    Calls Try.prog 3 #[.slice ao rs.length cap] w fun e w' => GivesTrue w w' e := by
  have HR := hide hr
  have HH := hide hh.2
  have HF := hide hF
  have H4 := hide (bytes_any ao cap rs w hr hh)
  have H5 := hide (tooBig_any ao cap rs w hr hh)
  have hm63 := hh.1
  clear hr hh hF
  go_enter Try.func3, Try.ntmps3
  go_upto_if 16 with (go_at_call 4; refine Calls.mono H4.out ?_; rintro e w1 ⟨⟨r, rfl⟩, hw1⟩; obtain rfl : w = w1 := hw1)
  cases r
  · go_wp2_with fail
    go_ret
    exact ⟨rfl, Below.refl _ _⟩
  go_upto_if 18 with (go_at_call 5; refine Calls.mono H5.out ?_; rintro e w1 ⟨⟨r, rfl, hbig⟩, hw1⟩; obtain rfl : w = w1 := hw1)
  cases r
  case true =>
    clear hbig
    go_wp2_with fail
    go_ret
    exact ⟨rfl, Below.refl _ _⟩
  have hl := hbig rfl
  clear hbig H4 H5
  have hmk := makeR w rs.length hl
  have R0 := hide (RevRow.start w rs)
  have hb0 := hide ((Below.refl w.heap.size w).alloc (Nat.le_refl _) (.cells (rowZ rs.length).toArray 25))
  go_wp2_with fail
  clear hmk
  go_loopw [25] (fun iv wr => ∃ i : Nat, i ≤ rs.length ∧ iv = .int .i64 i ∧ RevRow wr w.heap.size rs i ∧ Below w.heap.size w wr) (fun iv _ => rs.length - (intOf iv).toNat)
  case atStart => exact ⟨0, by omega, rfl, R0.out, hb0.out⟩
  case round =>
    clear R0 hb0
    obtain ⟨i, hi, rfl, R, hbr⟩ := hrel
    by_cases hlt : i < rs.length
    · obtain ⟨x, hx⟩ : ∃ x, rs[i]? = some x := ⟨_, List.getElem?_eq_getElem hlt⟩
      obtain ⟨b, off, hpa, hbl, hcell⟩ := HR.out.at (by omega)
      subst hpa
      obtain ⟨k0, k1, k2, k3, k4⟩ := (hcell i x hx).keeps (Keeps.below hbr)
      clear hcell
      obtain ⟨⟨v0, e0⟩, f0⟩ := R.cells ((rs.length - 1 - i) * 5) (by omega)
      obtain ⟨⟨v1, e1⟩, f1⟩ := R.cells ((rs.length - 1 - i) * 5 + 1) (by omega)
      obtain ⟨⟨v2, e2⟩, f2⟩ := R.cells ((rs.length - 1 - i) * 5 + 2) (by omega)
      obtain ⟨⟨v3, e3⟩, f3⟩ := R.cells ((rs.length - 1 - i) * 5 + 3) (by omega)
      obtain ⟨⟨v4, e4⟩, f4⟩ := R.cells ((rs.length - 1 - i) * 5 + 4) (by omega)
      have HN := hide (R.next x hx)
      have HB := hide (put5_below (o := (rs.length - 1 - i) * 5) (x := x) hbr (Nat.le_refl _))
      clear R hbr
      go_wp2_with fail
      go_roundw
      case rel => exact ⟨i + 1, by omega, by go_num, HN.out, HB.out⟩
      case measure => simp [intOf]; omega
    · obtain rfl : i = rs.length := by omega
      obtain ⟨wA, rfl⟩ : ∃ wA, wA = wr := ⟨_, rfl⟩
      have HV := hide R.rows
      have HB := hide hbr
      have HB7 := hide (build_any ao cap rs wA (HR.out.keeps (Keeps.below hbr)) hl)
      clear R hbr
      go_upto_region 13 with (first
        | (go_at_call 7; refine Calls.mono HB7.out ?_; rintro e w1 ⟨pb1, rfl, hp1, hbp1⟩; have HZ := hide (zz_any pb1 rs w1 hp1 hl HF.out HH.out); have HBp := hide hbp1; clear hp1 hbp1)
        | (go_at_call 6; refine Calls.mono HZ.out ?_; intro e w2 hg1; obtain ⟨hb1, bG1, bR1, ao1, co1, rfl, RG1, bz1, gg1, gr1⟩ := rg_of hg1; have HG1 := hide RG1; have HZ1 := hide bz1; have HN1 := hide (And.intro gg1 gr1); clear hg1 RG1 bz1 gg1 gr1))
      obtain ⟨wB, hwB⟩ : ∃ wB, wB = w2.alloc (.cells #[.pointer (some ⟨bG1, 0, none⟩), .pointer (some ⟨bR1, 0, none⟩), .slice ao1 (over rs rs).length co1] 30) := ⟨_, rfl⟩
      rw [← hwB] at HG1 ⊢
      have bB : Below w2.heap.size w2 wB := by rw [hwB]; exact (Below.refl _ _).alloc (Nat.le_refl _) _
      have bAB : Below wA.heap.size wA wB := (HBp.out.trans (HZ1.out.mono HBp.out.size)).trans (bB.mono (Nat.le_trans HBp.out.size HZ1.out.size))
      have HAB := hide bAB
      have HB7' := build_any (some ⟨w.heap.size, 0, none⟩) rs.length rs.reverse wB (HV.out.keeps (Keeps.below bAB)) (by simpa using hl)
      rw [List.length_reverse] at HB7'
      have HB7' := hide HB7'
      clear hwB bB bAB HB7 HBp HZ1 HV HZ
      go_upto_region 14 with (first
        | (go_at_call 7; refine Calls.mono HB7'.out ?_; rintro e w3 ⟨pb2, rfl, hp2, hbp2⟩; have HZ' := hide (zz_any pb2 rs.reverse w3 hp2 (by simpa using hl) HF.out.reverse (fun r q => HH.out r (by simpa using q))); have HBp := hide hbp2; clear hp2 hbp2)
        | (go_at_call 6; refine Calls.mono HZ'.out ?_; intro e w4 hg2; obtain ⟨hb2, bG2, bR2, ao2, co2, rfl, RG2, bz2, gg2, gr2⟩ := rg_of_rev hg2; have HG2 := hide RG2; have HZ2 := hide bz2; have HN2 := hide (And.intro gg2 gr2); clear hg2 RG2 bz2 gg2 gr2))
      obtain ⟨wC, hwC⟩ : ∃ wC, wC = w4.alloc (.cells #[.pointer (some ⟨bG2, 0, none⟩), .pointer (some ⟨bR2, 0, none⟩), .slice ao2 (over rs rs).length co2] 30) := ⟨_, rfl⟩
      rw [← hwC] at HG2 ⊢
      have bC : Below w4.heap.size w4 wC := by rw [hwC]; exact (Below.refl _ _).alloc (Nat.le_refl _) _
      have bBC : Below wB.heap.size wB wC := (HBp.out.trans (HZ2.out.mono HBp.out.size)).trans (bC.mono (Nat.le_trans HBp.out.size HZ2.out.size))
      have HwC := hide (HB.out.trans ((HAB.out.mono HB.out.size).trans (bBC.mono (Nat.le_trans HB.out.size HAB.out.size))))
      have HC1 := hide (HG1.out.below bBC)
      have hne1 : bG1 ≠ bG2 := fun q => by obtain ⟨o, h⟩ := HG1.out.G; have := h.lt (.inl rfl); have := HN2.out.1; have := HBp.out.size; omega
      have hne2 : bR1 ≠ bR2 := fun q => by obtain ⟨o, h⟩ := HG1.out.R; have := h.lt (.inl rfl); have := HN2.out.2; have := HBp.out.size; omega
      have HNE := hide (And.intro hne1 hne2)
      obtain ⟨k10, k11, k12⟩ := HC1.out.cells
      obtain ⟨k20, k21, k22⟩ := HG2.out.cells
      have hnil := eqP27_nil
      clear hwC bC bBC hne1 hne2 HB7' HBp HZ2 HN1 HN2 HZ' HG1 HAB HB
      go_upto_region 18 with fail
      clear k10 k11 k12 k20 k21 k22 hnil
      go_loopw [84] (fun iv wr => ∃ i : Nat, i ≤ rs.length ∧ iv = .int .i64 i ∧ SumAt wC rs i wr) (fun iv _ => rs.length - (intOf iv).toNat)
      case atStart => exact ⟨0, Nat.zero_le _, rfl, SumAt.start wC rs⟩
      case round =>
        obtain ⟨i, hi, rfl, hS⟩ := hrel
        by_cases hil : i < rs.length
        · obtain ⟨x, hx⟩ : ∃ x, rs[i]? = some x := ⟨_, List.getElem?_eq_getElem hil⟩
          obtain ⟨b, off, hpa, hbl, hcell⟩ := HR.out.at (by omega)
          subst hpa
          have hbw := HwC.out.trans (hS.1.mono HwC.out.size)
          have k2 := (Keeps.below hbw).2 _ _ (hcell i x hx).r
          have hq := HF.out x (List.mem_of_getElem? hx)
          have HNI := hide (newInt_any x.r wr hq.2.2.1 hq.2.2.2)
          have HA := hide (hS.add hx hl HF.out)
          have hln : (held rs rs).length = rs.length := by simp [held]
          obtain ⟨v, hv1⟩ : ∃ v, (held rs rs)[rs.length - 1 - i]? = some v := ⟨_, List.getElem?_eq_getElem (by omega)⟩
          have hv2 : (held rs rs).reverse[i]? = some v := by rw [List.getElem?_reverse (by omega), hln]; exact hv1
          have HV1 := hide hv1
          have HV2 := hide hv2
          have hI0 : (0 : Int) ≤ (rs.length : Int) - 1 - (i : Int) := by omega
          have hI1 : (rs.length : Int) - 1 - (i : Int) < (rs.length : Int) := by omega
          clear hv1 hv2 hln hcell hbw hS hq
          go_upto_region 21 with (first
            | (go_at_call 9; refine Calls.mono HNI.out ?_; intro e1 w5 hN1; obtain ⟨c1, rfl, HC0⟩ := HA.out e1 w5 hN1; have HC := hide HC0; clear HC0 hN1)
            | (go_at_call 8; refine Calls.mono HC.out ?_; rintro e2 w6 ⟨rfl, hS2⟩))
          have j1 := (HC1.out.below hS2.1).at _ v HV1.out
          have j2 := (HG2.out.below hS2.1).at _ v HV2.out
          have HS2 := hide hS2
          clear hS2 k2 HNI HA HC
          go_quiet (fail)
          go_wp2_with fail
          go_roundw
          case rel => exact ⟨i + 1, by omega, by go_num, HS2.out.calm ((Calm.refl _).drewN _)⟩
          case measure => simp [intOf]; omega
        · obtain rfl : i = rs.length := by omega
          obtain ⟨wD, rfl⟩ : ∃ wD, wD = wr := ⟨_, rfl⟩
          have hD1 := HC1.out.below hS.1
          have hD2 := HG2.out.below hS.1
          have hwD := HwC.out.trans (hS.1.mono HwC.out.size)
          have hfin : FinOk w2.heap.size w4.heap.size bG1 bG2 bR1 bR2 wC.heap.size wD := by
            obtain ⟨o1, g1⟩ := hD1.G
            obtain ⟨o2, g2⟩ := hD2.G
            obtain ⟨o3, g3⟩ := hD1.R
            obtain ⟨o4, g4⟩ := hD2.R
            obtain ⟨_, o5, g5, _⟩ := hS
            rw [List.take_length] at g5
            refine ⟨hD1.cells.1, hD1.cells.2.1, hD2.cells.1, hD2.cells.2.1, ⟨_, _, o1, o2, o3, o4, o5, g1, g2, g3, g4, g5⟩, HNE.out.1, HNE.out.2, fun q => ?_⟩
            obtain ⟨o, h⟩ := HC1.out.R
            have := h.lt (.inl rfl)
            omega
          have HD1 := hide hD1
          have HD2 := hide hD2
          have HWD := hide hwD
          have HFin := hide hfin
          have k12 := hD1.cells.2.2
          have k22 := hD2.cells.2.2
          have hmm : (over rs rs).length ≤ 4096 := Nat.le_trans (over_le _ _) hl
          clear hD1 hD2 hwD hfin hS HC1 HG2 HwC HNE
          go_upto_region 28 with fail
          clear k12 k22
          go_loopw [13] (fun iv wr => ∃ i : Nat, i ≤ (over rs rs).length ∧ iv = .int .i64 i ∧ Calm wD wr) (fun iv _ => (over rs rs).length - (intOf iv).toNat)
          case atStart => exact ⟨0, Nat.zero_le _, rfl, Calm.refl _⟩
          case round =>
            obtain ⟨i, hi, rfl, hc⟩ := hrel
            have hE1 := HD1.out.calm hc
            have hE2 := HD2.out.calm hc
            by_cases hil : i < (over rs rs).length
            · obtain ⟨s, hs1⟩ : ∃ s, (over rs rs)[(over rs rs).length - 1 - i]? = some s := ⟨_, List.getElem?_eq_getElem (by omega)⟩
              have hs2 : (over rs rs).reverse[i]? = some s := by rw [List.getElem?_reverse (by omega)]; exact hs1
              obtain ⟨b1, o1, hao1, hc1⟩ := hE1.ov.at (by omega)
              obtain ⟨b2, o2, hao2, hc2⟩ := hE2.ov.at (by rw [List.length_reverse]; omega)
              have j1 := hc1 _ s hs1
              have j2 := hc2 _ s hs2
              have k12 := hE1.cells.2.2
              have k22 := hE2.cells.2.2
              rw [hao1] at k12
              rw [hao2] at k22
              have hI0 : (0 : Int) ≤ ((over rs rs).length : Int) - 1 - (i : Int) := by omega
              have hI1 : ((over rs rs).length : Int) - 1 - (i : Int) < ((over rs rs).length : Int) := by omega
              have HCc := hide hc
              clear hE1 hE2 hc1 hc2 hs1 hs2 hao1 hao2 hc
              go_upto_region 30 with fail
              go_quiet (fail)
              go_wp2_with fail
              go_roundw
              case rel => exact ⟨i + 1, by omega, by go_num, HCc.out.drewN _⟩
              case measure => simp [intOf]; omega
            · have hF3 := HFin.out.calm hc
              obtain ⟨c10, c11, c20, c21, _, _, _, _⟩ := id hF3
              obtain ⟨m1, m2, m3⟩ := hF3.cmp
              clear hE1 hE2
              go_wp2_with (go_at_call 10; refine Calls.mono (CmpOk.out (by assumption)) ?_; rintro e wN ⟨rfl, hcm⟩; have hFN := FinOk.calm (by assumption) hcm; have c10N := hFN.c10; have c11N := hFN.c11; have c20N := hFN.c20; have c21N := hFN.c21; have m1N := hFN.cmp.1; have m2N := hFN.cmp.2.1; have m3N := hFN.cmp.2.2; have hcN : Calm wD wN := Calm.trans (by assumption) hcm)
              go_ret
              exact ⟨rfl, below_calm HWD.out (by assumption)⟩
end Go.Proofs.Qxb6616546a
