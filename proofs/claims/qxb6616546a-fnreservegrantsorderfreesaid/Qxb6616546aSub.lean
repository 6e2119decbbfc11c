import Derived.Test.Qxb6616546aAdd3
namespace Go.Proofs.Qxb6616546a
open Go.RowKit
set_option linter.unusedVariables false

theorem nres_of_short {w w' : World} {g cap L i V : Nat} {F : Nat → Nat} {oz : Option (Nat × Nat)} (hr : WRow w' g cap F) (hL : L ≤ 2) (hLc : L ≤ cap) (hc : cap ≤ 100) (hb : ∀ j, F j < 18446744073709551616)
    (hi : i ≤ L) (hz : ∀ j, i ≤ j → j < L → F j = 0) (ht : 0 < i → F (i - 1) ≠ 0) (hV : nval L F = V) (ho : Only (SO oz) w w') (hg : oz = some (g, cap) ∨ w.heap.size ≤ g) :
    NRes w w' V oz (.slice (some ⟨g, 0, none⟩) i cap) := by
  refine ⟨i, some (g, cap), F, NV.mk hr (by omega) hc hb, ⟨by omega, fun e => ?_, fun e => ?_⟩, ?_, ho, ?_⟩
  · have := ht (by omega); rw [e] at this; exact this
  · have := ht (by omega); rw [e] at this; exact this
  · rw [← hV]
    rcases (show L = 0 ∨ L = 1 ∨ L = 2 by omega) with rfl | rfl | rfl
    · obtain rfl : i = 0 := by omega
      rfl
    · rcases (show i = 0 ∨ i = 1 by omega) with rfl | rfl
      · rw [nval0, nval1, hz 0 (by omega) (by omega)]
      · rfl
    · rcases (show i = 0 ∨ i = 1 ∨ i = 2 by omega) with rfl | rfl | rfl
      · rw [nval0, nval2, hz 0 (by omega) (by omega), hz 1 (by omega) (by omega)]
      · rw [nval1, nval2, hz 1 (by omega) (by omega)]
        omega
      · rfl
  · rcases hg with h | h
    · exact .inl h.symm
    · exact .inr ⟨g, cap, rfl, h⟩

theorem subK_one {x y b : Nat} (h : x < y + b) : subK x y b = 1 := by unfold subK; rw [if_pos h]
theorem subK_zero {x y b : Nat} (h : ¬ x < y + b) : subK x y b = 0 := by unfold subK; rw [if_neg h]
theorem borrow_eq {m : Nat} {fx fy : Nat → Nat} (m1 : m = 1 ∨ m = 2) (bx : ∀ j, fx j < 18446744073709551616) (by' : ∀ j, fy j < 18446744073709551616) (h : nval m fy ≤ nval m fx) :
    borrow fx fy m = 0 ∧ ∀ f', nval m (zAt f' (difW fx fy) m) = nval m fx - nval m fy := by
  have a0 := bx 0
  have b0 := by' 0
  have a1 := bx 1
  have b1 := by' 1
  rcases m1 with rfl | rfl
  · rw [nval1, nval1] at h
    refine ⟨?_, fun f' => ?_⟩
    · show subK (fx 0) (fy 0) 0 = 0
      exact subK_zero (by omega)
    · rw [nval1, nval1, nval1]
      simp only [zAt, difW, borrow, subS]
      simp
      omega
  · rw [nval2, nval2] at h
    by_cases hb : fx 0 < fy 0
    · have e1 : borrow fx fy 1 = 1 := subK_one (x := fx 0) (y := fy 0) (b := 0) (by omega)
      refine ⟨?_, fun f' => ?_⟩
      · show subK (fx 1) (fy 1) (borrow fx fy 1) = 0
        rw [e1]; exact subK_zero (by omega)
      · rw [nval2, nval2, nval2]
        have z0 : zAt f' (difW fx fy) 2 0 = fx 0 + 18446744073709551616 - fy 0 := by simp only [zAt, difW, borrow, subS]; simp; omega
        have z1 : zAt f' (difW fx fy) 2 1 = fx 1 - fy 1 - 1 := by simp only [zAt, difW, e1, subS]; simp; omega
        rw [z0, z1]
        omega
    · have e1 : borrow fx fy 1 = 0 := subK_zero (x := fx 0) (y := fy 0) (b := 0) (by omega)
      refine ⟨?_, fun f' => ?_⟩
      · show subK (fx 1) (fy 1) (borrow fx fy 1) = 0
        rw [e1]; exact subK_zero (by omega)
      · rw [nval2, nval2, nval2]
        have z0 : zAt f' (difW fx fy) 2 0 = fx 0 - fy 0 := by simp only [zAt, difW, borrow, subS]; simp; omega
        have z1 : zAt f' (difW fx fy) 2 1 = fx 1 - fy 1 := by simp only [zAt, difW, e1, subS]; simp; omega
        rw [z0, z1]
        omega

set_option maxHeartbeats 2000000 in
set_option maxRecDepth 100000 in
/-- x and y of one length. -/
theorem sub_eq (vz : Value) (lenz m xg yg capx capy cx cy : Nat) (oz : Option (Nat × Nat)) (fz fx fy : Nat → Nat) (w : World) (hz : NV w vz lenz oz fz) (hx : WRow w xg capx fx) (hy : WRow w yg capy fy) (mx : m ≤ capx) (my : m ≤ capy) (hcx : m ≤ cx) (hcy : m ≤ cy) (m1 : m = 1 ∨ m = 2)
    (ax : ∀ c, oz = some (xg, c) → fx = fz) (ay : ∀ c, oz = some (yg, c) → fy = fz) (bx : ∀ j, fx j < 18446744073709551616) (by' : ∀ j, fy j < 18446744073709551616) (hs : nval m fy ≤ nval m fx) :
    Calls Try.prog 21 #[vz, .slice (some ⟨xg, 0, none⟩) m cx, .slice (some ⟨yg, 0, none⟩) m cy] w fun e w' => GivesN w w' (nval m fx - nval m fy) oz e := by
  have hlx := hx.lt
  have hly := hy.lt
  have HM : Hid _ := make_any vz lenz m oz fz w hz (by omega) (by omega)
  have hent := Try.subVV_enters
  have hne : ((m : Int) == 0) = false := by simp; omega
  obtain ⟨hb0, HV⟩ := borrow_eq m1 bx by' hs
  go_enter Try.func21, Try.ntmps21
  go_upto_region 10 with (go_at_call 27; refine Calls.mono HM.out ?_; rintro e w1 ⟨g, cap, f', rfl, hgc, hc1, hr1, hb1, ho1, hor⟩)
  have HX : Hid (xg = g → fx = f') := fun e => by
    rcases hor with ⟨h, h2⟩ | h
    · rw [h2]; exact ax cap (by rw [e]; exact h)
    · omega
  have HY : Hid (yg = g → fy = f') := fun e => by
    rcases hor with ⟨h, h2⟩ | h
    · rw [h2]; exact ay cap (by rw [e]; exact h)
    · omega
  have hx1 := ho1.row hx (fun q => q)
  have hy1 := ho1.row hy (fun q => q)
  have i0 : (0 : Int) ≤ (m : Int) := by omega
  have i1 : (m : Int) ≤ (cap : Int) := by omega
  have i2 : (m : Int) ≤ (cx : Int) := by omega
  have i3 : (m : Int) ≤ (cy : Int) := by omega
  go_region_held3 (fun _ => True) (trivial) (first | (go_at_call 14; refine Calls.mono (subVV_any g xg yg _ _ _ m cap capx capy f' fx fy _ hr1 hx1 hy1 (by omega) mx my (by omega) HX.out HY.out bx by') ?_; rintro e w2 ⟨rfl, hr2, ho2⟩))
  have ho3 : Only (· = g) w1 w2 := ⟨ho2.os, ho2.tape, ho2.output, ho2.size, ho2.block⟩
  have HN : Hid _ := norm_any g m cap _ _ hr2 hgc hc1
  have HVV : Hid _ := HV
  clear HV
  go_wp2_with (go_at_call 30; refine Calls.mono HN.out ?_; rintro e w4 ⟨⟨i, rfl, hi, hz0, hz1⟩, rfl⟩)
  go_ret
  exact ⟨_, rfl, nres_of_short hr2 (by omega) hgc hc1 (zAt_lt hb1 (fun j => Nat.mod_lt _ (by decide))) hi hz0 hz1 (HVV.out f') (only_row ho1 ho3 (hor.imp And.left id)) (hor.imp And.left id)⟩
end Go.Proofs.Qxb6616546a
