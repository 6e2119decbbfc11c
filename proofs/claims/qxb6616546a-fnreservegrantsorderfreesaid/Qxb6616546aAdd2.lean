import Derived.Test.Qxb6616546aAdd
namespace Go.Proofs.Qxb6616546a
open Go.RowKit
set_option linter.unusedVariables false

set_option maxHeartbeats 2000000 in
set_option maxRecDepth 100000 in
/-- x of two words, y of one. -/
theorem add_21 (vz : Value) (lenz xg yg capx capy cx cy : Nat) (oz : Option (Nat × Nat)) (fz fx fy : Nat → Nat) (w : World) (hz : NV w vz lenz oz fz) (hx : WRow w xg capx fx) (hy : WRow w yg capy fy) (mx : 2 ≤ capx) (my : 1 ≤ capy) (hcx : 2 ≤ cx) (hcy : 1 ≤ cy)
    (ax : ∀ c, oz = some (xg, c) → fx = fz) (ay : ∀ c, oz = some (yg, c) → fy = fz) (bx : ∀ j, fx j < 18446744073709551616) (by' : ∀ j, fy j < 18446744073709551616) (hs : fx 1 + 1 < 18446744073709551616) :
    Calls Try.prog 19 #[vz, .slice (some ⟨xg, 0, none⟩) 2 cx, .slice (some ⟨yg, 0, none⟩) 1 cy] w fun e w' => GivesN w w' (nval 2 fx + nval 1 fy) oz e := by
  have hlx := hx.lt
  have hly := hy.lt
  have HM : Hid _ := make_any vz lenz 3 oz fz w hz (by omega) (by omega)
  have hent := Try.addVV_enters
  go_enter Try.func19, Try.ntmps19
  go_upto_region 10 with (go_at_call 27; refine Calls.mono HM.out ?_; rintro e w1 ⟨g, cap, f', rfl, hgc, hc1, hr1, hb1, ho1, hor⟩)
  have HX : Hid (xg = g → fx = f') := fun e => by
    rcases hor with ⟨h, h2⟩ | h
    · rw [h2]; exact ax cap (by rw [e]; exact h)
    · omega
  have HY : Hid (yg = g → fy = f') := fun e => by
    rcases hor with ⟨h, h2⟩ | h
    · rw [h2]; exact ay cap (by rw [e]; exact h)
    · omega
  have hx1 := ho1.row hx (fun q => q)
  have hy1 := ho1.row hy (fun q => q)
  have i1 : (1 : Int) ≤ (cap : Int) := by omega
  have i2 : (1 : Int) ≤ (cx : Int) := by omega
  have i3 : (1 : Int) ≤ (cy : Int) := by omega
  go_region_held3 (fun _ => True) (trivial) (first | (go_at_call 13; refine Calls.mono (addVV_any g xg yg _ _ _ 1 cap capx capy f' fx fy _ hr1 hx1 hy1 (by omega) (by omega) my (by omega) HX.out HY.out bx by') ?_; rintro e w2 ⟨rfl, hr2, ho2⟩))
  have ho2' : Only (· = g) w1 w2 := ⟨ho2.os, ho2.tape, ho2.output, ho2.size, ho2.block⟩
  clear ho2
  obtain ⟨fx2, hx2, ex2⟩ : ∃ fx2, WRow w2 xg capx fx2 ∧ fx2 1 = fx 1 := by
    by_cases e : xg = g
    · have hr1' : WRow w1 xg cap f' := by rw [e]; exact hr1
      have hcc := hx1.cap_eq hr1'
      clear hr1'
      have hff := HX.out e
      subst e
      subst hcc
      exact ⟨_, hr2, by rw [hff]; simp [zAt]⟩
    · exact ⟨fx, ho2'.row hx1 e, rfl⟩
  have i4 : (2 : Int) ≤ (cap : Int) := by omega
  have i5 : (2 : Int) ≤ (cx : Int) := by omega
  have hcl := carry_le bx by' 1
  have hbx := bx 1
  have HW : Hid (Calls Try.prog 29 #[.slice (some ⟨g, 1, none⟩) 1 (cap - 1), .slice (some ⟨xg, 1, none⟩) 1 (cx - 1), .int .u64 (carry fx fy 1 : Int)] w2.drew fun e w' => GivesW (addK (fx 1) (carry fx fy 1) 0) e ∧ WRow w' g cap (updN (zAt f' (sumW fx fy) 1) 1 (addS (fx 1) (carry fx fy 1) 0)) ∧ Only (· = g) w2.drew w') :=
    addVW_at g xg (cap - 1) (cx - 1) cap capx (carry fx fy 1) (fx 1) _ fx2 w2.drew hr2 hx2 (by omega) (by omega) (by omega) (by omega) hcl hbx ex2
  clear ex2 hx2 hx1 hy1
  have i6 : (1 : Int) < (cap : Int) := by omega
  have i7 : (1 : Int) < (cx : Int) := by omega
  have i8 : ¬ cap = 1 := by omega
  have i9 : ¬ cx = 1 := by omega
  go_upto_region 12 with fail
  go_region_held3 (fun _ => True) (trivial) (first | (go_at_call 29; refine Calls.mono HW.out ?_; rintro e w3 ⟨rfl, hr3, ho3⟩; have hce := hr3.cell 2 (by omega); have hfr := hr3.frozen 2))
  have hr4 := hr3.set 2 (addK (fx 1) (carry fx fy 1) 0)
  have ho3' : Only (· = g) w1 w3 := ho2'.trans ⟨ho3.os, ho3.tape, ho3.output, ho3.size, ho3.block⟩
  have ho4 := ho3'.setCell ⟨g, 2, none⟩ rfl (.int .u64 (addK (fx 1) (carry fx fy 1) 0 : Int))
  have HN : Hid _ := norm_any g 3 cap _ _ hr4 hgc hc1
  go_wp2_with (go_at_call 30; refine Calls.mono HN.out ?_; rintro e w4 ⟨⟨i, rfl, hi, hz0, hz1⟩, rfl⟩)
  go_ret
  have hk1 : addK (fx 1) (carry fx fy 1) 0 = 0 := by unfold addK; omega
  have b0 := bx 0
  have d0 := by' 0
  refine ⟨_, rfl, nres_of_norm hr4 (by omega) hgc hc1 (fun j => ?_) hi hz0 hz1 ?_ ?_ (only_row ho1 ho4 (hor.imp And.left id)) (hor.imp And.left id)⟩
  · unfold updN
    split
    · omega
    · split
      · exact Nat.mod_lt _ (by decide)
      · exact zAt_lt hb1 (fun j => Nat.mod_lt _ (by decide)) j
  · rw [nval2, nval1]
    simp only [updN, zAt, sumW, carry, addS, addK]
    simp
    omega
  · intro _
    simp only [updN]
    simpa using hk1
end Go.Proofs.Qxb6616546a
