import Derived.Test.Qxb6616546aSub
namespace Go.Proofs.Qxb6616546a
open Go.RowKit
set_option linter.unusedVariables false

theorem subVW_at (zg xg cz cx capz capx c x1 : Nat) (fz fx : Nat → Nat) (w : World) (hz : WRow w zg capz fz) (hx : WRow w xg capx fx) (nz : 2 ≤ capz) (nx : 2 ≤ capx) (pz : 1 ≤ cz) (px : 1 ≤ cx) (hc : c ≤ 1) (he : fx 1 = x1) (h0 : c ≤ x1) :
    Calls Try.prog 33 #[.slice (some ⟨zg, 1, none⟩) 1 cz, .slice (some ⟨xg, 1, none⟩) 1 cx, .int .u64 (c : Int)] w fun e w' => GivesW 0 e ∧ WRow w' zg capz (updN fz 1 (subS x1 c 0)) ∧ Only (· = zg) w w' := by
  subst he
  have h := subVW_any zg xg cz cx capz capx c fz fx w hz hx nz nx pz px hc
  rw [subK_zero (by omega)] at h
  exact h

set_option maxHeartbeats 2000000 in
set_option maxRecDepth 100000 in
/-- x of two words, y of one. -/
theorem sub_21 (vz : Value) (lenz xg yg capx capy cx cy : Nat) (oz : Option (Nat × Nat)) (fz fx fy : Nat → Nat) (w : World) (hz : NV w vz lenz oz fz) (hx : WRow w xg capx fx) (hy : WRow w yg capy fy) (mx : 2 ≤ capx) (my : 1 ≤ capy) (hcx : 2 ≤ cx) (hcy : 1 ≤ cy)
    (ax : ∀ c, oz = some (xg, c) → fx = fz) (ay : ∀ c, oz = some (yg, c) → fy = fz) (bx : ∀ j, fx j < 18446744073709551616) (by' : ∀ j, fy j < 18446744073709551616) (hs : 1 ≤ fx 1) :
    Calls Try.prog 21 #[vz, .slice (some ⟨xg, 0, none⟩) 2 cx, .slice (some ⟨yg, 0, none⟩) 1 cy] w fun e w' => GivesN w w' (nval 2 fx - nval 1 fy) oz e := by
  have hlx := hx.lt
  have hly := hy.lt
  have HM : Hid _ := make_any vz lenz 2 oz fz w hz (by omega) (by omega)
  have hent := Try.subVV_enters
  go_enter Try.func21, Try.ntmps21
  go_upto_region 10 with (go_at_call 27; refine Calls.mono HM.out ?_; rintro e w1 ⟨g, cap, f', rfl, hgc, hc1, hr1, hb1, ho1, hor⟩)
  have HX : Hid (xg = g → fx = f') := fun e => by
    rcases hor with ⟨h, h2⟩ | h
    · rw [h2]; exact ax cap (by rw [e]; exact h)
    · omega
  have HY : Hid (yg = g → fy = f') := fun e => by
    rcases hor with ⟨h, h2⟩ | h
    · rw [h2]; exact ay cap (by rw [e]; exact h)
    · omega
  have hx1 := ho1.row hx (fun q => q)
  have hy1 := ho1.row hy (fun q => q)
  have i1 : (1 : Int) ≤ (cap : Int) := by omega
  have i2 : (1 : Int) ≤ (cx : Int) := by omega
  have i3 : (1 : Int) ≤ (cy : Int) := by omega
  go_region_held3 (fun _ => True) (trivial) (first | (go_at_call 14; refine Calls.mono (subVV_any g xg yg _ _ _ 1 cap capx capy f' fx fy _ hr1 hx1 hy1 (by omega) (by omega) my (by omega) HX.out HY.out bx by') ?_; rintro e w2 ⟨rfl, hr2, ho2⟩))
  have ho2' : Only (· = g) w1 w2 := ⟨ho2.os, ho2.tape, ho2.output, ho2.size, ho2.block⟩
  clear ho2
  obtain ⟨fx2, hx2, ex2⟩ : ∃ fx2, WRow w2 xg capx fx2 ∧ fx2 1 = fx 1 := by
    by_cases e : xg = g
    · have hr1' : WRow w1 xg cap f' := by rw [e]; exact hr1
      have hcc := hx1.cap_eq hr1'
      clear hr1'
      have hff := HX.out e
      subst e
      subst hcc
      exact ⟨_, hr2, by rw [hff]; simp [zAt]⟩
    · exact ⟨fx, ho2'.row hx1 e, rfl⟩
  have i4 : (2 : Int) ≤ (cap : Int) := by omega
  have i5 : (2 : Int) ≤ (cx : Int) := by omega
  have hcl := borrow_le bx by' 1
  have HW : Hid (Calls Try.prog 33 #[.slice (some ⟨g, 1, none⟩) 1 (cap - 1), .slice (some ⟨xg, 1, none⟩) 1 (cx - 1), .int .u64 (borrow fx fy 1 : Int)] w2.drew fun e w' => GivesW 0 e ∧ WRow w' g cap (updN (zAt f' (difW fx fy) 1) 1 (subS (fx 1) (borrow fx fy 1) 0)) ∧ Only (· = g) w2.drew w') :=
    subVW_at g xg (cap - 1) (cx - 1) cap capx (borrow fx fy 1) (fx 1) _ fx2 w2.drew hr2 hx2 (by omega) (by omega) (by omega) (by omega) hcl ex2 (by omega)
  clear ex2 hx2 hx1 hy1
  have i6 : (1 : Int) < (cap : Int) := by omega
  have i7 : (1 : Int) < (cx : Int) := by omega
  have i8 : ¬ cap = 1 := by omega
  have i9 : ¬ cx = 1 := by omega
  go_upto_region 12 with fail
  go_region_held3 (fun _ => True) (trivial) (first | (go_at_call 33; refine Calls.mono HW.out ?_; rintro e w3 ⟨rfl, hr3, ho3⟩))
  have ho3' : Only (· = g) w1 w3 := ho2'.trans ⟨ho3.os, ho3.tape, ho3.output, ho3.size, ho3.block⟩
  have HN : Hid _ := norm_any g 2 cap _ _ hr3 hgc hc1
  go_wp2_with (go_at_call 30; refine Calls.mono HN.out ?_; rintro e w4 ⟨⟨i, rfl, hi, hz0, hz1⟩, rfl⟩)
  go_ret
  have b0 := bx 0
  have d0 := by' 0
  have b1 := bx 1
  refine ⟨_, rfl, nres_of_short hr3 (by omega) hgc hc1 (fun j => ?_) hi hz0 hz1 ?_ (only_row ho1 ho3' (hor.imp And.left id)) (hor.imp And.left id)⟩
  · unfold updN
    split
    · exact Nat.mod_lt _ (by decide)
    · exact zAt_lt hb1 (fun j => Nat.mod_lt _ (by decide)) j
  · rw [nval2, nval2, nval1]
    have z0 : updN (zAt f' (difW fx fy) 1) 1 (subS (fx 1) (borrow fx fy 1) 0) 0 = subS (fx 0) (fy 0) 0 := by simp [updN, zAt, difW, borrow]
    have z1 : updN (zAt f' (difW fx fy) 1) 1 (subS (fx 1) (borrow fx fy 1) 0) 1 = subS (fx 1) (borrow fx fy 1) 0 := by simp [updN]
    rw [z0, z1]
    have eb : borrow fx fy 1 = subK (fx 0) (fy 0) 0 := rfl
    rw [eb]
    by_cases hb : fx 0 < fy 0
    · rw [subK_one (by omega)]
      unfold subS
      omega
    · rw [subK_zero (by omega)]
      unfold subS
      omega

set_option maxHeartbeats 1000000 in
set_option maxRecDepth 100000 in
theorem sub_any (vz vx vy : Value) (lenz m n : Nat) (oz ox oy : Option (Nat × Nat)) (fz fx fy : Nat → Nat) (w : World) (hz : NV w vz lenz oz fz) (hx : NV w vx m ox fx) (hy : NV w vy n oy fy) (nx : Nrm m fx) (ny : Nrm n fy) (hle : nval n fy ≤ nval m fx)
    (ax : AL oz fz ox fx) (ay : AL oz fz oy fy) :
    Calls Try.prog 21 #[vz, vx, vy] w fun e w' => GivesN w w' (nval m fx - nval n fy) oz e := by
  have hm2 := nx.1
  have hmn : n ≤ m := by
    by_cases h : m < n
    · have := nval_lt nx hx.1 ny h
      omega
    · omega
  by_cases hm0 : m = 0
  · subst hm0
    obtain rfl : n = 0 := by omega
    obtain ⟨ax', cx, rfl⟩ := nv_form hx
    obtain ⟨ay', cy, rfl⟩ := nv_form hy
    match oz, hz with
    | some (g, cap), hz =>
      have H : Hid _ := nres_zero_some hz
      obtain ⟨rfl, hl, hc, hr⟩ := hz.some
      clear hz ax ay hx hy hle
      go_enter Try.func21, Try.ntmps21
      go_wp2
      go_ret
      exact ⟨_, rfl, H.out⟩
    | none, hz =>
      have H : Hid _ := nres_zero_none hz
      obtain ⟨rfl, hl⟩ := hz.none
      clear hz ax ay hx hy hle
      go_enter Try.func21, Try.ntmps21
      go_wp2
      go_ret
      exact ⟨_, rfl, H.out⟩
  · obtain ⟨xg, capx, rfl, rfl, lx, kx, rx⟩ := hx.row (by omega)
    by_cases hn0 : n = 0
    · subst hn0
      have HS : Hid _ := set_any vz lenz m xg capx capx oz fz fx w hz rx lx (by omega) nx hx.1
      obtain ⟨ay', cy, rfl⟩ := nv_form hy
      have hne : ((m : Int) == 0) = false := by simp; omega
      rw [nval0, Nat.sub_zero]
      clear ax ay hx hy hle
      go_enter Try.func21, Try.ntmps21
      go_wp2_with (go_at_call 26; refine Calls.mono HS.out ?_; rintro e w1 ⟨v, rfl, hN⟩)
      go_ret
      exact ⟨_, rfl, hN⟩
    · obtain ⟨yg, capy, rfl, rfl, ly, ky, ry⟩ := hy.row (by omega)
      by_cases he : m = n
      · subst he
        exact sub_eq vz lenz m xg yg capx capy capx capy oz fz fx fy w hz rx ry lx ly lx ly (by omega) (fun c h => ax xg c capx h rfl) (fun c h => ay yg c capy h rfl) hx.1 hy.1 hle
      · obtain rfl : m = 2 := by omega
        obtain rfl : n = 1 := by omega
        exact sub_21 vz lenz xg yg capx capy capx capy oz fz fx fy w hz rx ry lx ly lx ly (fun c h => ax xg c capx h rfl) (fun c h => ay yg c capy h rfl) hx.1 hy.1 (by have := nx.2.2 rfl; omega)
end Go.Proofs.Qxb6616546a
