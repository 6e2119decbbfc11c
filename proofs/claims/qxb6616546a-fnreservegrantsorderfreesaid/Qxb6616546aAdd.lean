import Derived.Test.Qxb6616546aNat3
namespace Go.Proofs.Qxb6616546a
open Go.RowKit
set_option linter.unusedVariables false

/-- Two nats that share a row have the same words in it. -/
def AL (oz : Option (Nat × Nat)) (fz : Nat → Nat) (ox : Option (Nat × Nat)) (fx : Nat → Nat) : Prop := ∀ g c c', oz = some (g, c) → ox = some (g, c') → fx = fz

theorem nres_of_norm {w w' : World} {g cap L i V : Nat} {F : Nat → Nat} {oz : Option (Nat × Nat)} (hr : WRow w' g cap F) (hL : L = 2 ∨ L = 3) (hLc : L ≤ cap) (hc : cap ≤ 100) (hb : ∀ j, F j < 18446744073709551616)
    (hi : i ≤ L) (hz : ∀ j, i ≤ j → j < L → F j = 0) (ht : 0 < i → F (i - 1) ≠ 0)
    (hV' : F 0 + F 1 * 18446744073709551616 = V) (hF2 : L = 3 → F 2 = 0) (ho : Only (SO oz) w w') (hg : oz = some (g, cap) ∨ w.heap.size ≤ g) :
    NRes w w' V oz (.slice (some ⟨g, 0, none⟩) i cap) := by
  have hi2 : i ≤ 2 := by
    rcases hL with e | e
    · omega
    · by_cases e3 : i = 3
      · have h3 := ht (by omega)
        rw [e3] at h3
        exact absurd (hF2 e) h3
      · omega
  refine ⟨i, some (g, cap), F, NV.mk hr (by omega) hc hb, ⟨hi2, fun e => ?_, fun e => ?_⟩, ?_, ho, ?_⟩
  · have := ht (by omega); rw [e] at this; exact this
  · have := ht (by omega); rw [e] at this; exact this
  · rcases (show i = 0 ∨ i = 1 ∨ i = 2 by omega) with rfl | rfl | rfl
    · have a := hz 0 (by omega) (by omega)
      have b := hz 1 (by omega) (by omega)
      rw [nval0]; omega
    · have b := hz 1 (by omega) (by omega)
      rw [nval1]; omega
    · rw [nval2]; exact hV'
  · rcases hg with h | h
    · exact .inl h.symm
    · exact .inr ⟨g, cap, rfl, h⟩

theorem WRow.cap_eq {w : World} {g cap cap' : Nat} {f f' : Nat → Nat} (h : WRow w g cap f) (h' : WRow w g cap' f') : cap = cap' := by
  unfold WRow at h h'
  rw [h] at h'
  injection h' with h'
  injection h' with h'
  have := congrArg Array.size h'
  simpa [wcs] using this

theorem only_row {w w1 w2 : World} {oz : Option (Nat × Nat)} {g cap : Nat} (h1 : Only (fun _ => False) w w1) (h2 : Only (· = g) w1 w2) (hor : (oz = some (g, cap)) ∨ w.heap.size ≤ g) : Only (SO oz) w w2 := by
  refine (h1.mono (fun k _ q => q.elim) : Only (SO oz) w w1).then h2 (fun k hk e => ?_)
  subst e
  rcases hor with h | h
  · exact ⟨cap, h⟩
  · omega

set_option maxHeartbeats 2000000 in
set_option maxRecDepth 100000 in
/-- x and y of one length. -/
theorem add_eq (vz : Value) (lenz m xg yg capx capy cx cy : Nat) (oz : Option (Nat × Nat)) (fz fx fy : Nat → Nat) (w : World) (hz : NV w vz lenz oz fz) (hx : WRow w xg capx fx) (hy : WRow w yg capy fy) (mx : m ≤ capx) (my : m ≤ capy) (hcx : m ≤ cx) (hcy : m ≤ cy) (m1 : m = 1 ∨ m = 2)
    (ax : ∀ c, oz = some (xg, c) → fx = fz) (ay : ∀ c, oz = some (yg, c) → fy = fz) (bx : ∀ j, fx j < 18446744073709551616) (by' : ∀ j, fy j < 18446744073709551616) (hs : m = 2 → fx 1 + fy 1 + 1 < 18446744073709551616) :
    Calls Try.prog 19 #[vz, .slice (some ⟨xg, 0, none⟩) m cx, .slice (some ⟨yg, 0, none⟩) m cy] w fun e w' => GivesN w w' (nval m fx + nval m fy) oz e := by
  have hlx := hx.lt
  have hly := hy.lt
  have HM : Hid _ := make_any vz lenz (m + 1) oz fz w hz (by omega) (by omega)
  have hent := Try.addVV_enters
  have hne : ((m : Int) == 0) = false := by simp; omega
  have hcast : ((m + 1 : Nat) : Int) = (m : Int) + 1 := by omega
  rw [hcast] at HM
  go_enter Try.func19, Try.ntmps19
  go_upto_region 10 with (go_at_call 27; refine Calls.mono HM.out ?_; rintro e w1 ⟨g, cap, f', rfl, hgc, hc1, hr1, hb1, ho1, hor⟩)
  have HX : Hid (xg = g → fx = f') := fun e => by
    rcases hor with ⟨h, h2⟩ | h
    · rw [h2]; exact ax cap (by rw [e]; exact h)
    · omega
  have HY : Hid (yg = g → fy = f') := fun e => by
    rcases hor with ⟨h, h2⟩ | h
    · rw [h2]; exact ay cap (by rw [e]; exact h)
    · omega
  have hx1 := ho1.row hx (fun q => q)
  have hy1 := ho1.row hy (fun q => q)
  have i0 : (0 : Int) ≤ (m : Int) := by omega
  have i1 : (m : Int) ≤ (cap : Int) := by omega
  have i2 : (m : Int) ≤ (cx : Int) := by omega
  have i3 : (m : Int) ≤ (cy : Int) := by omega
  go_region_held3 (fun _ => True) (trivial) (first | (go_at_call 13; refine Calls.mono (addVV_any g xg yg _ _ _ m cap capx capy f' fx fy _ hr1 hx1 hy1 (by omega) mx my (by omega) HX.out HY.out bx by') ?_; rintro e w2 ⟨rfl, hr2, ho2⟩; have hce := hr2.cell m (by omega); have hfr := hr2.frozen m))
  have hr3 := hr2.set m (carry fx fy m)
  have ho3 : Only (· = g) w1 (w2.setCell ⟨g, m, none⟩ (.int .u64 (carry fx fy m : Int))) := ((⟨ho2.os, ho2.tape, ho2.output, ho2.size, ho2.block⟩ : Only (· = g) w1 w2)).setCell ⟨g, m, none⟩ rfl _
  have HN : Hid _ := norm_any g (m + 1) cap _ _ hr3 hgc hc1
  go_wp2_with (go_at_call 30; refine Calls.mono HN.out ?_; rintro e w4 ⟨⟨i, rfl, hi, hz0, hz1⟩, rfl⟩)
  go_ret
  have c1 := carry_le bx by' m
  refine ⟨_, rfl, nres_of_norm hr3 (by omega) hgc hc1 (fun j => ?_) hi hz0 hz1 ?_ ?_ (only_row ho1 ho3 (hor.imp And.left id)) (hor.imp And.left id)⟩
  · unfold updN
    split
    · omega
    · exact zAt_lt hb1 (fun j => Nat.mod_lt _ (by decide)) j
  · rcases m1 with rfl | rfl
    · rw [nval1, nval1]
      have := bx 0
      have := by' 0
      simp only [updN, zAt, sumW, carry, addS, addK]
      simp
      omega
    · rw [nval2, nval2]
      have := bx 0
      have := by' 0
      have := hs rfl
      simp only [updN, zAt, sumW, carry, addS, addK]
      simp
      omega
  · intro hL
    obtain rfl : m = 2 := by omega
    have := bx 0
    have := by' 0
    have := hs rfl
    simp only [updN, carry, addK]
    simp
    omega

theorem addVW_at (zg xg cz cx capz capx c x1 : Nat) (fz fx : Nat → Nat) (w : World) (hz : WRow w zg capz fz) (hx : WRow w xg capx fx) (nz : 2 ≤ capz) (nx : 2 ≤ capx) (pz : 1 ≤ cz) (px : 1 ≤ cx) (hc : c ≤ 1) (bx : x1 < 18446744073709551616) (he : fx 1 = x1) :
    Calls Try.prog 29 #[.slice (some ⟨zg, 1, none⟩) 1 cz, .slice (some ⟨xg, 1, none⟩) 1 cx, .int .u64 (c : Int)] w fun e w' => GivesW (addK x1 c 0) e ∧ WRow w' zg capz (updN fz 1 (addS x1 c 0)) ∧ Only (· = zg) w w' := by
  subst he
  exact addVW_any zg xg cz cx capz capx c fz fx w hz hx nz nx pz px hc bx

end Go.Proofs.Qxb6616546a
