import Derived.Test.Qxb6616546aNat2
namespace Go.Proofs.Qxb6616546a
open Go.RowKit
set_option linter.unusedVariables false

theorem NV.some {w : World} {v : Value} {len g cap : Nat} {f : Nat → Nat} (h : NV w v len (some (g, cap)) f) : v = .slice (some ⟨g, 0, none⟩) len cap ∧ len ≤ cap ∧ cap ≤ 100 ∧ WRow w g cap f := h.2
theorem NV.none {w : World} {v : Value} {len : Nat} {f : Nat → Nat} (h : NV w v len none f) : v = .slice none 0 0 ∧ len = 0 := h.2

theorem nres_zero_some {w : World} {v : Value} {len g cap : Nat} {f : Nat → Nat} (h : NV w v len (some (g, cap)) f) : NRes w w 0 (some (g, cap)) (.slice (some ⟨g, 0, none⟩) 0 cap) :=
  ⟨0, some (g, cap), f, NV.mk h.some.2.2.2 (Nat.zero_le _) h.some.2.2.1 h.1, ⟨by omega, by omega, by omega⟩, rfl, Only.refl _ _, .inl rfl⟩
theorem nres_zero_none {w : World} {v : Value} {len : Nat} {f : Nat → Nat} (h : NV w v len none f) : NRes w w 0 none (.slice none 0 0) :=
  ⟨0, none, f, ⟨h.1, rfl, rfl⟩, ⟨by omega, by omega, by omega⟩, rfl, Only.refl _ _, .inl rfl⟩

set_option maxHeartbeats 1000000 in
set_option maxRecDepth 100000 in
theorem setWord_any (vz : Value) (lenz x : Nat) (oz : Option (Nat × Nat)) (fz : Nat → Nat) (w : World) (hz : NV w vz lenz oz fz) (hx : x < 18446744073709551616) :
    Calls Try.prog 41 #[vz, .int .u64 (x : Int)] w fun e w' => GivesN w w' x oz e := by
  by_cases h0 : x = 0
  · subst h0
    match oz, hz with
    | some (g, cap), hz =>
      have H : Hid _ := nres_zero_some hz
      obtain ⟨rfl, hl, hc, hr⟩ := hz.some
      clear hz
      go_enter Try.func41, Try.ntmps41
      go_wp2
      go_ret
      exact ⟨_, rfl, H.out⟩
    | none, hz =>
      have H : Hid _ := nres_zero_none hz
      obtain ⟨rfl, hl⟩ := hz.none
      clear hz
      go_enter Try.func41, Try.ntmps41
      go_wp2
      go_ret
      exact ⟨_, rfl, H.out⟩
  · have hb : ((x : Int) == 0) = false := by simp; omega
    have HM : Hid _ := make_any vz lenz 1 oz fz w hz (by omega) (by omega)
    go_enter Try.func41, Try.ntmps41
    go_wp2_with (go_at_call 27; refine Calls.mono HM.out ?_; rintro e w1 ⟨g, cap, f', rfl, hgc, hc1, hr1, hb1, ho1, hor⟩; have hce := hr1.cell 0 (by omega); have hfr := hr1.frozen 0)
    go_ret
    refine ⟨_, rfl, 1, some (g, cap), updN f' 0 x, NV.mk (hr1.set 0 x) hgc hc1 (fun j => ?_), ⟨by omega, fun _ => ?_, by omega⟩, ?_, ?_, ?_⟩
    · unfold updN; split
      · exact hx
      · exact hb1 j
    · simpa [updN] using h0
    · rw [nval1]; simp [updN]
    · have o1 : Only (SO oz) w w1 := ho1.mono (fun k _ q => q.elim)
      refine o1.then ((Only.refl (· = g) w1).setCell ⟨g, 0, none⟩ rfl _) (fun k hk e => ?_)
      subst e
      rcases hor with ⟨h, _⟩ | h
      · exact ⟨cap, h⟩
      · omega
    · rcases hor with ⟨h, _⟩ | h
      · exact .inl h.symm
      · exact .inr ⟨g, cap, rfl, h⟩

theorem setUint64_any (vz : Value) (lenz x : Nat) (oz : Option (Nat × Nat)) (fz : Nat → Nat) (w : World) (hz : NV w vz lenz oz fz) (hx : x < 18446744073709551616) :
    Calls Try.prog 35 #[vz, .int .u64 (x : Int)] w fun e w' => GivesN w w' x oz e := by
  have HM : Hid _ := setWord_any vz lenz x oz fz w hz hx
  have hb : ((x : Int) == (x : Int)) = true := by simp
  go_enter Try.func35, Try.ntmps35
  go_wp2_with (go_at_call 41; refine Calls.mono HM.out ?_; rintro e w1 ⟨v, rfl, hN⟩)
  go_ret
  exact ⟨_, rfl, hN⟩

/-- Nothing is turned but the count of draws. -/
structure Calm (w w' : World) : Prop where
  os : w'.os = w.os
  tape : w'.tape = w.tape
  output : w'.output = w.output
  heap : w'.heap = w.heap
theorem Calm.refl (w : World) : Calm w w := ⟨rfl, rfl, rfl, rfl⟩
theorem Calm.drewN {w w' : World} (h : Calm w w') (n : Nat) : Calm w (w'.drewN n) := ⟨h.os, h.tape, h.output, h.heap⟩
theorem Calm.trans {a b c : World} (h : Calm a b) (k : Calm b c) : Calm a c := ⟨k.os.trans h.os, k.tape.trans h.tape, k.output.trans h.output, k.heap.trans h.heap⟩
theorem Calm.only {w w' : World} (h : Calm w w') (S : Nat → Prop) : Only S w w' := ⟨h.os, h.tape, h.output, by rw [h.heap]; exact Nat.le_refl _, fun k _ _ => by rw [h.heap]⟩
theorem Calm.row {w w' : World} (h : Calm w w') {g cap : Nat} {f : Nat → Nat} (hr : WRow w g cap f) : WRow w' g cap f := by unfold WRow; rw [h.heap]; exact hr
theorem Calm.nv {w w' : World} (h : Calm w w') {v : Value} {len : Nat} {o : Option (Nat × Nat)} {f : Nat → Nat} (hr : NV w v len o f) : NV w' v len o f := by
  obtain ⟨hb, hh⟩ := hr
  refine ⟨hb, ?_⟩
  match o, hh with
  | some (g, cap), ⟨a, b, c, d⟩ => exact ⟨a, b, c, h.row d⟩
  | none, hh => exact hh

def cmpZ (a b : Nat) : Int := if a < b then -1 else if b < a then 1 else 0
def GivesCmp (a b : Nat) (e : Ending) : Prop := e = .returned (.int .i64 (cmpZ a b))

theorem nval_lt {len : Nat} {f : Nat → Nat} (hn : Nrm len f) (hb : ∀ j, f j < 18446744073709551616) {len' : Nat} {f' : Nat → Nat} (hn' : Nrm len' f') (hl : len < len') : nval len f < nval len' f' := by
  obtain ⟨a, b, c⟩ := hn
  obtain ⟨a', b', c'⟩ := hn'
  have h0 := hb 0
  have h1 := hb 1
  rcases (show len' = 1 ∨ len' = 2 by omega) with rfl | rfl
  · obtain rfl : len = 0 := by omega
    have := b' rfl
    rw [nval0, nval1]; omega
  · have := c' rfl
    rw [nval2]
    rcases (show len = 0 ∨ len = 1 by omega) with rfl | rfl
    · rw [nval0]; omega
    · rw [nval1]; omega

theorem cmp_at (m i : Nat) (fx fy : Nat → Nat) (hm : m = 1 ∨ m = 2) (hi : i < m) (he : ∀ j, i < j → j < m → fx j = fy j) (hs : i = 0 ∨ fx i ≠ fy i) (bx : ∀ j, fx j < 18446744073709551616) (by' : ∀ j, fy j < 18446744073709551616) :
    cmpZ (nval m fx) (nval m fy) = if fx i < fy i then -1 else if fy i < fx i then 1 else 0 := by
  have h0 := bx 0
  have h1 := by' 0
  unfold cmpZ
  rcases hm with rfl | rfl
  · obtain rfl : i = 0 := by omega
    rw [nval1, nval1]
  · rw [nval2, nval2]
    rcases (show i = 0 ∨ i = 1 by omega) with rfl | rfl
    · have := he 1 (by omega) (by omega)
      rw [this]
      by_cases a : fx 0 < fy 0
      · rw [if_pos (by omega), if_pos a]
      · by_cases b : fy 0 < fx 0
        · rw [if_neg (by omega), if_pos (by omega), if_neg a, if_pos b]
        · rw [if_neg (by omega), if_neg (by omega), if_neg a, if_neg b]
    · by_cases a : fx 1 < fy 1
      · rw [if_pos (by omega), if_pos a]
      · rw [if_neg (by omega), if_pos (by omega), if_neg a, if_pos (by omega)]

set_option maxHeartbeats 2000000 in
set_option maxRecDepth 100000 in
theorem cmp_any (vx vy : Value) (m n : Nat) (ox oy : Option (Nat × Nat)) (fx fy : Nat → Nat) (w : World) (hx : NV w vx m ox fx) (hy : NV w vy n oy fy) (nx : Nrm m fx) (ny : Nrm n fy) :
    Calls Try.prog 20 #[vx, vy] w fun e w' => GivesCmp (nval m fx) (nval n fy) e ∧ Calm w w' := by
  have hvx : ∃ ax cx, vx = .slice ax m cx := by
    match ox, hx with
    | some (g, cap), hx => exact ⟨_, _, hx.some.1⟩
    | none, hx => obtain ⟨e, rfl⟩ := hx.none; exact ⟨_, _, e⟩
  have hvy : ∃ ay cy, vy = .slice ay n cy := by
    match oy, hy with
    | some (g, cap), hy => exact ⟨_, _, hy.some.1⟩
    | none, hy => obtain ⟨e, rfl⟩ := hy.none; exact ⟨_, _, e⟩
  obtain ⟨ax, cx, rfl⟩ := hvx
  obtain ⟨ay, cy, rfl⟩ := hvy
  have hm := nx.1
  have hn := ny.1
  by_cases hmn : m = n
  · subst hmn
    by_cases h0 : m = 0
    · subst h0
      go_enter Try.func20, Try.ntmps20
      go_wp2
      go_ret
      exact ⟨rfl, Calm.refl _⟩
    · obtain ⟨gx, kx, _, ex, lx, _, rx⟩ := hx.row (by omega)
      obtain ⟨gy, ky, _, ey, ly, _, ry⟩ := hy.row (by omega)
      cases ex
      cases ey
      have hmi : m = 1 ∨ m = 2 := by omega
      have bx := hx.1
      have by' := hy.1
      clear hx hy
      go_enter Try.func20, Try.ntmps20
      go_wp2_with fail
      go_loopw [7] (fun iv wr => Calm w wr ∧ ∃ i : Nat, iv = .int .i64 i ∧ i < m ∧ ∀ j, i < j → j < m → fx j = fy j) (fun iv _ => (intOf iv).toNat)
      case atStart => exact ⟨Calm.refl _, m - 1, by go_num, by omega, fun j h1 h2 => by omega⟩
      case round =>
        obtain ⟨hcm, i, rfl, hi, hz⟩ := hrel
        have HZ : Hid _ := hz
        clear hz
        have cx0 := (hcm.row rx).cell i (by omega)
        have cy0 := (hcm.row ry).cell i (by omega)
        by_cases hgo : 0 < i ∧ fx i = fy i
        · obtain ⟨hi0, hxy⟩ := hgo
          have hb : ((fx i : Int) == (fy i : Int)) = true := by simp [hxy]
          go_upto_region 9 with fail
          go_quiet (fail)
          go_wp2_with fail
          go_roundw
          case rel => exact ⟨hcm.drewN _, i - 1, by go_num, by omega, fun j h1 h2 => if e : j = i then e ▸ hxy else HZ.out j (by omega) h2⟩
          case measure => simp [intOf]; omega
        · have hca := cmp_at m i fx fy hmi hi HZ.out (by omega) bx by'
          rcases (show fx i < fy i ∨ fy i < fx i ∨ fx i = fy i by omega) with hl | hl | hl
          · rw [if_pos hl] at hca
            by_cases hi0 : i = 0
            · subst hi0
              go_upto_region 9 with fail
              go_quiet (fail)
              go_upto_region 11 with fail
              go_quiet (fail)
              go_wp2_with fail
              go_ret
              exact ⟨by unfold GivesCmp; rw [hca]; rfl, hcm.trans ⟨rfl, rfl, rfl, rfl⟩⟩
            · have hb : ((fx i : Int) == (fy i : Int)) = false := by simp; omega
              have hi1 : 0 < i := by omega
              go_upto_region 9 with fail
              go_quiet (fail)
              go_upto_region 11 with fail
              go_quiet (fail)
              go_wp2_with fail
              go_ret
              exact ⟨by unfold GivesCmp; rw [hca]; rfl, hcm.trans ⟨rfl, rfl, rfl, rfl⟩⟩
          · rw [if_neg (by omega), if_pos hl] at hca
            by_cases hi0 : i = 0
            · subst hi0
              go_upto_region 9 with fail
              go_quiet (fail)
              go_upto_region 11 with fail
              go_quiet (fail)
              go_upto_region 13 with fail
              go_quiet (fail)
              go_wp2_with fail
              go_ret
              exact ⟨by unfold GivesCmp; rw [hca]; rfl, hcm.trans ⟨rfl, rfl, rfl, rfl⟩⟩
            · have hb : ((fx i : Int) == (fy i : Int)) = false := by simp; omega
              have hi1 : 0 < i := by omega
              go_upto_region 9 with fail
              go_quiet (fail)
              go_upto_region 11 with fail
              go_quiet (fail)
              go_upto_region 13 with fail
              go_quiet (fail)
              go_wp2_with fail
              go_ret
              exact ⟨by unfold GivesCmp; rw [hca]; rfl, hcm.trans ⟨rfl, rfl, rfl, rfl⟩⟩
          · rw [if_neg (by omega), if_neg (by omega)] at hca
            obtain rfl : i = 0 := by omega
            go_upto_region 9 with fail
            go_quiet (fail)
            go_upto_region 11 with fail
            go_quiet (fail)
            go_upto_region 13 with fail
            go_quiet (fail)
            go_wp2_with fail
            go_ret
            exact ⟨by unfold GivesCmp; rw [hca]; rfl, hcm.trans ⟨rfl, rfl, rfl, rfl⟩⟩
  · have hne : ((m : Int) != (n : Int)) = true := by simp; omega
    by_cases hlt : m < n
    · have hc : cmpZ (nval m fx) (nval n fy) = -1 := by unfold cmpZ; rw [if_pos (nval_lt nx hx.1 ny hlt)]
      go_enter Try.func20, Try.ntmps20
      go_wp2
      go_ret
      exact ⟨by unfold GivesCmp; rw [hc]; rfl, Calm.refl _⟩
    · have hgt := nval_lt ny hy.1 nx (by omega)
      have hc : cmpZ (nval m fx) (nval n fy) = 1 := by unfold cmpZ; rw [if_neg (by omega), if_pos hgt]
      clear hgt
      go_enter Try.func20, Try.ntmps20
      go_wp2
      go_ret
      exact ⟨by unfold GivesCmp; rw [hc]; rfl, Calm.refl _⟩
end Go.Proofs.Qxb6616546a
