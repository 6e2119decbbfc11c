import Derived.Test.Qxb6616546aInt4
namespace Go.Proofs.Qxb6616546a
open Go.RowKit
set_option linter.unusedVariables false

theorem low64_any (v : Value) (len : Nat) (o : Option (Nat × Nat)) (f : Nat → Nat) (w : World) (hv : NV w v len o f) (hl : 0 < len) :
    Calls Try.prog 36 #[v] w fun e w' => e = .returned (.int .u64 (f 0 : Int)) ∧ w = w' := by
  obtain ⟨g, cap, rfl, rfl, h1, h2, hr⟩ := hv.row hl
  have c0 : w.cell? ⟨g, 0, none⟩ = some (.int .u64 (f 0 : Int)) := by
    rw [cell_of_row _ _ _ _ _ _ hr]; exact wcs_get cap f 0 (by omega)
  have hb : ((len : Int) == 0) = false := by simp; omega
  clear hv hr
  go_enter Try.func36, Try.ntmps36
  go_wp2
  go_ret
  exact ⟨rfl, rfl⟩

theorem int64_pos (b : Nat) (z : Int) (o : Option (Nat × Nat)) (w : World) (h : BigAt w b z o) (hz : 0 < z) :
    Calls Try.prog 25 #[.pointer (some ⟨b, 0, none⟩)] w fun e w' => e = .returned (.int .i64 (wrap64 z)) ∧ w = w' := by
  obtain ⟨neg, v, len, f, hb, hv, hn, hs, rfl⟩ := h
  obtain ⟨k0, k1⟩ := big_cells hb
  obtain rfl : neg = false := by
    cases neg
    · rfl
    · simp [ival] at hz; omega
  have hl : 0 < len := by
    rcases Nat.eq_zero_or_pos len with e | e
    · subst e; simp [ival, nval0] at hz
    · exact e
  have HL : Hid _ := low64_any v len o f w hv hl
  have hw : wrap64 (f 0 : Int) = wrap64 (ival false (nval len f)) := by
    have := hn.1
    unfold ival wrap64
    rcases (show len = 1 ∨ len = 2 by omega) with rfl | rfl
    · rw [nval1]; rfl
    · rw [nval2]; simp; omega
  generalize ival false (nval len f) = z at *
  obtain ⟨a, c, rfl⟩ := nv_form hv
  clear hv hn hs hz hl hb
  go_enter Try.func25, Try.ntmps25
  go_wp2_with (go_at_call 36; refine Calls.mono HL.out ?_; rintro e w1 ⟨rfl, hw1⟩; obtain rfl : w = w1 := hw1)
  go_ret
  refine ⟨?_, rfl⟩
  rw [← hw]
  rfl

theorem Try.und27 : Try.prog.underlying 27 = some (.pointer 38) := by kernel_rfl
theorem Try.info38 : (Try.prog.info? 38).map (fun i => (i.zero, i.size, i.bytes)) = some (some (.agg #[.bool false, .slice none 0 0]), 2, 32) := by kernel_rfl

theorem ival_inj {n1 n2 : Bool} {m n : Nat} (h1 : n1 = true → m ≠ 0) (h2 : n2 = true → n ≠ 0) (h : ival n1 m = ival n2 n) : n1 = n2 ∧ m = n := by
  unfold ival at h
  cases n1 <;> cases n2 <;> simp at h h1 h2 ⊢ <;> omega

set_option maxHeartbeats 2000000 in
set_option maxRecDepth 100000 in
theorem bigCmp_eq (b c : Nat) (x : Int) (ox oy : Option (Nat × Nat)) (w : World) (hx : BigAt w b x ox) (hy : BigAt w c x oy) (hbc : b ≠ c) :
    Calls Try.prog 10 #[.pointer (some ⟨b, 0, none⟩), .pointer (some ⟨c, 0, none⟩)] w fun e w' => e = .returned (.int .i64 0) ∧ Calm w w' := by
  obtain ⟨neg, v, len, f, hb, hv, hn, hs, rfl⟩ := hx
  obtain ⟨neg', v', len', f', hb', hv', hn', hs', e⟩ := hy
  obtain ⟨rfl, e2⟩ := ival_inj hs' hs e
  have HC : Hid (∀ w0, Calm w w0 → Calls Try.prog 20 #[v, v'] w0 fun e w' => e = .returned (.int .i64 0) ∧ Calm w w') := fun w0 hc =>
    Calls.mono (cmp_any v v' len len' ox oy f f' w0 (hc.nv hv) (hc.nv hv') hn hn') (fun e w' h => ⟨by rw [h.1, e2]; simp [cmpZ], hc.trans h.2⟩)
  obtain ⟨x0, x1⟩ := big_cells hb
  obtain ⟨y0, y1⟩ := big_cells hb'
  clear hv hv' hn hn' hs hs' e e2
  have hpe : (binOp .eql 27 (.pointer (some ⟨b, 0, none⟩)) (.pointer (some ⟨c, 0, none⟩))).run Try.prog w = .ok (.bool false) w := by
    obtain ⟨j, hte, _, hz, _⟩ := info_parts Try.info38
    exact run_eql_ptr_other w Try.und27 hte (by rw [hz]; decide) (fun q => hbc (by simpa using (Addr.mk.inj q).1)) hb hb'
  cases neg'
  · go_enter Try.func10, Try.ntmps10
    go_upto_region 3 with fail
    go_quiet (fail)
    go_upto_region 4 with fail
    go_region_held3 (fun (w : World) => w.cell? ⟨b, 1, none⟩ = some v ∧ w.cell? ⟨c, 1, none⟩ = some v') (go_keep) (first | (go_at_call 20; refine Calls.mono (HC.out _ ⟨rfl, rfl, rfl, rfl⟩) ?_; rintro e w1 ⟨rfl, hcm⟩; have z0 := calm_cell hcm x0; have z1 := calm_cell hcm x1; have t0 := calm_cell hcm y0; have t1 := calm_cell hcm y1))
    all_goals go_wp2_with fail
    all_goals
      go_ret
      exact ⟨rfl, hcm⟩
  · go_enter Try.func10, Try.ntmps10
    go_upto_region 3 with fail
    go_quiet (fail)
    go_upto_region 4 with fail
    go_region_held3 (fun (w : World) => w.cell? ⟨b, 1, none⟩ = some v ∧ w.cell? ⟨c, 1, none⟩ = some v') (go_keep) (first | (go_at_call 20; refine Calls.mono (HC.out _ ⟨rfl, rfl, rfl, rfl⟩) ?_; rintro e w1 ⟨rfl, hcm⟩; have z0 := calm_cell hcm x0; have z1 := calm_cell hcm x1; have t0 := calm_cell hcm y0; have t1 := calm_cell hcm y1))
    all_goals go_wp2_with fail
    all_goals
      go_ret
      exact ⟨rfl, hcm⟩
end Go.Proofs.Qxb6616546a
