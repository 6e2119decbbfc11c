import Derived.Test.Qxb6616546aInt4
namespace Go.Proofs.Qxb6616546a
open Go.RowKit
set_option linter.unusedVariables false

set_option maxHeartbeats 2000000 in
set_option maxRecDepth 100000 in
theorem intAdd_lt (b c m n : Nat) (neg : Bool) (vx vy : Value) (ox oy : Option (Nat × Nat)) (fx fy : Nat → Nat) (w : World) (hbx : w.heap[b]? = some (.cells #[.bool neg, vx] 38 (0, 0))) (hby : w.heap[c]? = some (.cells #[.bool (!neg), vy] 38 (0, 0)))
    (hx : NV w vx m ox fx) (hy : NV w vy n oy fy) (nx : Nrm m fx) (ny : Nrm n fy) (sx : neg = true → nval m fx ≠ 0) (hap : ∀ g k k', ox = some (g, k) → oy ≠ some (g, k')) (hle : nval m fx < nval n fy) :
    Calls Try.prog 8 #[.pointer (some ⟨b, 0, none⟩), .pointer (some ⟨b, 0, none⟩), .pointer (some ⟨c, 0, none⟩)] w fun e w' => GivesB w w' b (ival (!neg) (nval n fy - nval m fx)) ox e := by
  have HA : Hid (∀ w0, Calm w w0 → Calls Try.prog 21 #[vx, vy, vx] w0 fun e w' => GivesN w w' (nval n fy - nval m fx) ox e) := fun w0 hc =>
    Calls.mono (sub_any vx vy vx m n m ox oy ox fx fy fx w0 (hc.nv hx) (hc.nv hy) (hc.nv hx) ny nx (Nat.le_of_lt hle) (fun g c c' h1 h2 => absurd h2 (hap g c c' h1)) (fun g c c' h1 h2 => rfl)) (fun e w' h => givesN_calm hc h)
  have HC : Hid (∀ w0, Calm w w0 → Calls Try.prog 20 #[vx, vy] w0 fun e w' => e = .returned (.int .i64 (cmpZ (nval m fx) (nval n fy))) ∧ Calm w w') := fun w0 hc =>
    Calls.mono (cmp_any vx vy m n ox oy fx fy w0 (hc.nv hx) (hc.nv hy) nx ny) (fun e w' h => ⟨h.1, hc.trans h.2⟩)
  obtain ⟨x0, x1⟩ := big_cells hbx
  obtain ⟨y0, y1⟩ := big_cells hby
  have hcz : ¬ 0 ≤ cmpZ (nval m fx) (nval n fy) := by unfold cmpZ; rw [if_pos hle]; omega
  have hdz : decide (0 ≤ cmpZ (nval m fx) (nval n fy)) = false := decide_eq_false hcz
  have HV : Hid (nval n fy - nval m fx ≠ 0) := (by omega : nval n fy - nval m fx ≠ 0)
  generalize nval n fy - nval m fx = V at *
  generalize cmpZ (nval m fx) (nval n fy) = cz at *
  clear sx
  cases neg
  · go_enter Try.func8, Try.ntmps8
    go_upto_region 2 with fail
    go_quiet (fail)
    go_upto_region 4 with fail
    go_region_held3 (fun (w : World) => w.cell? ⟨b, 1, none⟩ = some vx ∧ w.cell? ⟨c, 1, none⟩ = some vy) (go_keep) (first | (go_at_call 20; refine Calls.mono (HC.out _ ⟨rfl, rfl, rfl, rfl⟩) ?_; rintro e w1 ⟨rfl, hcm⟩; have z0 := calm_cell hcm x0; have z1 := calm_cell hcm x1; have t0 := calm_cell hcm y0; have t1 := calm_cell hcm y1))
    go_upto_region 7 with fail
    go_region_with (first | (go_at_call 21; refine Calls.mono (HA.out _ ⟨hcm.os, hcm.tape, hcm.output, hcm.heap⟩) ?_; rintro e w2 ⟨v1, rfl, hN⟩; obtain ⟨a1, n1, c1, rfl, hn2, hnz⟩ := nres_len hN; have hb1 := nres_block hbx hx hN; have m0 := (big_cells hb1).1; have m1 := (big_cells hb1).2; have q0 := big_frozen hb1 0; have q1 := big_frozen hb1 1; have hn1 : 0 < n1 := (by have := HV.out; omega); clear hnz))
    all_goals go_wp2_with fail
    all_goals
      go_ret
      exact ⟨rfl, big_store (neg := true) hbx hx hN (fun _ => HV.out)⟩
  · go_enter Try.func8, Try.ntmps8
    go_upto_region 2 with fail
    go_quiet (fail)
    go_upto_region 4 with fail
    go_region_held3 (fun (w : World) => w.cell? ⟨b, 1, none⟩ = some vx ∧ w.cell? ⟨c, 1, none⟩ = some vy) (go_keep) (first | (go_at_call 20; refine Calls.mono (HC.out _ ⟨rfl, rfl, rfl, rfl⟩) ?_; rintro e w1 ⟨rfl, hcm⟩; have z0 := calm_cell hcm x0; have z1 := calm_cell hcm x1; have t0 := calm_cell hcm y0; have t1 := calm_cell hcm y1))
    go_upto_region 7 with fail
    go_region_with (first | (go_at_call 21; refine Calls.mono (HA.out _ ⟨hcm.os, hcm.tape, hcm.output, hcm.heap⟩) ?_; rintro e w2 ⟨v1, rfl, hN⟩; obtain ⟨a1, n1, c1, rfl, hn2, hnz⟩ := nres_len hN; have hb1 := nres_block hbx hx hN; have m0 := (big_cells hb1).1; have m1 := (big_cells hb1).2; have q0 := big_frozen hb1 0; have q1 := big_frozen hb1 1; have hn1 : 0 < n1 := (by have := HV.out; omega); clear hnz))
    all_goals go_wp2_with fail
    all_goals
      go_ret
      exact ⟨rfl, big_store (neg := false) hbx hx hN (fun _ => HV.out)⟩
end Go.Proofs.Qxb6616546a
