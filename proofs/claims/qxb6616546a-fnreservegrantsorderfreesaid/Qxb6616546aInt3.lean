import Derived.Test.Qxb6616546aInt2
namespace Go.Proofs.Qxb6616546a
open Go.RowKit
set_option linter.unusedVariables false

theorem top_lt {len : Nat} {f : Nat → Nat} (h : nval len f < 85070591730234615865843651857942052864) : len = 2 → f 1 < 4611686018427387904 := by
  intro e
  subst e
  rw [nval2] at h
  omega

theorem nres_len {w w1 : World} {val : Nat} {v : Value} {o : Option (Nat × Nat)} (h : NRes w w1 val o v) : ∃ a n c, v = .slice a n c ∧ n ≤ 2 ∧ (n = 0 ↔ val = 0) := by
  obtain ⟨len, o', f, hv, hn, hval, _⟩ := h
  obtain ⟨a, c, e⟩ := nv_form hv
  exact ⟨a, len, c, e, hn.1, by rw [← hval]; exact (nval_zero hn).symm⟩
theorem givesN_calm {w w0 w' : World} {val : Nat} {o : Option (Nat × Nat)} {e : Ending} (hc : Calm w w0) (h : GivesN w0 w' val o e) : GivesN w w' val o e := by
  obtain ⟨v, he, len, o', f, a, b, c, d, g⟩ := h
  refine ⟨v, he, len, o', f, a, b, c, ⟨d.os.trans hc.os, d.tape.trans hc.tape, d.output.trans hc.output, by rw [← hc.heap]; exact d.size, fun k hk hn => ?_⟩, ?_⟩
  · rw [← hc.heap] at hk ⊢; exact d.block k hk hn
  · rw [← hc.heap]; exact g

set_option maxHeartbeats 2000000 in
set_option maxRecDepth 100000 in
theorem intAdd_same (b c m n : Nat) (neg : Bool) (vx vy : Value) (ox oy : Option (Nat × Nat)) (fx fy : Nat → Nat) (w : World) (hbx : w.heap[b]? = some (.cells #[.bool neg, vx] 38 (0, 0))) (hby : w.heap[c]? = some (.cells #[.bool neg, vy] 38 (0, 0)))
    (hx : NV w vx m ox fx) (hy : NV w vy n oy fy) (nx : Nrm m fx) (ny : Nrm n fy) (sx : neg = true → nval m fx ≠ 0) (hap : ∀ g k k', ox = some (g, k) → oy ≠ some (g, k')) (lx : nval m fx < 85070591730234615865843651857942052864) (ly : nval n fy < 85070591730234615865843651857942052864) :
    Calls Try.prog 8 #[.pointer (some ⟨b, 0, none⟩), .pointer (some ⟨b, 0, none⟩), .pointer (some ⟨c, 0, none⟩)] w fun e w' => GivesB w w' b (ival neg (nval m fx + nval n fy)) ox e := by
  have HA : Hid (∀ w0, Calm w w0 → Calls Try.prog 19 #[vx, vx, vy] w0 fun e w' => GivesN w w' (nval m fx + nval n fy) ox e) := fun w0 hc =>
    Calls.mono (add_any vx vx vy m m n ox ox oy fx fx fy w0 (hc.nv hx) (hc.nv hx) (hc.nv hy) nx ny (fun g c c' h1 h2 => rfl) (fun g c c' h1 h2 => absurd h2 (hap g c c' h1)) (top_lt lx) (top_lt ly)) (fun e w' h => givesN_calm hc h)
  obtain ⟨x0, x1⟩ := big_cells hbx
  obtain ⟨y0, y1⟩ := big_cells hby
  have hbb : (neg == neg) = true := by simp
  have HS : Hid (neg = true → nval m fx + nval n fy ≠ 0) := fun q => by have := sx q; omega
  generalize nval m fx + nval n fy = V at *
  clear sx
  cases neg
  · go_enter Try.func8, Try.ntmps8
    go_upto_region 2 with fail
    go_quiet (fail)
    go_upto_region 3 with fail
    go_region_with (first | (go_at_call 19; refine Calls.mono (HA.out _ ⟨rfl, rfl, rfl, rfl⟩) ?_; rintro e w1 ⟨v1, rfl, hN⟩; obtain ⟨a1, n1, c1, rfl, hn2, hnz⟩ := nres_len hN; have hb1 := nres_block hbx hx hN; have m0 := (big_cells hb1).1; have m1 := (big_cells hb1).2; have q0 := big_frozen hb1 0; have q1 := big_frozen hb1 1; clear hnz))
    all_goals go_wp2_with fail
    all_goals
      go_ret
      exact ⟨rfl, big_store (neg := false) hbx hx hN (fun q => by cases q)⟩
  · have HV := HS.out rfl
    go_enter Try.func8, Try.ntmps8
    go_upto_region 2 with fail
    go_quiet (fail)
    go_upto_region 3 with fail
    go_region_with (first | (go_at_call 19; refine Calls.mono (HA.out _ ⟨rfl, rfl, rfl, rfl⟩) ?_; rintro e w1 ⟨v1, rfl, hN⟩; obtain ⟨a1, n1, c1, rfl, hn2, hnz⟩ := nres_len hN; have hb1 := nres_block hbx hx hN; have m0 := (big_cells hb1).1; have m1 := (big_cells hb1).2; have q0 := big_frozen hb1 0; have q1 := big_frozen hb1 1; have hn1 : 0 < n1 := (by omega); clear hnz))
    all_goals go_wp2_with fail
    all_goals
      go_ret
      exact ⟨rfl, big_store (neg := true) hbx hx hN (fun _ => HV)⟩
end Go.Proofs.Qxb6616546a
