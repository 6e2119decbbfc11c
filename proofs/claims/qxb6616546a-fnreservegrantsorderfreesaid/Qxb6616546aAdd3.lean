import Derived.Test.Qxb6616546aAdd2
namespace Go.Proofs.Qxb6616546a
open Go.RowKit
set_option linter.unusedVariables false

theorem nv_form {w : World} {v : Value} {len : Nat} {o : Option (Nat × Nat)} {f : Nat → Nat} (h : NV w v len o f) : ∃ a c, v = .slice a len c := by
  match o, h with
  | some (g, cap), h => exact ⟨_, _, h.some.1⟩
  | none, h => obtain ⟨e, rfl⟩ := h.none; exact ⟨_, _, e⟩

set_option maxHeartbeats 1000000 in
set_option maxRecDepth 100000 in
theorem add_ge (vz vx vy : Value) (lenz m n : Nat) (oz ox oy : Option (Nat × Nat)) (fz fx fy : Nat → Nat) (w : World) (hz : NV w vz lenz oz fz) (hx : NV w vx m ox fx) (hy : NV w vy n oy fy) (nx : Nrm m fx) (ny : Nrm n fy) (hmn : n ≤ m)
    (ax : AL oz fz ox fx) (ay : AL oz fz oy fy) (tx : m = 2 → fx 1 < 4611686018427387904) (ty : n = 2 → fy 1 < 4611686018427387904) :
    Calls Try.prog 19 #[vz, vx, vy] w fun e w' => GivesN w w' (nval m fx + nval n fy) oz e := by
  have hm2 := nx.1
  by_cases hm0 : m = 0
  · subst hm0
    obtain rfl : n = 0 := by omega
    obtain ⟨ax', cx, rfl⟩ := nv_form hx
    obtain ⟨ay', cy, rfl⟩ := nv_form hy
    match oz, hz with
    | some (g, cap), hz =>
      have H : Hid _ := nres_zero_some hz
      obtain ⟨rfl, hl, hc, hr⟩ := hz.some
      clear hz ax ay hx hy
      go_enter Try.func19, Try.ntmps19
      go_wp2
      go_ret
      exact ⟨_, rfl, H.out⟩
    | none, hz =>
      have H : Hid _ := nres_zero_none hz
      obtain ⟨rfl, hl⟩ := hz.none
      clear hz ax ay hx hy
      go_enter Try.func19, Try.ntmps19
      go_wp2
      go_ret
      exact ⟨_, rfl, H.out⟩
  · obtain ⟨xg, capx, rfl, rfl, lx, kx, rx⟩ := hx.row (by omega)
    by_cases hn0 : n = 0
    · subst hn0
      have HS : Hid _ := set_any vz lenz m xg capx capx oz fz fx w hz rx lx (by omega) nx hx.1
      obtain ⟨ay', cy, rfl⟩ := nv_form hy
      have hne : ((m : Int) == 0) = false := by simp; omega
      rw [nval0, Nat.add_zero]
      clear ax ay hx hy
      go_enter Try.func19, Try.ntmps19
      go_wp2_with (go_at_call 26; refine Calls.mono HS.out ?_; rintro e w1 ⟨v, rfl, hN⟩)
      go_ret
      exact ⟨_, rfl, hN⟩
    · obtain ⟨yg, capy, rfl, rfl, ly, ky, ry⟩ := hy.row (by omega)
      by_cases he : m = n
      · subst he
        exact add_eq vz lenz m xg yg capx capy capx capy oz fz fx fy w hz rx ry lx ly lx ly (by omega) (fun c h => ax xg c capx h rfl) (fun c h => ay yg c capy h rfl) hx.1 hy.1 (fun e => by have := tx e; have := ty e; omega)
      · obtain rfl : m = 2 := by omega
        obtain rfl : n = 1 := by omega
        exact add_21 vz lenz xg yg capx capy capx capy oz fz fx fy w hz rx ry lx ly lx ly (fun c h => ax xg c capx h rfl) (fun c h => ay yg c capy h rfl) hx.1 hy.1 (by have := tx rfl; omega)

set_option maxHeartbeats 1000000 in
set_option maxRecDepth 100000 in
theorem add_any (vz vx vy : Value) (lenz m n : Nat) (oz ox oy : Option (Nat × Nat)) (fz fx fy : Nat → Nat) (w : World) (hz : NV w vz lenz oz fz) (hx : NV w vx m ox fx) (hy : NV w vy n oy fy) (nx : Nrm m fx) (ny : Nrm n fy)
    (ax : AL oz fz ox fx) (ay : AL oz fz oy fy) (tx : m = 2 → fx 1 < 4611686018427387904) (ty : n = 2 → fy 1 < 4611686018427387904) :
    Calls Try.prog 19 #[vz, vx, vy] w fun e w' => GivesN w w' (nval m fx + nval n fy) oz e := by
  by_cases hmn : n ≤ m
  · exact add_ge vz vx vy lenz m n oz ox oy fz fx fy w hz hx hy nx ny hmn ax ay tx ty
  · have HS : Hid _ := add_ge vz vy vx lenz n m oz oy ox fz fy fx w hz hy hx ny nx (by omega) ay ax ty tx
    have hm2 := nx.1
    have hn2 := ny.1
    obtain ⟨ax', cx, rfl⟩ := nv_form hx
    obtain ⟨ay', cy, rfl⟩ := nv_form hy
    rw [Nat.add_comm]
    clear ax ay hx hy hz
    go_enter Try.func19, Try.ntmps19
    go_wp2_with (go_at_call 19; refine Calls.mono HS.out ?_; rintro e w1 ⟨v, rfl, hN⟩)
    go_ret
    exact ⟨_, rfl, hN⟩
end Go.Proofs.Qxb6616546a
