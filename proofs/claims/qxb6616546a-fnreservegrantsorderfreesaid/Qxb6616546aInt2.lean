import Derived.Test.Qxb6616546aInt
namespace Go.Proofs.Qxb6616546a
open Go.RowKit
set_option linter.unusedVariables false

def sgn (z : Int) : Int := if z < 0 then -1 else if 0 < z then 1 else 0
theorem sgn_ival {neg : Bool} {n : Nat} (h : neg = true → n ≠ 0) : sgn (ival neg n) = if n = 0 then 0 else if neg then -1 else 1 := by
  unfold sgn ival
  cases neg
  · by_cases e : n = 0
    · subst e; rfl
    · rw [if_neg (by simp), if_pos (by simp; omega), if_neg e]; rfl
  · have := h rfl
    rw [if_pos (by simp; omega), if_neg this]; rfl
theorem nval_zero {len : Nat} {f : Nat → Nat} (h : Nrm len f) : nval len f = 0 ↔ len = 0 := by
  obtain ⟨a, b, c⟩ := h
  rcases (show len = 0 ∨ len = 1 ∨ len = 2 by omega) with rfl | rfl | rfl
  · simp [nval0]
  · rw [nval1]; simpa using b rfl
  · have := c rfl
    rw [nval2]; omega

theorem big_cells {w : World} {b : Nat} {neg : Bool} {v : Value} (h : w.heap[b]? = some (.cells #[.bool neg, v] 38 (0, 0))) : w.cell? ⟨b, 0, none⟩ = some (.bool neg) ∧ w.cell? ⟨b, 1, none⟩ = some v := by
  constructor <;> (rw [cell_of_row _ _ _ _ _ _ h]; rfl)
theorem big_frozen {w : World} {b : Nat} {neg : Bool} {v : Value} (h : w.heap[b]? = some (.cells #[.bool neg, v] 38 (0, 0))) (j : Nat) : w.frozen? ⟨b, j, none⟩ = false := by simp [World.frozen?, h]

theorem sign_any (b : Nat) (z : Int) (o : Option (Nat × Nat)) (w : World) (h : BigAt w b z o) :
    Calls Try.prog 24 #[.pointer (some ⟨b, 0, none⟩)] w fun e w' => e = .returned (.int .i64 (sgn z)) ∧ w = w' := by
  obtain ⟨neg, v, len, f, hb, hv, hn, hs, rfl⟩ := h
  obtain ⟨k0, k1⟩ := big_cells hb
  obtain ⟨a, c, rfl⟩ := nv_form hv
  rw [sgn_ival hs]
  have hz := nval_zero hn
  have hl := hn.1
  by_cases h0 : len = 0
  · rw [if_pos (hz.2 h0)]
    subst h0
    clear hz hs hn hv
    go_enter Try.func24, Try.ntmps24
    go_wp2
    go_ret
    exact ⟨rfl, rfl⟩
  · rw [if_neg (fun q => h0 (hz.1 q))]
    have hne : ((len : Int) == 0) = false := by simp; omega
    clear hz hs hn hv
    cases neg
    · go_enter Try.func24, Try.ntmps24
      go_wp2
      go_ret
      exact ⟨rfl, rfl⟩
    · go_enter Try.func24, Try.ntmps24
      go_wp2
      go_ret
      exact ⟨rfl, rfl⟩

/-- The blocks of a big.Int. -/
def SB (b : Nat) (o : Option (Nat × Nat)) (k : Nat) : Prop := k = b ∨ SO o k
/-- What an operation that sets the big.Int in b gives. -/
def BRes (w w' : World) (b : Nat) (z : Int) (o : Option (Nat × Nat)) : Prop :=
  ∃ o', BigAt w' b z o' ∧ Only (SB b o) w w' ∧ (o' = o ∨ ∃ g c, o' = some (g, c) ∧ w.heap.size ≤ g)
def GivesB (w w' : World) (b : Nat) (z : Int) (o : Option (Nat × Nat)) (e : Ending) : Prop := e = .returned (.pointer (some ⟨b, 0, none⟩)) ∧ BRes w w' b z o

theorem nv_ne {w : World} {b g cap len : Nat} {n0 : Bool} {v0 v : Value} {f : Nat → Nat} (hb : w.heap[b]? = some (.cells #[.bool n0, v0] 38 (0, 0))) (hv : NV w v len (some (g, cap)) f) : g ≠ b := by
  intro e
  have hr := hv.some.2.2.2
  unfold WRow at hr
  rw [e, hb] at hr
  injection hr with hr
  injection hr with _ hr
  cases hr

theorem nres_form {w w1 : World} {val : Nat} {v : Value} {o : Option (Nat × Nat)} (h : NRes w w1 val o v) : ∃ a n c, v = .slice a n c := by
  obtain ⟨len, o', f, hv, _⟩ := h
  obtain ⟨a, c, e⟩ := nv_form hv
  exact ⟨a, len, c, e⟩
theorem nres_block {w w1 : World} {b len0 val : Nat} {n0 : Bool} {v0 v : Value} {o : Option (Nat × Nat)} {f0 : Nat → Nat} (hb : w.heap[b]? = some (.cells #[.bool n0, v0] 38 (0, 0))) (hv0 : NV w v0 len0 o f0) (hr : NRes w w1 val o v) : w1.heap[b]? = some (.cells #[.bool n0, v0] 38 (0, 0)) := by
  obtain ⟨len, o', f, hv, hn, hval, ho, hor⟩ := hr
  exact (ho.block b (Array.getElem?_eq_some_iff.1 hb).1 (fun ⟨cap, q⟩ => by subst q; exact nv_ne hb hv0 rfl)).trans hb

theorem big_store {w w1 : World} {b len0 val : Nat} {n0 neg : Bool} {v0 v : Value} {o : Option (Nat × Nat)} {f0 : Nat → Nat} (hb : w.heap[b]? = some (.cells #[.bool n0, v0] 38 (0, 0))) (hv0 : NV w v0 len0 o f0) (hr : NRes w w1 val o v) (hneg : neg = true → val ≠ 0) :
    BRes w ((w1.setCell ⟨b, 1, none⟩ v).setCell ⟨b, 0, none⟩ (.bool neg)) b (ival neg val) o := by
  obtain ⟨len, o', f, hv, hn, hval, ho, hor⟩ := hr
  have hbl : b < w.heap.size := (Array.getElem?_eq_some_iff.1 hb).1
  have hnb : ¬ SO o b := fun ⟨cap, q⟩ => by subst q; exact nv_ne hb hv0 rfl
  have hb1 : w1.heap[b]? = some (.cells #[.bool n0, v0] 38 (0, 0)) := (ho.block b hbl hnb).trans hb
  have hb2 := heap_setCell_row (heap_setCell_row hb1 1 v) 0 (.bool neg)
  refine ⟨o', ⟨neg, v, len, f, hb2, ⟨hv.1, ?_⟩, hn, fun q => by rw [hval]; exact hneg q, by rw [hval]⟩, ?_, hor⟩
  · match o', hv with
    | some (g, cap), hv =>
      obtain ⟨a1, a2, a3, a4⟩ := hv.some
      have hgb : g ≠ b := nv_ne hb1 hv
      exact ⟨a1, a2, a3, (Below.heap_setCell _ _ _ _ hgb).trans ((Below.heap_setCell _ _ _ _ hgb).trans a4)⟩
    | none, hv => exact hv.none
  · exact ((ho.mono (fun k _ q => .inr q) : Only (SB b o) w w1).setCell ⟨b, 1, none⟩ (.inl rfl) v).setCell ⟨b, 0, none⟩ (.inl rfl) (.bool neg)

set_option maxHeartbeats 1000000 in
set_option maxRecDepth 100000 in
theorem setInt64_any (b : Nat) (z x : Int) (o : Option (Nat × Nat)) (w : World) (h : BigAt w b z o) (h0 : -9223372036854775808 ≤ x) (h1 : x ≤ 9223372036854775807) :
    Calls Try.prog 22 #[.pointer (some ⟨b, 0, none⟩), .int .i64 x] w fun e w' => GivesB w w' b x o e := by
  obtain ⟨neg, v, len, f, hb, hv, hn, hs, rfl⟩ := h
  obtain ⟨k0, k1⟩ := big_cells hb
  have HU : Hid _ := setUint64_any v len x.natAbs o f w hv (by omega)
  by_cases hx : x < 0
  · have hw : IntKind.u64.wrap (wrap64 (-x)) = ((x.natAbs : Nat) : Int) := by
      rw [IntKind.wrap_u64]; unfold wrap64; omega
    have hd : decide (x < 0) = true := decide_eq_true hx
    go_enter Try.func22, Try.ntmps22
    go_wp2_with (go_at_call 35; refine Calls.mono HU.out ?_; rintro e w1 ⟨v1, rfl, hN⟩; obtain ⟨a1, n1, c1, rfl⟩ := nres_form hN; have hb1 := nres_block hb hv hN; have m0 := (big_cells hb1).1; have m1 := (big_cells hb1).2; have q0 := big_frozen hb1 0; have q1 := big_frozen hb1 1)
    go_ret
    have := big_store (neg := true) hb hv hN (fun _ => by omega)
    have e : ival true x.natAbs = x := by unfold ival; simp; omega
    rw [e] at this
    exact ⟨rfl, this⟩
  · have hw : IntKind.u64.wrap x = ((x.natAbs : Nat) : Int) := by
      rw [IntKind.wrap_u64]; omega
    have hd : decide (x < 0) = false := decide_eq_false hx
    go_enter Try.func22, Try.ntmps22
    go_wp2_with (go_at_call 35; refine Calls.mono HU.out ?_; rintro e w1 ⟨v1, rfl, hN⟩; obtain ⟨a1, n1, c1, rfl⟩ := nres_form hN; have hb1 := nres_block hb hv hN; have m0 := (big_cells hb1).1; have m1 := (big_cells hb1).2; have q0 := big_frozen hb1 0; have q1 := big_frozen hb1 1)
    go_ret
    have := big_store (neg := false) hb hv hN (fun q => by cases q)
    have e : ival false x.natAbs = x := by unfold ival; simp; omega
    rw [e] at this
    exact ⟨rfl, this⟩
end Go.Proofs.Qxb6616546a
