import Derived.Test.Qxb6616546aNat
namespace Go.Proofs.Qxb6616546a
open Go.RowKit
set_option linter.unusedVariables false

/-- The value of at most two words; the form without leading noughts. -/
def nval (len : Nat) (f : Nat → Nat) : Nat := (if 0 < len then f 0 else 0) + (if 1 < len then f 1 * 18446744073709551616 else 0)
def Nrm (len : Nat) (f : Nat → Nat) : Prop := len ≤ 2 ∧ (len = 1 → f 0 ≠ 0) ∧ (len = 2 → f 1 ≠ 0)
theorem nval0 (f : Nat → Nat) : nval 0 f = 0 := rfl
theorem nval1 (f : Nat → Nat) : nval 1 f = f 0 := by simp [nval]
theorem nval2 (f : Nat → Nat) : nval 2 f = f 0 + f 1 * 18446744073709551616 := by simp [nval]

/-- The block of a nat. -/
def SO (o : Option (Nat × Nat)) (k : Nat) : Prop := ∃ cap, o = some (k, cap)
/-- WHAT AN OPERATION ON z GIVES: a nat of value val, in z's own row or in a new one; nothing else is turned. -/
def NRes (w w' : World) (val : Nat) (o0 : Option (Nat × Nat)) (v : Value) : Prop :=
  ∃ len o f, NV w' v len o f ∧ Nrm len f ∧ nval len f = val ∧ Only (SO o0) w w' ∧ (o = o0 ∨ ∃ g cap, o = some (g, cap) ∧ w.heap.size ≤ g)
def GivesN (w w' : World) (val : Nat) (o0 : Option (Nat × Nat)) (e : Ending) : Prop := ∃ v, e = .returned v ∧ NRes w w' val o0 v

theorem Only.then {S T : Nat → Prop} {a b c : World} (h : Only S a b) (k : Only T b c) (hs : ∀ j, j < a.heap.size → T j → S j) : Only S a c :=
  ⟨k.os.trans h.os, k.tape.trans h.tape, k.output.trans h.output, Nat.le_trans h.size k.size, fun j hj hn => (k.block j (Nat.lt_of_lt_of_le hj h.size) (fun q => hn (hs j hj q))).trans (h.block j hj hn)⟩
/-- 'copy' of m words to the head of a row, as an equation. -/
theorem copyW (w : World) (g cap dCap xg capx sCap m : Nat) (fz fx : Nat → Nat) (hz : WRow w g cap fz) (hx : WRow w xg capx fx) (mz : m ≤ cap) (mx : m ≤ capx) (ty : TypeId) :
    (Builtin.copy_ #[36, 36] ty #[.slice (some ⟨g, 0, none⟩) m dCap, .slice (some ⟨xg, 0, none⟩) m sCap]).run Try.prog w = .ok (goInt m) (w.setRow g (wcs cap (zAt fz fx m))) := by
  have hl : ((List.range m).map fun j => Value.int .u64 (fx j : Int)).length = m := by simp
  have h := run_copy_row (P := Try.prog) w 36 36 ty 72 g 0 m dCap ⟨xg, 0, none⟩ m sCap (wcs cap fz) 72 ((List.range m).map fun j => Value.int .u64 (fx j : Int)) Try.underlying36 Try.info72s hz (by simp) (fun j v hj => by
    have hjm : j < m := by have := (List.getElem?_eq_some_iff.1 hj).1; simpa using this
    rw [Addr.add_lit, Nat.zero_add, hx.cell j (by omega), ← hj]
    simp [hjm]) (by simp [wcs]; omega) (fun v hv => by
    obtain ⟨j, _, rfl⟩ := List.mem_map.1 hv
    rfl)
  rw [List.append_assoc, wcs_splice cap m fz fx mz, hl] at h
  exact h
theorem copied {w : World} {g cap m : Nat} {fz fx : Nat → Nat} (hz : WRow w g cap fz) : WRow (w.setRow g (wcs cap (zAt fz fx m))) g cap (zAt fz fx m) ∧ Only (· = g) w (w.setRow g (wcs cap (zAt fz fx m))) :=
  ⟨setRow_heap w g _ _ 72 _ hz, ⟨rfl, rfl, rfl, by simp [World.setRow], fun k _ hk => setRow_block _ hk⟩⟩
theorem NV.row {w : World} {v : Value} {len : Nat} {o : Option (Nat × Nat)} {f : Nat → Nat} (h : NV w v len o f) (hl : 0 < len) : ∃ g cap, o = some (g, cap) ∧ v = .slice (some ⟨g, 0, none⟩) len cap ∧ len ≤ cap ∧ cap ≤ 100 ∧ WRow w g cap f := by
  obtain ⟨hb, h⟩ := h
  match o, h with
  | some (g, cap), ⟨hv, hl, hc, hr⟩ => exact ⟨g, cap, rfl, hv, hl, hc, hr⟩
  | none, ⟨hv, h0⟩ => omega
theorem NV.mk {w : World} {g len cap : Nat} {f : Nat → Nat} (hr : WRow w g cap f) (hl : len ≤ cap) (hc : cap ≤ 100) (hb : ∀ j, f j < 18446744073709551616) : NV w (.slice (some ⟨g, 0, none⟩) len cap) len (some (g, cap)) f := ⟨hb, rfl, hl, hc, hr⟩

theorem zAt_lt {f g : Nat → Nat} {m : Nat} (hf : ∀ j, f j < 18446744073709551616) (hg : ∀ j, g j < 18446744073709551616) : ∀ j, zAt f g m j < 18446744073709551616 := by
  intro j
  unfold zAt
  split
  · exact hg j
  · exact hf j
theorem nval_zAt {f g : Nat → Nat} {m : Nat} : nval m (zAt f g m) = nval m g := by
  unfold nval zAt
  by_cases h0 : 0 < m <;> by_cases h1 : 1 < m <;> simp [h0, h1]
theorem nrm_zAt {f g : Nat → Nat} {m : Nat} (h : Nrm m g) : Nrm m (zAt f g m) := by
  obtain ⟨a, b, c⟩ := h
  refine ⟨a, fun e => ?_, fun e => ?_⟩
  · subst e; simpa [zAt] using b rfl
  · subst e; simpa [zAt] using c rfl

set_option maxHeartbeats 1000000 in
set_option maxRecDepth 100000 in
theorem set_any (vz : Value) (lenz m xg capx cx : Nat) (oz : Option (Nat × Nat)) (fz fx : Nat → Nat) (w : World) (hz : NV w vz lenz oz fz) (hx : WRow w xg capx fx) (mx : m ≤ capx) (m1 : 1 ≤ m) (hn : Nrm m fx) (bx : ∀ j, fx j < 18446744073709551616) :
    Calls Try.prog 26 #[vz, .slice (some ⟨xg, 0, none⟩) m cx] w fun e w' => GivesN w w' (nval m fx) oz e := by
  have hm2 := hn.1
  have HM : Hid _ := make_any vz lenz m oz fz w hz m1 (by omega)
  go_enter Try.func26, Try.ntmps26
  go_wp2_with (go_at_call 27; refine Calls.mono HM.out ?_; rintro e w1 ⟨g, cap, f', rfl, hgc, hc1, hr1, hb1, ho1, hor⟩; have hx1 := ho1.row hx (fun q => q); have hcp := copyW w1 g cap cap xg capx cx m f' fx hr1 hx1 hgc mx 3)
  go_ret
  obtain ⟨hr2, ho2⟩ := copied (m := m) (fx := fx) hr1
  refine ⟨_, rfl, m, some (g, cap), _, NV.mk hr2 hgc hc1 (zAt_lt hb1 bx), nrm_zAt hn, nval_zAt, ?_, ?_⟩
  · have o1 : Only (SO oz) w w1 := ho1.mono (fun k _ q => q.elim)
    refine o1.then ho2 (fun k hk e => ?_)
    subst e
    rcases hor with ⟨h, _⟩ | h
    · exact ⟨cap, h⟩
    · omega
  · rcases hor with ⟨h, _⟩ | h
    · exact .inl h.symm
    · exact .inr ⟨g, cap, rfl, h⟩

/-- What norm gives. -/
def GivesNorm (g len cap : Nat) (f : Nat → Nat) (e : Ending) : Prop := ∃ i, e = .returned (.slice (some ⟨g, 0, none⟩) i cap) ∧ i ≤ len ∧ (∀ j, i ≤ j → j < len → f j = 0) ∧ (0 < i → f (i - 1) ≠ 0)

set_option maxHeartbeats 1000000 in
set_option maxRecDepth 100000 in
theorem norm_any (g len cap : Nat) (f : Nat → Nat) (w : World) (hr : WRow w g cap f) (hl : len ≤ cap) (hc : cap ≤ 100) :
    Calls Try.prog 30 #[.slice (some ⟨g, 0, none⟩) len cap] w fun e w' => GivesNorm g len cap f e ∧ w = w' := by
  go_enter Try.func30, Try.ntmps30
  go_wp2_with fail
  go_loop [3] (fun iv => ∃ i : Nat, i ≤ len ∧ iv = .int .i64 i ∧ ∀ j, i ≤ j → j < len → f j = 0) (fun iv => (intOf iv).toNat)
  case atStart => exact ⟨len, Nat.le_refl _, rfl, fun j h1 h2 => by omega⟩
  case round =>
    obtain ⟨i, hi, rfl, hz⟩ := hrel
    cases i with
    | zero =>
      go_wp2_with fail
      go_ret
      exact ⟨⟨0, rfl, by omega, hz, fun h => by omega⟩, rfl⟩
    | succ k =>
      have hck := hr.cell k (by omega)
      have e1 : ((k + 1 : Nat) : Int) - 1 = (k : Int) := by omega
      have HZ : Hid _ := hz
      clear hz
      by_cases hf : f k = 0
      · have hb : ((f k : Int) == 0) = true := by simp; omega
        go_wp2_with fail
        go_round
        case rel => exact ⟨k, by omega, by go_num, fun j h1 h2 => if e : j = k then e ▸ hf else HZ.out j (by omega) h2⟩
        case measure => simp [intOf]
      · have hb : ((f k : Int) == 0) = false := by simp; omega
        go_wp2_with fail
        go_ret
        exact ⟨⟨k + 1, rfl, hi, HZ.out, fun _ => hf⟩, rfl⟩

end Go.Proofs.Qxb6616546a
