import Derived.Test.Qxb6616546aFmtModel
import Derived.Lib.ItoaLen
import Derived.Lib.ItoaMem
namespace Go.Proofs.Qxb6616546aFmt
open Go.RowKit

theorem dig_small (u : Nat) (h : u < 10) : Lib.decDigits u = [UInt8.ofNat (48 + u % 10)] := by
  rw [Lib.decDigits, dif_pos h, Nat.mod_eq_of_lt h]
theorem dig_big (u : Nat) (h : 10 ≤ u) : Lib.decDigits u = Lib.decDigits (u / 10) ++ [UInt8.ofNat (48 + u % 10)] := by
  rw [Lib.decDigits, dif_neg (by omega)]
theorem dig_pos (u : Nat) : 1 ≤ (Lib.decDigits u).length := by
  by_cases h : u < 10
  · rw [dig_small u h]; simp
  · rw [dig_big u (by omega)]; simp
theorem digit_toNat (u : Nat) : (UInt8.ofNat (48 + u % 10)).toNat = 48 + u % 10 := by
  rw [UInt8.toNat_ofNat']
  omega
theorem dig_le (u : Nat) (h : u ≤ 9223372036854775808) : (Lib.decDigits u).length ≤ 21 := by
  by_cases h1 : u ≤ 9223372036854775807
  · have := Lib.itoa_length_le (u : Int) (by omega) (by omega)
    rwa [Lib.itoa_nonneg] at this
  · have := Lib.itoa_length_le (-(u : Int)) (by omega) (by omega)
    rw [Lib.itoa_neg u (by omega)] at this
    simp at this
    omega

/-- Block G is the buffer of 24 octets; its end reads as D. -/
def Buf (w : World) (G : Nat) (D : List UInt8) : Prop := ∃ l : List Value, l.length = 24 ∧ w.heap[G]? = some (.cells l.toArray 53 (0, 0)) ∧ D.length ≤ 24 ∧ l.drop (24 - D.length) = bytesV D

theorem buf0 (w : World) : Buf (w.alloc (.cells #[.int .u8 0, .int .u8 0, .int .u8 0, .int .u8 0, .int .u8 0, .int .u8 0, .int .u8 0, .int .u8 0, .int .u8 0, .int .u8 0, .int .u8 0, .int .u8 0, .int .u8 0, .int .u8 0, .int .u8 0, .int .u8 0, .int .u8 0, .int .u8 0, .int .u8 0, .int .u8 0, .int .u8 0, .int .u8 0, .int .u8 0, .int .u8 0] 53)) w.heap.size [] :=
  ⟨[.int .u8 0, .int .u8 0, .int .u8 0, .int .u8 0, .int .u8 0, .int .u8 0, .int .u8 0, .int .u8 0, .int .u8 0, .int .u8 0, .int .u8 0, .int .u8 0, .int .u8 0, .int .u8 0, .int .u8 0, .int .u8 0, .int .u8 0, .int .u8 0, .int .u8 0, .int .u8 0, .int .u8 0, .int .u8 0, .int .u8 0, .int .u8 0], rfl, heap_alloc_new w _, by simp, rfl⟩

theorem Buf.cell {w : World} {G : Nat} {D : List UInt8} (h : Buf w G D) (i : Nat) (hi : i < 24) : ∃ v, w.cell? ⟨G, i, none⟩ = some v ∧ w.frozen? ⟨G, i, none⟩ = false := by
  obtain ⟨l, hl, hh, _⟩ := h
  refine ⟨l[i]'(by omega), ?_, by simp [World.frozen?, hh]⟩
  rw [cell_of_row _ _ _ _ _ _ hh]
  simp

theorem heap_setCell_row {w : World} {g : Nat} {cur : Array Value} {e : TypeId} {fr : Nat × Nat} (h : w.heap[g]? = some (.cells cur e fr)) (j : Nat) (v : Value) :
    (w.setCell ⟨g, j, none⟩ v).heap[g]? = some (.cells (cur.setIfInBounds j v) e fr) := by
  simp [World.setCell, Array.getElem?_modify, h]

theorem Buf.push {w : World} {G : Nat} {D : List UInt8} (h : Buf w G D) {c : UInt8} (i : Nat) (hi : i + 1 + D.length = 24) : Buf (w.setCell ⟨G, i, none⟩ (.int .u8 (c.toNat : Int))) G (c :: D) := by
  obtain ⟨l, hl, hh, _, hd⟩ := h
  refine ⟨l.set i (.int .u8 (c.toNat : Int)), by simp [hl], ?_, by simp; omega, ?_⟩
  · rw [heap_setCell_row hh]
    simp
  · have e1 : 24 - (c :: D).length = i := by simp; omega
    have e2 : 24 - D.length = i + 1 := by omega
    rw [e1]
    rw [e2] at hd
    rw [List.drop_eq_getElem_cons (by simp; omega)]
    simp only [List.getElem_set_self]
    rw [List.drop_set_of_lt (by omega), hd]
    rfl

theorem Buf.conv {w : World} {G : Nat} {D : List UInt8} (h : Buf w G D) (i : Nat) (hi : i + D.length = 24) :
    (convert 43 9 (.slice (some ⟨G, i, none⟩) (24 - i) (24 - i))).run Tryf.prog w = .ok (.string (B8 D)) w := by
  obtain ⟨l, hl, hh, _, hd⟩ := h
  have e : 24 - i = D.length := by omega
  rw [e]
  refine run_convert_bytes_back (P := Tryf.prog) w 43 9 5 ⟨G, i, none⟩ D.length D Tryf.underlying43 Tryf.underlying5 Tryf.underlying9 (fun j hj => ?_)
  rw [Addr.add_lit, cell_of_row _ _ _ _ _ _ hh]
  have e2 : 24 - D.length = i := by omega
  rw [e2] at hd
  have := congrArg (fun q : List Value => q[j]?) hd
  simp only [List.getElem?_drop] at this
  simp [this, bytesV, hj]

theorem slice24 (G i : Nat) (hi : i < 24) (wx : World) : (Instr.sliceAt 53 (.pointer (some ⟨G, 0, none⟩)) (some (.int .i64 (i : Int))) none none).run Tryf.prog wx = .ok (.slice (some ⟨G, i, none⟩) (24 - i) (24 - i)) wx := by
  have h1 : Tryf.prog.arrayLen 53 = 24 := by kernel_rfl
  have h3 : (sizeOf (Tryf.prog.elem 53)).run Tryf.prog wx = .ok 1 wx := by kernel_rfl
  rw [run_sliceAt_array_l wx 53 ⟨G, 0, none⟩ (by kernel_rfl) .i64 (i : Int) (by omega) (by rw [h1]; omega), h3, h1]
  simp only [Result.andThen_ok, slicedAt, Int.toNat_natCast, Nat.mul_one]
  rw [if_neg (by omega), Addr.add_lit, Nat.zero_add]

set_option maxHeartbeats 1000000 in
set_option maxRecDepth 100000 in
theorem itoa_pos (v : Int) (w : World) (h0 : 0 ≤ v) (h1 : v ≤ 9223372036854775807) :
    Calls Tryf.prog 18 #[.int .i64 v] w fun e w' => e = .returned (.string (B8 (Lib.itoa v))) ∧ Below w.heap.size w w' := by
  obtain ⟨U, rfl⟩ := Int.eq_ofNat_of_zero_le h0
  have hU : U ≤ 9223372036854775808 := by omega
  have hlU := dig_le U hU
  rw [Lib.itoa_nonneg]
  go_enter Tryf.func18, Tryf.ntmps18
  go_wp2
  go_loopw [3, 5] (fun uv iv wr => ∃ (u i : Nat) (D : List UInt8), uv = .int .u64 u ∧ iv = .int .i64 i ∧ i + D.length = 24 ∧ Lib.decDigits U = Lib.decDigits u ++ D ∧ u ≤ 9223372036854775808 ∧ Buf wr w.heap.size D ∧ Below w.heap.size w wr) (fun _ iv _ => (intOf iv).toNat)
  case atStart => exact ⟨U, 24, [], rfl, rfl, rfl, by simp, hU, buf0 w, (Below.refl _ _).alloc (Nat.le_refl _) _⟩
  case round =>
    obtain ⟨u, i, D, rfl, rfl, hi, hD, hu, hbuf, hbr⟩ := hrel
    have hdl : 1 ≤ (Lib.decDigits u).length := dig_pos u
    have hll := congrArg List.length hD
    rw [List.length_append] at hll
    obtain ⟨i', rfl⟩ : ∃ i', i = i' + 1 := ⟨i - 1, by omega⟩
    have hi1 : i' ≤ 23 := by omega
    have hi2 : 3 ≤ i' := by omega
    have HI : Hid (i' + 1 + D.length = 24) := hi
    have HD : Hid _ := hD
    clear hi hD hll hdl
    obtain ⟨v0, hv0, hf0⟩ := hbuf.cell i' (by omega)
    have hb1 := hbuf.push (c := UInt8.ofNat (48 + u % 10)) i' HI.out
    rw [digit_toNat] at hb1
    have hbr1 := hbr.setCell (p := ⟨w.heap.size, i', none⟩) (Nat.le_refl _) (.int .u8 (((48 + u % 10 : Nat) : Nat) : Int))
    by_cases hu10 : u < 10
    · have hq : (((u : Nat) : Int) / 10 == 0) = true := by simp; omega
      have HF : Hid (Lib.decDigits U = UInt8.ofNat (48 + u % 10) :: D) := by show Lib.decDigits U = _; rw [HD.out, dig_small u hu10]; rfl
      obtain ⟨E, HE⟩ : ∃ E, Hid (E = UInt8.ofNat (48 + u % 10) :: D) := ⟨_, rfl⟩
      rw [← HE.out] at hb1
      have hEl : i' + E.length = 24 := by rw [HE.out]; have := HI.out; simp; omega
      have hconv : (convert 43 9 (.slice (some ⟨w.heap.size, i', none⟩) (24 - i') (24 - i'))).run Tryf.prog (wr.setCell ⟨w.heap.size, i', none⟩ (.int .u8 (((48 + u % 10 : Nat) : Nat) : Int))) = .ok (.string (B8 E)) (wr.setCell ⟨w.heap.size, i', none⟩ (.int .u8 (((48 + u % 10 : Nat) : Nat) : Int))) := hb1.conv i' hEl
      have hsl := slice24 w.heap.size i' (by omega)
      rw [show ((48 + u % 10 : Nat) : Int) = 48 + (u : Int) % 10 from by omega] at hconv hbr1
      clear hb1 hEl
      go_wp2
      go_ret
      exact ⟨by rw [HF.out, ← HE.out]; rfl, hbr1⟩
    · have hq : (((u : Nat) : Int) / 10 == 0) = false := by simp; omega
      have HF : Hid (Lib.decDigits U = Lib.decDigits (u / 10) ++ (UInt8.ofNat (48 + u % 10) :: D)) := by show Lib.decDigits U = _; rw [HD.out, dig_big u (by omega)]; simp
      rw [show ((48 + u % 10 : Nat) : Int) = 48 + (u : Int) % 10 from by omega] at hb1 hbr1
      go_wp2
      go_roundw
      case rel => exact ⟨u / 10, i', _, by go_num, by go_num, by have := HI.out; simp; omega, HF.out, by omega, hb1, hbr1⟩
      case measure => simp [intOf]

set_option maxHeartbeats 1000000 in
set_option maxRecDepth 100000 in
theorem itoa_neg (v : Int) (w : World) (h0 : -9223372036854775808 ≤ v) (h1 : v < 0) :
    Calls Tryf.prog 18 #[.int .i64 v] w fun e w' => e = .returned (.string (B8 (Lib.itoa v))) ∧ Below w.heap.size w w' := by
  obtain ⟨U, hv⟩ : ∃ U : Nat, v = -(U : Int) := ⟨v.natAbs, by omega⟩
  subst hv
  have hU : U ≤ 9223372036854775808 := by omega
  have hU1 : 1 ≤ U := by omega
  have hlU := dig_le U hU
  have hwr : IntKind.u64.wrap (-IntKind.u64.wrap (-(U : Int))) = (U : Int) := by
    rw [IntKind.wrap_u64, IntKind.wrap_u64]
    omega
  rw [Lib.itoa_neg U hU1]
  go_enter Tryf.func18, Tryf.ntmps18
  go_wp2
  go_loopw [3, 5] (fun uv iv wr => ∃ (u i : Nat) (D : List UInt8), uv = .int .u64 u ∧ iv = .int .i64 i ∧ i + D.length = 24 ∧ Lib.decDigits U = Lib.decDigits u ++ D ∧ u ≤ 9223372036854775808 ∧ Buf wr w.heap.size D ∧ Below w.heap.size w wr) (fun _ iv _ => (intOf iv).toNat)
  case atStart => exact ⟨U, 24, [], rfl, rfl, rfl, by simp, hU, buf0 w, (Below.refl _ _).alloc (Nat.le_refl _) _⟩
  case round =>
    obtain ⟨u, i, D, rfl, rfl, hi, hD, hu, hbuf, hbr⟩ := hrel
    have hdl : 1 ≤ (Lib.decDigits u).length := dig_pos u
    have hll := congrArg List.length hD
    rw [List.length_append] at hll
    obtain ⟨i', rfl⟩ : ∃ i', i = i' + 1 := ⟨i - 1, by omega⟩
    have hi1 : i' ≤ 23 := by omega
    have hi2 : 3 ≤ i' := by omega
    have HI : Hid (i' + 1 + D.length = 24) := hi
    have HD : Hid _ := hD
    clear hi hD hll hdl
    obtain ⟨v0, hv0, hf0⟩ := hbuf.cell i' (by omega)
    have hb1 := hbuf.push (c := UInt8.ofNat (48 + u % 10)) i' HI.out
    rw [digit_toNat] at hb1
    have hbr1 := hbr.setCell (p := ⟨w.heap.size, i', none⟩) (Nat.le_refl _) (.int .u8 (((48 + u % 10 : Nat) : Nat) : Int))
    by_cases hu10 : u < 10
    · have hq : (((u : Nat) : Int) / 10 == 0) = true := by simp; omega
      have HF : Hid (Lib.decDigits U = UInt8.ofNat (48 + u % 10) :: D) := by show Lib.decDigits U = _; rw [HD.out, dig_small u hu10]; rfl
      obtain ⟨i2, rfl⟩ : ∃ i2, i' = i2 + 1 := ⟨i' - 1, by omega⟩
      obtain ⟨v1, hv1, hf1⟩ := hb1.cell i2 (by omega)
      have hb2 := hb1.push (c := 45) i2 (by have := HI.out; simp; omega)
      obtain ⟨E, HE⟩ : ∃ E, Hid (E = 45 :: UInt8.ofNat (48 + u % 10) :: D) := ⟨_, rfl⟩
      rw [← HE.out] at hb2
      have hEl : i2 + E.length = 24 := by rw [HE.out]; have := HI.out; simp; omega
      have hconv := hb2.conv i2 hEl
      have hsl := slice24 w.heap.size i2 (by omega)
      have hbr2 := hbr1.setCell (p := ⟨w.heap.size, i2, none⟩) (Nat.le_refl _) (.int .u8 45)
      rw [show ((48 + u % 10 : Nat) : Int) = 48 + (u : Int) % 10 from by omega] at hconv hbr1 hbr2 hv1 hf1
      have hconv2 : (convert 43 9 (.slice (some ⟨w.heap.size, i2, none⟩) (24 - i2) (24 - i2))).run Tryf.prog ((wr.setCell ⟨w.heap.size, i2 + 1, none⟩ (.int .u8 (48 + (u : Int) % 10))).setCell ⟨w.heap.size, i2, none⟩ (.int .u8 45)) = .ok (.string (B8 E)) ((wr.setCell ⟨w.heap.size, i2 + 1, none⟩ (.int .u8 (48 + (u : Int) % 10))).setCell ⟨w.heap.size, i2, none⟩ (.int .u8 45)) := hconv
      clear hb1 hb2 hEl hconv
      go_wp2
      go_ret
      exact ⟨by rw [HF.out, ← HE.out]; rfl, hbr2⟩
    · have hq : (((u : Nat) : Int) / 10 == 0) = false := by simp; omega
      have HF : Hid (Lib.decDigits U = Lib.decDigits (u / 10) ++ (UInt8.ofNat (48 + u % 10) :: D)) := by show Lib.decDigits U = _; rw [HD.out, dig_big u (by omega)]; simp
      rw [show ((48 + u % 10 : Nat) : Int) = 48 + (u : Int) % 10 from by omega] at hb1 hbr1
      go_wp2
      go_roundw
      case rel => exact ⟨u / 10, i', _, by go_num, by go_num, by have := HI.out; simp; omega, HF.out, by omega, hb1, hbr1⟩
      case measure => simp [intOf]
end Go.Proofs.Qxb6616546aFmt
