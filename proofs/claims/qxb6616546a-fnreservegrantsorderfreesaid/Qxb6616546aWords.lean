/-
  Rows of words (math/big's Word), and the four loops over them.
-/
import Derived.Test.Qxb6616546aRows
import Derived.WalkKit
import Derived.ProofKit
import Derived.OpenShut
import Derived.ShutString
import Derived.Below
import Derived.Laws.AppendOwnNone
import Derived.Laws.CopyOwn
import Derived.Laws.Externs
import Derived.Laws.Twins
import Derived.Deep.DeepCutAuto
import Derived.Deep.CutBlock
import Derived.Deep.LoopGhost
import Derived.Deep.QuietTactic
import Derived.Deep.RegionHeld3
import Derived.Deep.AppendLies
import Derived.BigQuiet
import Derived.WalkSpells
import Derived.WalkSmall
import Derived.Outline
namespace Go.Proofs.Qxb6616546a
open Go.RowKit

/-- 2^64, written out for omega. -/
abbrev BB : Nat := 18446744073709551616

theorem Try.add64 (x y c : Nat) (hc : c ≤ 1) (w : World) :
    (callFunc 38 #[.int .u64 x, .int .u64 y, .int .u64 c]).run Try.prog w =
      .ok (.value (.tuple #[.int .u64 (((x + y + c) % 18446744073709551616 : Nat) : Int), .int .u64 (((x + y + c) / 18446744073709551616 : Nat) : Int)])) w := by
  rw [run_callFunc_extern Try.func38 (by kernel_rfl) (by kernel_rfl) (by kernel_rfl) (e := add64Entry) (by kernel_rfl), run_add64 x y c (by omega) (by omega) (by omega) (by omega)]
  simp only [Result.andThen]
  congr 5 <;> omega

theorem Try.sub64 (x y b : Nat) (hb : b ≤ 1) (w : World) :
    (callFunc 40 #[.int .u64 x, .int .u64 y, .int .u64 b]).run Try.prog w =
      .ok (.value (.tuple #[.int .u64 (((x + 18446744073709551616 - y - b) % 18446744073709551616 : Nat) : Int), .int .u64 ((if x < y + b then 1 else 0 : Nat) : Int)])) w := by
  rw [run_callFunc_extern Try.func40 (by kernel_rfl) (by kernel_rfl) (by kernel_rfl) (e := (Extern.MathBitsCarry.rows.getD 1 ("", fun _ => pure undef)).2) (by kernel_rfl)]
  have : b = 0 ∨ b = 1 := by omega
  rcases this with rfl | rfl <;> rfl

theorem Try.addVV_enters (args : Array Value) (w : World) : (callFunc 28 args).run Try.prog w = .ok (.enter 13 args) w :=
  run_callFunc_twin (twin := "math/big.addVV_g") Try.func28 (by kernel_rfl) (by kernel_rfl) (by kernel_rfl) (by kernel_rfl) Try.func13 (by kernel_rfl) (by kernel_rfl) (by kernel_rfl) args w
theorem Try.subVV_enters (args : Array Value) (w : World) : (callFunc 32 args).run Try.prog w = .ok (.enter 14 args) w :=
  run_callFunc_twin (twin := "math/big.subVV_g") Try.func32 (by kernel_rfl) (by kernel_rfl) (by kernel_rfl) (by kernel_rfl) Try.func14 (by kernel_rfl) (by kernel_rfl) (by kernel_rfl) args w

/-- Two words handed back. -/
def Gives2 (a b : Nat) (e : Ending) : Prop := e = .returned (.tuple #[.int .u64 (a : Int), .int .u64 (b : Int)])
def addS (x y c : Nat) : Nat := (x + y + c) % 18446744073709551616
def addK (x y c : Nat) : Nat := (x + y + c) / 18446744073709551616
def subS (x y b : Nat) : Nat := (x + 18446744073709551616 - y - b) % 18446744073709551616
def subK (x y b : Nat) : Nat := if x < y + b then 1 else 0

theorem bitsAdd_any (x y c : Nat) (hc : c ≤ 1) (w : World) : Calls Try.prog 31 #[.int .u64 x, .int .u64 y, .int .u64 c] w fun e w' => Gives2 (addS x y c) (addK x y c) e ∧ w = w' := by
  have h64 := Try.add64 x y c hc w
  have e1 : ((x + y + c) % 18446744073709551616 : Nat) = addS x y c := rfl
  have e2 : ((x + y + c) / 18446744073709551616 : Nat) = addK x y c := rfl
  rw [e1, e2] at h64
  clear e1 e2
  generalize addS x y c = s at *
  generalize addK x y c = k at *
  go_enter Try.func31, Try.ntmps31
  go_wp2
  go_ret2
  exact ⟨rfl, rfl⟩

theorem bitsSub_any (x y c : Nat) (hc : c ≤ 1) (w : World) : Calls Try.prog 34 #[.int .u64 x, .int .u64 y, .int .u64 c] w fun e w' => Gives2 (subS x y c) (subK x y c) e ∧ w = w' := by
  have h64 := Try.sub64 x y c hc w
  have e1 : ((x + 18446744073709551616 - y - c) % 18446744073709551616 : Nat) = subS x y c := rfl
  have e2 : (if x < y + c then 1 else 0 : Nat) = subK x y c := rfl
  rw [e1, e2] at h64
  clear e1 e2
  generalize subS x y c = s at *
  generalize subK x y c = k at *
  go_enter Try.func34, Try.ntmps34
  go_wp2
  go_ret2
  exact ⟨rfl, rfl⟩


/-- A row of words: block g holds the words f 0 .. f (cap - 1). -/
def wcs (cap : Nat) (f : Nat → Nat) : Array Value := ((List.range cap).map fun j => Value.int .u64 (f j : Int)).toArray
def WRow (w : World) (g cap : Nat) (f : Nat → Nat) : Prop := w.heap[g]? = some (.cells (wcs cap f) 72 (0, 0))
def updN (f : Nat → Nat) (j v : Nat) : Nat → Nat := fun k => if k = j then v else f k

theorem wcs_get (cap : Nat) (f : Nat → Nat) (j : Nat) (h : j < cap) : (wcs cap f)[j]? = some (.int .u64 (f j : Int)) := by
  unfold wcs
  rw [List.getElem?_toArray, List.getElem?_map, List.getElem?_range h]
  rfl
theorem WRow.cell {w : World} {g cap : Nat} {f : Nat → Nat} (h : WRow w g cap f) (j : Nat) (hj : j < cap) : w.cell? ⟨g, j, none⟩ = some (.int .u64 (f j : Int)) := by
  rw [cell_of_row _ _ _ _ _ _ h, wcs_get _ _ _ hj]
theorem WRow.frozen {w : World} {g cap : Nat} {f : Nat → Nat} (h : WRow w g cap f) (j : Nat) : w.frozen? ⟨g, j, none⟩ = false := by
  unfold WRow at h
  simp [World.frozen?, h]
theorem WRow.lt {w : World} {g cap : Nat} {f : Nat → Nat} (h : WRow w g cap f) : g < w.heap.size := (Array.getElem?_eq_some_iff.1 h).1
theorem wcs_congr (cap : Nat) (f f' : Nat → Nat) (h : ∀ j, j < cap → f j = f' j) : wcs cap f = wcs cap f' := by
  unfold wcs
  congr 1
  apply List.map_congr_left
  intro j hj
  rw [h j (List.mem_range.1 hj)]
theorem WRow.congr {w : World} {g cap : Nat} {f f' : Nat → Nat} (h : WRow w g cap f) (e : ∀ j, j < cap → f j = f' j) : WRow w g cap f' := by
  unfold WRow at h ⊢
  rw [h, wcs_congr cap f f' e]
theorem heap_setCell_row {w : World} {g : Nat} {cur : Array Value} {e : TypeId} {fr : Nat × Nat} (h : w.heap[g]? = some (.cells cur e fr)) (j : Nat) (v : Value) :
    (w.setCell ⟨g, j, none⟩ v).heap[g]? = some (.cells (cur.setIfInBounds j v) e fr) := by
  simp [World.setCell, Array.getElem?_modify, h]
theorem WRow.set {w : World} {g cap : Nat} {f : Nat → Nat} (h : WRow w g cap f) (j v : Nat) : WRow (w.setCell ⟨g, j, none⟩ (.int .u64 (v : Int))) g cap (updN f j v) := by
  unfold WRow
  rw [heap_setCell_row h]
  congr 2
  apply Array.ext'
  unfold wcs
  rw [Array.toList_setIfInBounds]
  apply List.ext_getElem?
  intro k
  rw [List.getElem?_set]
  by_cases hk : j = k
  · subst hk
    by_cases hj : j < cap
    · simp [hj, updN]
    · simp [hj]
  · by_cases hj : k < cap
    · simp [hk, hj, updN, Ne.symm hk]
    · simp [hk, hj]

/-- w' is w but for the blocks that S names, and for new ones. -/
structure Only (S : Nat → Prop) (w w' : World) : Prop where
  os : w'.os = w.os
  tape : w'.tape = w.tape
  output : w'.output = w.output
  size : w.heap.size ≤ w'.heap.size
  block : ∀ k, k < w.heap.size → ¬ S k → w'.heap[k]? = w.heap[k]?
theorem Only.refl (S : Nat → Prop) (w : World) : Only S w w := ⟨rfl, rfl, rfl, Nat.le_refl _, fun _ _ _ => rfl⟩
theorem Only.trans {S : Nat → Prop} {a b c : World} (h : Only S a b) (k : Only S b c) : Only S a c :=
  ⟨k.os.trans h.os, k.tape.trans h.tape, k.output.trans h.output, Nat.le_trans h.size k.size, fun j hj hs => (k.block j (Nat.lt_of_lt_of_le hj h.size) hs).trans (h.block j hj hs)⟩
theorem Only.mono {S T : Nat → Prop} {a b : World} (h : Only S a b) (hs : ∀ k, k < a.heap.size → S k → T k) : Only T a b := ⟨h.os, h.tape, h.output, h.size, fun k hk hn => h.block k hk (fun q => hn (hs k hk q))⟩
theorem Only.drew {S : Nat → Prop} {a b : World} (h : Only S a b) : Only S a b.drew := ⟨h.os, h.tape, h.output, h.size, h.block⟩
theorem Only.drewN {S : Nat → Prop} {a b : World} (h : Only S a b) (n : Nat) : Only S a (b.drewN n) := ⟨h.os, h.tape, h.output, h.size, h.block⟩
theorem Only.setCell {S : Nat → Prop} {a b : World} (h : Only S a b) (p : Addr) (hp : S p.block) (v : Value) : Only S a (b.setCell p v) :=
  ⟨h.os, h.tape, h.output, by simpa [World.setCell] using h.size, fun k hk hn => (Below.heap_setCell _ _ _ _ (fun e => hn (by rw [e]; exact hp))).trans (h.block k hk hn)⟩
theorem Only.row {S : Nat → Prop} {w w' : World} (h : Only S w w') {g cap : Nat} {f : Nat → Nat} (hr : WRow w g cap f) (hs : ¬ S g) : WRow w' g cap f := (h.block g hr.lt hs).trans hr

/-- One word handed back. -/
def GivesW (a : Nat) (e : Ending) : Prop := e = .returned (.int .u64 (a : Int))

def carry (fx fy : Nat → Nat) : Nat → Nat
  | 0 => 0
  | n + 1 => addK (fx n) (fy n) (carry fx fy n)
def sumW (fx fy : Nat → Nat) (j : Nat) : Nat := addS (fx j) (fy j) (carry fx fy j)
theorem addK_le {x y c : Nat} (hx : x < 18446744073709551616) (hy : y < 18446744073709551616) (hc : c ≤ 1) : addK x y c ≤ 1 := by unfold addK; omega
theorem carry_le {fx fy : Nat → Nat} (hx : ∀ j, fx j < 18446744073709551616) (hy : ∀ j, fy j < 18446744073709551616) (n : Nat) : carry fx fy n ≤ 1 := by
  induction n with
  | zero => exact Nat.zero_le _
  | succ n ih => exact addK_le (hx n) (hy n) ih

/-- The words of z after i rounds. -/
def zAt (f0 fn : Nat → Nat) (i : Nat) : Nat → Nat := fun j => if j < i then fn j else f0 j
theorem zAt_zero (f0 fn : Nat → Nat) : zAt f0 fn 0 = f0 := by funext j; simp [zAt]
theorem zAt_succ (f0 fn : Nat → Nat) (i : Nat) : updN (zAt f0 fn i) i (fn i) = zAt f0 fn (i + 1) := by
  funext j
  unfold updN zAt
  by_cases h : j = i
  · subst h; simp
  · by_cases h2 : j < i
    · have : j < i + 1 := by omega
      simp [h, h2, this]
    · have : ¬ j < i + 1 := by omega
      simp [h, h2, this]

set_option maxHeartbeats 1000000 in
set_option maxRecDepth 100000 in
theorem addVV_any (zg xg yg cz cx cy n capz capx capy : Nat) (fz fx fy : Nat → Nat) (w : World) (hz : WRow w zg capz fz) (hx : WRow w xg capx fx) (hy : WRow w yg capy fy) (nz : n ≤ capz) (nx : n ≤ capx) (ny : n ≤ capy) (hn : n ≤ 1000)
    (ax : xg = zg → fx = fz) (ay : yg = zg → fy = fz) (bx : ∀ j, fx j < 18446744073709551616) (by' : ∀ j, fy j < 18446744073709551616) :
    Calls Try.prog 13 #[.slice (some ⟨zg, 0, none⟩) n cz, .slice (some ⟨xg, 0, none⟩) n cx, .slice (some ⟨yg, 0, none⟩) n cy] w fun e w' => GivesW (carry fx fy n) e ∧ WRow w' zg capz (zAt fz (sumW fx fy) n) ∧ Only (· = zg) w w' := by
  have HC : Hid _ := carry_le bx by'
  have R0 : WRow w zg capz (zAt fz (sumW fx fy) 0) := by rw [zAt_zero]; exact hz
  go_enter Try.func13, Try.ntmps13
  go_wp2_with fail
  go_loopw [6, 25] (fun cv iv wr => ∃ i : Nat, i ≤ n ∧ iv = .int .i64 i ∧ cv = .int .u64 (carry fx fy i : Int) ∧ WRow wr zg capz (zAt fz (sumW fx fy) i) ∧ Only (· = zg) w wr) (fun _ iv _ => n - (intOf iv).toNat)
  case atStart => exact ⟨0, by omega, rfl, rfl, R0, Only.refl _ _⟩
  case round =>
    clear R0
    obtain ⟨i, hi, rfl, rfl, R, O⟩ := hrel
    by_cases hlt : i < n
    · have hcx : wr.cell? ⟨xg, i, none⟩ = some (.int .u64 (fx i : Int)) := by
        by_cases e : xg = zg
        · subst e
          rw [R.cell i (by omega), ax rfl]
          simp [zAt]
        · exact (O.row hx e).cell i (by omega)
      have hcy : wr.cell? ⟨yg, i, none⟩ = some (.int .u64 (fy i : Int)) := by
        by_cases e : yg = zg
        · subst e
          rw [R.cell i (by omega), ay rfl]
          simp [zAt]
        · exact (O.row hy e).cell i (by omega)
      have hcz := R.cell i (by omega)
      have hfz := R.frozen i
      have hc1 := HC.out i
      have HB : Hid (∀ w : World, Calls Try.prog 31 #[.int .u64 (fx i : Int), .int .u64 (fy i : Int), .int .u64 (carry fx fy i : Int)] w fun e w' => Gives2 (sumW fx fy i) (carry fx fy (i + 1)) e ∧ w = w') := fun w => bitsAdd_any (fx i) (fy i) (carry fx fy i) hc1 w
      have R' := R.set i (sumW fx fy i)
      rw [zAt_succ] at R'
      have O' := O.setCell ⟨zg, i, none⟩ rfl (.int .u64 (sumW fx fy i : Int))
      go_upto_region 6 with fail
      go_region_held3 (fun w' => w'.cell? ⟨xg, i, none⟩ = some (.int .u64 (fx i : Int)) ∧ w'.cell? ⟨yg, i, none⟩ = some (.int .u64 (fy i : Int))) (go_keep) (first | (go_at_call 31; refine Calls.mono (HB.out _) ?_; rintro e w1 ⟨rfl, rfl⟩))
      go_wp2_with fail
      go_roundw
      case rel => exact ⟨i + 1, by omega, by go_num, rfl, R', O'.drew⟩
      case measure => simp [intOf]; omega
    · obtain rfl : i = n := by omega
      go_wp2_with fail
      go_ret
      exact ⟨rfl, R, O⟩

def borrow (fx fy : Nat → Nat) : Nat → Nat
  | 0 => 0
  | n + 1 => subK (fx n) (fy n) (borrow fx fy n)
def difW (fx fy : Nat → Nat) (j : Nat) : Nat := subS (fx j) (fy j) (borrow fx fy j)
theorem subK_le (x y c : Nat) : subK x y c ≤ 1 := by unfold subK; split <;> omega
theorem borrow_le {fx fy : Nat → Nat} (_ : ∀ j, fx j < 18446744073709551616) (_ : ∀ j, fy j < 18446744073709551616) (n : Nat) : borrow fx fy n ≤ 1 := by
  cases n with
  | zero => exact Nat.zero_le _
  | succ n => exact subK_le _ _ _

set_option maxHeartbeats 1000000 in
set_option maxRecDepth 100000 in
theorem subVV_any (zg xg yg cz cx cy n capz capx capy : Nat) (fz fx fy : Nat → Nat) (w : World) (hz : WRow w zg capz fz) (hx : WRow w xg capx fx) (hy : WRow w yg capy fy) (nz : n ≤ capz) (nx : n ≤ capx) (ny : n ≤ capy) (hn : n ≤ 1000)
    (ax : xg = zg → fx = fz) (ay : yg = zg → fy = fz) (bx : ∀ j, fx j < 18446744073709551616) (by' : ∀ j, fy j < 18446744073709551616) :
    Calls Try.prog 14 #[.slice (some ⟨zg, 0, none⟩) n cz, .slice (some ⟨xg, 0, none⟩) n cx, .slice (some ⟨yg, 0, none⟩) n cy] w fun e w' => GivesW (borrow fx fy n) e ∧ WRow w' zg capz (zAt fz (difW fx fy) n) ∧ Only (· = zg) w w' := by
  have HC : Hid _ := borrow_le bx by'
  have R0 : WRow w zg capz (zAt fz (difW fx fy) 0) := by rw [zAt_zero]; exact hz
  go_enter Try.func14, Try.ntmps14
  go_wp2_with fail
  go_loopw [6, 25] (fun cv iv wr => ∃ i : Nat, i ≤ n ∧ iv = .int .i64 i ∧ cv = .int .u64 (borrow fx fy i : Int) ∧ WRow wr zg capz (zAt fz (difW fx fy) i) ∧ Only (· = zg) w wr) (fun _ iv _ => n - (intOf iv).toNat)
  case atStart => exact ⟨0, by omega, rfl, rfl, R0, Only.refl _ _⟩
  case round =>
    clear R0
    obtain ⟨i, hi, rfl, rfl, R, O⟩ := hrel
    by_cases hlt : i < n
    · have hcx : wr.cell? ⟨xg, i, none⟩ = some (.int .u64 (fx i : Int)) := by
        by_cases e : xg = zg
        · subst e
          rw [R.cell i (by omega), ax rfl]
          simp [zAt]
        · exact (O.row hx e).cell i (by omega)
      have hcy : wr.cell? ⟨yg, i, none⟩ = some (.int .u64 (fy i : Int)) := by
        by_cases e : yg = zg
        · subst e
          rw [R.cell i (by omega), ay rfl]
          simp [zAt]
        · exact (O.row hy e).cell i (by omega)
      have hcz := R.cell i (by omega)
      have hfz := R.frozen i
      have hc1 := HC.out i
      have HB : Hid (∀ w : World, Calls Try.prog 34 #[.int .u64 (fx i : Int), .int .u64 (fy i : Int), .int .u64 (borrow fx fy i : Int)] w fun e w' => Gives2 (difW fx fy i) (borrow fx fy (i + 1)) e ∧ w = w') := fun w => bitsSub_any (fx i) (fy i) (borrow fx fy i) hc1 w
      have R' := R.set i (difW fx fy i)
      rw [zAt_succ] at R'
      have O' := O.setCell ⟨zg, i, none⟩ rfl (.int .u64 (difW fx fy i : Int))
      go_upto_region 6 with fail
      go_region_held3 (fun w' => w'.cell? ⟨xg, i, none⟩ = some (.int .u64 (fx i : Int)) ∧ w'.cell? ⟨yg, i, none⟩ = some (.int .u64 (fy i : Int))) (go_keep) (first | (go_at_call 34; refine Calls.mono (HB.out _) ?_; rintro e w1 ⟨rfl, rfl⟩))
      go_wp2_with fail
      go_roundw
      case rel => exact ⟨i + 1, by omega, by go_num, rfl, R', O'.drew⟩
      case measure => simp [intOf]; omega
    · obtain rfl : i = n := by omega
      go_wp2_with fail
      go_ret
      exact ⟨rfl, R, O⟩

end Go.Proofs.Qxb6616546a
