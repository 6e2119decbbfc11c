import Derived.Test.Qxb6616546aVW
namespace Go.Proofs.Qxb6616546a
open Go.RowKit
set_option linter.unusedVariables false

theorem setRow_block {w : World} {g k : Nat} (cs : Array Value) (h : k ≠ g) : (w.setRow g cs).heap[k]? = w.heap[k]? := setRow_other w g k cs h

theorem wcs_toList (cap : Nat) (f : Nat → Nat) : (wcs cap f).toList = (List.range cap).map fun j => Value.int .u64 (f j : Int) := rfl

theorem wcs_splice (cap m : Nat) (fz fx : Nat → Nat) (h : m ≤ cap) : ((wcs cap fz).toList.take 0 ++ (((List.range m).map fun j => Value.int .u64 (fx j : Int)) ++ (wcs cap fz).toList.drop (0 + ((List.range m).map fun j => Value.int .u64 (fx j : Int)).length))).toArray = wcs cap (zAt fz fx m) := by
  apply Array.ext'
  rw [wcs_toList, wcs_toList]
  apply List.ext_getElem?
  intro k
  simp only [List.take_zero, List.nil_append, List.length_map, List.length_range, Nat.zero_add]
  rw [List.getElem?_append]
  by_cases hk : k < m
  · have hk2 : k < cap := by omega
    simp [hk, hk2, zAt]
  · by_cases hk2 : k < cap
    · have : m + (k - m) = k := by omega
      simp [hk, hk2, zAt, this]
    · have : cap ≤ m + (k - m) := by omega
      simp [hk, hk2, this]

/-- 'copy' of m words to the head of a row. -/
theorem wpList_copy_words {w : World} {ops : Array Oper} {rest : List Oper} {o : Oper} {a : Act} {Q : Exit → Act → World → Prop} (hgd : o.guard = none) (d s : Operand)
    (ho : o.op = .call { callee := .builtin .copy, args := #[d, s], argTypes := #[36, 36] }) (g cap dCap xg capx sCap m : Nat) (fz fx : Nat → Nat) (hd : a.eval d = .slice (some ⟨g, 0, none⟩) m dCap) (hs : a.eval s = .slice (some ⟨xg, 0, none⟩) m sCap)
    (hz : WRow w g cap fz) (hx : WRow w xg capx fx) (mz : m ≤ cap) (mx : m ≤ capx)
    (h : ∀ w', WRow w' g cap (zAt fz fx m) → Only (· = g) w w' → wpList Try.prog ops Q rest (a.put o.dst (goInt m)) w') : wpList Try.prog ops Q (o :: rest) a w := by
  have hl : ((List.range m).map fun j => Value.int .u64 (fx j : Int)).length = m := by simp
  refine wpList_copy_own hgd d s 36 36 ho 72 Try.underlying36 Try.info72s g 0 m dCap ⟨xg, 0, none⟩ m sCap hd hs (wcs cap fz) 72 hz ((List.range m).map fun j => Value.int .u64 (fx j : Int)) (by simp) (fun j v hj => ?_) (by simp [wcs]; omega) (fun v hv => ?_) ?_
  · have hjm : j < m := by have := (List.getElem?_eq_some_iff.1 hj).1; simpa using this
    rw [Addr.add_lit, Nat.zero_add, hx.cell j (by omega), ← hj]
    simp [hjm]
  · obtain ⟨j, _, rfl⟩ := List.mem_map.1 hv
    rfl
  · rw [wcs_splice cap m fz fx mz, hl]
    refine h _ ?_ ⟨rfl, rfl, rfl, by simp [World.setRow], fun k _ hk => setRow_block _ hk⟩
    exact setRow_heap w g _ _ 72 _ hz

/-- A nat: nil, or len words at the head of a row of its own. -/
def NV (w : World) (v : Value) (len : Nat) (o : Option (Nat × Nat)) (f : Nat → Nat) : Prop :=
  (∀ j, f j < 18446744073709551616) ∧ match o with
  | none => v = .slice none 0 0 ∧ len = 0
  | some (g, cap) => v = .slice (some ⟨g, 0, none⟩) len cap ∧ len ≤ cap ∧ cap ≤ 100 ∧ WRow w g cap f

/-- What make gives. -/
def GivesMake (w w' : World) (n : Nat) (o : Option (Nat × Nat)) (f : Nat → Nat) (e : Ending) : Prop :=
  ∃ g cap f', e = .returned (.slice (some ⟨g, 0, none⟩) n cap) ∧ n ≤ cap ∧ cap ≤ 100 ∧ WRow w' g cap f' ∧ (∀ j, f' j < 18446744073709551616) ∧ Only (fun _ => False) w w' ∧ ((o = some (g, cap) ∧ f' = f) ∨ w.heap.size ≤ g)

def zeroF : Nat → Nat := fun _ => 0
theorem made_wcs (c : Nat) : madeCells (Value.int .u64 0).cells c = wcs c zeroF := by
  apply Array.ext'
  have : (Value.int .u64 0).cells = #[Value.int .u64 0] := rfl
  rw [this, toList_madeCells_one, wcs_toList]
  apply List.ext_getElem?
  intro k
  by_cases hk : k < c <;> simp [hk, zeroF]

theorem makeW (w : World) (l c : Nat) (hl : l ≤ c) (hc : c ≤ 1000) (L C : Int) (eL : L = (l : Int)) (eC : C = (c : Int)) :
    (Instr.makeSlice 36 (.int .i64 L) (.int .i64 C)).run Try.prog w = .ok (.slice (some ⟨w.heap.size, 0, none⟩) l c) (w.alloc (.cells (wcs c zeroF) 72)) := by
  obtain ⟨i, hi, hz, hs, hb⟩ := info_parts Try.info72
  have h := run_make (P := Try.prog) w 36 72 i (.int .u64 0) Try.underlying36 hi hz .i64 .i64 L C (by omega) (by omega) (by rw [hb]; omega) (by omega)
  rw [hs, Nat.mul_one, made_wcs] at h
  subst eL
  subst eC
  simpa using h

theorem makeGives (w : World) (n cap : Nat) (o : Option (Nat × Nat)) (f : Nat → Nat) (h1 : n ≤ cap) (h2 : cap ≤ 100) : GivesMake w (w.alloc (.cells (wcs cap zeroF) 72)) n o f (.returned (.slice (some ⟨w.heap.size, 0, none⟩) n cap)) :=
  ⟨w.heap.size, cap, zeroF, rfl, h1, h2, heap_alloc_new w _, fun _ => by simp [zeroF], ⟨rfl, rfl, rfl, by simp, fun k hk _ => Below.heap_alloc w _ k hk⟩, .inr (Nat.le_refl _)⟩

set_option maxHeartbeats 1000000 in
set_option maxRecDepth 100000 in
theorem make_any (v : Value) (len n : Nat) (o : Option (Nat × Nat)) (f : Nat → Nat) (w : World) (h : NV w v len o f) (h1 : 1 ≤ n) (h3 : n ≤ 3) :
    Calls Try.prog 27 #[v, .int .i64 (n : Int)] w fun e w' => GivesMake w w' n o f e := by
  have M1 := makeW w 1 1 (by omega) (by omega) 1 1 rfl rfl
  have M2 := makeW w n (n + 4) (by omega) (by omega) (n : Int) ((n : Int) + 4) rfl (by omega)
  have G1 : Hid _ := makeGives w 1 1 o f (by omega) (by omega)
  have G2 : Hid _ := makeGives w n (n + 4) o f (by omega) (by omega)
  obtain ⟨hb, h⟩ := h
  match o, h with
  | some (g, cap), ⟨hv, hl, hc, hr⟩ =>
    subst hv
    by_cases hn : n ≤ cap
    · have H : Hid (GivesMake w w n (some (g, cap)) f (.returned (.slice (some ⟨g, 0, none⟩) n cap))) := ⟨g, cap, f, rfl, hn, hc, hr, hb, Only.refl _ _, .inl ⟨rfl, rfl⟩⟩
      clear M1 M2
      go_enter Try.func27, Try.ntmps27
      go_wp2
      go_ret
      exact H.out
    · by_cases hn1 : n = 1
      · subst hn1
        clear M2
        go_enter Try.func27, Try.ntmps27
        go_wp2
        go_ret
        exact G1.out
      · have hne : ((n : Int) == 1) = false := by simp; omega
        clear M1
        go_enter Try.func27, Try.ntmps27
        go_wp2
        go_ret
        exact G2.out
  | none, ⟨hv, hl⟩ =>
    subst hv
    by_cases hn1 : n = 1
    · subst hn1
      clear M2
      go_enter Try.func27, Try.ntmps27
      go_wp2
      go_ret
      exact G1.out
    · have hne : ((n : Int) == 1) = false := by simp; omega
      clear M1
      go_enter Try.func27, Try.ntmps27
      go_wp2
      go_ret
      exact G2.out
end Go.Proofs.Qxb6616546a
