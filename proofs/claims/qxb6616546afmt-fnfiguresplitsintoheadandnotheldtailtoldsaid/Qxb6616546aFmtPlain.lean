/-
  The plain texts: no Go in sight.
-/
import Derived.Lib.Join
import Derived.Lib.ItoaNum
namespace Go.Proofs.Qxb6616546aFmt

/-- A name in quotes; names in quotes, joined by commas. -/
def quo (x : List UInt8) : List UInt8 := 34 :: (x ++ [34])
def names (xs : List (List UInt8)) : List UInt8 := Lib.join (xs.map quo) [44, 32]

theorem join_snoc (xs : List (List UInt8)) (x sep : List UInt8) (h : xs ≠ []) : Lib.join (xs ++ [x]) sep = Lib.join xs sep ++ sep ++ x := by
  cases xs with
  | nil => exact absurd rfl h
  | cons y r =>
    rw [List.cons_append, Lib.join_cons, Lib.join_cons]
    simp [Lib.joinTail]

theorem names_nil : names [] = [] := rfl
theorem names_one (x : List UInt8) : names [x] = quo x := by unfold names; exact Lib.join_one _ _
theorem names_snoc (xs : List (List UInt8)) (x : List UInt8) (h : xs ≠ []) : names (xs ++ [x]) = names xs ++ [44, 32] ++ quo x := by
  unfold names
  rw [List.map_append]
  exact join_snoc _ _ _ (by simpa using h)

/-- What goes ahead of a name: nothing at the first. -/
def comma (xs : List (List UInt8)) : List UInt8 := if xs = [] then [] else [44, 32]
theorem names_step (xs : List (List UInt8)) (x : List UInt8) : names (xs ++ [x]) = names xs ++ comma xs ++ quo x := by
  unfold comma
  split
  · rename_i h
    subst h
    rw [List.nil_append, names_one, names_nil]; rfl
  · rename_i h
    exact names_snoc xs x h

theorem names_mono (xs ys : List (List UInt8)) : (names xs).length ≤ (names (xs ++ ys)).length := by
  induction ys generalizing xs with
  | nil => simp
  | cons y r ih =>
    have := ih (xs ++ [y])
    rw [names_step] at this
    simp at this ⊢
    omega

theorem names_take (xs : List (List UInt8)) (k : Nat) : (names (xs.take k)).length ≤ (names xs).length := by
  have := names_mono (xs.take k) (xs.drop k)
  rwa [List.take_append_drop] at this

/-- The sum of the lengths. -/
def lens (xs : List (List UInt8)) : Nat := (xs.map List.length).sum
theorem lens_snoc (xs : List (List UInt8)) (x : List UInt8) : lens (xs ++ [x]) = lens xs + x.length := by simp [lens]

theorem names_len_app (ys xs : List (List UInt8)) : (names (xs ++ ys)).length ≤ (names xs).length + lens ys + 4 * ys.length := by
  induction ys generalizing xs with
  | nil => simp [lens]
  | cons y r ih =>
    have := ih (xs ++ [y])
    have hc : (comma xs).length ≤ 2 := by unfold comma; split <;> simp
    have hq : (quo y).length = y.length + 2 := by simp [quo]
    rw [names_step, List.append_assoc xs [y] r, List.singleton_append] at this
    simp only [List.length_append, hq] at this
    simp only [lens, List.map_cons, List.sum_cons, List.length_cons] at this ⊢
    omega
theorem names_len (xs : List (List UInt8)) : (names xs).length ≤ lens xs + 4 * xs.length := by
  have := names_len_app xs []
  simpa [names_nil] using this

abbrev Pr := List UInt8 × List UInt8
/-- The reasons, in the order in which they are first met. -/
def whysOf (ps : List Pr) : List (List UInt8) := ps.foldl (fun ys p => if p.2 ∈ ys then ys else ys ++ [p.2]) []
/-- The grants not held for y. -/
def grantsOf (y : List UInt8) (ps : List Pr) : List (List UInt8) := (ps.filter fun p => p.2 = y).map (·.1)
def notHeldT : List UInt8 := [32, 110, 111, 116, 32, 104, 101, 108, 100, 58, 32]
/-- What is said of one reason. -/
def grp (ps : List Pr) (y : List UInt8) : List UInt8 := [59, 32] ++ names (grantsOf y ps) ++ notHeldT ++ y
def tailOf (ps : List Pr) (ys : List (List UInt8)) : List UInt8 := (ys.map (grp ps)).flatten
def tailT (ps : List Pr) : List UInt8 := tailOf ps (whysOf ps)

theorem whysOf_snoc (ps : List Pr) (p : Pr) : whysOf (ps ++ [p]) = if p.2 ∈ whysOf ps then whysOf ps else whysOf ps ++ [p.2] := by
  unfold whysOf
  rw [List.foldl_append]
  rfl

theorem mem_foldl_whys (ps : List Pr) (ys : List (List UInt8)) (y : List UInt8) : y ∈ ps.foldl (fun ys p => if p.2 ∈ ys then ys else ys ++ [p.2]) ys ↔ y ∈ ys ∨ ∃ p ∈ ps, p.2 = y := by
  induction ps generalizing ys with
  | nil => simp
  | cons p r ih =>
    rw [List.foldl_cons, ih]
    split
    · rename_i h
      constructor
      · rintro (h1 | ⟨q, hq, rfl⟩)
        · exact .inl h1
        · exact .inr ⟨q, List.mem_cons_of_mem _ hq, rfl⟩
      · rintro (h1 | ⟨q, hq, rfl⟩)
        · exact .inl h1
        · rcases List.mem_cons.1 hq with rfl | hq
          · exact .inl h
          · exact .inr ⟨q, hq, rfl⟩
    · constructor
      · rintro (h1 | ⟨q, hq, rfl⟩)
        · rcases List.mem_append.1 h1 with h1 | h1
          · exact .inl h1
          · exact .inr ⟨p, List.mem_cons_self, (List.mem_singleton.1 h1).symm⟩
        · exact .inr ⟨q, List.mem_cons_of_mem _ hq, rfl⟩
      · rintro (h1 | ⟨q, hq, rfl⟩)
        · exact .inl (List.mem_append_left _ h1)
        · rcases List.mem_cons.1 hq with rfl | hq
          · exact .inl (List.mem_append_right _ (List.mem_singleton.2 rfl))
          · exact .inr ⟨q, hq, rfl⟩

theorem mem_whysOf (ps : List Pr) (y : List UInt8) : y ∈ whysOf ps ↔ ∃ p ∈ ps, p.2 = y := by
  unfold whysOf
  rw [mem_foldl_whys]
  simp

theorem take_snoc {α : Type} (l : List α) (k : Nat) (x : α) (h : l[k]? = some x) : l.take (k + 1) = l.take k ++ [x] := by
  rw [List.take_add_one, h]; rfl

theorem grantsOf_snoc (y : List UInt8) (ps : List Pr) (p : Pr) : grantsOf y (ps ++ [p]) = if p.2 = y then grantsOf y ps ++ [p.1] else grantsOf y ps := by
  unfold grantsOf
  rw [List.filter_append, List.map_append]
  by_cases h : p.2 = y <;> simp [h]

theorem grantsOf_none (y : List UInt8) (ps : List Pr) (h : y ∉ whysOf ps) : grantsOf y ps = [] := by
  unfold grantsOf
  rw [List.map_eq_nil_iff, List.filter_eq_nil_iff]
  intro p hp hq
  exact h ((mem_whysOf ps y).2 ⟨p, hp, by simpa using hq⟩)

theorem grantsOf_drop (y : List UInt8) (ps : List Pr) (i : Nat) (h : y ∉ whysOf (ps.take i)) : grantsOf y (ps.drop i) = grantsOf y ps := by
  have e : grantsOf y ps = grantsOf y (ps.take i) ++ grantsOf y (ps.drop i) := by
    unfold grantsOf
    rw [← List.map_append, ← List.filter_append, List.take_append_drop]
  rw [e, grantsOf_none y _ h, List.nil_append]

theorem tailOf_snoc (ps : List Pr) (ys : List (List UInt8)) (y : List UInt8) : tailOf ps (ys ++ [y]) = tailOf ps ys ++ grp ps y := by
  simp [tailOf]

theorem whysOf_grow (a b : List Pr) : ∃ r, whysOf (a ++ b) = whysOf a ++ r := by
  induction b generalizing a with
  | nil => exact ⟨[], by simp⟩
  | cons p b ih =>
    obtain ⟨r, hr⟩ := ih (a ++ [p])
    rw [List.append_assoc, List.singleton_append, whysOf_snoc] at hr
    split at hr
    · exact ⟨r, hr⟩
    · exact ⟨p.2 :: r, by rw [hr]; simp⟩

theorem tailOf_app (ps : List Pr) (a b : List (List UInt8)) : tailOf ps (a ++ b) = tailOf ps a ++ tailOf ps b := by simp [tailOf]

/-- What has been written after i rounds is no longer than all. -/
theorem tail_le (ps : List Pr) (i : Nat) : (tailOf ps (whysOf (ps.take i))).length ≤ (tailT ps).length := by
  obtain ⟨r, hr⟩ := whysOf_grow (ps.take i) (ps.drop i)
  rw [List.take_append_drop] at hr
  unfold tailT
  rw [hr, tailOf_app, List.length_append]
  omega

theorem grants_le (y : List UInt8) (a b : List Pr) : (names (grantsOf y a)).length ≤ (names (grantsOf y (a ++ b))).length := by
  have e : grantsOf y (a ++ b) = grantsOf y a ++ grantsOf y b := by
    unfold grantsOf
    rw [List.filter_append, List.map_append]
  rw [e]
  exact names_mono _ _

def noneT : List UInt8 := [110, 111, 32, 114, 101, 115, 101, 114, 118, 101, 32, 103, 114, 97, 110, 116, 32, 104, 101, 108, 100]
def oneT : List UInt8 := [49, 32, 114, 101, 115, 101, 114, 118, 101, 32, 103, 114, 97, 110, 116, 32]
def manyT : List UInt8 := [32, 114, 101, 115, 101, 114, 118, 101, 32, 103, 114, 97, 110, 116, 115, 32]
/-- The figure's head. -/
def headT (held : Int) (over : List (List UInt8)) (within beyond : List UInt8) : List UInt8 :=
  if over ≠ [] then names over ++ [32] ++ beyond else if held = 1 then oneT ++ within else if held ≠ 0 then Lib.itoa held ++ manyT ++ within else noneT

end Go.Proofs.Qxb6616546aFmt
