import Derived.Test.Qxb6616546aInt5
import Derived.Test.Qxb6616546aInt6
import Derived.Test.Qxb6616546aInt7
import Derived.Test.Qxb6616546aInt8
namespace Go.Proofs.Qxb6616546a
open Go.RowKit
set_option linter.unusedVariables false

theorem nat_of_ival {neg : Bool} {n k : Nat} (h : (ival neg n).natAbs < k) : n < k := by
  unfold ival at h
  cases neg <;> simp at h <;> omega

/-- THE SUM IS SET INTO ITS FIRST TERM. -/
theorem intAdd_any (b c : Nat) (x y : Int) (ox oy : Option (Nat × Nat)) (w : World) (hx : BigAt w b x ox) (hy : BigAt w c y oy) (hap : ∀ k, SB b ox k → ¬ SB c oy k) (lx : x.natAbs < 85070591730234615865843651857942052864) (ly : y.natAbs < 85070591730234615865843651857942052864) :
    Calls Try.prog 8 #[.pointer (some ⟨b, 0, none⟩), .pointer (some ⟨b, 0, none⟩), .pointer (some ⟨c, 0, none⟩)] w fun e w' => GivesB w w' b (x + y) ox e := by
  obtain ⟨neg, v, len, f, hb, hv, hn, hs, rfl⟩ := hx
  obtain ⟨neg', v', len', f', hb', hv', hn', hs', rfl⟩ := hy
  have hap' : ∀ g k k', ox = some (g, k) → oy ≠ some (g, k') := fun g k k' h1 h2 => hap g (.inr ⟨k, h1⟩) (.inr ⟨k', h2⟩)
  by_cases e : neg' = neg
  · subst e
    have e : ival neg' (nval len f) + ival neg' (nval len' f') = ival neg' (nval len f + nval len' f') := by unfold ival; cases neg' <;> simp <;> omega
    rw [e]
    exact intAdd_same b c len len' neg' v v' ox oy f f' w hb hb' hv hv' hn hn' hs hap' (nat_of_ival lx) (nat_of_ival ly)
  · obtain rfl : neg' = !neg := by cases neg <;> cases neg' <;> simp at e ⊢
    by_cases hle : nval len' f' ≤ nval len f
    · have e : ival neg (nval len f) + ival (!neg) (nval len' f') = ival neg (nval len f - nval len' f') := by unfold ival; cases neg <;> simp <;> omega
      rw [e]
      exact intAdd_ge b c len len' neg v v' ox oy f f' w hb hb' hv hv' hn hn' hs hap' hle
    · have e : ival neg (nval len f) + ival (!neg) (nval len' f') = ival (!neg) (nval len' f' - nval len f) := by unfold ival; cases neg <;> simp <;> omega
      rw [e]
      exact intAdd_lt b c len len' neg v v' ox oy f f' w hb hb' hv hv' hn hn' hs hap' (by omega)

/-- THE DIFFERENCE IS SET INTO ITS FIRST TERM. -/
theorem intSub_any (b c : Nat) (x y : Int) (ox oy : Option (Nat × Nat)) (w : World) (hx : BigAt w b x ox) (hy : BigAt w c y oy) (hap : ∀ k, SB b ox k → ¬ SB c oy k) (lx : x.natAbs < 85070591730234615865843651857942052864) (ly : y.natAbs < 85070591730234615865843651857942052864) :
    Calls Try.prog 23 #[.pointer (some ⟨b, 0, none⟩), .pointer (some ⟨b, 0, none⟩), .pointer (some ⟨c, 0, none⟩)] w fun e w' => GivesB w w' b (x - y) ox e := by
  obtain ⟨neg, v, len, f, hb, hv, hn, hs, rfl⟩ := hx
  obtain ⟨neg', v', len', f', hb', hv', hn', hs', rfl⟩ := hy
  have hap' : ∀ g k k', ox = some (g, k) → oy ≠ some (g, k') := fun g k k' h1 h2 => hap g (.inr ⟨k, h1⟩) (.inr ⟨k', h2⟩)
  by_cases e : neg' = neg
  · subst e
    by_cases hle : nval len' f' ≤ nval len f
    · have e : ival neg' (nval len f) - ival neg' (nval len' f') = ival neg' (nval len f - nval len' f') := by unfold ival; cases neg' <;> simp <;> omega
      rw [e]
      exact intSub_ge b c len len' neg' v v' ox oy f f' w hb hb' hv hv' hn hn' hs hap' hle
    · have e : ival neg' (nval len f) - ival neg' (nval len' f') = ival (!neg') (nval len' f' - nval len f) := by unfold ival; cases neg' <;> simp <;> omega
      rw [e]
      exact intSub_lt b c len len' neg' v v' ox oy f f' w hb hb' hv hv' hn hn' hs hap' (by omega)
  · obtain rfl : neg' = !neg := by cases neg <;> cases neg' <;> simp at e ⊢
    have e : ival neg (nval len f) - ival (!neg) (nval len' f') = ival neg (nval len f + nval len' f') := by unfold ival; cases neg <;> simp <;> omega
    rw [e]
    exact intSub_same b c len len' neg v v' ox oy f f' w hb hb' hv hv' hn hn' hs hap' (nat_of_ival lx) (nat_of_ival ly)
end Go.Proofs.Qxb6616546a
