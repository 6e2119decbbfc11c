import Derived.Test.Qxb6616546aSub2
namespace Go.Proofs.Qxb6616546a
open Go.RowKit
set_option linter.unusedVariables false

/-- The number that a sign and words stand for. -/
def ival (neg : Bool) (n : Nat) : Int := if neg then -(n : Int) else (n : Int)
/-- THE big.Int IN BLOCK b READS AS z; its words lie in o. -/
def BigAt (w : World) (b : Nat) (z : Int) (o : Option (Nat × Nat)) : Prop :=
  ∃ neg v len f, w.heap[b]? = some (.cells #[.bool neg, v] 38 (0, 0)) ∧ NV w v len o f ∧ Nrm len f ∧ (neg = true → nval len f ≠ 0) ∧ ival neg (nval len f) = z

theorem BigAt.zero_alloc (w : World) : BigAt (w.alloc (.cells #[.bool false, .slice none 0 0] 38)) w.heap.size 0 none :=
  ⟨false, .slice none 0 0, 0, zeroF, heap_alloc_new w _, ⟨fun _ => by simp [zeroF], rfl, rfl⟩, ⟨by omega, by omega, by omega⟩, by simp, rfl⟩

/-- What NewInt gives: a new big.Int. -/
def GivesNew (w w' : World) (z : Int) (e : Ending) : Prop :=
  ∃ b o, e = .returned (.pointer (some ⟨b, 0, none⟩)) ∧ BigAt w' b z o ∧ w.heap.size ≤ b ∧ (∀ g c, o = some (g, c) → w.heap.size ≤ g) ∧ Only (fun _ => False) w w'

theorem new_one (w : World) (neg : Bool) (n : Nat) (h0 : 0 < n) (h1 : n < 18446744073709551616) :
    GivesNew w ((w.alloc (.cells #[.int .u64 (n : Int)] 72)).alloc (.cells #[.bool neg, .slice (some ⟨w.heap.size, 0, none⟩) 1 1] 38)) (ival neg n) (.returned (.pointer (some ⟨w.heap.size + 1, 0, none⟩))) := by
  have hs : (w.alloc (.cells #[.int .u64 (n : Int)] 72)).heap.size = w.heap.size + 1 := by simp
  have e : wcs 1 (updN zeroF 0 n) = #[.int .u64 (n : Int)] := by simp [wcs, updN]
  have hr : WRow ((w.alloc (.cells #[.int .u64 (n : Int)] 72)).alloc (.cells #[.bool neg, .slice (some ⟨w.heap.size, 0, none⟩) 1 1] 38)) w.heap.size 1 (updN zeroF 0 n) := by
    unfold WRow
    rw [Below.heap_alloc _ _ _ (by rw [hs]; omega), e]
    exact heap_alloc_new w _
  refine ⟨w.heap.size + 1, some (w.heap.size, 1), rfl, ⟨neg, _, 1, updN zeroF 0 n, ?_, NV.mk hr (by omega) (by omega) (fun j => ?_), ⟨by omega, fun _ => by simp [updN]; omega, by omega⟩, fun _ => by rw [nval1]; simp [updN]; omega, by rw [nval1]; simp [updN]⟩, by omega, fun g c q => ?_, ?_⟩
  · have := heap_alloc_new (w.alloc (.cells #[.int .u64 (n : Int)] 72)) (.cells #[.bool neg, .slice (some ⟨w.heap.size, 0, none⟩) 1 1] 38)
    rw [hs] at this
    exact this
  · unfold updN zeroF
    split
    · exact h1
    · omega
  · cases q; exact Nat.le_refl _
  · exact ⟨rfl, rfl, rfl, by simp; omega, fun k hk _ => (Below.heap_alloc _ _ _ (by rw [hs]; omega)).trans (Below.heap_alloc w _ k hk)⟩

set_option maxHeartbeats 1000000 in
set_option maxRecDepth 100000 in
theorem newInt_any (x : Int) (w : World) (h0 : -9223372036854775808 ≤ x) (h1 : x ≤ 9223372036854775807) :
    Calls Try.prog 9 #[.int .i64 x] w fun e w' => GivesNew w w' x e := by
  rcases (show x < 0 ∨ x = 0 ∨ 0 < x by omega) with h | h | h
  · have hb : (x == 0) = false := by simp; omega
    have hw : IntKind.u64.wrap (-IntKind.u64.wrap x) = ((x.natAbs : Nat) : Int) := by
      rw [IntKind.wrap_u64, IntKind.wrap_u64]; omega
    have H : Hid _ := new_one w true x.natAbs (by omega) (by omega)
    have e : ival true x.natAbs = x := by unfold ival; simp; omega
    go_enter Try.func9, Try.ntmps9
    go_wp2
    go_ret
    have := H.out
    rw [e] at this
    exact this
  · subst h
    go_enter Try.func9, Try.ntmps9
    go_wp2
    go_ret
    exact ⟨w.heap.size, none, rfl, BigAt.zero_alloc w, Nat.le_refl _, (fun g c q => nomatch q), ⟨rfl, rfl, rfl, by simp, fun k hk _ => Below.heap_alloc w _ k hk⟩⟩
  · obtain ⟨n, rfl⟩ := Int.eq_ofNat_of_zero_le (Int.le_of_lt h)
    have hb : ((n : Int) == 0) = false := by simp; omega
    have hd : decide ((n : Int) < 0) = false := by simp
    have H : Hid _ := new_one w false n (by omega) (by omega)
    go_enter Try.func9, Try.ntmps9
    go_wp2
    go_ret
    exact H.out
end Go.Proofs.Qxb6616546a
