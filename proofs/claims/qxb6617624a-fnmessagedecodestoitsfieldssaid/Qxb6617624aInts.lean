/-
  Slices of octets as the walks of this seat see them.
-/
import Derived.Test.Qxb6617624aRows
import Derived.Test.Qxb6617624aPlain
import Derived.WalkKit
import Derived.ProofKit
import Derived.OpenShut
import Derived.Below
import Derived.Laws.CopyOwn
import Derived.Laws.AppendOwnNone
import Derived.Deep.DeepCutAuto
import Derived.Deep.LoopGhost
import Derived.Deep.QuietTactic
import Derived.BigQuiet
import Derived.WalkSpells
import Derived.WalkSmall
import Derived.Outline
namespace Go.Proofs.Qxb6617624a
open Go.RowKit

theorem Try.info5 : (Try.prog.info? 5).map (fun i => (i.zero, i.size, i.bytes)) = some (some (.int .u8 0), 1, 1) := by kernel_rfl
theorem Try.info5s : (Try.prog.info? 5).map (·.size) = some 1 := by kernel_rfl

def ints (xs : List Int) : List Value := xs.map (Value.int .u8)

/-- A slice of octets that reads in w as zs, its cells in blocks below B. -/
def IntsAt (B : Nat) (w : World) (ao : Option Addr) (cap : Nat) (zs : List Int) : Prop :=
  (ao = none → zs = [] ∧ cap = 0) ∧ zs.length ≤ cap ∧ ∀ j z, zs[j]? = some z → ∃ b off, ao = some ⟨b, off, none⟩ ∧ b < B ∧ w.cell? ⟨b, off + j, none⟩ = some (.int .u8 z)

theorem IntsAt.mono {B B' : Nat} {w : World} {ao : Option Addr} {cap : Nat} {zs : List Int} (h : IntsAt B w ao cap zs) (hB : B ≤ B') : IntsAt B' w ao cap zs :=
  ⟨h.1, h.2.1, fun j z q => let ⟨b, off, h1, h2, h3⟩ := h.2.2 j z q; ⟨b, off, h1, Nat.lt_of_lt_of_le h2 hB, h3⟩⟩

theorem IntsAt.below {B B' : Nat} {w w' : World} {ao : Option Addr} {cap : Nat} {zs : List Int} (h : IntsAt B w ao cap zs) (k : Below B' w w') (hB : B ≤ B') : IntsAt B w' ao cap zs :=
  ⟨h.1, h.2.1, fun j z q => let ⟨b, off, h1, h2, h3⟩ := h.2.2 j z q; ⟨b, off, h1, h2, (k.cell (Nat.lt_of_lt_of_le h2 hB)).trans h3⟩⟩

theorem IntsAt.nil (B : Nat) (w : World) : IntsAt B w none 0 [] := ⟨fun _ => ⟨rfl, rfl⟩, by simp, fun j s h => by simp at h⟩

theorem IntsAt.at {B : Nat} {w : World} {ao : Option Addr} {cap : Nat} {zs : List Int} (h : IntsAt B w ao cap zs) (hp : 0 < zs.length) :
    ∃ b off, ao = some ⟨b, off, none⟩ ∧ b < B ∧ ∀ j z, zs[j]? = some z → w.cell? ⟨b, off + j, none⟩ = some (.int .u8 z) := by
  obtain ⟨b, off, h1, hb, _⟩ := h.2.2 0 zs[0] (List.getElem?_eq_getElem hp)
  refine ⟨b, off, h1, hb, fun j z hj => ?_⟩
  obtain ⟨b', off', h1', _, h2'⟩ := h.2.2 j z hj
  rw [h1] at h1'
  simp at h1'
  obtain ⟨rfl, rfl⟩ := h1'
  exact h2'

theorem ints_one (zs : List Int) : ∀ u ∈ ints zs, u.oneCell' = true := by
  intro u hu
  obtain ⟨_, _, rfl⟩ := List.mem_map.1 hu
  rfl

theorem IntsAt.news {B : Nat} {w : World} {ad : Addr} {cap : Nat} {zs : List Int} (h : IntsAt B w (some ad) cap zs) : ∀ j u, (ints zs)[j]? = some u → w.cell? (ad.add j) = some u := by
  intro j u hu
  unfold ints at hu
  rw [List.getElem?_map] at hu
  obtain ⟨s, hs, rfl⟩ := Option.map_eq_some_iff.1 hu
  obtain ⟨b, off, h1, _, h2⟩ := h.2.2 j s hs
  cases h1
  rw [Addr.add_lit]
  exact h2

/-- v owns the octets xs, in blocks from B on. -/
def Own (w : World) (B : Nat) (v : Value) (xs : List Int) : Prop := w.ownsRow B 5 1 v xs.length (ints xs) ∧ B ≤ w.heap.size

theorem Own.nil (w : World) (B : Nat) (h : B ≤ w.heap.size) : Own w B (.slice none 0 0) [] := ⟨World.ownsRow_nil _ _ _ _, h⟩

theorem Own.reads {w : World} {B : Nat} {v : Value} {xs : List Int} (h : Own w B v xs) : ∃ ao cap, v = .slice ao xs.length cap ∧ IntsAt w.heap.size w ao cap xs := by
  obtain ⟨hl, h2⟩ := h.1
  rcases h2 with ⟨hv, hn⟩ | ⟨g', cap', cur, hv, hb, hh, hc, _⟩
  · have : xs = [] := List.eq_nil_of_length_eq_zero hn
    subst this
    exact ⟨none, 0, hv, IntsAt.nil _ _⟩
  · subst hv
    refine ⟨_, _, rfl, fun q => (by cases q), hc, fun j z hj => ⟨g', 0, rfl, (Array.getElem?_eq_some_iff.1 hh).1, ?_⟩⟩
    have := h.1.cells (g := g') rfl j (.int .u8 z) (by simp [ints, hj])
    simpa [Addr.add_lit] using this

/-- 'append(b, x)': x lies in a block of its own. -/
theorem wpList_append_byte (w : World) (x : Int) {ops : Array Oper} {rest : List Oper} {o : Oper} {a : Act} {Q : Exit → Act → World → Prop} (hgd : o.guard = none) (s y : Operand)
    (ho : o.op = .call { callee := .builtin .append, args := #[s, y], argTypes := #[22, 22] })
    (B : Nat) (v : Value) (xs : List Int) (hs : a.eval s = v) (hown : Own w B v xs)
    (hy : a.eval y = .slice (some ⟨w.heap.size, 0, none⟩) 1 1) (hb : xs.length + 1 ≤ 100000000)
    (h : ∀ v' w', Own w' B v' (xs ++ [x]) → Below B w w' → wpList Try.prog ops Q rest (a.put o.dst v') w') : wpList Try.prog ops Q (o :: rest) a (w.alloc (.cells #[.int .u8 x] 5)) := by
  obtain ⟨i0, hi, hz0, hz1, hz2⟩ := info_parts Try.info5
  refine wpList_append_own _ hgd s y 22 ho B 5 i0 (.int .u8 0) 1 1 Try.underlying22 hi hz0 hz1 hz2 rfl (by decide) v _ _ hs (hown.1.alloc _) ⟨w.heap.size, 0, none⟩ 1 1 [.int .u8 x] hy rfl (cell_one_new _ _ _) (ints_oneCell .u8 [x]) (by unfold maxLen; omega) (by omega) (by have := hown.2; simp; omega) ?_
  intro v' w' r1 r2 _
  have hb1 : Below B w (w.alloc (.cells #[.int .u8 x] 5)) := (Below.refl _ _).alloc hown.2 _
  have hb2 : Below B w w' := hb1.grown r2 (by have := hown.2; simp; omega) (fun k hk => (hown.1.lt k hk).1)
  refine h v' w' ⟨?_, Nat.le_trans hown.2 hb2.size⟩ hb2
  simpa [ints] using r1

/-- 'append(b, content...)'. -/
theorem wpList_append_ints (w : World) {ops : Array Oper} {rest : List Oper} {o : Oper} {a : Act} {Q : Exit → Act → World → Prop} (hgd : o.guard = none) (s y : Operand)
    (ho : o.op = .call { callee := .builtin .append, args := #[s, y], argTypes := #[22, 22] })
    (B : Nat) (v : Value) (xs : List Int) (hs : a.eval s = v) (hown : Own w B v xs)
    (ao : Option Addr) (c : Nat) (zs : List Int) (hy : a.eval y = .slice ao zs.length c) (B' : Nat) (hz : IntsAt B' w ao c zs) (hb : xs.length + zs.length ≤ 100000000)
    (h : ∀ v' w', Own w' B v' (xs ++ zs) → Below B w w' → wpList Try.prog ops Q rest (a.put o.dst v') w') : wpList Try.prog ops Q (o :: rest) a w := by
  obtain ⟨i0, hi, hz0, hz1, hz2⟩ := info_parts Try.info5
  cases ao with
  | none =>
    obtain ⟨rfl, rfl⟩ := hz.1 rfl
    exact wpList_append_own_none hgd s y 22 ho B 5 i0 1 Try.underlying22 hi v _ _ hs hown.1 hy (h v w (by simpa using hown) (Below.refl _ _))
  | some ad =>
    refine wpList_append_own w hgd s y 22 ho B 5 i0 (.int .u8 0) 1 1 Try.underlying22 hi hz0 hz1 hz2 rfl (by decide) v _ _ hs hown.1 ad zs.length c (ints zs) hy (by simp [ints]) hz.news (ints_one zs) (by unfold maxLen; omega) (by omega) hown.2 ?_
    intro v' w' r1 r2 _
    have hb2 : Below B w w' := (Below.refl B w).grown r2 hown.2 (fun k hk => (hown.1.lt k hk).1)
    refine h v' w' ⟨?_, Nat.le_trans hown.2 hb2.size⟩ hb2
    simpa [ints] using r1

#print axioms wpList_append_ints
end Go.Proofs.Qxb6617624a
