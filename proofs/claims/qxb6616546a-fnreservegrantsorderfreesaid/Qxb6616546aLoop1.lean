/-
  reserveGrants, the first loop's state.
-/
import Derived.Test.Qxb6616546aFam
import Derived.Test.Qxb6616546aBuild
import Derived.Test.Qxb6616546aInt9
namespace Go.Proofs.Qxb6616546a
open Go.RowKit
set_option linter.unusedVariables false

/-- At the head of the first loop: j awards are summed. -/
def Lp1 (w0 : World) (M : Nat) (rs : List Row) (j : Nat) (wr : World) : Prop :=
  ∃ bv ov val, Sta w0 wr M j (InK (rs.take j)) (fun i => ∃ y, i = .k y ∧ InK (rs.take j) y) bv ov val ∧ ∀ y, InK (rs.take j) y → val (.k y) = gsum y (rs.take j)

/-- Inside the round: the sum's pointer is at hand. -/
def Mid1 (w0 : World) (M : Nat) (rs : List Row) (j : Nat) (y : ByteArray) (pv : Value) (wx : World) : Prop :=
  ∃ bv ov val, Sta w0 wx M (j + 1) (InK (rs.take (j + 1))) (fun i => ∃ y, i = .k y ∧ InK (rs.take (j + 1)) y) bv ov val ∧ (∀ z, InK (rs.take (j + 1)) z → val (.k z) = gsum z (rs.take j)) ∧ pv = .pointer (some ⟨bv (.k y), 0, none⟩)

theorem Sta.congr {w0 w : World} {M n : Nat} {ks ks' : ByteArray → Prop} {K K' : Ix → Prop} {bv : Ix → Nat} {ov : Ix → Option (Nat × Nat)} {val : Ix → Int} (h : Sta w0 w M n ks K bv ov val) (h1 : ∀ y, ks y ↔ ks' y) (h2 : ∀ i, K i ↔ K' i) : Sta w0 w M n ks' K' bv ov val := by
  obtain rfl : ks = ks' := funext fun y => propext (h1 y)
  obtain rfl : K = K' := funext fun y => propext (h2 y)
  exact h

theorem Lp1.start (w0 w : World) (hb : Below w0.heap.size w0 w) (rs : List Row) : Lp1 w0 w.heap.size rs 0 (w.alloc (.map #[] 0)) := by
  have hn : ∀ y, ¬ InK (rs.take 0) y := fun y ⟨r, hr, _⟩ => by simp at hr
  refine ⟨fun _ => 0, fun _ => none, fun _ => 0, ⟨⟨?_, ?_, ?_⟩, ?_, ⟨_, World.ownsMap_made _ _ _ _, fun y => ?_, fun y => ?_⟩, hb.alloc hb.size _, hb.size⟩, fun y q => absurd q (hn y)⟩
  · rintro i ⟨y, _, q⟩; exact absurd q (hn y)
  · rintro i ⟨y, _, q⟩; exact absurd q (hn y)
  · rintro i j ⟨y, _, q⟩; exact absurd q (hn y)
  · intro y; exact ⟨fun ⟨z, _, q⟩ => absurd q (hn z), fun q => absurd q (hn y)⟩
  · rw [dec_false (hn y)]; simp [Maps.has_eq]
  · simp only [pvOf, hn y, if_false]
    rfl

section
variable {w0 wr : World} {M j : Nat} {rs : List Row}

theorem Lp1.below (h : Lp1 w0 M rs j wr) : Below w0.heap.size w0 wr := let ⟨_, _, _, h, _⟩ := h; h.below

/-- No grant: the row changes nothing. -/
theorem Lp1.skip (h : Lp1 w0 M rs j wr) (x : Row) (hx : rs[j]? = some x) (hg : x.g = false) : Lp1 w0 M rs (j + 1) wr := by
  obtain ⟨bv, ov, val, h1, h2⟩ := h
  have e := take_snoc rs j x hx
  have hk : ∀ y, InK (rs.take j) y ↔ InK (rs.take (j + 1)) y := fun y => by rw [e, InK_snoc, hg]; simp
  have hs : ∀ y, gsum y (rs.take (j + 1)) = gsum y (rs.take j) := fun y => by rw [e, gsum_snoc, hg]; simp
  refine ⟨bv, ov, val, (h1.mono (Nat.le_succ j)).congr hk (fun i => ?_), fun y hy => ?_⟩
  · exact ⟨fun ⟨y, q, r⟩ => ⟨y, q, (hk y).1 r⟩, fun ⟨y, q, r⟩ => ⟨y, q, (hk y).2 r⟩⟩
  · rw [hs]; exact h2 y ((hk y).2 hy)

/-- The look-up. -/
theorem Lp1.look (h : Lp1 w0 M rs j wr) (y : ByteArray) (hy : y.size ≤ 9223372036854775807) : ∃ pv ok, (Instr.lookup 73 (.map (some M)) (.string y) true).run Try.prog wr = .ok (.tuple #[pv, .bool ok]) wr ∧
    (ok = true → ∀ x, rs[j]? = some x → x.g = true → x.of = y → Mid1 w0 M rs j y pv wr) ∧ (ok = false → ¬ InK (rs.take j) y) := by
  obtain ⟨bv, ov, val, h1, h2⟩ := h
  refine ⟨_, _, h1.look y hy, fun ok x hx hg ho => ?_, fun ok => of_dec_false ok⟩
  have hin := of_dec ok
  have e := take_snoc rs j x hx
  have hk : ∀ z, InK (rs.take j) z ↔ InK (rs.take (j + 1)) z := fun z => by
    rw [e, InK_snoc]
    exact ⟨.inl, fun q => q.elim id (fun q => by rw [← q.2, ho]; exact hin)⟩
  refine ⟨bv, ov, val, (h1.mono (Nat.le_succ j)).congr hk (fun i => ?_), fun z hz => h2 z ((hk z).2 hz), by simp [pvOf, hin]⟩
  exact ⟨fun ⟨y, q, r⟩ => ⟨y, q, (hk y).1 r⟩, fun ⟨y, q, r⟩ => ⟨y, q, (hk y).2 r⟩⟩

/-- The first grant from y. -/
theorem Lp1.new (h : Lp1 w0 M rs j wr) (hj : j ≤ 4096) (x : Row) (hx : rs[j]? = some x) (hg : x.g = true) (hy : x.of.size ≤ 9223372036854775807) (hn : ¬ InK (rs.take j) x.of) :
    ∃ w2, (Instr.mapUpdate 73 (.map (some M)) (.string x.of) (.pointer (some ⟨wr.heap.size, 0, none⟩))).run Try.prog (wr.alloc (.cells #[.bool false, .slice none 0 0] 38)) = .ok () w2 ∧ Mid1 w0 M rs j x.of (.pointer (some ⟨wr.heap.size, 0, none⟩)) w2 := by
  obtain ⟨bv, ov, val, h1, h2⟩ := h
  obtain ⟨w2, hr, h3⟩ := h1.new x.of hy (by unfold maxLen; omega) hn
  have e := take_snoc rs j x hx
  have hk : ∀ z, (InK (rs.take j) z ∨ z = x.of) ↔ InK (rs.take (j + 1)) z := fun z => by
    rw [e, InK_snoc]
    exact ⟨fun q => q.imp id (fun q => ⟨hg, q.symm⟩), fun q => q.imp id (fun q => q.2.symm)⟩
  refine ⟨w2, hr, _, _, _, h3.congr hk (fun i => ?_), fun z hz => ?_, by rw [updX_same]⟩
  · constructor
    · rintro (⟨y, q, r⟩ | q)
      · exact ⟨y, q, (hk y).1 (.inl r)⟩
      · exact ⟨x.of, q, (hk x.of).1 (.inr rfl)⟩
    · rintro ⟨y, q, r⟩
      rcases (hk y).2 r with r | r
      · exact .inl ⟨y, q, r⟩
      · exact .inr (by rw [q, r])
  · by_cases ez : z = x.of
    · subst ez
      rw [updX_same, gsum_none hn]
    · rw [updX_other _ _ (fun q => ez (by injection q))]
      exact h2 z (((hk z).2 hz).elim id (fun q => absurd q ez))

/-- The sum takes the quantity. -/
theorem Mid1.add {pv : Value} {x : Row} (h : Mid1 w0 M rs j x.of pv wr) (hx : rs[j]? = some x) (hg : x.g = true) (hl : rs.length ≤ 4096) (hF : Fits rs) :
    ∃ b, pv = .pointer (some ⟨b, 0, none⟩) ∧ Below w0.heap.size w0 wr ∧
      ∀ e1 w1, GivesNew wr w1 x.q e1 → ∃ c, e1 = .returned (.pointer (some ⟨c, 0, none⟩)) ∧ Calls Try.prog 8 #[.pointer (some ⟨b, 0, none⟩), .pointer (some ⟨b, 0, none⟩), .pointer (some ⟨c, 0, none⟩)] w1 fun e w' => e = .returned (.pointer (some ⟨b, 0, none⟩)) ∧ Lp1 w0 M rs (j + 1) w' := by
  obtain ⟨bv, ov, val, h1, h2, rfl⟩ := h
  have ht := take_snoc rs j x hx
  have hj : j < rs.length := (List.getElem?_eq_some_iff.1 hx).1
  have hin : InK (rs.take (j + 1)) x.of := by rw [ht, InK_snoc]; exact .inr ⟨hg, rfl⟩
  have hK : (fun i => ∃ y, i = Ix.k y ∧ InK (rs.take (j + 1)) y) (.k x.of) := ⟨_, rfl, hin⟩
  refine ⟨_, rfl, h1.below, fun e1 w1 hn => ?_⟩
  obtain ⟨c, o, he, hc, hc1, hc2, hon⟩ := hn
  refine ⟨c, he, ?_⟩
  have hb1 : Below wr.heap.size wr w1 := ⟨hon.os, hon.tape, hon.output, hon.size, fun k hk => hon.block k hk (fun q => q)⟩
  have h3 := h1.grow hb1
  have hcl : ∀ k, SB c o k → wr.heap.size ≤ k := fun k q => q.elim (fun q => by omega) (fun ⟨cap, q⟩ => hc2 k cap q)
  have hbig := h3.fam.big (.k x.of) hK
  have hq := hF x (List.mem_of_getElem? hx)
  have hv := h2 x.of hin
  have hle := gsum_le x.of (rs.take j) (hF.take j)
  have hlt : (rs.take j).length ≤ 4096 := by rw [List.length_take]; omega
  have hlm := Nat.mul_le_mul_right 9223372036854775808 hlt
  refine Calls.mono (intAdd_any _ c _ x.q _ o w1 hbig hc (fun k q r => ?_) (by rw [hv]; omega) (by omega)) (fun e w' h => ⟨h.1, ?_⟩)
  · have := (h1.fam.big (.k x.of) hK).lt q
    have := hcl k r
    omega
  · obtain ⟨o', h4⟩ := h3.set (.k x.of) hK h.2
    refine ⟨_, _, _, h4, fun y hy => ?_⟩
    by_cases ey : y = x.of
    · subst ey
      rw [updX_same, hv, ht, gsum_snoc, if_pos ⟨hg, rfl⟩]
    · rw [updX_other _ _ (fun q => ey (by injection q)), h2 y hy, ht, gsum_snoc, if_neg (fun q => ey q.2.symm)]
      omega
end
end Go.Proofs.Qxb6616546a
