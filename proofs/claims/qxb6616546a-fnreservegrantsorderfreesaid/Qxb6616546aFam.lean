/-
  A family of big.Ints that lie apart, and the map that names some of them.
-/
import Derived.Test.Qxb6616546aPlain
import Derived.Test.Qxb6616546aInt2
import Derived.Maps.Keyed
import Derived.Maps.Views
import Derived.Maps.OwnSet
import Derived.StringKeys
namespace Go.Proofs.Qxb6616546a
open Go.RowKit Go.Maps Go.WideShapes Go.WideMaps
set_option linter.unusedVariables false

inductive Ix where
  | k (y : ByteArray)
  | G
  | R
  | L

noncomputable def updX {α : Type} (f : Ix → α) (i : Ix) (v : α) : Ix → α := fun j => by classical exact if j = i then v else f j
theorem updX_same {α : Type} (f : Ix → α) (i : Ix) (v : α) : updX f i v i = v := by simp [updX]
theorem updX_other {α : Type} (f : Ix → α) {i j : Ix} (v : α) (h : j ≠ i) : updX f i v j = f j := by simp [updX, h]

/-- A block of a big.Int or of its words. -/
def IsBig (ob : Obj) : Prop := ∃ cs t fr, ob = .cells cs t fr ∧ (t = 38 ∨ t = 72)
theorem BigAt.blk {w : World} {b : Nat} {z : Int} {o : Option (Nat × Nat)} (h : BigAt w b z o) {k : Nat} (hk : SB b o k) : ∃ ob, w.heap[k]? = some ob ∧ IsBig ob := by
  obtain ⟨neg, v, len, f, hb, hv, hn, hs, rfl⟩ := h
  rcases hk with rfl | ⟨cap, rfl⟩
  · exact ⟨_, hb, _, _, _, rfl, .inl rfl⟩
  · exact ⟨_, hv.some.2.2.2, _, _, _, rfl, .inr rfl⟩
theorem BigAt.lt {w : World} {b : Nat} {z : Int} {o : Option (Nat × Nat)} (h : BigAt w b z o) {k : Nat} (hk : SB b o k) : k < w.heap.size := by
  obtain ⟨ob, q, _⟩ := h.blk hk
  exact (Array.getElem?_eq_some_iff.1 q).1
theorem BigAt.kept {w w' : World} {b : Nat} {z : Int} {o : Option (Nat × Nat)} (h : BigAt w b z o) (hk : ∀ k, SB b o k → w'.heap[k]? = w.heap[k]?) : BigAt w' b z o := by
  obtain ⟨neg, v, len, f, hb, hv, hn, hs, rfl⟩ := h
  refine ⟨neg, v, len, f, (hk b (.inl rfl)).trans hb, ⟨hv.1, ?_⟩, hn, hs, rfl⟩
  match o, hv, hk with
  | some (g, cap), hv, hk =>
    obtain ⟨a1, a2, a3, a4⟩ := hv.some
    exact ⟨a1, a2, a3, (hk g (.inr ⟨cap, rfl⟩)).trans a4⟩
  | none, hv, hk => exact hv.none

/-- The big.Ints named by K lie apart, from block B on. -/
structure Fam (w : World) (B : Nat) (K : Ix → Prop) (bv : Ix → Nat) (ov : Ix → Option (Nat × Nat)) (val : Ix → Int) : Prop where
  big : ∀ i, K i → BigAt w (bv i) (val i) (ov i)
  base : ∀ i, K i → ∀ k, SB (bv i) (ov i) k → B ≤ k
  apart : ∀ i j, K i → K j → i ≠ j → ∀ k, SB (bv i) (ov i) k → ¬ SB (bv j) (ov j) k

theorem Fam.kept {w w' : World} {B : Nat} {K : Ix → Prop} {bv : Ix → Nat} {ov : Ix → Option (Nat × Nat)} {val : Ix → Int} (h : Fam w B K bv ov val) (hk : ∀ (k : Nat) (ob : Obj), w.heap[k]? = some ob → IsBig ob → w'.heap[k]? = some ob) : Fam w' B K bv ov val :=
  ⟨fun i hi => (h.big i hi).kept (fun k q => by obtain ⟨ob, e, hb⟩ := (h.big i hi).blk q; rw [hk k ob e hb, e]), h.base, h.apart⟩

theorem Fam.set {w w' : World} {B : Nat} {K : Ix → Prop} {bv : Ix → Nat} {ov : Ix → Option (Nat × Nat)} {val : Ix → Int} (h : Fam w B K bv ov val) (i : Ix) (hi : K i) {z : Int} (hB : B ≤ w.heap.size) (hr : BRes w w' (bv i) z (ov i)) :
    ∃ o', Fam w' B K bv (updX ov i o') (updX val i z) := by
  obtain ⟨o', hbig, hon, ho⟩ := hr
  have hsb : ∀ k, SB (bv i) o' k → SB (bv i) (ov i) k ∨ w.heap.size ≤ k := by
    rintro k (q | ⟨cap, q⟩)
    · exact .inl (.inl q)
    · rcases ho with e | ⟨g, c, e, hg⟩
      · rw [e] at q; exact .inl (.inr ⟨cap, q⟩)
      · rw [e] at q; simp at q; exact .inr (by omega)
  refine ⟨o', fun j hj => ?_, fun j hj k => ?_, fun j l hj hl hne k => ?_⟩
  · by_cases e : j = i
    · subst e; rw [updX_same, updX_same]; exact hbig
    · rw [updX_other _ _ e, updX_other _ _ e]
      refine (h.big j hj).kept (fun k q => hon.block k ((h.big j hj).lt q) (h.apart j i hj hi e k q))
  · by_cases e : j = i
    · subst e; rw [updX_same]
      intro q
      rcases hsb k q with q | q
      · exact h.base j hj k q
      · omega
    · rw [updX_other _ _ e]; exact h.base j hj k
  · by_cases e : j = i
    · subst e
      rw [updX_same, updX_other _ _ (Ne.symm hne)]
      intro q r
      rcases hsb k q with q | q
      · exact h.apart j l hj hl hne k q r
      · have := (h.big l hl).lt r; omega
    · rw [updX_other _ _ e]
      by_cases e' : l = i
      · subst e'
        rw [updX_same]
        intro q r
        rcases hsb k r with r | r
        · exact h.apart j l hj hl hne k q r
        · have := (h.big j hj).lt q; omega
      · rw [updX_other _ _ e']
        exact h.apart j l hj hl hne k

/-- A new big.Int joins. -/
theorem Fam.add {w w' : World} {B : Nat} {K : Ix → Prop} {bv : Ix → Nat} {ov : Ix → Option (Nat × Nat)} {val : Ix → Int} (h : Fam w B K bv ov val) (i : Ix) (hi : ¬ K i) {b : Nat} {z : Int} {o : Option (Nat × Nat)} (hB : B ≤ w.heap.size) (hn : BigAt w' b z o) (hf : ∀ k, SB b o k → w.heap.size ≤ k) (hk : ∀ k, k < w.heap.size → w'.heap[k]? = w.heap[k]?) :
    Fam w' B (fun j => K j ∨ j = i) (updX bv i b) (updX ov i o) (updX val i z) := by
  have hne : ∀ j, K j → j ≠ i := fun j hj e => hi (e ▸ hj)
  refine ⟨fun j hj => ?_, fun j hj k => ?_, fun j l hj hl hjl k => ?_⟩
  · rcases hj with hj | rfl
    · have e := hne j hj
      rw [updX_other _ _ e, updX_other _ _ e, updX_other _ _ e]
      exact (h.big j hj).kept (fun k q => hk k ((h.big j hj).lt q))
    · rw [updX_same, updX_same, updX_same]; exact hn
  · rcases hj with hj | rfl
    · have e := hne j hj
      rw [updX_other _ _ e, updX_other _ _ e]
      exact h.base j hj k
    · rw [updX_same, updX_same]; intro q; have := hf k q; omega
  · rcases hj with hj | rfl
    · have e := hne j hj
      rw [updX_other _ _ e, updX_other _ _ e]
      rcases hl with hl | rfl
      · have e' := hne l hl
        rw [updX_other _ _ e', updX_other _ _ e']
        exact h.apart j l hj hl hjl k
      · rw [updX_same, updX_same]
        intro q r
        have := (h.big j hj).lt q
        have := hf k r
        omega
    · rw [updX_same, updX_same]
      rcases hl with hl | rfl
      · have e' := hne l hl
        rw [updX_other _ _ e', updX_other _ _ e']
        intro q r
        have := (h.big l hl).lt r
        have := hf k q
        omega
      · exact absurd rfl hjl

/-- An operation on one big.Int keeps every other kind of block. -/
theorem BRes.plain {w w' : World} {b : Nat} {z0 z : Int} {o : Option (Nat × Nat)} (h0 : BigAt w b z0 o) (h : BRes w w' b z o) {k : Nat} {ob : Obj} (hk : w.heap[k]? = some ob) (hp : ¬ IsBig ob) : w'.heap[k]? = some ob := by
  obtain ⟨o', _, hon, _⟩ := h
  rw [hon.block k (Array.getElem?_eq_some_iff.1 hk).1 (fun q => ?_), hk]
  obtain ⟨ob', e, hb⟩ := h0.blk q
  rw [hk] at e
  cases e
  exact hp hb
theorem BRes.below {w w' : World} {B b : Nat} {z : Int} {o : Option (Nat × Nat)} (h : BRes w w' b z o) (hB : B ≤ w.heap.size) (hb : ∀ k, SB b o k → B ≤ k) : Below B w w' := by
  obtain ⟨o', _, hon, _⟩ := h
  exact ⟨hon.os, hon.tape, hon.output, hon.size, fun k hk => hon.block k (by omega) (fun q => by have := hb k q; omega)⟩

/-- How an element of the map reads: as itself. -/
def RV (v : Value) : Option (DataW Value × List MemPlace) := some (.held v, [])
theorem Try.keyed9 : Keyed Try.prog 9 := string_keyed Try.underlying9
theorem Try.und73 : Try.prog.underlying 73 = some (.map 9 27) := by kernel_rfl
theorem Try.zero27 (w : World) : (zeroValue 27).run Try.prog w = .ok (.pointer none) w := by kernel_rfl
theorem key9 {s : ByteArray} (hs : s.size ≤ 9223372036854775807) : keyOf Try.prog 9 (.string s) = some (.string (str s)) := keyOf_string_mk Try.underlying9 (by unfold maxLen; omega)
theorem strV_ne {a b : ByteArray} (h : a ≠ b) : Lit.string (str a) ≠ Lit.string (str b) := fun e => h (str_inj (by injection e))

noncomputable def pvOf (ks : ByteArray → Prop) (bv : Ix → Nat) (y : ByteArray) : Value := by classical exact if ks y then .pointer (some ⟨bv (.k y), 0, none⟩) else .pointer none
noncomputable def dec (p : Prop) : Bool := by classical exact decide p
theorem dec_true {p : Prop} (h : p) : dec p = true := by simp [dec, h]
theorem dec_false {p : Prop} (h : ¬ p) : dec p = false := by simp [dec, h]
theorem of_dec {p : Prop} (h : dec p = true) : p := by simpa [dec] using h
theorem of_dec_false {p : Prop} (h : dec p = false) : ¬ p := by simpa [dec] using h

/-- THE STATE: a family of big.Ints, of which those with a name in ks stand in the map in block M. -/
structure Sta (w0 w : World) (M n : Nat) (ks : ByteArray → Prop) (K : Ix → Prop) (bv : Ix → Nat) (ov : Ix → Option (Nat × Nat)) (val : Ix → Int) : Prop where
  fam : Fam w w0.heap.size K bv ov val
  keys : ∀ y, K (.k y) ↔ ks y
  map : ∃ D, w.ownsMap Try.prog 9 RV M n D ∧ (∀ y, Maps.has D (.string (str y)) = dec (ks y)) ∧ ∀ y, D.atKey (.string (str y)) (.held (.pointer none)) = .held (pvOf ks bv y)
  below : Below w0.heap.size w0 w
  base : w0.heap.size ≤ M

section
variable {w0 w w' : World} {M n : Nat} {ks : ByteArray → Prop} {K : Ix → Prop} {bv : Ix → Nat} {ov : Ix → Option (Nat × Nat)} {val : Ix → Int}

theorem Sta.mapBlk (h : Sta w0 w M n ks K bv ov val) : ∃ es ck, w.heap[M]? = some (.map es ck) := by
  obtain ⟨D, ⟨es, ck, hh, _⟩, _⟩ := h.map
  exact ⟨es, ck, hh⟩
theorem notBig_map {es : Array MapEntry} {ck : Nat} : ¬ IsBig (.map es ck) := fun ⟨_, _, _, e, _⟩ => by cases e
theorem notBig_cells {cs : Array Value} {t : TypeId} {fr : Nat × Nat} (h1 : t ≠ 38) (h2 : t ≠ 72) : ¬ IsBig (.cells cs t fr) := fun ⟨_, _, _, e, h⟩ => by
  injection e with _ e
  subst e
  rcases h with h | h
  · exact h1 h
  · exact h2 h

theorem Sta.size (h : Sta w0 w M n ks K bv ov val) : w0.heap.size ≤ w.heap.size := h.below.size
/-- Kept where no big.Int and not the map is turned. -/
theorem Sta.kept (h : Sta w0 w M n ks K bv ov val) (hb : Below w0.heap.size w w') (hk : ∀ (k : Nat) (ob : Obj), w.heap[k]? = some ob → IsBig ob → w'.heap[k]? = some ob) (hm : w'.heap[M]? = w.heap[M]?) : Sta w0 w' M n ks K bv ov val := by
  refine ⟨h.fam.kept hk, h.keys, ?_, h.below.trans hb, h.base⟩
  obtain ⟨D, ⟨es, ck, hh, r⟩, h2, h3⟩ := h.map
  exact ⟨D, ⟨es, ck, by rw [hm]; exact hh, r⟩, h2, h3⟩
/-- Kept where new blocks alone are made. -/
theorem Sta.grow (h : Sta w0 w M n ks K bv ov val) (hb : Below w.heap.size w w') : Sta w0 w' M n ks K bv ov val := by
  refine h.kept (hb.mono h.size) (fun k ob e _ => by rw [hb.block k (Array.getElem?_eq_some_iff.1 e).1, e]) ?_
  obtain ⟨es, ck, e⟩ := h.mapBlk
  exact hb.block M (Array.getElem?_eq_some_iff.1 e).1
theorem Sta.mono (h : Sta w0 w M n ks K bv ov val) {n' : Nat} (hn : n ≤ n') : Sta w0 w M n' ks K bv ov val := by
  obtain ⟨D, m, h2, h3⟩ := h.map
  exact ⟨h.fam, h.keys, ⟨D, m.mono hn, h2, h3⟩, h.below, h.base⟩
theorem Sta.look (h : Sta w0 w M n ks K bv ov val) (y : ByteArray) (hy : y.size ≤ 9223372036854775807) :
    (Instr.lookup 73 (.map (some M)) (.string y) true).run Try.prog w = .ok (.tuple #[pvOf ks bv y, .bool (dec (ks y))]) w := by
  obtain ⟨D, hD, h2, h3⟩ := h.map
  obtain ⟨v, ps, hr, hv⟩ := hD.look_ok Try.keyed9 Try.und73 (Try.zero27 w) (zd := .held (.pointer none)) (zp := []) rfl (key9 hy)
  rw [h3] at hv
  simp only [RV, Option.some.injEq, Prod.mk.injEq, DataW.held.injEq] at hv
  rw [hr, h2, hv.1]
/-- One of the family is set. -/
theorem Sta.set (h : Sta w0 w M n ks K bv ov val) (i : Ix) (hi : K i) {z : Int} (hr : BRes w w' (bv i) z (ov i)) :
    ∃ o', Sta w0 w' M n ks K bv (updX ov i o') (updX val i z) := by
  obtain ⟨o', hf⟩ := h.fam.set i hi h.size hr
  refine ⟨o', hf, h.keys, ?_, h.below.trans (hr.below h.size (h.fam.base i hi)), h.base⟩
  obtain ⟨D, ⟨es, ck, hh, r⟩, h2, h3⟩ := h.map
  exact ⟨D, ⟨es, ck, hr.plain (h.fam.big i hi) hh notBig_map, r⟩, h2, h3⟩
/-- One that has no name in the map joins. -/
theorem Sta.add (h : Sta w0 w M n ks K bv ov val) (i : Ix) (hi : ¬ K i) (hy : ∀ y, i ≠ .k y) {b : Nat} {z : Int} {o : Option (Nat × Nat)} (hb : Below w.heap.size w w') (hn : BigAt w' b z o) (hf : ∀ k, SB b o k → w.heap.size ≤ k) :
    Sta w0 w' M n ks (fun j => K j ∨ j = i) (updX bv i b) (updX ov i o) (updX val i z) := by
  have hs := h.grow hb
  refine ⟨h.fam.add i hi h.size hn hf hb.block, fun y => ?_, ?_, hs.below, h.base⟩
  · rw [← h.keys y]
    exact ⟨fun q => q.elim id (fun q => absurd q.symm (hy y)), .inl⟩
  · obtain ⟨D, m, h2, h3⟩ := hs.map
    refine ⟨D, m, h2, fun y => ?_⟩
    rw [h3]
    unfold pvOf
    rw [updX_other _ _ (Ne.symm (hy y))]
/-- THE FIRST GRANT FROM y: a new big.Int joins under the name y. -/
theorem Sta.new (h : Sta w0 w M n ks K bv ov val) (y : ByteArray) (hy : y.size ≤ 9223372036854775807) (hn : n < maxLen) (hk : ¬ ks y) :
    ∃ w2, (Instr.mapUpdate 73 (.map (some M)) (.string y) (.pointer (some ⟨w.heap.size, 0, none⟩))).run Try.prog (w.alloc (.cells #[.bool false, .slice none 0 0] 38)) = .ok () w2 ∧
      Sta w0 w2 M (n + 1) (fun z => ks z ∨ z = y) (fun j => K j ∨ j = .k y) (updX bv (.k y) w.heap.size) (updX ov (.k y) none) (updX val (.k y) 0) := by
  have hi : ¬ K (.k y) := fun q => hk ((h.keys y).1 q)
  have hb : Below w.heap.size w (w.alloc (.cells #[.bool false, .slice none 0 0] 38)) := (Below.refl _ _).alloc (Nat.le_refl _) _
  have hs := h.grow hb
  have hfa := h.fam.add (Ix.k y) hi h.size (BigAt.zero_alloc w) (fun k q => q.elim (fun q => Nat.le_of_eq q.symm) (fun ⟨_, q⟩ => by cases q)) hb.block
  obtain ⟨D, hD, h2, h3⟩ := hs.map
  obtain ⟨w2, hr, hm, hgr⟩ := hD.update Try.keyed9 Try.und73 hn (key9 hy) (d := .held (.pointer (some ⟨w.heap.size, 0, none⟩))) (ps := []) rfl
  have hisM : IsMap D := hD.isMap
  have hkl : WideAt.IsKeyLit (.string (str y)) := by trivial
  have hlt := hD.lt
  refine ⟨w2, hr, hfa.kept (fun k ob e hbig => ?_), fun z => ?_, ⟨_, hm, fun z => ?_, fun z => ?_⟩, hs.below.grown hgr hs.size (fun k q => ?_), h.base⟩
  · rw [hgr.block k (Array.getElem?_eq_some_iff.1 e).1 (fun q => ?_), e]
    injection q with q
    subst q
    obtain ⟨es, ck, e2⟩ := hs.mapBlk
    rw [e] at e2
    cases e2
    exact notBig_map hbig
  · rw [← h.keys z]
    constructor
    · rintro (q | q)
      · exact .inl q
      · injection q with q; exact .inr q
    · rintro (q | q)
      · exact .inl q
      · subst q; exact .inr rfl
  · by_cases e : z = y
    · subst e
      rw [has_put_same hisM hkl]
      exact (dec_true (.inr rfl)).symm
    · rw [has_put_other (strV_ne e), h2]
      by_cases q : ks z
      · rw [dec_true q, dec_true (.inl q)]
      · rw [dec_false q, dec_false (fun r => r.elim q e)]
  · by_cases e : z = y
    · subst e
      rw [atKey_put_same hisM hkl]
      simp [pvOf, updX_same]
    · rw [atKey_put_other (strV_ne e), h3]
      have e2 : Ix.k z ≠ Ix.k y := fun q => e (by injection q)
      by_cases q : ks z <;> simp [pvOf, updX_other _ _ e2, e, q]
  · injection q with q
    rw [← q]
    exact h.base
end
end Go.Proofs.Qxb6616546a
