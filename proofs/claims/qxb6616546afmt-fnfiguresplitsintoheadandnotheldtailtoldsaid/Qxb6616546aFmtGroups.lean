import Derived.Test.Qxb6616546aFmtText
import Derived.Maps.Keyed
import Derived.Maps.Views
import Derived.StringKeys
namespace Go.Proofs.Qxb6616546aFmt
open Go.RowKit Go.Maps Go.WideShapes Go.WideMaps

theorem str_inj {a b : ByteArray} (h : str a = str b) : a = b := by rw [← B8_str a, ← B8_str b, h]
theorem strV_ne {a b : ByteArray} (h : a ≠ b) : Lit.string (str a) ≠ Lit.string (str b) := fun e => h (str_inj (by injection e))

noncomputable instance memDec (y : ByteArray) (ys : List ByteArray) : Decidable (y ∈ ys) := Classical.propDecidable _

/-- The reasons, each once, in the order of their first row. -/
noncomputable def whysB (ps : List (ByteArray × ByteArray)) : List ByteArray := ps.foldl (fun ys p => if p.2 ∈ ys then ys else ys ++ [p.2]) []
def grantsB (y : ByteArray) (ps : List (ByteArray × ByteArray)) : List ByteArray := (ps.filter fun p => p.2 = y).map (·.1)
theorem whysB_snoc (ps : List (ByteArray × ByteArray)) (p : ByteArray × ByteArray) : whysB (ps ++ [p]) = if p.2 ∈ whysB ps then whysB ps else whysB ps ++ [p.2] := by
  unfold whysB; rw [List.foldl_append]; rfl
theorem mem_map_str (y : ByteArray) (ys : List ByteArray) : str y ∈ ys.map str ↔ y ∈ ys := by
  rw [List.mem_map]
  exact ⟨fun ⟨z, hz, e⟩ => str_inj e ▸ hz, fun h => ⟨y, h, rfl⟩⟩
theorem whysB_fold (ps : List (ByteArray × ByteArray)) : ∀ ys : List ByteArray, (ps.foldl (fun ys p => if p.2 ∈ ys then ys else ys ++ [p.2]) ys).map str = (prL ps).foldl (fun ys p => if p.2 ∈ ys then ys else ys ++ [p.2]) (ys.map str) := by
  induction ps with
  | nil => intro ys; rfl
  | cons p ps ih =>
    intro ys
    show (List.foldl _ (if p.2 ∈ ys then ys else ys ++ [p.2]) ps).map str = List.foldl _ (if str p.2 ∈ ys.map str then ys.map str else ys.map str ++ [str p.2]) (prL ps)
    rw [ih]
    congr 1
    by_cases h : p.2 ∈ ys
    · rw [if_pos h, if_pos ((mem_map_str _ _).2 h)]
    · rw [if_neg h, if_neg (fun q => h ((mem_map_str _ _).1 q))]
      simp
theorem whysB_str (ps : List (ByteArray × ByteArray)) : (whysB ps).map str = whysOf (prL ps) := whysB_fold ps []
theorem grantsB_str (y : ByteArray) (ps : List (ByteArray × ByteArray)) : (grantsB y ps).map str = grantsOf (str y) (prL ps) := by
  induction ps with
  | nil => rfl
  | cons p ps ih =>
    by_cases h : p.2 = y
    · have h' : str p.2 = str y := by rw [h]
      simp only [grantsB, grantsOf, prL, List.filter_cons, List.map_cons, h, decide_true, if_true] at ih ⊢
      rw [ih]
    · have h' : ¬ str p.2 = str y := fun q => h (str_inj q)
      simp only [grantsB, grantsOf, prL, List.filter_cons, List.map_cons, h, h', decide_false] at ih ⊢
      exact ih
theorem grantsB_snoc (y : ByteArray) (ps : List (ByteArray × ByteArray)) (p : ByteArray × ByteArray) : grantsB y (ps ++ [p]) = if p.2 = y then grantsB y ps ++ [p.1] else grantsB y ps := by
  unfold grantsB
  by_cases h : p.2 = y <;> simp [h]
theorem grantsB_le (y : ByteArray) (ps : List (ByteArray × ByteArray)) : (grantsB y ps).length ≤ ps.length := by
  unfold grantsB
  rw [List.length_map]
  exact List.length_filter_le _ _
theorem whysB_le (ps : List (ByteArray × ByteArray)) : (whysB ps).length ≤ ps.length := by
  have : ∀ (ps : List (ByteArray × ByteArray)) (ys : List ByteArray), (ps.foldl (fun ys p => if p.2 ∈ ys then ys else ys ++ [p.2]) ys).length ≤ ys.length + ps.length := by
    intro ps
    induction ps with
    | nil => intro ys; exact Nat.le_refl _
    | cons p ps ih =>
      intro ys
      refine Nat.le_trans (ih _) ?_
      show (if p.2 ∈ ys then ys else ys ++ [p.2]).length + ps.length ≤ ys.length + (ps.length + 1)
      split
      · omega
      · simp; omega
  have := this ps []
  simpa [whysB] using this

/-- How an element of the map reads: as itself. -/
def RV (v : Value) : Option (DataW Value × List MemPlace) := some (.held v, [])

theorem Tryf.keyed9 : Keyed Tryf.prog 9 := string_keyed Tryf.underlying9
theorem Tryf.und50 : Tryf.prog.underlying 50 = some (.map 9 22) := by kernel_rfl
theorem Tryf.zero22 (w : World) : (zeroValue 22).run Tryf.prog w = .ok (.slice none 0 0) w := by kernel_rfl
theorem key9 {s : ByteArray} (hs : s.size ≤ 1048576) : keyOf Tryf.prog 9 (.string s) = some (.string (str s)) := keyOf_string_mk Tryf.underlying9 (by unfold maxLen; omega)

/-- THE MAP OF GROUPS in block M, whose keys are ks; the group of y is the row gv y, which reads as gr y; the rows lie apart. -/
structure Groups (w : World) (B M : Nat) (n : Nat) (ks : List ByteArray) (gv : ByteArray → Value) (gr : ByteArray → List ByteArray) : Prop where
  base : B ≤ M
  map : ∃ D, w.ownsMap Tryf.prog 9 RV M n D ∧ (∀ y, Maps.has D (.string (str y)) = decide (y ∈ ks)) ∧ ∀ y, D.atKey (.string (str y)) (.held (.slice none 0 0)) = .held (gv y)
  rows : ∀ y, w.ownsRow B 9 1 (gv y) (gr y).length ((gr y).map Value.string)
  off : ∀ y, (gv y).ownBlock ≠ some M
  apart : ∀ y y', y ≠ y' → ∀ g, (gv y).ownBlock = some g → (gv y').ownBlock ≠ some g

theorem Groups.lt {w : World} {B M n : Nat} {ks : List ByteArray} {gv : ByteArray → Value} {gr : ByteArray → List ByteArray} (h : Groups w B M n ks gv gr) : M < w.heap.size := by
  obtain ⟨D, hD, _⟩ := h.map
  exact hD.lt

theorem Groups.start (w : World) (B : Nat) (hB : B ≤ w.heap.size) : Groups (w.alloc (.map #[] 0)) B w.heap.size 0 [] (fun _ => .slice none 0 0) (fun _ => []) :=
  ⟨hB, ⟨_, World.ownsMap_made _ _ _ _, fun _ => by simp [has_eq], fun _ => rfl⟩, fun _ => World.ownsRow_nil _ _ _ _, fun _ q => by simp [Value.ownBlock] at q, fun _ _ _ g q => by simp [Value.ownBlock] at q⟩

/-- Kept where one row that is none of the family's is written, and blocks are made. -/
theorem Groups.kept {w w' : World} {B M n : Nat} {ks : List ByteArray} {gv : ByteArray → Value} {gr : ByteArray → List ByteArray} {row : Option Nat} (h : Groups w B M n ks gv gr) (hg : w.grownBy w' row) (hM : row ≠ some M) (hr : ∀ y g, (gv y).ownBlock = some g → row ≠ some g) : Groups w' B M n ks gv gr := by
  obtain ⟨D, hD, h2, h3⟩ := h.map
  refine ⟨h.base, ⟨D, hD.kept hg (fun q => hM q.symm), h2, h3⟩, fun y => ?_, h.off, h.apart⟩
  refine (h.rows y).kept hg ?_
  cases hv : (gv y).ownBlock with
  | none => exact .inl rfl
  | some g => exact .inr (fun q => hr y g hv q.symm)

theorem Groups.below {w w' : World} {B M n : Nat} {ks : List ByteArray} {gv : ByteArray → Value} {gr : ByteArray → List ByteArray} (h : Groups w B M n ks gv gr) (hb : Below w.heap.size w w') : Groups w' B M n ks gv gr :=
  h.kept (row := none) ⟨hb.os, hb.tape, hb.output, hb.size, fun k hk _ => hb.block k hk⟩ (fun q => by cases q) (fun _ _ _ q => by cases q)

theorem Groups.look_ok {w : World} {B M n : Nat} {ks : List ByteArray} {gv : ByteArray → Value} {gr : ByteArray → List ByteArray} (h : Groups w B M n ks gv gr) (y : ByteArray) (hy : y.size ≤ 1048576) :
    (Instr.lookup 50 (.map (some M)) (.string y) true).run Tryf.prog w = .ok (.tuple #[gv y, .bool (decide (y ∈ ks))]) w := by
  obtain ⟨D, hD, h2, h3⟩ := h.map
  obtain ⟨v, ps, hr, hv⟩ := hD.look_ok Tryf.keyed9 Tryf.und50 (Tryf.zero22 w) (zd := .held (.slice none 0 0)) (zp := []) rfl (key9 hy)
  rw [h3] at hv
  simp only [RV, Option.some.injEq, Prod.mk.injEq, DataW.held.injEq] at hv
  rw [hr, h2, hv.1]

theorem Groups.look {w : World} {B M n : Nat} {ks : List ByteArray} {gv : ByteArray → Value} {gr : ByteArray → List ByteArray} (h : Groups w B M n ks gv gr) (y : ByteArray) (hy : y.size ≤ 1048576) :
    (Instr.lookup 50 (.map (some M)) (.string y) false).run Tryf.prog w = .ok (gv y) w := by
  obtain ⟨D, hD, h2, h3⟩ := h.map
  obtain ⟨v, ps, hr, hv⟩ := hD.lookup Tryf.keyed9 Tryf.und50 (Tryf.zero22 w) (zd := .held (.slice none 0 0)) (zp := []) rfl (key9 hy)
  rw [h3] at hv
  simp only [RV, Option.some.injEq, Prod.mk.injEq, DataW.held.injEq] at hv
  rw [hr, hv.1]

def upd {α : Type} (f : ByteArray → α) (y : ByteArray) (v : α) : ByteArray → α := fun z => if z = y then v else f z
theorem upd_same {α : Type} (f : ByteArray → α) (y : ByteArray) (v : α) : upd f y v y = v := by simp [upd]
theorem upd_other {α : Type} (f : ByteArray → α) {y z : ByteArray} (v : α) (h : z ≠ y) : upd f y v z = f z := by simp [upd, h]

/-- 'groups[y] = append(groups[y], g)', its two operations that write. -/
theorem Groups.update {w w2 : World} {B M n : Nat} {ks : List ByteArray} {gv : ByteArray → Value} {gr : ByteArray → List ByteArray} (h : Groups w B M n ks gv gr) (y g : ByteArray) (hy : y.size ≤ 1048576) (hn : n < maxLen) (v : Value) (hg : w.grownBy w2 (gv y).ownBlock)
    (ho : w2.ownsRow B 9 1 v ((gr y).length + 1) ((gr y).map Value.string ++ [.string g])) (hv : v.ownBlock = (gv y).ownBlock ∨ v.ownBlock = some w.heap.size) :
    ∃ w3, (Instr.mapUpdate 50 (.map (some M)) (.string y) v).run Tryf.prog w2 = .ok () w3 ∧ Groups w3 B M (n + 1) (y :: ks) (upd gv y v) (upd gr y (gr y ++ [g])) ∧ w2.grownBy w3 (some M) := by
  have hlt := h.lt
  obtain ⟨D, hD, h2, h3⟩ := h.map
  have hvM : v.ownBlock ≠ some M := by
    rcases hv with e | e
    · rw [e]; exact h.off y
    · rw [e]; intro q; injection q with q; omega
  have hD2 := hD.kept hg (fun q => h.off y q.symm)
  obtain ⟨w3, hr, hm, hgr⟩ := hD2.update Tryf.keyed9 Tryf.und50 hn (key9 hy) (d := .held v) (ps := []) rfl
  have hisM : IsMap D := hD.isMap
  have hkl : WideAt.IsKeyLit (.string (str y)) := by trivial
  have hvz : ∀ z, z ≠ y → ∀ g', v.ownBlock = some g' → (gv z).ownBlock ≠ some g' := by
    intro z hz g' hg' q
    rcases hv with e | e
    · rw [e] at hg'
      exact h.apart y z (Ne.symm hz) g' hg' q
    · rw [e] at hg'
      injection hg' with hg'
      have := ((h.rows z).lt g' q).2
      omega
  refine ⟨w3, hr, ⟨h.base, ⟨_, hm, fun z => ?_, fun z => ?_⟩, fun z => ?_, fun z => ?_, fun z z' hzz g' hg' => ?_⟩, hgr⟩
  · by_cases e : z = y
    · subst e
      rw [has_put_same hisM hkl]
      simp
    · rw [has_put_other (strV_ne e), h2]
      simp [e]
  · by_cases e : z = y
    · subst e
      rw [atKey_put_same hisM hkl, upd_same]
    · rw [atKey_put_other (strV_ne e), h3, upd_other _ _ e]
  · by_cases e : z = y
    · subst e
      rw [upd_same, upd_same]
      have := ho.kept hgr (.inr hvM)
      rw [List.length_append, List.map_append]
      exact this
    · rw [upd_other _ _ e, upd_other _ _ e]
      refine ((h.rows z).kept hg ?_).kept hgr (.inr (h.off z))
      cases hq : (gv z).ownBlock with
      | none => exact .inl rfl
      | some g' => exact .inr (fun q => h.apart z y e g' hq q.symm)
  · by_cases e : z = y
    · subst e; rw [upd_same]; exact hvM
    · rw [upd_other _ _ e]; exact h.off z
  · by_cases e : z = y
    · subst e
      rw [upd_same] at hg'
      rw [upd_other _ _ (Ne.symm hzz)]
      exact hvz z' (Ne.symm hzz) g' hg'
    · rw [upd_other _ _ e] at hg'
      by_cases e' : z' = y
      · subst e'
        rw [upd_same]
        intro q
        exact hvz z hzz g' q hg'
      · rw [upd_other _ _ e']
        exact h.apart z z' hzz g' hg'

end Go.Proofs.Qxb6616546aFmt
