import Derived.Test.Qxb6616546aFmtRule
namespace Go.Proofs.Qxb6616546aFmt
open Go.RowKit

theorem whysOf_nodup (ps : List Pr) : (whysOf ps).Nodup := by
  have : ∀ (ps : List Pr) (ys : List (List UInt8)), ys.Nodup → (ps.foldl (fun ys p => if p.2 ∈ ys then ys else ys ++ [p.2]) ys).Nodup := by
    intro ps
    induction ps with
    | nil => intro ys h; exact h
    | cons p ps ih =>
      intro ys h
      refine ih _ ?_
      show (if p.2 ∈ ys then ys else ys ++ [p.2]).Nodup
      split
      · exact h
      · rename_i hn
        rw [List.nodup_append]
        refine ⟨h, by simp, fun a ha b hb => ?_⟩
        simp at hb
        subst hb
        exact fun e => hn (e ▸ ha)
  exact this ps [] List.nodup_nil

theorem sum_one {α : Type} (f f' : α → Nat) (y0 : α) (c : Nat) (h1 : ∀ y, y ≠ y0 → f' y = f y) (h2 : f' y0 ≤ f y0 + c) : ∀ ys : List α, ys.Nodup → (ys.map f').sum ≤ (ys.map f).sum + c := by
  intro ys
  induction ys with
  | nil => intro _; simp
  | cons y ys ih =>
    intro hnd
    obtain ⟨hn, hnd'⟩ := List.nodup_cons.1 hnd
    simp only [List.map_cons, List.sum_cons]
    by_cases e : y = y0
    · subst e
      have : ys.map f' = ys.map f := List.map_congr_left fun z hz => h1 z (fun q => hn (q ▸ hz))
      rw [this]
      omega
    · have := ih hnd'
      rw [h1 y e]
      omega

theorem tailOf_len (ps : List Pr) (ys : List (List UInt8)) : (tailOf ps ys).length = (ys.map fun y => (grp ps y).length).sum := by
  unfold tailOf
  rw [List.length_flatten, List.map_map]
  rfl

def wt (ps : List Pr) : Nat := (ps.map fun p => p.1.length + p.2.length + 17).sum
theorem wt_snoc (ps : List Pr) (p : Pr) : wt (ps ++ [p]) = wt ps + (p.1.length + p.2.length + 17) := by simp [wt]

theorem tail_len (n : Nat) : ∀ ps : List Pr, ps.length = n → (tailT ps).length ≤ wt ps := by
  induction n with
  | zero =>
    intro ps h
    have : ps = [] := List.eq_nil_of_length_eq_zero h
    subst this
    simp [tailT, tailOf, whysOf]
  | succ n ih =>
    intro ps h
    obtain ⟨qs, p, rfl⟩ : ∃ qs p, ps = qs ++ [p] := ⟨ps.dropLast, ps.getLast (by intro q; rw [q] at h; simp at h), (List.dropLast_concat_getLast _).symm⟩
    have hq := ih qs (by simp at h; omega)
    rw [wt_snoc]
    unfold tailT at hq ⊢
    have hone : ∀ ys : List (List UInt8), ys.Nodup → (tailOf (qs ++ [p]) ys).length ≤ (tailOf qs ys).length + (p.1.length + 4) := by
      intro ys hys
      rw [tailOf_len, tailOf_len]
      refine sum_one _ _ p.2 _ (fun y hy => ?_) ?_ ys hys
      · unfold grp
        rw [grantsOf_snoc, if_neg (Ne.symm hy)]
      · unfold grp
        rw [grantsOf_snoc, if_pos rfl, names_step]
        simp only [List.length_append]
        have : (comma (grantsOf p.2 qs)).length ≤ 2 := by unfold comma; split <;> simp
        have : (quo p.1).length = p.1.length + 2 := by simp [quo]
        omega
    rw [whysOf_snoc]
    split
    · have := hone _ (whysOf_nodup qs)
      omega
    · rename_i hn
      have h1 : (tailOf (qs ++ [p]) (whysOf qs)).length = (tailOf qs (whysOf qs)).length := by
        rw [tailOf_len, tailOf_len]
        congr 1
        apply List.map_congr_left
        intro y hy
        unfold grp
        rw [grantsOf_snoc, if_neg (fun e : p.2 = y => hn (e ▸ hy))]
      rw [tailOf_snoc, List.length_append, h1]
      have h2 : (grp (qs ++ [p]) p.2).length ≤ p.1.length + p.2.length + 17 := by
        unfold grp
        rw [grantsOf_snoc, if_pos rfl, grantsOf_none _ _ hn, List.nil_append, names_one]
        simp [quo, notHeldT]
        omega
      omega

theorem wt_prL (ps : List (ByteArray × ByteArray)) : wt (prL ps) = sumP ps + 17 * ps.length := by
  unfold wt prL sumP
  induction ps with
  | nil => rfl
  | cons p ps ih =>
    simp only [List.map_cons, List.sum_cons, List.length_cons, List.map_map] at ih ⊢
    rw [ih]
    simp only [str_length]
    omega

theorem lens_strL (ss : List ByteArray) : lens (strL ss) = sumS ss := by
  unfold lens strL sumS
  rw [List.map_map]
  congr 1

theorem lens_grants (y : List UInt8) (ps : List (ByteArray × ByteArray)) : lens (grantsOf y (prL ps)) ≤ sumP ps ∧ (grantsOf y (prL ps)).length ≤ ps.length := by
  induction ps with
  | nil => simp [lens, grantsOf, prL, sumP]
  | cons p ps ih =>
    obtain ⟨h1, h2⟩ := ih
    have e : prL (p :: ps) = (str p.1, str p.2) :: prL ps := rfl
    have e2 : sumP (p :: ps) = p.1.size + p.2.size + sumP ps := by simp [sumP]
    rw [e, e2]
    unfold grantsOf at h1 h2 ⊢
    by_cases hy : str p.2 = y
    · rw [List.filter_cons_of_pos (by simpa using hy)]
      simp only [List.map_cons, List.length_cons, lens, List.sum_cons, str_length] at h1 h2 ⊢
      omega
    · rw [List.filter_cons_of_neg (by simpa using hy)]
      simp only [List.length_cons]
      omega

/-- All that the walks ask of sizes. -/
structure Fits (held : Int) (ss : List ByteArray) (ps : List (ByteArray × ByteArray)) (wi be : ByteArray) : Prop where
  hsl : ss.length ≤ 4096
  hpl : ps.length ≤ 4096
  hlen : (headT held (strL ss) (str wi) (str be) ++ tailT (prL ps)).length ≤ 40000000
  hwi : wi.size ≤ 1048576
  hbe : be.size ≤ 1048576
  hz : ∀ s ∈ ss, s.size ≤ 1048576
  hns : (names (strL ss)).length ≤ 40000000
  hng : ∀ y, (names (grantsOf y (prL ps))).length ≤ 40000000
  hpz : ∀ p ∈ ps, p.1.size ≤ 1048576 ∧ p.2.size ≤ 1048576

theorem Fits.of (held : Int) (ss : List ByteArray) (ps : List (ByteArray × ByteArray)) (wi be : ByteArray) (hh0 : -9223372036854775808 ≤ held) (hh1 : held ≤ 9223372036854775807) (hsl : ss.length ≤ 4096) (hpl : ps.length ≤ 4096)
    (h : wi.size + be.size + (16 * ss.length + sumS ss) + (32 * ps.length + sumP ps) ≤ 1048576) : Fits held ss ps wi be := by
  have hns : (names (strL ss)).length ≤ sumS ss + 4 * ss.length := by
    have := names_len (strL ss)
    rw [lens_strL] at this
    simpa [strL] using this
  have htl : (tailT (prL ps)).length ≤ sumP ps + 17 * ps.length := by rw [← wt_prL]; exact tail_len _ _ rfl
  have hil := Lib.itoa_length_le held hh0 hh1
  have hhd : (headT held (strL ss) (str wi) (str be)).length ≤ 5000000 := by
    unfold headT
    split
    · simp only [List.length_append, str_length, List.length_singleton]; omega
    · split
      · simp only [List.length_append, str_length, oneT, List.length_cons, List.length_nil]; omega
      · split
        · simp only [List.length_append, str_length, manyT, List.length_cons, List.length_nil]; omega
        · simp [noneT]
  refine ⟨hsl, hpl, ?_, by omega, by omega, fun s hs => ?_, by omega, fun y => ?_, fun p hp => ?_⟩
  · rw [List.length_append]; omega
  · have := sumS_mem hs; omega
  · have := names_len (grantsOf y (prL ps))
    have := lens_grants y ps
    omega
  · have := sumP_mem hp; omega

end Go.Proofs.Qxb6616546aFmt
