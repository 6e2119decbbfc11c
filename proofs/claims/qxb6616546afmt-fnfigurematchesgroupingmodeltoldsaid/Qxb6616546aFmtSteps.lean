import Derived.Test.Qxb6616546aFmtGroups
import Derived.Deep.AppendLies
import Derived.Carry
namespace Go.Proofs.Qxb6616546aFmt
open Go.RowKit Go.Kit Go.Extern.Stop Go.Stop Go.Extern

theorem outcome_fail (g : Nat) (ao : Option Addr) (n co : Nat) (w : World) (hn : 0 < n) (c1 : w.cell? ⟨g, 1, none⟩ = some (.slice ao n co)) :
    Calls Tryf.prog 20 #[.pointer (some ⟨g, 0, none⟩)] w fun e w' => e = .returned (.string ⟨#[102, 97, 105, 108]⟩) ∧ w' = w := by
  go_enter Tryf.func20, Tryf.ntmps20
  go_wp2
  go_ret
  exact ⟨rfl, rfl⟩

theorem outcome_none (g : Nat) (ao : Option Addr) (held : Int) (co : Nat) (w : World) (hh : held = 0) (c0 : w.cell? ⟨g, 0, none⟩ = some (.int .i64 held)) (c1 : w.cell? ⟨g, 1, none⟩ = some (.slice ao 0 co)) :
    Calls Tryf.prog 20 #[.pointer (some ⟨g, 0, none⟩)] w fun e w' => e = .returned (.string ⟨#[110, 47, 97]⟩) ∧ w' = w := by
  subst hh
  go_enter Tryf.func20, Tryf.ntmps20
  go_wp2
  go_ret
  exact ⟨rfl, rfl⟩

theorem outcome_pass (g : Nat) (ao : Option Addr) (held : Int) (co : Nat) (w : World) (hh : (held == 0) = false) (c0 : w.cell? ⟨g, 0, none⟩ = some (.int .i64 held)) (c1 : w.cell? ⟨g, 1, none⟩ = some (.slice ao 0 co)) :
    Calls Tryf.prog 20 #[.pointer (some ⟨g, 0, none⟩)] w fun e w' => e = .returned (.string ⟨#[112, 97, 115, 115]⟩) ∧ w' = w := by
  go_enter Tryf.func20, Tryf.ntmps20
  go_wp2
  go_ret
  exact ⟨rfl, rfl⟩

/-- What Outcome says. -/
def outB (held : Int) (n : Nat) : ByteArray := if 0 < n then ⟨#[102, 97, 105, 108]⟩ else if held = 0 then ⟨#[110, 47, 97]⟩ else ⟨#[112, 97, 115, 115]⟩
theorem outcome_any (g : Nat) (ao : Option Addr) (held : Int) (n co : Nat) (w : World) (c0 : w.cell? ⟨g, 0, none⟩ = some (.int .i64 held)) (c1 : w.cell? ⟨g, 1, none⟩ = some (.slice ao n co)) :
    Calls Tryf.prog 20 #[.pointer (some ⟨g, 0, none⟩)] w fun e w' => e = .returned (.string (outB held n)) ∧ w' = w := by
  unfold outB
  by_cases h : 0 < n
  · rw [if_pos h]; exact outcome_fail g ao n co w h c1
  · have hn : n = 0 := by omega
    subst hn
    rw [if_neg h]
    by_cases h0 : held = 0
    · rw [if_pos h0]; exact outcome_none g ao held co w h0 c0 c1
    · rw [if_neg h0]; exact outcome_pass g ao held co w (by simpa using h0) c0 c1

theorem B8_add (l : List UInt8) (s : ByteArray) : B8 l ++ s = B8 (l ++ str s) := by
  apply str_inj
  rw [str_B8]
  simp [str, B8]

/-- At the head of the first loop: j rows are grouped. -/
def Lp (w : World) (M : Nat) (ps : List (ByteArray × ByteArray)) (j : Nat) (wv : Value) (wr : World) : Prop :=
  ∃ gv : ByteArray → Value, wr.ownsRow w.heap.size 9 1 wv (whysB (ps.take j)).length ((whysB (ps.take j)).map Value.string) ∧ wv.ownBlock ≠ some M ∧ (∀ y b, (gv y).ownBlock = some b → wv.ownBlock ≠ some b) ∧
    Groups wr w.heap.size M j (whysB (ps.take j)) gv (fun y => grantsB y (ps.take j)) ∧ Below w.heap.size w wr

/-- Inside the round: the reason is noted, the row not yet grouped; block N holds the row. -/
def Mid (w : World) (M N : Nat) (ps : List (ByteArray × ByteArray)) (j : Nat) (gx yx : ByteArray) (wv : Value) (wx : World) : Prop :=
  ∃ gv : ByteArray → Value, wx.ownsRow w.heap.size 9 1 wv (whysB (ps.take (j + 1))).length ((whysB (ps.take (j + 1))).map Value.string) ∧ wv.ownBlock ≠ some M ∧ wv.ownBlock ≠ some N ∧ (∀ y b, (gv y).ownBlock = some b → wv.ownBlock ≠ some b) ∧ (∀ y, (gv y).ownBlock ≠ some N) ∧
    Groups wx w.heap.size M j (whysB (ps.take j)) gv (fun y => grantsB y (ps.take j)) ∧ Below w.heap.size w wx ∧ wx.heap[N]? = some (.cells #[.string gx, .string yx] 42 (0, 0))

theorem Lp.fresh {w wr : World} {M j : Nat} {ps : List (ByteArray × ByteArray)} {wv : Value} (h : Lp w M ps j wv wr) : w.heap.size ≤ wr.heap.size := let ⟨_, _, _, _, _, hb⟩ := h; hb.size

/-- The reason is an old one. -/
theorem Lp.old {w wr : World} {M j : Nat} {ps : List (ByteArray × ByteArray)} {wv : Value} (h : Lp w M ps j wv wr) (gx yx : ByteArray) (hp : ps[j]? = some (gx, yx)) (hy : yx ∈ whysB (ps.take j)) :
    Mid w M wr.heap.size ps j gx yx wv (wr.alloc (.cells #[.string gx, .string yx] 42)) := by
  obtain ⟨gv, h1, h2, h3, h4, h5⟩ := h
  have e : whysB (ps.take (j + 1)) = whysB (ps.take j) := by rw [take_snoc ps j _ hp, whysB_snoc, if_pos hy]
  have hx : Below wr.heap.size wr (wr.alloc (.cells #[.string gx, .string yx] 42)) := (Below.refl _ _).alloc (Nat.le_refl _) _
  refine ⟨gv, by rw [e]; exact h1.alloc _, h2, fun q => ?_, h3, fun y q => ?_, h4.below hx, h5.trans (hx.mono h5.size), heap_alloc_new wr _⟩
  · have := (h1.lt _ q).2; omega
  · have := ((h4.rows y).lt _ q).2; omega

/-- The reason is a new one. -/
theorem Lp.new {w wr w3 : World} {M j : Nat} {ps : List (ByteArray × ByteArray)} {wv wv' : Value} (h : Lp w M ps j wv wr) (gx yx : ByteArray) (hp : ps[j]? = some (gx, yx)) (hy : yx ∉ whysB (ps.take j))
    (ho : w3.ownsRow w.heap.size 9 1 wv' ((whysB (ps.take j)).length + 1) ((whysB (ps.take j)).map Value.string ++ [.string yx])) (hg : ((wr.alloc (.cells #[.string gx, .string yx] 42)).alloc (.cells #[.string yx] 9)).grownBy w3 wv.ownBlock)
    (hv : wv'.ownBlock = wv.ownBlock ∨ wv'.ownBlock = some ((wr.alloc (.cells #[.string gx, .string yx] 42)).alloc (.cells #[.string yx] 9)).heap.size) :
    Mid w M wr.heap.size ps j gx yx wv' w3 := by
  obtain ⟨gv, h1, h2, h3, h4, h5⟩ := h
  have e : whysB (ps.take (j + 1)) = whysB (ps.take j) ++ [yx] := by rw [take_snoc ps j _ hp, whysB_snoc, if_neg hy]
  have hx : Below wr.heap.size wr ((wr.alloc (.cells #[.string gx, .string yx] 42)).alloc (.cells #[.string yx] 9)) := ((Below.refl _ _).alloc (Nat.le_refl _) _).alloc (by simp) _
  have hsz : ((wr.alloc (.cells #[.string gx, .string yx] 42)).alloc (.cells #[.string yx] 9)).heap.size = wr.heap.size + 1 + 1 := by simp
  have hN : ((wr.alloc (.cells #[.string gx, .string yx] 42)).alloc (.cells #[.string yx] 9)).heap[wr.heap.size]? = some (.cells #[.string gx, .string yx] 42 (0, 0)) := by
    rw [Below.heap_alloc _ _ _ (by simp)]
    exact heap_alloc_new wr _
  rw [hsz] at hv
  have hwN : wv.ownBlock ≠ some wr.heap.size := fun q => by have := (h1.lt _ q).2; omega
  have hM := h4.lt
  refine ⟨gv, by rw [e, List.length_append, List.map_append]; exact ho, ?_, ?_, fun y b hb => ?_, fun y q => ?_, (h4.below hx).kept hg h2 h3, (h5.trans (hx.mono h5.size)).grown hg (by rw [hsz]; have := h5.size; omega) (fun k q => (h1.lt k q).1), ?_⟩
  · rcases hv with q | q
    · rw [q]; exact h2
    · rw [q]; intro r; injection r with r; omega
  · rcases hv with q | q
    · rw [q]; exact hwN
    · rw [q]; intro r; injection r with r; omega
  · rcases hv with q | q
    · rw [q]; exact h3 y b hb
    · rw [q]; intro r; injection r with r
      have := ((h4.rows y).lt b hb).2
      omega
  · have := ((h4.rows y).lt _ q).2; omega
  · rw [hg.block _ (by rw [hsz]; omega) (fun q => hwN q.symm)]
    exact hN

/-- THE ROW IS GROUPED: the look-up, the append and the store into the map. -/
theorem Mid.next {w wx w3 : World} {M j : Nat} {ps : List (ByteArray × ByteArray)} {wv : Value} {gv : ByteArray → Value} (gx yx : ByteArray) (hp : ps[j]? = some (gx, yx)) (hy : yx.size ≤ 1048576) (hj : j ≤ 4096)
    (h1 : wx.ownsRow w.heap.size 9 1 wv (whysB (ps.take (j + 1))).length ((whysB (ps.take (j + 1))).map Value.string)) (h2 : wv.ownBlock ≠ some M) (h3 : ∀ y b, (gv y).ownBlock = some b → wv.ownBlock ≠ some b)
    (G : Groups wx w.heap.size M j (whysB (ps.take j)) gv (fun y => grantsB y (ps.take j))) (hb : Below w.heap.size w wx) (cur : Array Value) (v : Value)
    (ho : w3.ownsRow w.heap.size 9 1 v ((grantsB yx (ps.take j)).length + 1) ((grantsB yx (ps.take j)).map Value.string ++ [.string gx])) (hg : (wx.drew.alloc (.cells cur 9)).grownBy w3 (gv yx).ownBlock)
    (hv : v.ownBlock = (gv yx).ownBlock ∨ v.ownBlock = some (wx.drew.alloc (.cells cur 9)).heap.size) :
    ∃ w4, (Instr.mapUpdate 50 (.map (some M)) (.string yx) v).run Tryf.prog w3 = .ok () w4 ∧ w3.grownBy w4 (some M) ∧ Lp w M ps (j + 1) wv w4 := by
  have hx : Below wx.heap.size wx (wx.drew.alloc (.cells cur 9)) := (Below.refl _ _).drew.alloc (Nat.le_refl _) _
  have G1 := G.below hx
  have hsz : (wx.drew.alloc (.cells cur 9)).heap.size = wx.heap.size + 1 := by simp
  obtain ⟨w4, hr, G2, hg2⟩ := G1.update yx gx hy (by unfold maxLen; omega) v hg ho hv
  have hvw : v.ownBlock ≠ none → ∀ b, v.ownBlock = some b → wv.ownBlock ≠ some b := by
    intro _ b q r
    rcases hv with e | e
    · rw [e] at q; exact h3 yx b q r
    · rw [e, hsz] at q
      injection q with q
      have := (h1.lt b r).2
      omega
  refine ⟨w4, hr, hg2, upd gv yx v, ?_, h2, fun y b q => ?_, ?_, ?_⟩
  · have h1d : wx.drew.ownsRow w.heap.size 9 1 wv (whysB (ps.take (j + 1))).length ((whysB (ps.take (j + 1))).map Value.string) := h1
    refine (((h1d.alloc _).kept hg ?_).kept hg2 (.inr h2))
    cases hq : wv.ownBlock with
    | none => exact .inl rfl
    | some b => exact .inr (fun r => h3 yx b r.symm hq)
  · by_cases e : y = yx
    · subst e
      rw [upd_same] at q
      exact hvw (by rw [q]; simp) b q
    · rw [upd_other _ _ e] at q
      exact h3 y b q
  · have e1 : whysB (ps.take (j + 1)) = if yx ∈ whysB (ps.take j) then whysB (ps.take j) else whysB (ps.take j) ++ [yx] := by rw [take_snoc ps j _ hp, whysB_snoc]
    have e2 : upd (fun y => grantsB y (ps.take j)) yx (grantsB yx (ps.take j) ++ [gx]) = fun y => grantsB y (ps.take (j + 1)) := by
      funext y
      rw [take_snoc ps j _ hp, grantsB_snoc]
      by_cases e : y = yx
      · subst e; rw [upd_same, if_pos rfl]
      · rw [upd_other _ _ e, if_neg (fun q => e q.symm)]
    rw [← e2]
    obtain ⟨D, m1, m2, m3⟩ := G2.map
    refine ⟨G2.base, ⟨D, m1, fun y => ?_, m3⟩, G2.rows, G2.off, G2.apart⟩
    rw [m2, e1]
    by_cases hm : yx ∈ whysB (ps.take j)
    · rw [if_pos hm]
      by_cases e : y = yx
      · subst e; simp [hm]
      · simp [e]
    · rw [if_neg hm]
      simp [or_comm]
  · have hB := hb.size
    refine ((hb.trans (hx.mono hB)).grown hg (by rw [hsz]; omega) (fun k q => ((G.rows yx).lt k q).1)).grown hg2 (Nat.le_trans (by rw [hsz]; omega) hg.size) (fun k q => ?_)
    injection q with q
    rw [← q]
    exact G.base

theorem step_mapUpdate {P : Program} {w w' : World} {ops : Array Oper} {o : Oper} {a : Act} {K : Act → World → Prop} {Q : Exit → Act → World → Prop} {E : Prop} (hgd : o.guard = none) (m x v : Operand) (t : TypeId) (ho : o.op = .mapUpdate t m x v) (mv xv vv : Value)
    (hm : a.eval m = mv) (hx : a.eval x = xv) (hv : a.eval v = vv) (hrun : (Instr.mapUpdate t mv xv vv).run P w = .ok () w') (h : K (a.put o.dst undef) w') : if Region.wanted o (yielded ops a.tmps) = true then Oper.wp P o a w K Q else E := by
  have hw : Region.wanted o (yielded ops a.tmps) = true := by simp [Region.wanted, hgd]
  rw [if_pos hw]
  unfold Oper.wp
  simp [execOp, ho, hm, hx, hv, hrun, Result.andThen]
  exact h

/-- THE HEAD OF THE FIGURE, as the walk carries it. -/
def HeadOk (t : List UInt8) (v : Value) : Prop := v = .string (B8 t)

end Go.Proofs.Qxb6616546aFmt
