/-
  reserveGrants, the second loop's round, in values.
-/
import Derived.Test.Qxb6616546aStart2
namespace Go.Proofs.Qxb6616546a
open Go.RowKit
set_option linter.unusedVariables false

/-- What is held back after i awards: theirs, then zeros. -/
def heldTo (rs : List Row) (i : Nat) : List Int := held rs (rs.take i) ++ List.replicate (rs.length - i) 0
theorem heldTo_zero (rs : List Row) : heldTo rs 0 = List.replicate rs.length 0 := by simp [heldTo, held]
theorem heldTo_all (rs : List Row) : heldTo rs rs.length = held rs rs := by simp [heldTo]
theorem heldTo_length (rs : List Row) (i : Nat) (h : i ≤ rs.length) : (heldTo rs i).length = rs.length := by
  simp [heldTo, held]; omega
theorem heldTo_next (rs : List Row) (i : Nat) (x : Row) (hx : rs[i]? = some x) : heldTo rs (i + 1) = (heldTo rs i).set i (heldV rs x) := by
  have hi : i < rs.length := (List.getElem?_eq_some_iff.1 hx).1
  have hl : (held rs (rs.take i)).length = i := by simp [held]; omega
  unfold heldTo
  rw [take_snoc rs i x hx, held_snoc, List.set_append_right _ _ (by omega), hl, Nat.sub_self]
  obtain ⟨n, hn⟩ : ∃ n, rs.length - i = n + 1 := ⟨rs.length - i - 1, by omega⟩
  have hn' : rs.length - (i + 1) = n := by omega
  rw [hn, hn', List.replicate_succ, List.set_cons_zero, List.append_assoc]
  rfl
theorem heldTo_none (rs : List Row) (i : Nat) (x : Row) (hx : rs[i]? = some x) (h : ¬ 0 < left rs x) : heldTo rs (i + 1) = heldTo rs i := by
  have hi : i < rs.length := (List.getElem?_eq_some_iff.1 hx).1
  unfold heldTo
  rw [take_snoc rs i x hx, held_snoc]
  obtain ⟨n, hn⟩ : ∃ n, rs.length - i = n + 1 := ⟨rs.length - i - 1, by omega⟩
  have hn' : rs.length - (i + 1) = n := by omega
  rw [hn, hn', List.replicate_succ, List.append_assoc]
  simp [heldV, h]

def Lp2 (w0 : World) (M gb hb rb : Nat) (rs : List Row) (bv : Ix → Nat) (i : Nat) (wr : World) : Prop :=
  ∃ zL hv, V2 w0 M gb hb rb rs bv (gtot rs (rs.take i)) (rtot (rs.take i)) zL hv (over rs (rs.take i)) (heldTo rs i) wr
/-- Behind the sums of the round. -/
def Mid2 (w0 : World) (M gb hb rb : Nat) (rs : List Row) (bv : Ix → Nat) (i : Nat) (x : Row) (wx : World) : Prop :=
  ∃ hv, V2 w0 M gb hb rb rs bv (gtot rs (rs.take (i + 1))) (rtot (rs.take (i + 1))) (left rs x) hv (over rs (rs.take i)) (heldTo rs i) wx

theorem gtot_next (rs : List Row) (i : Nat) (x : Row) (hx : rs[i]? = some x) : gtot rs (rs.take (i + 1)) = gtot rs (rs.take i) + gsum x.name rs := by rw [take_snoc rs i x hx, gtot_snoc]
theorem rtot_next (rs : List Row) (i : Nat) (x : Row) (hx : rs[i]? = some x) : rtot (rs.take (i + 1)) = rtot (rs.take i) + x.r := by rw [take_snoc rs i x hx, rtot_snoc]
theorem small_r (rs : List Row) (i : Nat) (hF : Fits rs) (hl : rs.length ≤ 4096) : (rtot (rs.take i)).natAbs < 85070591730234615865843651857942052864 := by
  have h := rtot_le (rs.take i) (hF.take i)
  have h2 : (rs.take i).length ≤ 4096 := by rw [List.length_take]; omega
  have := Nat.mul_le_mul_right 9223372036854775808 h2
  omega
theorem small_g (rs : List Row) (i : Nat) (hF : Fits rs) (hl : rs.length ≤ 4096) : (gtot rs (rs.take i)).natAbs < 85070591730234615865843651857942052864 := by
  have h := gtot_le rs (rs.take i) hF hl
  have h2 : (rs.take i).length ≤ 4096 := by rw [List.length_take]; omega
  have := Nat.mul_le_mul_right 37778931862957161709568 h2
  omega
theorem small_s (rs : List Row) (y : ByteArray) (hF : Fits rs) (hl : rs.length ≤ 4096) : (gsum y rs).natAbs < 85070591730234615865843651857942052864 := by
  have h := gsum_le y rs hF
  have := Nat.mul_le_mul_right 9223372036854775808 hl
  omega

section
variable {w0 w : World} {M gb hb rb : Nat} {rs : List Row} {bv : Ix → Nat} {i : Nat} {x : Row}
theorem Mid2.pos {hv : Value} (h : V2 w0 M gb hb rb rs bv (gtot rs (rs.take (i + 1))) (rtot (rs.take (i + 1))) (left rs x) hv (over rs (rs.take i)) (heldTo rs i) w) (hx : rs[i]? = some x) (hp : 0 < left rs x) : Lp2 w0 M gb hb rb rs bv (i + 1) (w.setCell ⟨hb, i, none⟩ (.int .i64 (wrap64 (left rs x)))) := by
  have e1 : over rs (rs.take (i + 1)) = over rs (rs.take i) := by rw [take_snoc rs i x hx, over_snoc, if_neg (by omega)]
  have e2 : heldV rs x = wrap64 (left rs x) := by simp [heldV, hp]
  refine ⟨left rs x, hv, ?_⟩
  rw [e1, heldTo_next rs i x hx, e2]
  exact h.hold i _
theorem Mid2.zero (h : Mid2 w0 M gb hb rb rs bv i x w) (hx : rs[i]? = some x) (hp : left rs x = 0) : Lp2 w0 M gb hb rb rs bv (i + 1) w := by
  obtain ⟨hv, h⟩ := h
  have e1 : over rs (rs.take (i + 1)) = over rs (rs.take i) := by rw [take_snoc rs i x hx, over_snoc, if_neg (by omega)]
  refine ⟨left rs x, hv, ?_⟩
  rw [e1, heldTo_none rs i x hx (by omega)]
  exact h
theorem Mid2.neg {hv hv' : Value} {w1 w3 : World} (h : V2 w0 M gb hb rb rs bv (gtot rs (rs.take (i + 1))) (rtot (rs.take (i + 1))) (left rs x) hv (over rs (rs.take i)) (heldTo rs i) w) (hx : rs[i]? = some x) (hp : left rs x < 0) (hb1 : Below w.heap.size w w1) (hg : w1.grownBy w3 hv.ownBlock)
    (ho : w3.ownsRow w0.heap.size 9 1 hv' ((over rs (rs.take i)).length + 1) ((over rs (rs.take i)).map Value.string ++ [.string x.name])) :
    Lp2 w0 M gb hb rb rs bv (i + 1) (w3.setCell ⟨gb, 2, none⟩ hv') ∧ (∃ v, w3.cell? ⟨gb, 2, none⟩ = some v) ∧ w3.frozen? ⟨gb, 2, none⟩ = false := by
  have e1 : over rs (rs.take (i + 1)) = over rs (rs.take i) ++ [x.name] := by rw [take_snoc rs i x hx, over_snoc, if_pos hp]
  obtain ⟨h1, h2, h3⟩ := h.push x.name hv' hb1 hg ho
  refine ⟨⟨left rs x, hv', ?_⟩, h2, h3⟩
  rw [e1, heldTo_none rs i x hx (by omega)]
  exact h1
end
/-- What reserveGrants gives. -/
def GivesRG (w w' : World) (rs : List Row) (e : Ending) : Prop :=
  ∃ hb bG bR oG oR ao co, e = .returned (.tuple #[.slice (some ⟨hb, 0, none⟩) rs.length rs.length, .agg #[.pointer (some ⟨bG, 0, none⟩), .pointer (some ⟨bR, 0, none⟩), .slice ao (over rs rs).length co]]) ∧
    w'.heap[hb]? = some (.cells ((held rs rs).map (Value.int .i64)).toArray 2 (0, 0)) ∧ BigAt w' bG (gtot rs rs) oG ∧ BigAt w' bR (rtot rs) oR ∧ StrsAt w' ao co (over rs rs) ∧ Below w.heap.size w w' ∧ w.heap.size ≤ bG ∧ w.heap.size ≤ bR

theorem fin_gives {w w0 wr w' : World} {M gb hb : Nat} {rs : List Row} {bv : Ix → Nat} {zL : Int} {ao : Option Addr} {co : Nat} (h : V2 w0 M gb hb w.heap.size rs bv (gtot rs rs) (rtot rs) zL (.slice ao (over rs rs).length co) (over rs rs) (held rs rs) wr) (hw0 : w0 = w.alloc (.cells #[.pointer none, .pointer none, .slice none 0 0] 30))
    (hos : w'.os = wr.os) (htp : w'.tape = wr.tape) (hou : w'.output = wr.output) (hsz : wr.heap.size ≤ w'.heap.size) (hk : ∀ k, k ≠ w.heap.size → w'.heap[k]? = wr.heap[k]?) :
    GivesRG w w' rs (.returned (.tuple #[.slice (some ⟨hb, 0, none⟩) rs.length rs.length, .agg #[.pointer (some ⟨bv .G, 0, none⟩), .pointer (some ⟨bv .R, 0, none⟩), .slice ao (over rs rs).length co]])) := by
  obtain ⟨ov, val, h, e1, e2, rfl⟩ := h
  have s0 : w0.heap.size = w.heap.size + 1 := by rw [hw0]; simp
  have b0 : Below w.heap.size w w0 := by rw [hw0]; exact (Below.refl _ _).alloc (Nat.le_refl _) _
  have hbl := h.sta.below
  have hres := h.res
  have hbase := h.sta.fam.base
  have hkp : ∀ (k : Nat) (ob : Obj), wr.heap[k]? = some ob → k ≠ w.heap.size → w'.heap[k]? = some ob := fun k ob e hn => by rw [hk k hn, e]
  have hbig : ∀ i, KA rs i → BigAt w' (bv i) (val i) (ov i) := fun i hi => (h.sta.fam.big i hi).kept (fun k q => hk k (fun e => by have := hbase i hi k q; omega))
  have G := hbig .G trivial
  have R := hbig .R trivial
  rw [e1] at G
  rw [e2] at R
  have hov : w'.ownsRow w0.heap.size 9 1 (.slice ao (over rs rs).length co) (over rs rs).length ((over rs rs).map Value.string) := ownsRow_same h.over (fun k c e => hkp k _ e (fun q => by subst q; rw [hres] at e; cases e))
  obtain ⟨ao', co', e, hst⟩ := StrsAt.of_ownsAny hov
  injection e with ea eb ec
  subst ea
  subst ec
  refine ⟨hb, bv .G, bv .R, ov .G, ov .R, ao, co, rfl, hkp _ _ h.row (fun q => by have := h.hB; omega), G, R, hst, ?_, ?_, ?_⟩
  · refine ⟨hos.trans (hbl.os.trans b0.os), htp.trans (hbl.tape.trans b0.tape), hou.trans (hbl.output.trans b0.output), Nat.le_trans b0.size (Nat.le_trans hbl.size hsz), fun k hk2 => ?_⟩
    rw [hk k (by omega), hbl.block k (by omega), b0.block k hk2]
  · have := hbase .G trivial _ (.inl rfl); omega
  · have := hbase .R trivial _ (.inl rfl); omega
end Go.Proofs.Qxb6616546a
