import Derived.Test.Qxb6616546aFmtBase
import Derived.Test.Qxb6616546aFmtPlain
namespace Go.Proofs.Qxb6616546aFmt
open Go.RowKit

def strL (ss : List ByteArray) : List (List UInt8) := ss.map str

/-- The ending: a slice that owns l; below w0's size all is as in w0. -/
def GivesOwn (w0 w' : World) (l : List UInt8) (e : Ending) : Prop := ∃ v', e = .returned v' ∧ OwnB w' w0.heap.size v' l ∧ Below w0.heap.size w0 w'

set_option maxHeartbeats 1000000 in
set_option maxRecDepth 100000 in
theorem quoted_app (w0 w : World) (v : Value) (l : List UInt8) (ao : Option Addr) (cap : Nat) (ss : List ByteArray) (hbel : Below w0.heap.size w0 w) (hss : StrsAt w0 ao cap ss) (hown : OwnB w w0.heap.size v l)
    (hlen : l.length + (names (strL ss)).length ≤ 50000000) (hsl : ss.length ≤ 50000000) :
    Calls Tryf.prog 17 #[v, .slice ao ss.length cap] w fun e w' => GivesOwn w0 w' (l ++ names (strL ss)) e := by
  go_enter Tryf.func17, Tryf.ntmps17
  go_wp2
  go_loopw [0, 8] (fun bv iv wr => ∃ k : Nat, k ≤ ss.length ∧ iv = .int .i64 k ∧ OwnB wr w0.heap.size bv (l ++ names (strL (ss.take k))) ∧ Below w0.heap.size w0 wr) (fun _ iv _ => ss.length - (intOf iv).toNat)
  case atStart => exact ⟨0, by omega, rfl, by simpa [strL, names_nil] using hown, hbel⟩
  case round =>
    obtain ⟨k, hk, rfl, ho, hbr⟩ := hrel
    clear hown hbel
    by_cases hlt : k < ss.length
    · obtain ⟨b, off, rfl, hcell⟩ := hss.at (by omega)
      have hcj := hcell k ss[k] (List.getElem?_eq_getElem hlt)
      have hbB := World.block_lt_of_cell? w0 _ hcj
      have HC : Hid (∀ w', Below w0.heap.size w0 w' → w'.cell? ⟨b, off + k, none⟩ = some (.string ss[k])) := fun w' hb => (hb.cell (by exact hbB)).trans hcj
      have ht : strL (ss.take (k + 1)) = strL (ss.take k) ++ [str ss[k]] := by
        unfold strL
        rw [take_snoc ss k ss[k] (List.getElem?_eq_getElem hlt), List.map_append]
        rfl
      have hn := names_step (strL (ss.take k)) (str ss[k])
      rw [← ht] at hn
      have hm := names_take (strL ss) (k + 1)
      have hm2 : (strL ss).take (k + 1) = strL (ss.take (k + 1)) := by simp [strL, List.map_take]
      rw [hm2, hn] at hm
      simp only [List.length_append, quo, List.length_cons, List.length_nil, str_length] at hm
      have HN : Hid _ := hn
      have hk0 : (strL (ss.take k) = []) ↔ k = 0 := by
        unfold strL
        rw [List.map_eq_nil_iff, List.take_eq_nil_iff]
        constructor
        · rintro (h | h)
          · exact h
          · rw [h] at hlt; simp at hlt
        · exact .inl
      clear hcell ht hn hm2 hcj
      generalize ss[k] = x at *
      generalize names (strL (ss.take k)) = nk at *
      by_cases h0 : k < 1
      · have hc : comma (strL (ss.take k)) = [] := by unfold comma; rw [if_pos (hk0.2 (by omega))]
        rw [hc] at hm HN
        simp only [List.length_nil] at hm
        clear hc hk0
        go_wp2_with (first
          | (at_builtin; refine wpList_append_byte _ 34 rfl _ _ rfl w0.heap.size _ _ (by rfl) ho (by rfl) (by simp only [List.length_append]; omega) ?_; intro v2 w2 o2 b2; have c2 := HC.out w2 (hbr.trans b2))
          | (at_builtin; refine wpList_append_str _ rfl _ _ rfl w0.heap.size _ _ (by rfl) o2 x (by rfl) (by simp only [List.length_append, List.length_cons, List.length_nil]; omega) ?_; intro v3 w3 o3 b3)
          | (at_builtin; refine wpList_append_byte _ 34 rfl _ _ rfl w0.heap.size _ _ (by rfl) o3 (by rfl) (by simp only [List.length_append, List.length_cons, List.length_nil, str_length]; omega) ?_; intro v4 w4 o4 b4))
        go_roundw
        case rel => exact ⟨k + 1, by omega, by go_num, by rw [HN.out]; simpa [quo] using o4, ((hbr.trans b2).trans b3).trans b4⟩
        case measure => simp [intOf]; omega
      · have hc : comma (strL (ss.take k)) = [44, 32] := by unfold comma; rw [if_neg (fun q => h0 (by have := hk0.1 q; omega))]
        rw [hc] at hm HN
        simp only [List.length_cons, List.length_nil] at hm
        clear hc hk0
        go_wp2_with (first
          | (at_builtin; refine wpList_append_str _ rfl _ _ rfl w0.heap.size _ _ (by rfl) ho ⟨#[44, 32]⟩ (by rfl) (by show _ + 2 ≤ _; simp only [List.length_append]; omega) ?_; intro v1 w1 o1 b1)
          | (at_builtin; refine wpList_append_byte _ 34 rfl _ _ rfl w0.heap.size _ _ (by rfl) o1 (by rfl) (by simp only [List.length_append, str_length]; show _ + 2 + 1 ≤ _; omega) ?_; intro v2 w2 o2 b2; have c2 := HC.out w2 ((hbr.trans b1).trans b2))
          | (at_builtin; refine wpList_append_str _ rfl _ _ rfl w0.heap.size _ _ (by rfl) o2 x (by rfl) (by simp only [List.length_append, List.length_cons, List.length_nil, str_length]; show _ + 2 + 1 + _ ≤ _; omega) ?_; intro v3 w3 o3 b3)
          | (at_builtin; refine wpList_append_byte _ 34 rfl _ _ rfl w0.heap.size _ _ (by rfl) o3 (by rfl) (by simp only [List.length_append, List.length_cons, List.length_nil, str_length]; show _ + 2 + 1 + _ + 1 ≤ _; omega) ?_; intro v4 w4 o4 b4))
        go_roundw
        case rel => exact ⟨k + 1, by omega, by go_num, by rw [HN.out]; simpa [quo, str] using o4, (((hbr.trans b1).trans b2).trans b3).trans b4⟩
        case measure => simp [intOf]; omega
    · go_wp2
      go_ret
      refine ⟨_, rfl, ?_, hbr⟩
      rw [List.take_of_length_le (by omega)] at ho
      exact ho
end Go.Proofs.Qxb6616546aFmt
