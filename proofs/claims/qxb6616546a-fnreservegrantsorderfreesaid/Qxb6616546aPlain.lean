/-
  The plain law of FnReserveGrantsOrderFree: sums by name do not hear the order.
-/
import Derived.Test.Qxb6616546aInt
namespace Go.Proofs.Qxb6616546a
open Go.RowKit

structure Row where
  name : ByteArray
  q : Int
  r : Int
  of : ByteArray
  g : Bool

/-- What is granted from y's reserve. -/
def gsum (y : ByteArray) : List Row → Int
  | [] => 0
  | r :: l => (if r.g = true ∧ r.of = y then r.q else 0) + gsum y l
theorem gsum_append (y : ByteArray) (a b : List Row) : gsum y (a ++ b) = gsum y a + gsum y b := by
  induction a with
  | nil => simp [gsum]
  | cons r a ih => simp only [List.cons_append, gsum, ih]; omega
theorem gsum_reverse (y : ByteArray) (a : List Row) : gsum y a.reverse = gsum y a := by
  induction a with
  | nil => rfl
  | cons r a ih => rw [List.reverse_cons, gsum_append, ih]; simp only [gsum]; omega
theorem gsum_snoc (y : ByteArray) (a : List Row) (r : Row) : gsum y (a ++ [r]) = gsum y a + (if r.g = true ∧ r.of = y then r.q else 0) := by
  rw [gsum_append]; simp [gsum]

/-- y is granted from. -/
def InK (l : List Row) (y : ByteArray) : Prop := ∃ r ∈ l, r.g = true ∧ r.of = y
theorem gsum_none {y : ByteArray} {l : List Row} (h : ¬ InK l y) : gsum y l = 0 := by
  induction l with
  | nil => rfl
  | cons r l ih =>
    have h1 : ¬ (r.g = true ∧ r.of = y) := fun q => h ⟨r, by simp, q⟩
    have h2 : ¬ InK l y := fun ⟨x, hx, q⟩ => h ⟨x, by simp [hx], q⟩
    simp only [gsum, if_neg h1, ih h2]
    rfl
theorem InK_snoc (l : List Row) (r : Row) (y : ByteArray) : InK (l ++ [r]) y ↔ InK l y ∨ (r.g = true ∧ r.of = y) := by
  unfold InK
  constructor
  · rintro ⟨x, hx, q⟩
    rcases List.mem_append.1 hx with h | h
    · exact .inl ⟨x, h, q⟩
    · simp at h; subst h; exact .inr q
  · rintro (⟨x, hx, q⟩ | q)
    · exact ⟨x, by simp [hx], q⟩
    · exact ⟨r, by simp, q⟩

/-- The rows' numbers are int64. -/
def Fits (l : List Row) : Prop := ∀ r ∈ l, -9223372036854775808 ≤ r.q ∧ r.q ≤ 9223372036854775807 ∧ -9223372036854775808 ≤ r.r ∧ r.r ≤ 9223372036854775807
theorem gsum_le (y : ByteArray) (l : List Row) (h : Fits l) : (gsum y l).natAbs ≤ l.length * 9223372036854775808 := by
  induction l with
  | nil => simp [gsum]
  | cons r l ih =>
    have h1 := h r (by simp)
    have h2 := ih (fun x hx => h x (by simp [hx]))
    simp only [gsum, List.length_cons]
    split <;> omega

def left (rs : List Row) (r : Row) : Int := r.r - gsum r.name rs
def heldV (rs : List Row) (r : Row) : Int := if 0 < left rs r then wrap64 (left rs r) else 0
def held (rs l : List Row) : List Int := l.map (heldV rs)
def over (rs l : List Row) : List ByteArray := (l.filter fun r => decide (left rs r < 0)).map Row.name
def gtot (rs : List Row) : List Row → Int
  | [] => 0
  | r :: l => gsum r.name rs + gtot rs l
def rtot : List Row → Int
  | [] => 0
  | r :: l => r.r + rtot l
theorem gtot_append (rs a b : List Row) : gtot rs (a ++ b) = gtot rs a + gtot rs b := by
  induction a with
  | nil => simp [gtot]
  | cons r a ih => simp only [List.cons_append, gtot, ih]; omega
theorem rtot_append (a b : List Row) : rtot (a ++ b) = rtot a + rtot b := by
  induction a with
  | nil => simp [rtot]
  | cons r a ih => simp only [List.cons_append, rtot, ih]; omega
theorem gtot_snoc (rs a : List Row) (r : Row) : gtot rs (a ++ [r]) = gtot rs a + gsum r.name rs := by rw [gtot_append]; simp [gtot]
theorem rtot_snoc (a : List Row) (r : Row) : rtot (a ++ [r]) = rtot a + r.r := by rw [rtot_append]; simp [rtot]
theorem rtot_reverse (a : List Row) : rtot a.reverse = rtot a := by
  induction a with
  | nil => rfl
  | cons r a ih => rw [List.reverse_cons, rtot_snoc, ih]; simp only [rtot]; omega
theorem left_reverse (rs : List Row) : left rs.reverse = left rs := by
  funext r
  unfold left
  rw [gsum_reverse]
theorem gtot_reverse (rs a : List Row) : gtot rs.reverse a.reverse = gtot rs a := by
  induction a with
  | nil => rfl
  | cons r a ih => rw [List.reverse_cons, gtot_snoc, ih, gsum_reverse]; simp only [gtot]; omega
theorem held_reverse (rs a : List Row) : held rs.reverse a.reverse = (held rs a).reverse := by
  unfold held heldV
  rw [left_reverse, List.map_reverse]
theorem over_reverse (rs a : List Row) : over rs.reverse a.reverse = (over rs a).reverse := by
  unfold over
  rw [left_reverse, List.filter_reverse, List.map_reverse]
theorem rtot_le (l : List Row) (h : Fits l) : (rtot l).natAbs ≤ l.length * 9223372036854775808 := by
  induction l with
  | nil => simp [rtot]
  | cons r l ih =>
    have h1 := h r (by simp)
    have h2 := ih (fun x hx => h x (by simp [hx]))
    simp only [rtot, List.length_cons]
    omega
theorem gtot_le (rs l : List Row) (h : Fits rs) (hn : rs.length ≤ 4096) : (gtot rs l).natAbs ≤ l.length * 37778931862957161709568 := by
  induction l with
  | nil => simp [gtot]
  | cons r l ih =>
    have h1 := gsum_le r.name rs h
    simp only [gtot, List.length_cons]
    have h2 : rs.length * 9223372036854775808 ≤ 4096 * 9223372036854775808 := Nat.mul_le_mul_right _ hn
    omega
theorem left_le (rs : List Row) (r : Row) (h : Fits rs) (hn : rs.length ≤ 4096) (hr : r ∈ rs) : (left rs r).natAbs < 85070591730234615865843651857942052864 := by
  have h1 := gsum_le r.name rs h
  have h2 := h r hr
  have h3 : rs.length * 9223372036854775808 ≤ 4096 * 9223372036854775808 := Nat.mul_le_mul_right _ hn
  unfold left
  omega
theorem Fits.take {l : List Row} (h : Fits l) (n : Nat) : Fits (l.take n) := fun r hr => h r (List.mem_of_mem_take hr)
theorem take_snoc {α : Type} (l : List α) (n : Nat) (x : α) (h : l[n]? = some x) : l.take (n + 1) = l.take n ++ [x] := by
  rw [List.take_add_one, h]; rfl
theorem held_snoc (rs a : List Row) (r : Row) : held rs (a ++ [r]) = held rs a ++ [heldV rs r] := by simp [held]
theorem over_snoc (rs a : List Row) (r : Row) : over rs (a ++ [r]) = if left rs r < 0 then over rs a ++ [r.name] else over rs a := by
  unfold over
  rw [List.filter_append, List.map_append]
  by_cases h : left rs r < 0 <;> simp [h]
theorem over_le (rs a : List Row) : (over rs a).length ≤ a.length := by
  unfold over
  rw [List.length_map]
  exact List.length_filter_le _ _

/-- The bytes of a string. -/
def str (s : ByteArray) : List UInt8 := s.data.toList
theorem str_inj {a b : ByteArray} (h : str a = str b) : a = b := by
  cases a; cases b
  unfold str at h
  simp at h
  rw [h]

/-- All old cells read as they did. -/
def Keeps (w w' : World) : Prop := w.heap.size ≤ w'.heap.size ∧ ∀ a u, w.cell? a = some u → w'.cell? a = some u
theorem Keeps.refl (w : World) : Keeps w w := ⟨Nat.le_refl _, fun _ _ h => h⟩
theorem Keeps.trans {a b c : World} (h : Keeps a b) (k : Keeps b c) : Keeps a c := ⟨Nat.le_trans h.1 k.1, fun x u q => k.2 x u (h.2 x u q)⟩
theorem Keeps.below {w w' : World} (h : Below w.heap.size w w') : Keeps w w' :=
  ⟨h.size, fun a _ q => (h.cell (World.block_lt_of_cell? w a q)).trans q⟩

/-- The five cells of a row. -/
structure RowCells (w : World) (b o : Nat) (x : Row) : Prop where
  name : w.cell? ⟨b, o, none⟩ = some (.string x.name)
  q : w.cell? ⟨b, o + 1, none⟩ = some (.int .i64 x.q)
  r : w.cell? ⟨b, o + 2, none⟩ = some (.int .i64 x.r)
  of : w.cell? ⟨b, o + 3, none⟩ = some (.string x.of)
  g : w.cell? ⟨b, o + 4, none⟩ = some (.bool x.g)
theorem RowCells.keeps {w w' : World} {b o : Nat} {r : Row} (h : RowCells w b o r) (k : Keeps w w') : RowCells w' b o r :=
  ⟨k.2 _ _ h.name, k.2 _ _ h.q, k.2 _ _ h.r, k.2 _ _ h.of, k.2 _ _ h.g⟩

/-- A slice of rows that reads in w as rs. -/
def RowsAt (w : World) (ao : Option Addr) (cap : Nat) (rs : List Row) : Prop :=
  (ao = none → rs = [] ∧ cap = 0) ∧ rs.length ≤ cap ∧ ∀ j r, rs[j]? = some r → ∃ b off, ao = some ⟨b, off, none⟩ ∧ RowCells w b (off + j * 5) r
theorem RowsAt.keeps {w w' : World} {ao : Option Addr} {cap : Nat} {rs : List Row} (h : RowsAt w ao cap rs) (k : Keeps w w') : RowsAt w' ao cap rs :=
  ⟨h.1, h.2.1, fun j p q => let ⟨b, off, h1, h2⟩ := h.2.2 j p q; ⟨b, off, h1, h2.keeps k⟩⟩
theorem RowsAt.at {w : World} {ao : Option Addr} {cap : Nat} {rs : List Row} (h : RowsAt w ao cap rs) (hp : 0 < rs.length) :
    ∃ b off, ao = some ⟨b, off, none⟩ ∧ b < w.heap.size ∧ ∀ j r, rs[j]? = some r → RowCells w b (off + j * 5) r := by
  obtain ⟨b, off, h1, h0⟩ := h.2.2 0 rs[0] (List.getElem?_eq_getElem hp)
  refine ⟨b, off, h1, World.block_lt_of_cell? w _ h0.name, fun j s hj => ?_⟩
  obtain ⟨b', off', h1', h2'⟩ := h.2.2 j s hj
  rw [h1] at h1'
  simp at h1'
  obtain ⟨rfl, rfl⟩ := h1'
  exact h2'

/-- A slice of strings that reads in w as ss. -/
def StrsAt (w : World) (ao : Option Addr) (cap : Nat) (ss : List ByteArray) : Prop :=
  (ao = none → ss = [] ∧ cap = 0) ∧ ss.length ≤ cap ∧ ∀ j s, ss[j]? = some s → ∃ b off, ao = some ⟨b, off, none⟩ ∧ w.cell? ⟨b, off + j, none⟩ = some (.string s)
theorem StrsAt.keeps {w w' : World} {ao : Option Addr} {cap : Nat} {ss : List ByteArray} (h : StrsAt w ao cap ss) (k : Keeps w w') : StrsAt w' ao cap ss :=
  ⟨h.1, h.2.1, fun j s q => let ⟨b, off, h1, h2⟩ := h.2.2 j s q; ⟨b, off, h1, k.2 _ _ h2⟩⟩
theorem StrsAt.nil (w : World) : StrsAt w none 0 [] := ⟨fun _ => ⟨rfl, rfl⟩, by simp, fun j s h => by simp at h⟩
theorem StrsAt.at {w : World} {ao : Option Addr} {cap : Nat} {ss : List ByteArray} (h : StrsAt w ao cap ss) (hp : 0 < ss.length) :
    ∃ b off, ao = some ⟨b, off, none⟩ ∧ ∀ j s, ss[j]? = some s → w.cell? ⟨b, off + j, none⟩ = some (.string s) := by
  obtain ⟨b, off, h1, _⟩ := h.2.2 0 ss[0] (List.getElem?_eq_getElem hp)
  refine ⟨b, off, h1, fun j s hj => ?_⟩
  obtain ⟨b', off', h1', h2'⟩ := h.2.2 j s hj
  rw [h1] at h1'
  simp at h1'
  obtain ⟨rfl, rfl⟩ := h1'
  exact h2'
theorem StrsAt.of_ownsAny {w : World} {base n : Nat} {v : Value} {ss : List ByteArray} (h : w.ownsRow base 9 1 v n (ss.map Value.string)) : ∃ ao cap, v = .slice ao ss.length cap ∧ StrsAt w ao cap ss := by
  have hl : ss.length = n := by simpa using h.1
  rcases h.2 with ⟨hv, hn⟩ | ⟨g', cap', cur, hv, _, _, hc, _⟩
  · subst hn
    have : ss = [] := List.eq_nil_of_length_eq_zero hl
    subst this
    exact ⟨none, 0, hv, StrsAt.nil w⟩
  · subst hl
    subst hv
    refine ⟨_, _, rfl, fun q => (by cases q), hc, fun j s q => ⟨g', 0, rfl, ?_⟩⟩
    have := h.cells (g := g') rfl j (.string s) (by simp [q])
    simpa [Addr.add_lit] using this
end Go.Proofs.Qxb6616546a
