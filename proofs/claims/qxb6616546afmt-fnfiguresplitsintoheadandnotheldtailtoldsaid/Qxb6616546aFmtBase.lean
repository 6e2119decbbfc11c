/-
  Slices of strings, of pairs of strings and of octets as the walks of this seat see them; appends onto what the call owns.
-/
import Derived.Test.Qxb6616546aFmtCards
import Derived.Test.Qxb6616546aFmtShelf
import Derived.WalkKit
import Derived.ProofKit
import Derived.OpenShut
import Derived.ShutString
import Derived.Below
import Derived.Laws.AppendOwnNone
import Derived.Laws.IdiomStrings
import Derived.Laws.BytesArg
import Derived.Deep.AppendSrc
import Derived.Deep.Upon
import Derived.Deep.DeepCutAuto
import Derived.Deep.CutBlock
import Derived.Deep.LoopGhost
import Derived.Deep.QuietTactic
import Derived.Deep.RegionHeld3
import Derived.Maps.AppendAt
import Derived.Maps.OwnSet
import Derived.Maps.OwnRows
import Derived.BigQuiet
import Derived.WalkSpells
import Derived.WalkSmall
import Derived.Outline
namespace Go.Proofs.Qxb6616546aFmt
open Go.RowKit

theorem Tryf.info5 : (Tryf.prog.info? 5).map (fun i => (i.zero, i.size, i.bytes)) = some (some (.int .u8 0), 1, 1) := by kernel_rfl
theorem Tryf.info9 : (Tryf.prog.info? 9).map (fun i => (i.zero, i.size, i.bytes)) = some (some (.string ByteArray.empty), 1, 16) := by kernel_rfl

/-- A slice of strings that reads in w as ss. -/
def StrsAt (w : World) (ao : Option Addr) (cap : Nat) (ss : List ByteArray) : Prop :=
  (ao = none → ss = [] ∧ cap = 0) ∧ ss.length ≤ cap ∧ ∀ j s, ss[j]? = some s → ∃ b off, ao = some ⟨b, off, none⟩ ∧ w.cell? ⟨b, off + j, none⟩ = some (.string s)

/-- All old cells read as they did. -/
def Keeps (w w' : World) : Prop := w.heap.size ≤ w'.heap.size ∧ ∀ a u, w.cell? a = some u → w'.cell? a = some u

theorem Keeps.refl (w : World) : Keeps w w := ⟨Nat.le_refl _, fun _ _ h => h⟩
theorem Keeps.trans {a b c : World} (h : Keeps a b) (k : Keeps b c) : Keeps a c := ⟨Nat.le_trans h.1 k.1, fun x u q => k.2 x u (h.2 x u q)⟩
theorem Keeps.below {w w' : World} (h : Below w.heap.size w w') : Keeps w w' :=
  ⟨h.size, fun a _ q => (h.cell (World.block_lt_of_cell? w a q)).trans q⟩

theorem StrsAt.keeps {w w' : World} {ao : Option Addr} {cap : Nat} {ss : List ByteArray} (h : StrsAt w ao cap ss) (k : Keeps w w') : StrsAt w' ao cap ss :=
  ⟨h.1, h.2.1, fun j s q => let ⟨b, off, h1, h2⟩ := h.2.2 j s q; ⟨b, off, h1, k.2 _ _ h2⟩⟩

theorem StrsAt.nil (w : World) : StrsAt w none 0 [] := ⟨fun _ => ⟨rfl, rfl⟩, by simp, fun j s h => by simp at h⟩

theorem StrsAt.at {w : World} {ao : Option Addr} {cap : Nat} {ss : List ByteArray} (h : StrsAt w ao cap ss) (hp : 0 < ss.length) :
    ∃ b off, ao = some ⟨b, off, none⟩ ∧ ∀ j s, ss[j]? = some s → w.cell? ⟨b, off + j, none⟩ = some (.string s) := by
  obtain ⟨b, off, h1, _⟩ := h.2.2 0 ss[0] (List.getElem?_eq_getElem hp)
  refine ⟨b, off, h1, fun j s hj => ?_⟩
  obtain ⟨b', off', h1', h2'⟩ := h.2.2 j s hj
  rw [h1] at h1'
  simp at h1'
  obtain ⟨rfl, rfl⟩ := h1'
  exact h2'

theorem StrsAt.of_ownsAny {w : World} {base n : Nat} {v : Value} {ss : List ByteArray} (h : w.ownsRow base 9 1 v n (ss.map Value.string)) : ∃ ao cap, v = .slice ao ss.length cap ∧ StrsAt w ao cap ss := by
  have hl : ss.length = n := by simpa using h.1
  rcases h.2 with ⟨hv, hn⟩ | ⟨g', cap', cur, hv, _, _, hc, _⟩
  · subst hn
    have : ss = [] := List.eq_nil_of_length_eq_zero hl
    subst this
    exact ⟨none, 0, hv, StrsAt.nil w⟩
  · subst hl
    subst hv
    refine ⟨_, _, rfl, fun q => (by cases q), hc, fun j s q => ⟨g', 0, rfl, ?_⟩⟩
    have := h.cells (g := g') rfl j (.string s) (by simp [q])
    simpa [Addr.add_lit] using this

theorem StrsAt.of_block {w : World} {g : Nat} {ss : List ByteArray} {t : TypeId} {fr : Nat × Nat} (h : w.heap[g]? = some (.cells (ss.map Value.string).toArray t fr)) : StrsAt w (some ⟨g, 0, none⟩) ss.length ss := by
  refine ⟨fun q => (by cases q), Nat.le_refl _, fun j s hj => ⟨g, 0, rfl, ?_⟩⟩
  rw [cell_of_row _ _ _ _ _ _ h]
  simp [hj]

/-- A slice of structs of two strings that reads in w as ps. -/
def PairsAt (w : World) (ao : Option Addr) (cap : Nat) (ps : List (ByteArray × ByteArray)) : Prop :=
  (ao = none → ps = [] ∧ cap = 0) ∧ ps.length ≤ cap ∧ ∀ j p, ps[j]? = some p → ∃ b off, ao = some ⟨b, off, none⟩ ∧ w.cell? ⟨b, off + j * 2, none⟩ = some (.string p.1) ∧ w.cell? ⟨b, off + j * 2 + 1, none⟩ = some (.string p.2)

theorem PairsAt.keeps {w w' : World} {ao : Option Addr} {cap : Nat} {ps : List (ByteArray × ByteArray)} (h : PairsAt w ao cap ps) (k : Keeps w w') : PairsAt w' ao cap ps :=
  ⟨h.1, h.2.1, fun j p q => let ⟨b, off, h1, h2, h3⟩ := h.2.2 j p q; ⟨b, off, h1, k.2 _ _ h2, k.2 _ _ h3⟩⟩

theorem PairsAt.nil (w : World) : PairsAt w none 0 [] := ⟨fun _ => ⟨rfl, rfl⟩, by simp, fun j s h => by simp at h⟩

theorem PairsAt.at {w : World} {ao : Option Addr} {cap : Nat} {ps : List (ByteArray × ByteArray)} (h : PairsAt w ao cap ps) (hp : 0 < ps.length) :
    ∃ b off, ao = some ⟨b, off, none⟩ ∧ ∀ j p, ps[j]? = some p → w.cell? ⟨b, off + j * 2, none⟩ = some (.string p.1) ∧ w.cell? ⟨b, off + j * 2 + 1, none⟩ = some (.string p.2) := by
  obtain ⟨b, off, h1, _⟩ := h.2.2 0 ps[0] (List.getElem?_eq_getElem hp)
  refine ⟨b, off, h1, fun j s hj => ?_⟩
  obtain ⟨b', off', h1', h2'⟩ := h.2.2 j s hj
  rw [h1] at h1'
  simp at h1'
  obtain ⟨rfl, rfl⟩ := h1'
  exact h2'

/-- The bytes of a string; a string of bytes. -/
def str (s : ByteArray) : List UInt8 := s.data.toList
def B8 (l : List UInt8) : ByteArray := ⟨l.toArray⟩
theorem str_B8 (l : List UInt8) : str (B8 l) = l := rfl
theorem B8_str (s : ByteArray) : B8 (str s) = s := by cases s; rfl
theorem str_length (s : ByteArray) : (str s).length = s.size := by unfold str; rw [Array.length_toList]; rfl

/-- Octets as cells. -/
def bytesV (l : List UInt8) : List Value := l.map fun b => Value.int .u8 b.toNat

/-- v owns the octets l, in blocks from B on. -/
def OwnB (w : World) (B : Nat) (v : Value) (l : List UInt8) : Prop := w.ownsRow B 5 1 v l.length (bytesV l) ∧ B ≤ w.heap.size

theorem OwnB.nil (w : World) (B : Nat) (h : B ≤ w.heap.size) : OwnB w B (.slice none 0 0) [] := ⟨World.ownsRow_nil _ _ _ _, h⟩

/-- append ONTO WHAT THE CALL OWNS, OUT OF WHATEVER SOURCE (cells of one value each). -/
theorem run_append_own_src {P : Program} (w : World) (base : Nat) (t tx ty e : TypeId) (i : TypeInfo) (z : Value) (ht : P.underlying t = some (.slice e)) (hi : P.info? e = some i) (hz : i.zero = some z) (hsize : i.size = 1) (hzs : z.cells.size = 1)
    (v : Value) (n : Nat) (xs : List Value) (hown : w.ownsRow base e 1 v n xs) (x : Value) (m : Nat) (news : List Value) (hs : Src P 1 tx x m news w)
    (h63 : n + m ≤ maxLen) (hbytes : (n + m) * i.bytes ≤ 140737488355328) (hbase : base ≤ w.heap.size) :
    ∃ v' w', (Builtin.append_ #[t, tx] ty #[v, x]).run P w = .ok v' w' ∧ w'.ownsRow base e 1 v' (n + m) (xs ++ news) ∧ w.grownBy w' v.ownBlock := by
  have hlen : (xs ++ news).length = (n + m) * 1 := by rw [List.length_append, hown.1, hs.newsLen, Nat.add_mul]
  have hs' : Src P i.size tx x m news w := by rw [hsize]; exact hs
  have h63' : ((n + m : Nat) : Int) ≤ 9223372036854775807 := by simp only [maxLen] at h63; omega
  have grown : ∀ (old : Nat), old < n + m → ∀ (row : Option Nat),
      (w.drew.alloc (.cells ((xs ++ news).toArray ++ Builtin.zeroCells z.cells (grownCap w (n + m) old e - (n + m))) e)).ownsRow base e 1 (.slice (some ⟨w.heap.size, 0, none⟩) (n + m) (grownCap w (n + m) old e)) (n + m) (xs ++ news) ∧
      w.grownBy (w.drew.alloc (.cells ((xs ++ news).toArray ++ Builtin.zeroCells z.cells (grownCap w (n + m) old e - (n + m))) e)) row := by
    intro old ho row
    have hge := grownCap_ge w (n + m) old e
    have hcm := grownCap_le_maxLen w (n + m) old e h63
    refine ⟨⟨hlen, .inr ⟨w.heap.size, _, _, rfl, hbase, heap_alloc_new w.drew _, hge, hcm, ?_, ?_⟩⟩, ⟨rfl, rfl, rfl, by simp, fun k hk _ => Below.heap_alloc w.drew _ k hk⟩⟩
    · simp only [Array.size_append, List.size_toArray, size_zeroCells, hzs, hlen]
      omega
    · simp only [Array.toList_append]
      rw [← hlen]
      exact List.take_left
  rcases hown.2 with ⟨rfl, rfl⟩ | ⟨g, cap, cur, rfl, hbg, hg, hnc, hcm, hcs, htake⟩
  · have hx : xs = [] := List.eq_nil_of_length_eq_zero (by simpa using hown.1)
    subst hx
    by_cases hm : m = 0
    · subst hm
      have hn : news = [] := List.eq_nil_of_length_eq_zero (by simpa using hs.newsLen)
      subst hn
      exact ⟨_, _, run_append_nothing w t tx ty e i ht hi none 0 0 (Nat.le_refl _) x hs', World.ownsRow_nil w base e 1, World.grownBy.refl _ _⟩
    · have hgr := grown 0 (by omega) (Value.ownBlock (.slice none 0 0))
      have hr := run_append_grow_src (P := P) w t tx ty e i z ht hi hz none 0 0 [] (run_firstCells_none w.drew i.size 0 0 0) x m news hs' (by omega) (by omega) (growslice_fits (by omega) hbytes)
      simp only [List.nil_append] at hr
      exact ⟨_, _, hr, by simpa using hgr.1, by simpa using hgr.2⟩
  · by_cases hroom : n + m ≤ cap
    · have hfit : n * i.size + 0 + news.length ≤ cur.size := by rw [hs.newsLen, hcs, hsize]; omega
      have hst := run_storeCells_at P g (n * i.size) e news 0 cur w hg hfit hs.one
      simp only [Nat.add_zero] at hst
      have hr : (Builtin.append_ #[t, tx] ty #[.slice (some ⟨g, 0, none⟩) n cap, x]).run P w = .ok (.slice (some ⟨g, 0, none⟩) (n + m) cap) (w.setRow g (cur.toList.take (n * i.size) ++ news ++ cur.toList.drop (n * i.size + news.length)).toArray) := by
        rcases hs'.kind with ⟨e', hk⟩ | hk <;> simp [Builtin.append_, run_underlying ht, run_underlying hk, sizeOf, typeInfo, hi, hs'.len, hroom, hs'.cells, Addr.add_lit, hst]
      refine ⟨_, _, hr, ⟨hlen, .inr ⟨g, cap, _, rfl, hbg, setRow_heap w g cur _ e _ hg, hroom, hcm, ?_, ?_⟩⟩, ⟨rfl, rfl, rfl, by simp, fun k _ hk => setRow_other w g k _ (fun e => hk (by simp [Value.ownBlock, e]))⟩⟩
      · simp only [List.size_toArray, List.length_append, List.length_take, List.length_drop, Array.length_toList]
        omega
      · rw [hsize, htake, ← hlen]
        exact List.take_left
    · have holds : ∀ j u, xs[j]? = some u → w.drew.cell? ((⟨g, 0, none⟩ : Addr).add j) = some u := by simpa using hown.cells (g := g) rfl
      have hf := run_firstCells_some (P := P) w.drew i.size n ⟨g, 0, none⟩ n cap xs (by rw [hsize]; exact hown.1) holds
      have hr := run_append_grow_src (P := P) w t tx ty e i z ht hi hz (some ⟨g, 0, none⟩) n cap xs hf x m news hs' (by omega) (by omega) (growslice_fits (by omega) hbytes)
      have hgr := grown cap (by omega) (Value.ownBlock (.slice (some ⟨g, 0, none⟩) n cap))
      exact ⟨_, _, hr, hgr.1, hgr.2⟩

/-- 'append(b, s...)', s a string. -/
theorem wpList_append_str (w : World) {ops : Array Oper} {rest : List Oper} {o : Oper} {a : Act} {Q : Exit → Act → World → Prop} (hgd : o.guard = none) (s y : Operand)
    (ho : o.op = .call { callee := .builtin .append, args := #[s, y], argTypes := #[43, 9] })
    (B : Nat) (v : Value) (l : List UInt8) (hs : a.eval s = v) (hown : OwnB w B v l) (x : ByteArray) (hy : a.eval y = .string x) (hb : l.length + x.size ≤ 100000000)
    (h : ∀ v' w', OwnB w' B v' (l ++ str x) → Below B w w' → wpList Tryf.prog ops Q rest (a.put o.dst v') w') : wpList Tryf.prog ops Q (o :: rest) a w := by
  obtain ⟨i0, hi, hz0, hz1, hz2⟩ := info_parts Tryf.info5
  refine wpList_plain hgd fun K hK => ?_
  obtain ⟨v', w', hr, r1, r2⟩ := run_append_own_src (P := Tryf.prog) w B 43 9 o.type 5 i0 (.int .u8 0) Tryf.underlying43 hi hz0 hz1 rfl v _ _ hown.1 (.string x) x.size (byteCells x) (Src.ofString w Tryf.underlying9 x) (by unfold maxLen; omega) (by rw [hz2]; omega) hown.2
  have hb2 : Below B w w' := (Below.refl B w).grown r2 hown.2 (fun k hk => (hown.1.lt k hk).1)
  unfold Oper.wp execOp
  simp only [ho, resolve, invoke, builtin, Sem.run_bind, Sem.run_pure, Result.andThen_ok, List.map_toArray, List.map_cons, List.map_nil, hs, hy, hr]
  refine hK _ _ (h v' w' ⟨?_, Nat.le_trans hown.2 hb2.size⟩ hb2)
  have e1 : (l ++ str x).length = l.length + x.size := by rw [List.length_append, str_length]
  have e2 : bytesV (l ++ str x) = bytesV l ++ byteCells x := by simp [bytesV, byteCells, str]
  rw [e1, e2]
  exact r1

/-- 'append(b, c)', c an octet that lies in a block of its own. -/
theorem wpList_append_byte (w : World) (c : UInt8) {ops : Array Oper} {rest : List Oper} {o : Oper} {a : Act} {Q : Exit → Act → World → Prop} (hgd : o.guard = none) (s y : Operand)
    (ho : o.op = .call { callee := .builtin .append, args := #[s, y], argTypes := #[43, 43] })
    (B : Nat) (v : Value) (l : List UInt8) (hs : a.eval s = v) (hown : OwnB w B v l)
    (hy : a.eval y = .slice (some ⟨w.heap.size, 0, none⟩) 1 1) (hb : l.length + 1 ≤ 100000000)
    (h : ∀ v' w', OwnB w' B v' (l ++ [c]) → Below B w w' → wpList Tryf.prog ops Q rest (a.put o.dst v') w') : wpList Tryf.prog ops Q (o :: rest) a (w.alloc (.cells #[.int .u8 (c.toNat : Int)] 5)) := by
  obtain ⟨i0, hi, hz0, hz1, hz2⟩ := info_parts Tryf.info5
  refine wpList_append_own _ hgd s y 43 ho B 5 i0 (.int .u8 0) 1 1 Tryf.underlying43 hi hz0 hz1 hz2 rfl (by decide) v _ _ hs (hown.1.alloc _) ⟨w.heap.size, 0, none⟩ 1 1 [.int .u8 (c.toNat : Int)] hy rfl (cell_one_new _ _ _) (ints_oneCell .u8 [(c.toNat : Int)]) (by unfold maxLen; omega) (by omega) (by have := hown.2; simp; omega) ?_
  intro v' w' r1 r2 _
  have hb1 : Below B w (w.alloc (.cells #[.int .u8 (c.toNat : Int)] 5)) := (Below.refl _ _).alloc hown.2 _
  have hb2 : Below B w w' := hb1.grown r2 (by have := hown.2; simp; omega) (fun k hk => (hown.1.lt k hk).1)
  refine h v' w' ⟨?_, Nat.le_trans hown.2 hb2.size⟩ hb2
  simpa [bytesV] using r1

/-- 'string(b)'. -/
theorem run_string_own {w : World} {B : Nat} {v : Value} {l : List UInt8} (h : OwnB w B v l) : ∃ ao cap, v = .slice ao l.length cap ∧ ∀ n, (convert 43 9 (.slice ao l.length cap)).run Tryf.prog (w.drewN n) = .ok (.string (B8 l)) (w.drewN n) := by
  obtain ⟨hl, h2⟩ := h.1
  rcases h2 with ⟨hv, hn⟩ | ⟨g', cap', cur, hv, hb, hh, hc, _⟩
  · have : l = [] := List.eq_nil_of_length_eq_zero hn
    subst this
    exact ⟨none, 0, hv, fun n => run_convert_bytes_nil (P := Tryf.prog) _ 43 5 Tryf.underlying43 Tryf.underlying5 0 0 9 Tryf.underlying9⟩
  · refine ⟨_, _, hv, fun n => ?_⟩
    refine run_convert_bytes_back (P := Tryf.prog) _ 43 9 5 ⟨g', 0, none⟩ cap' l Tryf.underlying43 Tryf.underlying5 Tryf.underlying9 (fun j hj => ?_)
    subst hv
    have := h.1.cells (g := g') rfl j (.int .u8 (l[j].toNat : Int)) (by simp [bytesV, hj])
    exact this

#print axioms run_append_own_src
#print axioms run_string_own
end Go.Proofs.Qxb6616546aFmt
