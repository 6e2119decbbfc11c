import Derived.Test.Qxb6617624aDec
namespace Go.Proofs.Qxb6617624a
open Go.RowKit

theorem get_mid (pre x post : List Int) (p : Nat) (hp : p = pre.length) : ∀ i, i < x.length → (pre ++ (x ++ post))[p + i]? = x[i]? := by
  intro i hi
  subst hp
  rw [List.getElem?_append_right (by omega), show pre.length + i - pre.length = i from by omega, List.getElem?_append_left hi]

theorem flat0 (A0 A1 A2 A3 A4 A5 A6 A7 A8 A9 : List Int) (p : Nat) (hp : p = 0) : ∀ i, i < A0.length → (A0 ++ (A1 ++ (A2 ++ (A3 ++ (A4 ++ (A5 ++ (A6 ++ (A7 ++ (A8 ++ (A9))))))))))[p + i]? = A0[i]? := by
  have := get_mid ([]) A0 (A1 ++ (A2 ++ (A3 ++ (A4 ++ (A5 ++ (A6 ++ (A7 ++ (A8 ++ (A9))))))))) p (by simp; omega)
  simpa only [List.append_assoc, List.nil_append, List.append_nil] using this
theorem flat1 (A0 A1 A2 A3 A4 A5 A6 A7 A8 A9 : List Int) (p : Nat) (hp : p = A0.length) : ∀ i, i < A1.length → (A0 ++ (A1 ++ (A2 ++ (A3 ++ (A4 ++ (A5 ++ (A6 ++ (A7 ++ (A8 ++ (A9))))))))))[p + i]? = A1[i]? := by
  have := get_mid (A0) A1 (A2 ++ (A3 ++ (A4 ++ (A5 ++ (A6 ++ (A7 ++ (A8 ++ (A9)))))))) p hp
  simpa only [List.append_assoc, List.nil_append, List.append_nil] using this
theorem flat2 (A0 A1 A2 A3 A4 A5 A6 A7 A8 A9 : List Int) (p : Nat) (hp : p = A0.length + A1.length) : ∀ i, i < A2.length → (A0 ++ (A1 ++ (A2 ++ (A3 ++ (A4 ++ (A5 ++ (A6 ++ (A7 ++ (A8 ++ (A9))))))))))[p + i]? = A2[i]? := by
  have := get_mid (A0 ++ A1) A2 (A3 ++ (A4 ++ (A5 ++ (A6 ++ (A7 ++ (A8 ++ (A9))))))) p (by simp; omega)
  simpa only [List.append_assoc, List.nil_append, List.append_nil] using this
theorem flat3 (A0 A1 A2 A3 A4 A5 A6 A7 A8 A9 : List Int) (p : Nat) (hp : p = A0.length + A1.length + A2.length) : ∀ i, i < A3.length → (A0 ++ (A1 ++ (A2 ++ (A3 ++ (A4 ++ (A5 ++ (A6 ++ (A7 ++ (A8 ++ (A9))))))))))[p + i]? = A3[i]? := by
  have := get_mid (A0 ++ A1 ++ A2) A3 (A4 ++ (A5 ++ (A6 ++ (A7 ++ (A8 ++ (A9)))))) p (by simp; omega)
  simpa only [List.append_assoc, List.nil_append, List.append_nil] using this
theorem flat4 (A0 A1 A2 A3 A4 A5 A6 A7 A8 A9 : List Int) (p : Nat) (hp : p = A0.length + A1.length + A2.length + A3.length) : ∀ i, i < A4.length → (A0 ++ (A1 ++ (A2 ++ (A3 ++ (A4 ++ (A5 ++ (A6 ++ (A7 ++ (A8 ++ (A9))))))))))[p + i]? = A4[i]? := by
  have := get_mid (A0 ++ A1 ++ A2 ++ A3) A4 (A5 ++ (A6 ++ (A7 ++ (A8 ++ (A9))))) p (by simp; omega)
  simpa only [List.append_assoc, List.nil_append, List.append_nil] using this
theorem flat5 (A0 A1 A2 A3 A4 A5 A6 A7 A8 A9 : List Int) (p : Nat) (hp : p = A0.length + A1.length + A2.length + A3.length + A4.length) : ∀ i, i < A5.length → (A0 ++ (A1 ++ (A2 ++ (A3 ++ (A4 ++ (A5 ++ (A6 ++ (A7 ++ (A8 ++ (A9))))))))))[p + i]? = A5[i]? := by
  have := get_mid (A0 ++ A1 ++ A2 ++ A3 ++ A4) A5 (A6 ++ (A7 ++ (A8 ++ (A9)))) p (by simp; omega)
  simpa only [List.append_assoc, List.nil_append, List.append_nil] using this
theorem flat6 (A0 A1 A2 A3 A4 A5 A6 A7 A8 A9 : List Int) (p : Nat) (hp : p = A0.length + A1.length + A2.length + A3.length + A4.length + A5.length) : ∀ i, i < A6.length → (A0 ++ (A1 ++ (A2 ++ (A3 ++ (A4 ++ (A5 ++ (A6 ++ (A7 ++ (A8 ++ (A9))))))))))[p + i]? = A6[i]? := by
  have := get_mid (A0 ++ A1 ++ A2 ++ A3 ++ A4 ++ A5) A6 (A7 ++ (A8 ++ (A9))) p (by simp; omega)
  simpa only [List.append_assoc, List.nil_append, List.append_nil] using this
theorem flat7 (A0 A1 A2 A3 A4 A5 A6 A7 A8 A9 : List Int) (p : Nat) (hp : p = A0.length + A1.length + A2.length + A3.length + A4.length + A5.length + A6.length) : ∀ i, i < A7.length → (A0 ++ (A1 ++ (A2 ++ (A3 ++ (A4 ++ (A5 ++ (A6 ++ (A7 ++ (A8 ++ (A9))))))))))[p + i]? = A7[i]? := by
  have := get_mid (A0 ++ A1 ++ A2 ++ A3 ++ A4 ++ A5 ++ A6) A7 (A8 ++ (A9)) p (by simp; omega)
  simpa only [List.append_assoc, List.nil_append, List.append_nil] using this
theorem flat8 (A0 A1 A2 A3 A4 A5 A6 A7 A8 A9 : List Int) (p : Nat) (hp : p = A0.length + A1.length + A2.length + A3.length + A4.length + A5.length + A6.length + A7.length) : ∀ i, i < A8.length → (A0 ++ (A1 ++ (A2 ++ (A3 ++ (A4 ++ (A5 ++ (A6 ++ (A7 ++ (A8 ++ (A9))))))))))[p + i]? = A8[i]? := by
  have := get_mid (A0 ++ A1 ++ A2 ++ A3 ++ A4 ++ A5 ++ A6 ++ A7) A8 (A9) p (by simp; omega)
  simpa only [List.append_assoc, List.nil_append, List.append_nil] using this
theorem flat9 (A0 A1 A2 A3 A4 A5 A6 A7 A8 A9 : List Int) (p : Nat) (hp : p = A0.length + A1.length + A2.length + A3.length + A4.length + A5.length + A6.length + A7.length + A8.length) : ∀ i, i < A9.length → (A0 ++ (A1 ++ (A2 ++ (A3 ++ (A4 ++ (A5 ++ (A6 ++ (A7 ++ (A8 ++ (A9))))))))))[p + i]? = A9[i]? := by
  have := get_mid (A0 ++ A1 ++ A2 ++ A3 ++ A4 ++ A5 ++ A6 ++ A7 ++ A8) A9 ([]) p (by simp; omega)
  simpa only [List.append_assoc, List.nil_append, List.append_nil] using this

theorem msg_flat (id st ei : Int) (z3 z4 : List Int) : msgOf id st ei z3 z4 = hdr 48 (bodyOf id st ei z3 z4).length ++ (encInt 1 ++ (hdr 4 z3.length ++ (z3 ++ (hdr 162 (pduOf id st ei z4).length ++ (encInt id ++ (encInt st ++ (encInt ei ++ (hdr 48 z4.length ++ z4)))))))) := by
  unfold msgOf
  rw [encEl]
  congr 1
  simp [bodyOf, encEl, pduOf]

theorem pdu_length (id st ei : Int) (z4 : List Int) : (pduOf id st ei z4).length = (encInt id).length + (encInt st).length + (encInt ei).length + (hdr 48 z4.length).length + z4.length := by
  simp [pduOf, encEl]; omega
theorem body_length (id st ei : Int) (z3 z4 : List Int) : (bodyOf id st ei z3 z4).length = (encInt 1).length + (hdr 4 z3.length).length + z3.length + (hdr 162 (pduOf id st ei z4).length).length + (pduOf id st ei z4).length := by
  simp [bodyOf, encEl]; omega
theorem msg_length (id st ei : Int) (z3 z4 : List Int) : (msgOf id st ei z3 z4).length = (hdr 48 (bodyOf id st ei z3 z4).length).length + (bodyOf id st ei z3 z4).length := by
  simp [msgOf, encEl]

/-- Where each part of the datagram lies. -/
theorem msg_facts (id st ei : Int) (z3 z4 : List Int) :
    (∀ p, p = 0 → ∀ i, i < (hdr 48 (bodyOf id st ei z3 z4).length).length → (msgOf id st ei z3 z4)[p + i]? = (hdr 48 (bodyOf id st ei z3 z4).length)[i]?) ∧
    (∀ p, p = (hdr 48 (bodyOf id st ei z3 z4).length).length → ∀ i, i < (encInt 1).length → (msgOf id st ei z3 z4)[p + i]? = (encInt 1)[i]?) ∧
    (∀ p, p = (hdr 48 (bodyOf id st ei z3 z4).length).length + (encInt 1).length → ∀ i, i < (hdr 4 z3.length).length → (msgOf id st ei z3 z4)[p + i]? = (hdr 4 z3.length)[i]?) ∧
    (∀ p, p = (hdr 48 (bodyOf id st ei z3 z4).length).length + (encInt 1).length + (hdr 4 z3.length).length → ∀ i, i < (z3).length → (msgOf id st ei z3 z4)[p + i]? = (z3)[i]?) ∧
    (∀ p, p = (hdr 48 (bodyOf id st ei z3 z4).length).length + (encInt 1).length + (hdr 4 z3.length).length + (z3).length → ∀ i, i < (hdr 162 (pduOf id st ei z4).length).length → (msgOf id st ei z3 z4)[p + i]? = (hdr 162 (pduOf id st ei z4).length)[i]?) ∧
    (∀ p, p = (hdr 48 (bodyOf id st ei z3 z4).length).length + (encInt 1).length + (hdr 4 z3.length).length + (z3).length + (hdr 162 (pduOf id st ei z4).length).length → ∀ i, i < (encInt id).length → (msgOf id st ei z3 z4)[p + i]? = (encInt id)[i]?) ∧
    (∀ p, p = (hdr 48 (bodyOf id st ei z3 z4).length).length + (encInt 1).length + (hdr 4 z3.length).length + (z3).length + (hdr 162 (pduOf id st ei z4).length).length + (encInt id).length → ∀ i, i < (encInt st).length → (msgOf id st ei z3 z4)[p + i]? = (encInt st)[i]?) ∧
    (∀ p, p = (hdr 48 (bodyOf id st ei z3 z4).length).length + (encInt 1).length + (hdr 4 z3.length).length + (z3).length + (hdr 162 (pduOf id st ei z4).length).length + (encInt id).length + (encInt st).length → ∀ i, i < (encInt ei).length → (msgOf id st ei z3 z4)[p + i]? = (encInt ei)[i]?) ∧
    (∀ p, p = (hdr 48 (bodyOf id st ei z3 z4).length).length + (encInt 1).length + (hdr 4 z3.length).length + (z3).length + (hdr 162 (pduOf id st ei z4).length).length + (encInt id).length + (encInt st).length + (encInt ei).length → ∀ i, i < (hdr 48 z4.length).length → (msgOf id st ei z3 z4)[p + i]? = (hdr 48 z4.length)[i]?) ∧
    (∀ p, p = (hdr 48 (bodyOf id st ei z3 z4).length).length + (encInt 1).length + (hdr 4 z3.length).length + (z3).length + (hdr 162 (pduOf id st ei z4).length).length + (encInt id).length + (encInt st).length + (encInt ei).length + (hdr 48 z4.length).length → ∀ i, i < (z4).length → (msgOf id st ei z3 z4)[p + i]? = (z4)[i]?) := by
  rw [msg_flat]
  exact ⟨fun p hp => flat0 _ _ _ _ _ _ _ _ _ _ p hp, fun p hp => flat1 _ _ _ _ _ _ _ _ _ _ p hp, fun p hp => flat2 _ _ _ _ _ _ _ _ _ _ p hp, fun p hp => flat3 _ _ _ _ _ _ _ _ _ _ p hp, fun p hp => flat4 _ _ _ _ _ _ _ _ _ _ p hp, fun p hp => flat5 _ _ _ _ _ _ _ _ _ _ p hp, fun p hp => flat6 _ _ _ _ _ _ _ _ _ _ p hp, fun p hp => flat7 _ _ _ _ _ _ _ _ _ _ p hp, fun p hp => flat8 _ _ _ _ _ _ _ _ _ _ p hp, fun p hp => flat9 _ _ _ _ _ _ _ _ _ _ p hp⟩

theorem block_of_owns {w : World} {base e g n : Nat} {xs : List Value} (h : w.ownsRow base e 1 (.slice (some ⟨g, 0, none⟩) n n) n xs) : base ≤ g ∧ xs.length = n ∧ w.heap[g]? = some (.cells xs.toArray e (0, 0)) := by
  have hl : xs.length = n := by simpa using h.1
  rcases h.2 with ⟨hv, _⟩ | ⟨g', cap', cur, hv, hb, hh, hc, _, hs, ht⟩
  · cases hv
  · cases hv
    refine ⟨hb, hl, ?_⟩
    rw [hh]
    congr 2
    apply Array.ext'
    rw [← ht, List.take_of_length_le (by simp [hs])]

theorem IntsAt.of_block {w : World} {g : Nat} {zs : List Int} {t : TypeId} {fr : Nat × Nat} (h : w.heap[g]? = some (.cells (ints zs).toArray t fr)) : IntsAt w.heap.size w (some ⟨g, 0, none⟩) zs.length zs := by
  refine ⟨fun q => (by cases q), Nat.le_refl _, fun j s hj => ⟨g, 0, rfl, (Array.getElem?_eq_some_iff.1 h).1, ?_⟩⟩
  rw [cell_of_row _ _ _ _ _ _ h]
  simp [ints, hj]

/-- 'make([]byte, n)'. -/
theorem wpList_make_bytes (w : World) {ops : Array Oper} {rest : List Oper} {o : Oper} {a : Act} {Q : Exit → Act → World → Prop} (hgd : o.guard = none) (l c : Operand) (ho : o.op = Op.makeSlice 22 l c)
    (L C : Int) (n : Nat) (hl : a.eval l = .int .i64 L) (hc : a.eval c = .int .i64 C) (hL : L = (n : Int)) (hC : C = (n : Int)) (hn : n ≤ 1000000)
    (h : ∀ w' xs, w'.ownsRow w.heap.size 5 1 (.slice (some ⟨w.heap.size, 0, none⟩) n n) n xs → Below w.heap.size w w' →
      wpList Try.prog ops Q rest (a.put o.dst (.slice (some ⟨w.heap.size, 0, none⟩) n n)) w') : wpList Try.prog ops Q (o :: rest) a w := by
  obtain ⟨i0, hi, hz0, hz1, hz2⟩ := info_parts Try.info5
  refine wpList_make_full w hgd l c 22 ho w.heap.size 5 i0 (.int .u8 0) 1 Try.underlying22 hi hz0 hz1 .i64 .i64 L C n hl hc hL hC (by rw [hz2]; omega) (by unfold maxLen; omega) (Nat.le_refl _) ?_
  intro w' hown hgr
  exact h w' _ hown ((Below.refl _ _).grown hgr (Nat.le_refl _) (fun _ q => by cases q))

/-- 'copy(zzc, src)', zzc the call's own and as long as src. -/
theorem wpList_copy_ints (w : World) {ops : Array Oper} {rest : List Oper} {o : Oper} {a : Act} {Q : Exit → Act → World → Prop} (hgd : o.guard = none) (d s : Operand)
    (ho : o.op = .call { callee := .builtin .copy, args := #[d, s], argTypes := #[22, 22] })
    (base g : Nat) (zs : List Int) (xs : List Value) (hd : a.eval d = .slice (some ⟨g, 0, none⟩) zs.length zs.length) (hown : w.ownsRow base 5 1 (.slice (some ⟨g, 0, none⟩) zs.length zs.length) zs.length xs)
    (ao : Option Addr) (c B' : Nat) (hs : a.eval s = .slice ao zs.length c) (hz : IntsAt B' w ao c zs) (B : Nat) (w0 : World) (hb : Below B w0 w) (hBg : B ≤ g)
    (h : ∀ w', IntsAt w'.heap.size w' (some ⟨g, 0, none⟩) zs.length zs → Below B w0 w' → wpList Try.prog ops Q rest (a.put o.dst (goInt zs.length)) w') : wpList Try.prog ops Q (o :: rest) a w := by
  obtain ⟨_, hl, hh⟩ := block_of_owns hown
  have hil : (ints zs).length = zs.length := by simp [ints]
  refine wpList_copy_splice (cs := ints zs) (g := g) (off := 0) (cur := xs) (t := 5) (B := B) (w0 := w0) (dp := some ⟨g, 0, none⟩) (sp := ao) (dLen := zs.length) (dCap := zs.length) (sLen := zs.length) (sCap := c) (elem := 5)
    hgd d s 22 22 ho Try.underlying22 Try.info5s hd hs hh (by simp [ints]) ?_ (by rw [hil, hl]; omega) (ints_one zs) hb hBg ?_
  · intro hp
    refine ⟨rfl, ?_⟩
    obtain ⟨b, off, rfl, _⟩ := hz.at (by omega)
    exact ⟨_, rfl, hz.news⟩
  · intro w' hw' hb'
    have e : splice xs 0 (ints zs) = ints zs := by
      unfold splice
      simp [hil, hl]
    have := hw'.out
    rw [e] at this
    have h2 := h w' (IntsAt.of_block this) hb'
    rw [hil]
    exact h2
#print axioms wpList_copy_ints
end Go.Proofs.Qxb6617624a
