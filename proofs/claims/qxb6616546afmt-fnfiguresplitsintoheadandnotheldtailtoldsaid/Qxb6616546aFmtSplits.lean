import Derived.Test.Qxb6616546aFmtMain
namespace Go.Proofs.Qxb6616546aFmt
open Go.RowKit Go.Kit Go.Extern.Stop Go.Stop Go.Extern

theorem tailT_nil : tailT (prL []) = [] := rfl

/-- A rule and its figure, one call behind the other. -/
theorem zzfig_nil (F : Interp) (g : Nat) (held : Int) (ao ap : Option Addr) (co cp : Nat) (ss : List ByteArray) (wi be : ByteArray) (w : World) (hF : F.told.answers w.tape)
    (c0 : w.cell? ⟨g, 0, none⟩ = some (.int .i64 held)) (c1 : w.cell? ⟨g, 1, none⟩ = some (.slice ao ss.length co)) (c2 : w.cell? ⟨g, 2, none⟩ = some (.slice ap ([] : List (ByteArray × ByteArray)).length cp))
    (hw : (Lit.int .i64 held).wf = true) (hss : StrsAt w ao co ss) (hps : PairsAt w ap cp []) (hf : Fits held ss [] wi be) :
    Calls Tryf.prog 7 #[.pointer (some ⟨g, 0, none⟩), .string wi, .string be] w fun e w' => GivesStr (headT held (strL ss) (str wi) (str be)) e ∧ Below w.heap.size w w' := by
  have h := zzfig_any F g held ao ap co cp ss [] wi be w hF c0 c1 c2 hw hss hps hf
  rw [tailT_nil, List.append_nil] at h
  exact h

theorem Fits.nil {held : Int} {ss : List ByteArray} {ps : List (ByteArray × ByteArray)} {wi be : ByteArray} (h : Fits held ss ps wi be) : Fits held ss [] wi be :=
  ⟨h.hsl, by simp, by have := h.hlen; rw [List.length_append] at this; rw [tailT_nil, List.append_nil]; omega, h.hwi, h.hbe, h.hz, h.hns, fun y => by simp [prL, grantsOf, names, Lib.join], fun p hp => by simp at hp⟩

theorem tail_ext (H T : List UInt8) (b : ByteArray) (hb : b = B8 (H ++ T)) (n : Nat) (hn : n = (B8 H).size) : b.extract n b.size = B8 T := by
  subst hb
  subst hn
  apply str_inj
  rw [str_B8]
  simp [str, B8, ByteArray.size]

def IsPre (a b : ByteArray) : Prop := ∃ x t, a = B8 (x ++ t) ∧ b = B8 x ∧ (x ++ t).length ≤ 90000000
theorem pre_call {a b : ByteArray} (h : IsPre a b) (w : World) : Calls Tryf.prog 11 #[.string a, .string b] w fun e w' => e = .returned (.bool true) ∧ w = w' := by
  obtain ⟨x, t, rfl, rfl, hl⟩ := h
  exact hasPrefix_true x t w hl
structure EndsOk (b : ByteArray) (held : Int) (v : Value) (wi be : ByteArray) : Prop where
  out : ∀ w, Calls Tryf.prog 12 #[.string b, .int .i64 held, v, .string wi, .string be] w fun e w' => e = .returned (.bool true) ∧ w = w'
theorem ends_call {b : ByteArray} {held : Int} {v : Value} {wi be : ByteArray} (h : EndsOk b held v wi be) (w : World) : Calls Tryf.prog 12 #[.string b, .int .i64 held, v, .string wi, .string be] w fun e w' => e = .returned (.bool true) ∧ w = w' := h.out w

set_option maxHeartbeats 2000000 in
set_option maxRecDepth 100000 in
theorem splits_true (F : Interp) (held held2 : Int) (ao ap aq : Option Addr) (co cp cq : Nat) (ss sq : List ByteArray) (ps : List (ByteArray × ByteArray)) (wi be wj bf : ByteArray) (w : World) (hF : F.told.answers w.tape) (hw : (Lit.int .i64 held).wf = true) (hw2 : (Lit.int .i64 held2).wf = true)
    (hss : StrsAt w ao co ss) (hps : PairsAt w ap cp ps) (hsq : StrsAt w aq cq sq) (m0 : ss.length ≤ 9223372036854775807) (z0 : ∀ s ∈ ss, s.size ≤ 9223372036854775807) (m1 : ps.length ≤ 9223372036854775807) (z1 : ∀ p ∈ ps, p.1.size ≤ 9223372036854775807 ∧ p.2.size ≤ 9223372036854775807) (hwi : wi.size ≤ 9223372036854775807) (hbe : be.size ≤ 9223372036854775807)
    (m2 : sq.length ≤ 9223372036854775807) (z2 : ∀ s ∈ sq, s.size ≤ 9223372036854775807) (hwj : wj.size ≤ 9223372036854775807) (hbf : bf.size ≤ 9223372036854775807) :
    Calls Tryf.prog 4 #[.int .i64 held, .slice ao ss.length co, .slice ap ps.length cp, .string wi, .string be, .int .i64 held2, .slice aq sq.length cq, .string wj, .string bf] w fun e w' => e = .returned (.bool true) ∧ Below w.heap.size w w' := by
  have hib := Go.bounds_i64 hw
  have hib2 := Go.bounds_i64 hw2
  have H10 : Hid _ := zz10_any held held2 ao ap aq co cp cq ss sq ps wi be wj bf w hss hps hsq m0 z0 m1 z1 hwi hbe m2 z2 hwj hbf
  have H6 : Hid _ := figureBytes_any 0 ao ap co cp ss ps wi be w (by omega) (by omega) hss hps m0 z0 m1 z1 hwi hbe
  have H6b : Hid (∀ t : Int, 0 ≤ t → t ≤ 1048577 → Calls Tryf.prog 6 #[.int .i64 t, .slice aq sq.length cq, .slice none 0 0, .string wj, .string bf] w fun e w' => GivesFig t sq.length 0 (wj.size + bf.size + (16 * sq.length + sumS sq) + 0) e ∧ w = w') :=
    fun t a b => figureBytes_any t aq none cq 0 sq [] wj bf w a b hsq (PairsAt.nil w) m2 z2 (by simp) (fun p hp => by simp at hp) hwj hbf
  clear z0 z1 z2
  go_enter Tryf.func4, Tryf.ntmps4
  go_upto_if 34 with (go_at_call 10; refine Calls.mono H10.out ?_; rintro e w1 ⟨⟨r, rfl⟩, rfl⟩)
  cases r
  · go_wp2_with fail
    go_ret
    exact ⟨rfl, Below.refl _ _⟩
  go_upto_region 4 with (go_at_call 6; refine Calls.mono H6.out ?_; rintro e w1 ⟨⟨t, rfl, t0, t1, t2⟩, rfl⟩)
  go_upto_if 46 with (go_at_call 6; refine Calls.mono (H6b.out t t0 t1) ?_; rintro e w1 ⟨⟨u, rfl, u0, u1, u2⟩, rfl⟩)
  by_cases hu : u ≤ 1048576
  · obtain ⟨hsum2, hql, _⟩ := u2 hu
    obtain ⟨hsum, hsl, hpl⟩ := t2 (by omega)
    have hf : Fits held ss ps wi be := Fits.of held ss ps wi be (by omega) (by omega) hsl hpl (by omega)
    have hg : Fits held2 sq ps wj bf := Fits.of held2 sq ps wj bf (by omega) (by omega) hql hpl (by omega)
    clear t2 u2 hsum hsum2 H6 H6b H10
    have H8 : Hid _ := rule_any held ao ap ss.length co cp ps w hps hpl
    go_upto_region 8 with (first
      | (go_at_call 8; refine Calls.mono H8.out ?_; rintro e w1 ⟨g1, ap1, cp1, rfl, k0, k1, k2, hp1, hb1⟩)
      | (go_at_call 7; refine Calls.mono (zzfig_any F g1 held ao ap1 co cp1 ss ps wi be w1 (by rw [hb1.tape]; exact hF) k0 k1 k2 hw (hss.keeps (Keeps.below hb1)) hp1 hf) ?_; rintro e w2 ⟨rfl, hb2⟩; have B2 := hb1.trans (hb2.mono hb1.size)))
    clear H8 k0 k1 k2 hp1 hb1 hb2
    have H8 : Hid _ := rule_none held ao none ss.length co 0 0 false w2 (.inl rfl)
    go_upto_region 9 with (first
      | (go_at_call 8; refine Calls.mono H8.out ?_; rintro e w3 ⟨g2, ap2, cp2, rfl, l0, l1, l2, hp2, hb3⟩; have B3 := B2.trans (hb3.mono B2.size))
      | (go_at_call 7; refine Calls.mono (zzfig_nil F g2 held ao ap2 co cp2 ss wi be w3 (by rw [B3.tape]; exact hF) l0 l1 l2 hw (hss.keeps (Keeps.below B3)) hp2 hf.nil) ?_; rintro e w4 ⟨rfl, hb4⟩; have B4 := B3.trans (hb4.mono B3.size)))
    clear H8 l0 l1 l2 hp2 hb3 hb4 B2 B3
    have H8 : Hid _ := rule_any held2 aq ap sq.length cq cp ps w4 (hps.keeps (Keeps.below B4)) hpl
    go_upto_region 10 with (first
      | (go_at_call 8; refine Calls.mono H8.out ?_; rintro e w5 ⟨g3, ap3, cp3, rfl, k0, k1, k2, hp3, hb5⟩; have B5 := B4.trans (hb5.mono B4.size))
      | (go_at_call 7; refine Calls.mono (zzfig_any F g3 held2 aq ap3 cq cp3 sq ps wj bf w5 (by rw [B5.tape]; exact hF) k0 k1 k2 hw2 (hsq.keeps (Keeps.below B5)) hp3 hg) ?_; rintro e w6 ⟨rfl, hb6⟩; have B6 := B5.trans (hb6.mono B5.size)))
    clear H8 k0 k1 k2 hp3 hb5 hb6 B4 B5
    have H8 : Hid _ := rule_none held2 aq none sq.length cq 0 0 false w6 (.inl rfl)
    go_upto_region 11 with (first
      | (go_at_call 8; refine Calls.mono H8.out ?_; rintro e w7 ⟨g4, ap4, cp4, rfl, n0, n1, n2, hp4, hb7⟩; have B7 := B6.trans (hb7.mono B6.size))
      | (go_at_call 7; refine Calls.mono (zzfig_nil F g4 held2 aq ap4 cq cp4 sq wj bf w7 (by rw [B7.tape]; exact hF) n0 n1 n2 hw2 (hsq.keeps (Keeps.below B7)) hp4 hg.nil) ?_; rintro e w8 ⟨rfl, hb8⟩; have B9 := B7.trans (hb8.mono B7.size)))
    clear H8 n0 n1 n2 hp4 hb7 hb8 B6 B7
    have hl1 : (headT held (strL ss) (str wi) (str be) ++ tailT (prL ps)).length ≤ 90000000 := Nat.le_trans hf.hlen (by decide)
    have hl2 : (headT held2 (strL sq) (str wj) (str bf) ++ tailT (prL ps)).length ≤ 90000000 := Nat.le_trans hg.hlen (by decide)
    have P1 : IsPre (B8 (headT held (strL ss) (str wi) (str be) ++ tailT (prL ps))) (B8 (headT held (strL ss) (str wi) (str be))) := ⟨_, _, rfl, rfl, hl1⟩
    have P2 : IsPre (B8 (headT held2 (strL sq) (str wj) (str bf) ++ tailT (prL ps))) (B8 (headT held2 (strL sq) (str wj) (str bf))) := ⟨_, _, rfl, rfl, hl2⟩
    have E1 := tail_ext (headT held (strL ss) (str wi) (str be)) (tailT (prL ps)) _ rfl _ rfl
    have E2 := tail_ext (headT held2 (strL sq) (str wj) (str bf)) (tailT (prL ps)) _ rfl _ rfl
    have Q1 : EndsOk (B8 (headT held (strL ss) (str wi) (str be))) held (.slice ao ss.length co) wi be := ⟨fun w => headEnds_true held ao co ss wi be w hf.hwi hf.hbe hf.hsl (by rw [List.length_append] at hl1; omega)⟩
    have Q2 : EndsOk (B8 (headT held2 (strL sq) (str wj) (str bf))) held2 (.slice aq sq.length cq) wj bf := ⟨fun w => headEnds_true held2 aq cq sq wj bf w hg.hwi hg.hbe hg.hsl (by rw [List.length_append] at hl2; omega)⟩
    have s1 : (B8 (headT held (strL ss) (str wi) (str be))).size ≤ (B8 (headT held (strL ss) (str wi) (str be) ++ tailT (prL ps))).size := by rw [size_B8, size_B8, List.length_append]; omega
    have s2 : (B8 (headT held2 (strL sq) (str wj) (str bf))).size ≤ (B8 (headT held2 (strL sq) (str wj) (str bf) ++ tailT (prL ps))).size := by rw [size_B8, size_B8, List.length_append]; omega
    have s3 : (B8 (headT held (strL ss) (str wi) (str be) ++ tailT (prL ps))).size ≤ 90000000 := hl1
    have s4 : (B8 (headT held2 (strL sq) (str wj) (str bf) ++ tailT (prL ps))).size ≤ 90000000 := hl2
    clear hl1 hl2 hf hg hss hps hsq
    generalize B8 (headT held (strL ss) (str wi) (str be) ++ tailT (prL ps)) = a at *
    generalize B8 (headT held2 (strL sq) (str wj) (str bf) ++ tailT (prL ps)) = c at *
    generalize B8 (headT held (strL ss) (str wi) (str be)) = b at *
    generalize B8 (headT held2 (strL sq) (str wj) (str bf)) = d at *
    generalize B8 (tailT (prL ps)) = tt at *
    go_upto_region 13 with (go_at_call 11; refine Calls.mono (pre_call (by assumption) _) ?_; rintro e wz ⟨rfl, rfl⟩)
    have hne : ((a.extract b.size a.size).toList != (c.extract d.size c.size).toList) = false := by rw [E1, E2]; simp
    clear P1 P2
    go_quiet (fail)
    go_wp2_with (go_at_call 12; refine Calls.mono (ends_call (by assumption) _) ?_; rintro e wz ⟨rfl, rfl⟩)
    go_ret
    exact ⟨rfl, B9.trans ⟨rfl, rfl, rfl, Nat.le_refl _, fun _ _ => rfl⟩⟩
  · go_wp2_with fail
    go_ret
    exact ⟨rfl, Below.refl _ _⟩
end Go.Proofs.Qxb6616546aFmt
