import Derived.Test.Qxb6616546aFmtBounds
namespace Go.Proofs.Qxb6616546aFmt
open Go.RowKit Go.Kit Go.Extern.Stop Go.Stop Go.Extern

theorem size_B8 (l : List UInt8) : (B8 l).size = l.length := rfl
theorem prefix_beq (x t : List UInt8) : ((B8 (x ++ t)).extract 0 (B8 x).size).toList == (B8 x).toList := by
  rw [toList_beq]
  apply decide_eq_true
  simp [str, B8, ByteArray.size]
theorem suffix_beq (x t : List UInt8) : ((B8 (x ++ t)).extract ((B8 (x ++ t)).size - (B8 t).size) (B8 (x ++ t)).size).toList == (B8 t).toList := by
  rw [toList_beq]
  apply decide_eq_true
  simp [str, B8, ByteArray.size]

theorem hasPrefix_true (x t : List UInt8) (w : World) (h : (x ++ t).length ≤ 90000000) :
    Calls Tryf.prog 11 #[.string (B8 (x ++ t)), .string (B8 x)] w fun e w' => e = .returned (.bool true) ∧ w = w' := by
  have hp := prefix_beq x t
  have h1 : (B8 (x ++ t)).size ≤ 90000000 := h
  have h2 : (B8 x).size ≤ (B8 (x ++ t)).size := by rw [size_B8, size_B8]; simp
  generalize B8 (x ++ t) = a at *
  generalize B8 x = b at *
  have hge : decide (((b.size : Nat) : Int) ≤ (a.size : Int)) = true := decide_eq_true (by omega)
  go_enter Tryf.func11, Tryf.ntmps11
  go_wp2
  go_ret
  exact ⟨rfl, rfl⟩

theorem hasSuffix_true (x t : List UInt8) (w : World) (h : (x ++ t).length ≤ 90000000) :
    Calls Tryf.prog 19 #[.string (B8 (x ++ t)), .string (B8 t)] w fun e w' => e = .returned (.bool true) ∧ w = w' := by
  have hp := suffix_beq x t
  have h1 : (B8 (x ++ t)).size ≤ 90000000 := h
  have h2 : (B8 t).size ≤ (B8 (x ++ t)).size := by rw [size_B8, size_B8]; simp
  generalize B8 (x ++ t) = a at *
  generalize B8 t = b at *
  have hge : decide (((b.size : Nat) : Int) ≤ (a.size : Int)) = true := decide_eq_true (by omega)
  go_enter Tryf.func19, Tryf.ntmps19
  go_wp2
  go_ret
  exact ⟨rfl, rfl⟩

theorem sp_B8 (s : ByteArray) : (⟨#[32]⟩ : ByteArray) ++ s = B8 ([32] ++ str s) := B8_add [32] s

set_option maxHeartbeats 1000000 in
theorem headEnds_true (held : Int) (ao : Option Addr) (co : Nat) (ss : List ByteArray) (wi be : ByteArray) (w : World) (hwi : wi.size ≤ 1048576) (hbe : be.size ≤ 1048576) (hsl : ss.length ≤ 4096) (hlen : (headT held (strL ss) (str wi) (str be)).length ≤ 90000000) :
    Calls Tryf.prog 12 #[.string (B8 (headT held (strL ss) (str wi) (str be))), .int .i64 held, .slice ao ss.length co, .string wi, .string be] w fun e w' => e = .returned (.bool true) ∧ w = w' := by
  by_cases hs0 : 0 < ss.length
  · have hne : strL ss ≠ [] := by intro q; unfold strL at q; rw [List.map_eq_nil_iff] at q; rw [q] at hs0; simp at hs0
    have HT : headT held (strL ss) (str wi) (str be) = names (strL ss) ++ ([32] ++ str be) := by unfold headT; rw [if_pos hne, List.append_assoc]
    have HS : Hid (Calls Tryf.prog 19 #[.string (B8 (headT held (strL ss) (str wi) (str be))), .string (⟨#[32]⟩ ++ be)] w fun e w' => e = .returned (.bool true) ∧ w = w') := by
      rw [sp_B8, HT]
      exact hasSuffix_true _ _ w (by rw [← HT]; exact hlen)
    clear HT hne hlen
    generalize B8 (headT held (strL ss) (str wi) (str be)) = a at *
    go_enter Tryf.func12, Tryf.ntmps12
    go_wp2_with (go_at_call 19; refine Calls.mono HS.out ?_; rintro e w1 ⟨rfl, rfl⟩)
    go_ret
    exact ⟨rfl, rfl⟩
  · have hse : strL ss = [] := by unfold strL; rw [List.map_eq_nil_iff]; exact List.eq_nil_of_length_eq_zero (by omega)
    by_cases h0 : held = 0
    · have hb0 : (held != 0) = false := by simpa using h0
      clear hse h0 hlen
      generalize B8 (headT held (strL ss) (str wi) (str be)) = a at *
      go_enter Tryf.func12, Tryf.ntmps12
      go_wp2
      go_ret
      exact ⟨rfl, rfl⟩
    · have HT : ∃ x, headT held (strL ss) (str wi) (str be) = x ++ ([32] ++ str wi) := by
        unfold headT
        rw [if_neg (by simp [hse])]
        by_cases h1 : held = 1
        · rw [if_pos h1]
          exact ⟨[49, 32, 114, 101, 115, 101, 114, 118, 101, 32, 103, 114, 97, 110, 116], by simp [oneT]⟩
        · rw [if_neg h1, if_pos h0]
          exact ⟨Lib.itoa held ++ [32, 114, 101, 115, 101, 114, 118, 101, 32, 103, 114, 97, 110, 116, 115], by simp [manyT]⟩
      obtain ⟨x, HT⟩ := HT
      have HS : Hid (Calls Tryf.prog 19 #[.string (B8 (headT held (strL ss) (str wi) (str be))), .string (⟨#[32]⟩ ++ wi)] w fun e w' => e = .returned (.bool true) ∧ w = w') := by
        rw [sp_B8, HT]
        exact hasSuffix_true _ _ w (by rw [← HT]; exact hlen)
      have hb0 : (held != 0) = true := by simpa using h0
      clear HT hse h0 hlen
      generalize B8 (headT held (strL ss) (str wi) (str be)) = a at *
      go_enter Tryf.func12, Tryf.ntmps12
      go_wp2_with (go_at_call 19; refine Calls.mono HS.out ?_; rintro e w1 ⟨rfl, rfl⟩)
      go_ret
      exact ⟨rfl, rfl⟩

/-- What a figure is: a string of the bytes l. -/
def GivesStr (l : List UInt8) (e : Ending) : Prop := e = .returned (.string (B8 l))

theorem zzfig_any (F : Interp) (g : Nat) (held : Int) (ao ap : Option Addr) (co cp : Nat) (ss : List ByteArray) (ps : List (ByteArray × ByteArray)) (wi be : ByteArray) (w : World) (hF : F.told.answers w.tape)
    (c0 : w.cell? ⟨g, 0, none⟩ = some (.int .i64 held)) (c1 : w.cell? ⟨g, 1, none⟩ = some (.slice ao ss.length co)) (c2 : w.cell? ⟨g, 2, none⟩ = some (.slice ap ps.length cp))
    (hw : (Lit.int .i64 held).wf = true) (hss : StrsAt w ao co ss) (hps : PairsAt w ap cp ps) (hf : Fits held ss ps wi be) :
    Calls Tryf.prog 7 #[.pointer (some ⟨g, 0, none⟩), .string wi, .string be] w fun e w' => GivesStr (headT held (strL ss) (str wi) (str be) ++ tailT (prL ps)) e ∧ Below w.heap.size w w' := by
  have HX : Hid _ := figure_any F g held ao ap co cp ss ps wi be w hF c0 c1 c2 hw hss hps hf.hsl hf.hpl hf.hlen hf.hwi hf.hbe hf.hz hf.hns hf.hng hf.hpz
  go_enter Tryf.func7, Tryf.ntmps7
  go_wp2_with (go_at_call 16; refine Calls.mono HX.out ?_; rintro e w1 ⟨rfl, hb⟩)
  go_ret
  exact ⟨rfl, hb⟩

theorem rule_any (held : Int) (ao ap : Option Addr) (n co cp : Nat) (ps : List (ByteArray × ByteArray)) (w : World) (hp : PairsAt w ap cp ps) (hl : ps.length ≤ 4096) :
    Calls Tryf.prog 8 #[.int .i64 held, .slice ao n co, .slice ap ps.length cp, .bool true] w fun e w' => GivesRule w w' held (.slice ao n co) ps e := by
  cases ap with
  | none =>
    obtain ⟨rfl, rfl⟩ := hp.1 rfl
    exact rule_none held ao none n co _ _ true w (.inr rfl)
  | some pa => exact rule_some held ao pa n co cp ps w hp hl

set_option maxHeartbeats 1000000 in
set_option maxRecDepth 100000 in
theorem matches_true (F : Interp) (held : Int) (ao ap : Option Addr) (co cp : Nat) (ss : List ByteArray) (ps : List (ByteArray × ByteArray)) (wi be : ByteArray) (w : World) (hF : F.told.answers w.tape) (hw : (Lit.int .i64 held).wf = true)
    (hss : StrsAt w ao co ss) (hps : PairsAt w ap cp ps) (m0 : ss.length ≤ 9223372036854775807) (z0 : ∀ s ∈ ss, s.size ≤ 9223372036854775807) (m1 : ps.length ≤ 9223372036854775807) (z1 : ∀ p ∈ ps, p.1.size ≤ 9223372036854775807 ∧ p.2.size ≤ 9223372036854775807) (hwi : wi.size ≤ 9223372036854775807) (hbe : be.size ≤ 9223372036854775807) :
    Calls Tryf.prog 3 #[.int .i64 held, .slice ao ss.length co, .slice ap ps.length cp, .string wi, .string be] w fun e w' => e = .returned (.bool true) ∧ Below w.heap.size w w' := by
  have hib := Go.bounds_i64 hw
  have H5 : Hid _ := zz5_any held ao ap co cp ss ps wi be w hss hps m0 z0 m1 z1 hwi hbe
  have H6 : Hid _ := figureBytes_any 0 ao ap co cp ss ps wi be w (by omega) (by omega) hss hps m0 z0 m1 z1 hwi hbe
  clear z0 z1
  go_enter Tryf.func3, Tryf.ntmps3
  go_upto_if 18 with (go_at_call 5; refine Calls.mono H5.out ?_; rintro e w1 ⟨⟨r, rfl⟩, rfl⟩)
  cases r
  · go_wp2_with fail
    go_ret
    exact ⟨rfl, Below.refl _ _⟩
  go_upto_if 24 with (go_at_call 6; refine Calls.mono H6.out ?_; rintro e w1 ⟨⟨t, rfl, t0, t1, t2⟩, rfl⟩)
  by_cases ht : t ≤ 1048576
  · obtain ⟨hsum, hsl, hpl⟩ := t2 ht
    have hf : Fits held ss ps wi be := Fits.of held ss ps wi be (by omega) (by omega) hsl hpl (by omega)
    clear t2 hsum
    have H8 : Hid _ := rule_any held ao ap ss.length co cp ps w hps hpl
    go_wp2_with (first
      | (go_at_call 8; refine Calls.mono H8.out ?_; rintro e w1 ⟨g, ap1, cp1, rfl, k0, k1, k2, hp1, hb1⟩)
      | (go_at_call 7; refine Calls.mono (zzfig_any F g held ao ap1 co cp1 ss ps wi be w1 (by rw [hb1.tape]; exact hF) k0 k1 k2 hw (hss.keeps (Keeps.below hb1)) hp1 hf) ?_; rintro e w2 ⟨rfl, hb2⟩)
      | (go_at_call 9; refine Calls.mono (model_any held ao ap co cp ss ps wi be w2 (by omega) (by omega) ((hss.keeps (Keeps.below hb1)).keeps (Keeps.below hb2)) ((hps.keeps (Keeps.below hb1)).keeps (Keeps.below hb2)) hf.hsl hf.hpl hf.hlen hf.hwi hf.hbe hf.hns hf.hng hf.hpz) ?_; rintro e w3 ⟨rfl, hb3⟩))
    go_ret
    exact ⟨rfl, (hb1.trans (hb2.mono hb1.size)).trans (hb3.mono (Nat.le_trans hb1.size hb2.size))⟩
  · go_wp2_with fail
    go_ret
    exact ⟨rfl, Below.refl _ _⟩
end Go.Proofs.Qxb6616546aFmt
