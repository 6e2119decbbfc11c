import Derived.Test.Qxb6616546aFmtItoa
namespace Go.Proofs.Qxb6616546aFmt
open Go.RowKit

def prL (ps : List (ByteArray × ByteArray)) : List Pr := ps.map fun p => (str p.1, str p.2)

theorem OwnB.drewN {w : World} {B : Nat} {v : Value} {l : List UInt8} (h : OwnB w B v l) (n : Nat) : OwnB (w.drewN n) B v l := h

theorem toList_beq (a b : ByteArray) : (a.toList == b.toList) = decide (str a = str b) := by
  rw [ByteArray.toList_eq, ByteArray.toList_eq]
  rw [Bool.eq_iff_iff]
  simp [str]

set_option maxHeartbeats 2000000 in
set_option maxRecDepth 100000 in
theorem model_any (held : Int) (ao ap : Option Addr) (co cp : Nat) (ss : List ByteArray) (ps : List (ByteArray × ByteArray)) (wi be : ByteArray) (w : World)
    (hh0 : -9223372036854775808 ≤ held) (hh1 : held ≤ 9223372036854775807) (hss : StrsAt w ao co ss) (hps : PairsAt w ap cp ps) (hsl : ss.length ≤ 4096) (hpl : ps.length ≤ 4096)
    (hlen : (headT held (strL ss) (str wi) (str be) ++ tailT (prL ps)).length ≤ 40000000) (hwi : wi.size ≤ 1048576) (hbe : be.size ≤ 1048576) (hns : (names (strL ss)).length ≤ 40000000) (hng : ∀ y, (names (grantsOf y (prL ps))).length ≤ 40000000) (hpz : ∀ p ∈ ps, p.1.size ≤ 1048576 ∧ p.2.size ≤ 1048576) :
    Calls Tryf.prog 9 #[.int .i64 held, .slice ao ss.length co, .slice ap ps.length cp, .string wi, .string be] w fun e w' => e = .returned (.string (B8 (headT held (strL ss) (str wi) (str be) ++ tailT (prL ps)))) ∧ Below w.heap.size w w' := by
  go_enter Tryf.func9, Tryf.ntmps9
  go_upto_block 0 with fail
  go_cut [11] from 19 to 22 (fun bv wc => OwnB wc w.heap.size bv (headT held (strL ss) (str wi) (str be)) ∧ Below w.heap.size w wc)
  case first =>
    by_cases hs0 : 0 < ss.length
    · have hne : strL ss ≠ [] := by intro q; unfold strL at q; rw [List.map_eq_nil_iff] at q; rw [q] at hs0; simp at hs0
      have HT : Hid (headT held (strL ss) (str wi) (str be) = names (strL ss) ++ [32] ++ str be) := by show headT _ _ _ _ = _; unfold headT; rw [if_pos hne]
      clear hne
      go_wp2_with (first
        | (go_at_call 17; refine (quoted_app w w _ [] ao co ss (Below.refl _ _) hss (OwnB.nil _ _ (Nat.le_refl _)) (by simp; omega) (by omega)).mono ?_; rintro e w1 ⟨v1, rfl, o1, b1⟩)
        | (at_builtin; refine wpList_append_byte _ 32 rfl _ _ rfl w.heap.size _ _ (by rfl) o1 (by rfl) (by simp; omega) ?_; intro v2 w2 o2 b2)
        | (at_builtin; refine wpList_append_str _ rfl _ _ rfl w.heap.size _ _ (by rfl) o2 be (by rfl) (by simp; omega) ?_; intro v3 w3 o3 b3))
      go_meet
      case rel => exact ⟨by rw [HT.out]; simpa using o3, (b1.trans b2).trans b3⟩
    · have hse : strL ss = [] := by unfold strL; rw [List.map_eq_nil_iff]; exact List.eq_nil_of_length_eq_zero (by omega)
      by_cases h1 : held = 1
      · have HT : Hid (headT held (strL ss) (str wi) (str be) = oneT ++ str wi) := by show headT _ _ _ _ = _; unfold headT; rw [if_neg (by simp [hse]), if_pos h1]
        have hb : (held == 1) = true := by simpa using h1
        clear hse h1
        go_wp2_with (first
          | (at_builtin; refine wpList_append_str _ rfl _ _ rfl w.heap.size _ [] (by rfl) (OwnB.nil _ _ (Nat.le_refl _)) ⟨#[49, 32, 114, 101, 115, 101, 114, 118, 101, 32, 103, 114, 97, 110, 116, 32]⟩ (by rfl) (by show 0 + 16 ≤ _; omega) ?_; intro v1 w1 o1 b1)
          | (at_builtin; refine wpList_append_str _ rfl _ _ rfl w.heap.size _ _ (by rfl) o1 wi (by rfl) (by show 16 + _ ≤ _; omega) ?_; intro v2 w2 o2 b2))
        go_meet
        case rel => exact ⟨by rw [HT.out]; exact o2, b1.trans b2⟩
      · have hb1 : (held == 1) = false := by simpa using h1
        by_cases h0 : held = 0
        · have HT : Hid (headT held (strL ss) (str wi) (str be) = noneT) := by show headT _ _ _ _ = _; unfold headT; rw [if_neg (by simp [hse]), if_neg h1, if_neg (by simp [h0])]
          have hb0 : (held != 0) = false := by simpa using h0
          clear hse h1 h0
          go_wp2_with (at_builtin; refine wpList_append_str _ rfl _ _ rfl w.heap.size _ [] (by rfl) (OwnB.nil _ _ (Nat.le_refl _)) ⟨#[110, 111, 32, 114, 101, 115, 101, 114, 118, 101, 32, 103, 114, 97, 110, 116, 32, 104, 101, 108, 100]⟩ (by rfl) (by show 0 + 21 ≤ _; omega) ?_; intro v1 w1 o1 b1)
          go_meet
          case rel => exact ⟨by rw [HT.out]; exact o1, b1⟩
        · have HT : Hid (headT held (strL ss) (str wi) (str be) = Lib.itoa held ++ manyT ++ str wi) := by show headT _ _ _ _ = _; unfold headT; rw [if_neg (by simp [hse]), if_neg h1, if_pos h0]
          have hb0 : (held != 0) = true := by simpa using h0
          have hil := Lib.itoa_length_le held hh0 hh1
          have hit : Calls Tryf.prog 18 #[.int .i64 held] w fun e w' => e = .returned (.string (B8 (Lib.itoa held))) ∧ Below w.heap.size w w' := by
            by_cases hp : 0 ≤ held
            · exact itoa_pos held w hp hh1
            · exact itoa_neg held w hh0 (by omega)
          have HI : Hid _ := hit
          have hbs : (B8 (Lib.itoa held)).size ≤ 21 := hil
          clear hse h1 h0 hit
          go_wp2_with (first
            | (go_at_call 18; refine Calls.mono HI.out ?_; rintro e w0 ⟨rfl, b0⟩)
            | (at_builtin; refine wpList_append_str _ rfl _ _ rfl w.heap.size _ [] (by rfl) (OwnB.nil _ _ b0.size) (B8 (Lib.itoa held)) (by rfl) (by simp; omega) ?_; intro v1 w1 o1 b1)
            | (at_builtin; refine wpList_append_str _ rfl _ _ rfl w.heap.size _ _ (by rfl) o1 ⟨#[32, 114, 101, 115, 101, 114, 118, 101, 32, 103, 114, 97, 110, 116, 115, 32]⟩ (by rfl) (by show _ + 16 ≤ _; simp [str_B8]; omega) ?_; intro v2 w2 o2 b2)
            | (at_builtin; refine wpList_append_str _ rfl _ _ rfl w.heap.size _ _ (by rfl) o2 wi (by rfl) (by simp only [List.length_append, List.nil_append, str_B8]; show _ + 16 + _ ≤ _; omega) ?_; intro v3 w3 o3 b3))
          go_meet
          case rel => exact ⟨by rw [HT.out]; exact o3, ((b0.trans b1).trans b2).trans b3⟩
  case rest =>
    obtain ⟨o0, b0⟩ := hcut
    have hhl : (headT held (strL ss) (str wi) (str be)).length ≤ 40000000 := by rw [List.length_append] at hlen; omega
    have HL : Hid _ := hlen
    obtain ⟨hd, HD⟩ : ∃ hd, Hid (hd = headT held (strL ss) (str wi) (str be)) := ⟨_, rfl⟩
    rw [← HD.out] at o0 hhl
    obtain ⟨PS, HPS⟩ : ∃ PS, Hid (PS = prL ps) := ⟨_, rfl⟩
    rw [← HPS.out] at hng
    have HNG : Hid _ := hng
    have HPZ : Hid _ := hpz
    have hPl : Hid (PS.length = ps.length) := by rw [HPS.out]; show (prL ps).length = _; simp [prL]
    have HGet : Hid (∀ j (h : j < ps.length), PS[j]? = some (str ps[j].1, str ps[j].2)) := by
      intro j h
      rw [HPS.out]
      unfold prL
      rw [List.getElem?_map, List.getElem?_eq_getElem h]
      rfl
    have hTB : Hid (∀ i, (hd ++ tailOf PS (whysOf (PS.take i))).length ≤ 40000000) := by
      intro i
      have h1 := tail_le PS i
      have h2 := HL.out
      rw [← HD.out, ← HPS.out, List.length_append] at h2
      rw [List.length_append]
      omega
    clear hlen hng hpz
    go_wp2
    go_loopw [11, 54] (fun bv iv wr => ∃ i : Nat, i ≤ ps.length ∧ iv = .int .i64 i ∧ OwnB wr w.heap.size bv (hd ++ tailOf PS (whysOf (PS.take i))) ∧ Below w.heap.size w wr) (fun _ iv _ => ps.length - (intOf iv).toNat)
    case atStart => exact ⟨0, by omega, rfl, by simpa [tailOf, whysOf] using o0, b0⟩
    case round =>
      clear o0 b0
      obtain ⟨i, hi, rfl, ho, hbr⟩ := hrel
      by_cases hlt : i < ps.length
      · obtain ⟨b, off, rfl, hcell⟩ := hps.at (by omega)
        have hbB : b < w.heap.size := World.block_lt_of_cell? w _ (hcell i _ (List.getElem?_eq_getElem hlt)).1
        have HC : Hid (∀ w', Below w.heap.size w w' → ∀ j (h : j < ps.length), w'.cell? ⟨b, off + j * 2, none⟩ = some (.string ps[j].1) ∧ w'.cell? ⟨b, off + j * 2 + 1, none⟩ = some (.string ps[j].2)) :=
          fun w' hb j h => ⟨(hb.cell (by exact hbB)).trans (hcell j _ (List.getElem?_eq_getElem h)).1, (hb.cell (by exact hbB)).trans (hcell j _ (List.getElem?_eq_getElem h)).2⟩
        clear hcell
        have hTBi := hTB.out i
        go_upto_block 3 with fail
        obtain ⟨w2, ew⟩ : ∃ x, x = wr := ⟨_, rfl⟩
        subst ew
        go_cut [13] from 57 to 72 (fun fv wc => ((fv = .bool true ∧ str ps[i].2 ∉ whysOf (PS.take i)) ∨ (fv = .bool false ∧ str ps[i].2 ∈ whysOf (PS.take i))) ∧ ∃ n, wc = w2.drewN n)
        case first =>
          go_wp2_with fail
          go_loopw [13, 14] (fun fv jv wx => ∃ j : Nat, j ≤ i ∧ jv = .int .i64 j ∧ fv = .bool true ∧ (∀ q (h : q < ps.length), q < j → str ps[q].2 ≠ str ps[i].2) ∧ ∃ n, wx = w2.drewN n) (fun _ jv _ => i - (intOf jv).toNat)
          case atStart => exact ⟨0, by omega, rfl, rfl, fun q _ hq => by omega, 0, rfl⟩
          case round =>
            obtain ⟨j, hj, rfl, rfl, hno, n, rfl⟩ := hrel
            have HNO : Hid _ := hno
            clear hno
            by_cases hji : j < i
            · have hcj := (HC.out w2 hbr j (by omega)).2
              have hci := (HC.out w2 hbr i hlt).2
              have hjn : j < ps.length := by omega
              have hbe2 := toList_beq (ps[j]'hjn).2 ps[i].2
              by_cases heq : str (ps[j]'hjn).2 = str ps[i].2
              · have HM : Hid (str ps[i].2 ∈ whysOf (PS.take i)) := by
                  show str ps[i].2 ∈ whysOf (PS.take i)
                  rw [mem_whysOf]
                  have hg := HGet.out j hjn
                  refine ⟨(str (ps[j]'hjn).1, str (ps[j]'hjn).2), ?_, heq⟩
                  rw [List.mem_iff_getElem?]
                  exact ⟨j, by rw [List.getElem?_take_of_lt hji, hg]⟩
                rw [decide_eq_true heq] at hbe2
                clear heq
                generalize (ps[j]'hjn).2 = y1 at *
                generalize ps[i].2 = y2 at *
                go_wp2_with fail
                go_quiet (fail)
                go_wp2
                go_meet
                case rel => exact ⟨.inr ⟨rfl, HM.out⟩, by first | exact ⟨_, rfl⟩ | exact ⟨_, World.drewN_drewN _ _ _⟩⟩
              · rw [decide_eq_false heq] at hbe2
                have HQ : Hid (∀ q (h : q < ps.length), q < j + 1 → str ps[q].2 ≠ str ps[i].2) := by
                  intro q h hq
                  by_cases e : q = j
                  · subst e; exact heq
                  · exact HNO.out q h (by omega)
                clear heq
                go_wp2_with fail
                go_quiet (fail)
                go_wp2
                go_roundw
                case rel => exact ⟨j + 1, by omega, by go_num, rfl, HQ.out, by first | exact ⟨_, rfl⟩ | exact ⟨_, World.drewN_drewN _ _ _⟩⟩
                case measure => simp [intOf]; omega
            · have HM : Hid (str ps[i].2 ∉ whysOf (PS.take i)) := by
                show str ps[i].2 ∉ whysOf (PS.take i)
                rw [mem_whysOf]
                rintro ⟨p, hp, hpe⟩
                obtain ⟨q, hq⟩ := List.mem_iff_getElem?.1 hp
                have hql : q < i := by
                  have := (List.getElem?_eq_some_iff.1 hq).1
                  simp at this; omega
                rw [List.getElem?_take_of_lt hql, HGet.out q (by omega)] at hq
                have := Option.some.inj hq
                subst this
                exact HNO.out q (by omega) (by omega) hpe
              go_wp2
              go_meet
              case rel => exact ⟨.inl ⟨rfl, HM.out⟩, n, rfl⟩
        case rest =>
          obtain ⟨hfirst, n, rfl⟩ := hcut
          have hnx := take_snoc PS i _ (HGet.out i hlt)
          have hwn := whysOf_snoc (PS.take i) (str ps[i].1, str ps[i].2)
          rw [← hnx] at hwn
          rcases hfirst with ⟨rfl, hnot⟩ | ⟨rfl, hin⟩
          · rw [if_neg hnot] at hwn
            have HW : Hid _ := hwn
            have hgd := grantsOf_drop (str ps[i].2) PS i hnot
            have HGD : Hid _ := hgd
            clear hwn hnx hnot hgd
            have hyz := (HPZ.out _ (List.getElem_mem hlt)).2
            obtain ⟨y, Hy⟩ : ∃ y, Hid (y = ps[i].2) := ⟨ps[i].2, rfl⟩
            obtain ⟨T0, HT0⟩ : ∃ T0, Hid (T0 = hd ++ tailOf PS (whysOf (PS.take i))) := ⟨_, rfl⟩
            rw [← HT0.out] at ho hTBi
            rw [← Hy.out] at hyz
            go_wp2_with (at_builtin; refine wpList_append_str _ rfl _ _ rfl w.heap.size _ T0 (by rfl) (ho.drewN n) ⟨#[59, 32]⟩ (by rfl) (by show _ + 2 ≤ _; omega) ?_; intro v1 w3 o1 b1)
            replace b1 : Below w.heap.size w w3 := (below_drewN hbr n).trans b1
            have hcy0 := HC.out
            have HCY : Hid (∀ w', Below w.heap.size w w' → w'.cell? ⟨b, off + i * 2 + 1, none⟩ = some (.string y)) := fun w' hb => by rw [Hy.out]; exact (hcy0 w' hb i hlt).2
            clear hcy0
            have HGL : Hid (∀ m, (names (grantsOf (str y) ((PS.drop i).take m))).length ≤ 40000000) := by
              intro m
              have h1 := grants_le (str y) ((PS.drop i).take m) ((PS.drop i).drop m)
              rw [List.take_append_drop, Hy.out, HGD.out] at h1
              rw [Hy.out]
              exact Nat.le_trans h1 (HNG.out _)
            go_loopw [11, 15, 16] (fun bv sv kv wx => ∃ (k : Nat) (gs : List (List UInt8)), i ≤ k ∧ k ≤ ps.length ∧ kv = .int .i64 k ∧ gs = grantsOf (str y) ((PS.drop i).take (k - i)) ∧ sv = .bool (!gs.isEmpty) ∧ OwnB wx w.heap.size bv (T0 ++ [59, 32] ++ names gs) ∧ Below w.heap.size w wx) (fun _ _ kv _ => ps.length - (intOf kv).toNat)
            case atStart => exact ⟨i, [], by omega, by omega, rfl, by rw [Nat.sub_self]; rfl, rfl, by simpa [names_nil, str] using o1, b1⟩
            case round =>
              clear o1 b1
              obtain ⟨k, gs, hik, hkn, rfl, hgs, rfl, ok, bk⟩ := hrel
              have hgl : (names gs).length ≤ 40000000 := by rw [hgs]; exact HGL.out _
              have HGS : Hid _ := hgs
              clear hgs
              by_cases hkl : k < ps.length
              · have hcg := (HC.out wr bk k hkl).1
                have hck := (HC.out wr bk k hkl).2
                have hci := HCY.out wr bk
                have hgz := (HPZ.out _ (List.getElem_mem hkl)).1
                have hbeq := toList_beq (ps[k]'hkl).2 y
                have hnk : (PS.drop i).take (k + 1 - i) = (PS.drop i).take (k - i) ++ [(str (ps[k]'hkl).1, str (ps[k]'hkl).2)] := by
                  rw [show k + 1 - i = k - i + 1 from by omega]
                  refine take_snoc _ _ _ ?_
                  rw [List.getElem?_drop, show i + (k - i) = k from by omega]
                  exact HGet.out k hkl
                have hgn := grantsOf_snoc (str y) ((PS.drop i).take (k - i)) (str (ps[k]'hkl).1, str (ps[k]'hkl).2)
                rw [← hnk, ← HGS.out] at hgn
                have HGN : Hid _ := hgn
                clear hnk hgn
                by_cases heq : str (ps[k]'hkl).2 = str y
                · have HE : Hid (grantsOf (str y) ((PS.drop i).take (k + 1 - i)) = gs ++ [str (ps[k]'hkl).1]) := by rw [HGN.out]; exact if_pos heq
                  rw [decide_eq_true heq] at hbeq
                  have hneq : (!((ps[k]'hkl).2.toList == y.toList)) = false := by rw [hbeq]; rfl
                  clear heq HGN
                  have hst := names_step gs (str (ps[k]'hkl).1)
                  have HST : Hid _ := hst
                  clear hst
                  obtain ⟨gk, Hgk⟩ : ∃ gk, Hid (gk = (ps[k]'hkl).1) := ⟨(ps[k]'hkl).1, rfl⟩
                  rw [← Hgk.out] at hcg hgz HE HST
                  generalize (ps[k]'hkl).2 = yk at *
                  go_upto_region 29 with fail
                  obtain ⟨wx, ew⟩ : ∃ x, x = wr := ⟨_, rfl⟩
                  subst ew
                  go_cut [94] from 84 to 94 (fun nv wc => nv = .bool false ∧ OwnB wc w.heap.size u11 (T0 ++ [59, 32] ++ names gs) ∧ Below w.heap.size w wc)
                  case first =>
                    go_quiet (fail)
                    go_wp2
                    go_meet
                    case rel => exact ⟨rfl, ok.drewN _, below_drewN bk _⟩
                  case rest =>
                    obtain ⟨rfl, ok2, bk2⟩ := hcut
                    clear ok bk hcg hck hci
                    have HCG : Hid (∀ w', Below w.heap.size w w' → w'.cell? ⟨b, off + k * 2, none⟩ = some (.string gk)) := fun w' hb => by rw [Hgk.out]; exact (HC.out w' hb k hkl).1
                    cases gs with
                    | nil =>
                      go_wp2_with (first
                        | (at_builtin; refine wpList_append_byte _ 34 rfl _ _ rfl w.heap.size _ _ (by rfl) ok2 (by rfl) (by simp only [List.length_append, List.length_cons, List.length_nil]; omega) ?_; intro v6 w6 o6 b6; have c6 := HCG.out w6 (bk2.trans b6))
                        | (at_builtin; refine wpList_append_str _ rfl _ _ rfl w.heap.size _ _ (by rfl) o6 gk (by rfl) (by simp only [List.length_append, List.length_cons, List.length_nil]; omega) ?_; intro v7 w7 o7 b7)
                        | (at_builtin; refine wpList_append_byte _ 34 rfl _ _ rfl w.heap.size _ _ (by rfl) o7 (by rfl) (by simp only [List.length_append, List.length_cons, List.length_nil, str_length]; omega) ?_; intro v8 w8 o8 b8))
                      go_roundw
                      case rel =>
                        refine ⟨k + 1, _, by omega, by omega, by go_num, HE.out.symm, by simp, ?_, ((bk2.trans b6).trans b7).trans b8⟩
                        rw [HST.out]
                        simpa [comma, quo, names_nil] using o8
                      case measure => simp [intOf]; omega
                    | cons g0 gr =>
                      go_wp2_with (first
                        | (at_builtin; refine wpList_append_str _ rfl _ _ rfl w.heap.size _ _ (by rfl) ok2 ⟨#[44, 32]⟩ (by rfl) (by show _ + 2 ≤ _; simp only [List.length_append, List.length_cons, List.length_nil]; omega) ?_; intro v5 w5 o5 b5)
                        | (at_builtin; refine wpList_append_byte _ 34 rfl _ _ rfl w.heap.size _ _ (by rfl) o5 (by rfl) (by simp only [List.length_append, List.length_cons, List.length_nil, str_length]; show _ + 2 + 1 ≤ _; omega) ?_; intro v6 w6 o6 b6; have c6 := HCG.out w6 ((bk2.trans b5).trans b6))
                        | (at_builtin; refine wpList_append_str _ rfl _ _ rfl w.heap.size _ _ (by rfl) o6 gk (by rfl) (by simp only [List.length_append, List.length_cons, List.length_nil, str_length]; show _ + 2 + _ + _ ≤ _; omega) ?_; intro v7 w7 o7 b7)
                        | (at_builtin; refine wpList_append_byte _ 34 rfl _ _ rfl w.heap.size _ _ (by rfl) o7 (by rfl) (by simp only [List.length_append, List.length_cons, List.length_nil, str_length]; show _ + 2 + _ + _ + 1 ≤ _; omega) ?_; intro v8 w8 o8 b8))
                      go_roundw
                      case rel =>
                        refine ⟨k + 1, _, by omega, by omega, by go_num, HE.out.symm, by simp, ?_, (((bk2.trans b5).trans b6).trans b7).trans b8⟩
                        rw [HST.out]
                        simpa [comma, quo, str] using o8
                      case measure => simp [intOf]; omega
                · have HE : Hid (grantsOf (str y) ((PS.drop i).take (k + 1 - i)) = gs) := by rw [HGN.out]; exact if_neg heq
                  rw [decide_eq_false heq] at hbeq
                  clear heq HGN
                  generalize (ps[k]'hkl).2 = yk at *
                  go_wp2_with fail
                  go_quiet (fail)
                  go_wp2
                  go_roundw
                  case rel => exact ⟨k + 1, gs, by omega, by omega, by go_num, HE.out.symm, rfl, ok.drewN _, below_drewN bk _⟩
                  case measure => simp [intOf]; omega
              · have hci := HCY.out wr bk
                have HG2 : Hid (gs = grantsOf (str y) PS) := by
                  show gs = _
                  rw [HGS.out, List.take_of_length_le (by rw [List.length_drop, hPl.out]; omega), Hy.out, HGD.out]
                go_wp2_with (first
                  | (at_builtin; refine wpList_append_str _ rfl _ _ rfl w.heap.size _ _ (by rfl) ok ⟨#[32, 110, 111, 116, 32, 104, 101, 108, 100, 58, 32]⟩ (by rfl) (by show _ + 11 ≤ _; simp only [List.length_append, List.length_cons, List.length_nil]; omega) ?_; intro v4 w4 o4 b4; have c4 := HCY.out w4 (bk.trans b4))
                  | (at_builtin; refine wpList_append_str _ rfl _ _ rfl w.heap.size _ _ (by rfl) o4 y (by rfl) (by simp only [List.length_append, List.length_cons, List.length_nil, str_length]; show _ + 11 + _ ≤ _; omega) ?_; intro v5 w5 o5 b5))
                go_roundw
                case rel =>
                  refine ⟨i + 1, by omega, by go_num, ?_, (bk.trans b4).trans b5⟩
                  rw [HW.out, tailOf_snoc, ← List.append_assoc, ← HT0.out]
                  unfold grp
                  rw [← Hy.out, ← HG2.out]
                  simpa [str, notHeldT] using o5
                case measure => simp [intOf]; omega
          · rw [if_pos hin] at hwn
            have HW : Hid _ := hwn
            clear hwn hnx hin
            go_wp2
            go_roundw
            case rel => exact ⟨i + 1, by omega, by go_num, by rw [HW.out]; exact ho.drewN n, below_drewN hbr n⟩
            case measure => simp [intOf]; omega
      · obtain ⟨aR, cR, rfl, hconv⟩ := run_string_own ho
        have hcv : (convert 43 9 (.slice aR (hd ++ tailOf PS (whysOf (PS.take i))).length cR)).run Tryf.prog wr = .ok (.string (B8 (hd ++ tailOf PS (whysOf (PS.take i))))) wr := hconv 0
        clear hconv
        generalize (hd ++ tailOf PS (whysOf (PS.take i))).length = nR at *
        go_wp2
        go_ret
        refine ⟨?_, hbr⟩
        rw [List.take_of_length_le (by rw [hPl.out]; omega), HD.out, HPS.out]
        rfl
end Go.Proofs.Qxb6616546aFmt
