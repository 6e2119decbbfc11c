import Derived.Test.Qxb6616546aFmtSteps
namespace Go.Proofs.Qxb6616546aFmt
open Go.RowKit Go.Kit Go.Extern.Stop Go.Stop Go.Extern

theorem whysB_mem {y : ByteArray} {ps : List (ByteArray × ByteArray)} (h : y ∈ whysB ps) : ∃ p ∈ ps, p.2 = y := by
  have h1 : str y ∈ whysOf (prL ps) := by rw [← whysB_str]; exact (mem_map_str _ _).2 h
  obtain ⟨q, hq, e⟩ := (mem_whysOf _ _).1 h1
  unfold prL at hq
  obtain ⟨p, hp, rfl⟩ := List.mem_map.1 hq
  exact ⟨p, hp, str_inj e⟩

/-- The figure after k groups. -/
noncomputable def FigT (hd : List UInt8) (ps : List (ByteArray × ByteArray)) (k : Nat) : List UInt8 := hd ++ tailOf (prL ps) (((whysB ps).take k).map str)
theorem FigT_all (hd : List UInt8) (ps : List (ByteArray × ByteArray)) : FigT hd ps (whysB ps).length = hd ++ tailT (prL ps) := by
  unfold FigT tailT
  rw [List.take_length, whysB_str]
theorem FigT_le (hd : List UInt8) (ps : List (ByteArray × ByteArray)) (k : Nat) : (FigT hd ps k).length ≤ (hd ++ tailT (prL ps)).length := by
  unfold FigT tailT
  have e : (whysOf (prL ps)) = ((whysB ps).take k).map str ++ ((whysB ps).drop k).map str := by rw [← whysB_str, ← List.map_append, List.take_append_drop]
  conv => rhs; rw [e, tailOf_app]
  simp only [List.length_append]
  omega
theorem FigT_succ (hd : List UInt8) (ps : List (ByteArray × ByteArray)) (k : Nat) (y : ByteArray) (h : (whysB ps)[k]? = some y) : FigT hd ps (k + 1) = FigT hd ps k ++ ([59, 32] ++ names (strL (grantsB y ps)) ++ notHeldT ++ str y) := by
  unfold FigT
  rw [take_snoc _ k y h, List.map_append, List.map_singleton, tailOf_snoc, ← List.append_assoc]
  unfold grp strL
  rw [← grantsB_str]
theorem FigT_zero (hd : List UInt8) (ps : List (ByteArray × ByteArray)) : FigT hd ps 0 = hd := by unfold FigT; simp [tailOf]

set_option maxHeartbeats 2000000 in
set_option maxRecDepth 100000 in
theorem figure_any (F : Interp) (g : Nat) (held : Int) (ao ap : Option Addr) (co cp : Nat) (ss : List ByteArray) (ps : List (ByteArray × ByteArray)) (wi be : ByteArray) (w : World) (hF : F.told.answers w.tape)
    (c0 : w.cell? ⟨g, 0, none⟩ = some (.int .i64 held)) (c1 : w.cell? ⟨g, 1, none⟩ = some (.slice ao ss.length co)) (c2 : w.cell? ⟨g, 2, none⟩ = some (.slice ap ps.length cp))
    (hw : (Lit.int .i64 held).wf = true) (hss : StrsAt w ao co ss) (hps : PairsAt w ap cp ps) (hsl : ss.length ≤ 4096) (hpl : ps.length ≤ 4096)
    (hlen : (headT held (strL ss) (str wi) (str be) ++ tailT (prL ps)).length ≤ 40000000) (hwi : wi.size ≤ 1048576) (hbe : be.size ≤ 1048576) (hz : ∀ s ∈ ss, s.size ≤ 1048576) (hns : (names (strL ss)).length ≤ 40000000) (hng : ∀ y, (names (grantsOf y (prL ps))).length ≤ 40000000) (hpz : ∀ p ∈ ps, p.1.size ≤ 1048576 ∧ p.2.size ≤ 1048576) :
    Calls Tryf.prog 16 #[.pointer (some ⟨g, 0, none⟩), .string wi, .string be] w fun e w' => e = .returned (.string (B8 (headT held (strL ss) (str wi) (str be) ++ tailT (prL ps)))) ∧ Below w.heap.size w w' := by
  have hgl : g < w.heap.size := World.block_lt_of_cell? w _ c0
  have HZ : Hid _ := hz
  clear hz
  go_enter Tryf.func16, Tryf.ntmps16
  have HO : Hid _ := outcome_any g ao held ss.length co w c0 c1
  go_upto_block 0 with (go_at_call 20; refine Calls.mono HO.out ?_; rintro e w1 ⟨rfl, hw1⟩; obtain rfl : w = w1 := hw1.symm)
  go_cut [7] from 17 to 43 (fun hv wc => HeadOk (headT held (strL ss) (str wi) (str be)) hv ∧ Below w.heap.size w wc)
  case first =>
    by_cases hs0 : 0 < ss.length
    · have hne : strL ss ≠ [] := by intro q; unfold strL at q; rw [List.map_eq_nil_iff] at q; rw [q] at hs0; simp at hs0
      have HT : Hid (headT held (strL ss) (str wi) (str be) = names (strL ss) ++ [32] ++ str be) := by show headT _ _ _ _ = _; unfold headT; rw [if_pos hne]
      clear hne
      have ho : outB held ss.length = ⟨#[102, 97, 105, 108]⟩ := by unfold outB; rw [if_pos hs0]
      rw [ho]
      have HNm : Hid _ := names_any ao co ss w hss (by omega) HZ.out hns
      have hbs : (B8 (names (strL ss))).size ≤ 40000000 := hns
      go_wp2_with (first
        | (go_at_call 21; refine Calls.mono HNm.out ?_; rintro e w1 ⟨rfl, b1⟩))
      go_meet
      case rel =>
        refine ⟨?_, b1⟩
        unfold HeadOk
        rw [HT.out, ← B8_add]
        congr 1
    · have hse : strL ss = [] := by unfold strL; rw [List.map_eq_nil_iff]; exact List.eq_nil_of_length_eq_zero (by omega)
      by_cases h0 : held = 0
      · have HT : Hid (headT held (strL ss) (str wi) (str be) = noneT) := by show headT _ _ _ _ = _; unfold headT; rw [if_neg (by simp [hse]), if_neg (by omega), if_neg (by simp [h0])]
        have ho : outB held ss.length = ⟨#[110, 47, 97]⟩ := by unfold outB; rw [if_neg hs0, if_pos h0]
        rw [ho]
        clear hse h0
        go_wp2_with fail
        go_meet
        case rel => exact ⟨by unfold HeadOk; rw [HT.out]; rfl, Below.refl _ _⟩
      · have ho : outB held ss.length = ⟨#[112, 97, 115, 115]⟩ := by unfold outB; rw [if_neg hs0, if_neg h0]
        rw [ho]
        have hx : Below w.heap.size w (w.alloc (.cells #[.iface 3 (.int .i64 held), .iface 9 (.string wi)] 20)) := (Below.refl _ _).alloc (Nat.le_refl _) _
        have hsp := sprint_many F w.heap.size held wi (w.alloc (.cells #[.iface 3 (.int .i64 held), .iface 9 (.string wi)] 20)) hF (by omega) hw (by rw [cell_of_row _ _ _ _ _ _ (heap_alloc_new w _)]; rfl) (by rw [cell_of_row _ _ _ _ _ _ (heap_alloc_new w _)]; rfl)
        have c0' := (hx.cell (p := ⟨g, 0, none⟩) hgl).trans c0
        by_cases h1 : held = 1
        · have HT : Hid (headT held (strL ss) (str wi) (str be) = oneT ++ str wi) := by show headT _ _ _ _ = _; unfold headT; rw [if_neg (by simp [hse]), if_pos h1]
          have hb : (held == 1) = true := by simpa using h1
          clear hse h1 h0
          go_wp2_with fail
          go_meet
          case rel => exact ⟨by unfold HeadOk; rw [HT.out, ← B8_add]; rfl, hx.drew⟩
        · have HT : Hid (headT held (strL ss) (str wi) (str be) = Lib.itoa held ++ manyT ++ str wi) := by show headT _ _ _ _ = _; unfold headT; rw [if_neg (by simp [hse]), if_neg h1, if_pos h0]
          have hb : (held == 1) = false := by simpa using h1
          clear hse h1 h0
          go_wp2_with fail
          go_meet
          case rel => exact ⟨by unfold HeadOk; rw [HT.out, List.append_assoc], hx.drew⟩
  case rest =>
    obtain ⟨wo, rfl⟩ : ∃ wo, wo = wc := ⟨_, rfl⟩
    obtain ⟨rfl, hbc⟩ := hcut
    have hsz := hbc.size
    have c2' := (hbc.cell (p := ⟨g, 2, none⟩) hgl).trans c2
    have HF : Hid (F.told.answers wo.tape) := by rw [hbc.tape]; exact hF
    have hps' := hps.keeps (Keeps.below hbc)
    have hbm : Below wo.heap.size wo (wo.alloc (.map #[] 0)) := (Below.refl _ _).alloc (Nat.le_refl _) _
    have c2m := (hbm.cell (p := ⟨g, 2, none⟩) (Nat.lt_of_lt_of_le hgl hsz)).trans c2'
    have G0 : Groups _ _ _ _ _ _ _ := Groups.start wo w.heap.size hsz
    have hb0 := hbc.trans (hbm.mono hsz)
    clear hF c0 c1 c2 c2' hss hps' HO
    have hmm := @run_makeMap Tryf.prog
    go_wp2_with fail
    clear hmm
    go_loopw [8, 52] (fun wv i wr => ∃ j : Nat, j ≤ ps.length ∧ i = .int .i64 j ∧ Lp w wo.heap.size ps j wv wr) (fun _ i _ => ps.length - (intOf i).toNat)
    case atStart => exact ⟨0, Nat.zero_le _, rfl, _, World.ownsRow_nil _ _ _ _, (fun q => by simp [Value.ownBlock] at q), (fun _ _ _ q => by simp [Value.ownBlock] at q), G0, hb0⟩
    case round =>
      obtain ⟨j, hj, rfl, L⟩ := hrel
      have hfr := L.fresh
      by_cases hlt : j < ps.length
      · obtain ⟨gx, yx, hpj⟩ : ∃ gx yx, ps[j]? = some (gx, yx) := ⟨_, _, List.getElem?_eq_getElem hlt⟩
        obtain ⟨b, off, hap, hcell⟩ := (hps.keeps (Keeps.below (let ⟨_, _, _, _, _, hb⟩ := L; hb))).at (by omega)
        obtain ⟨hc1, hc2⟩ := hcell j _ hpj
        clear hcell
        subst hap
        have hpy := hpz (gx, yx) (List.mem_of_getElem? hpj)
        obtain ⟨lv, ok, HK, hlook⟩ : ∃ lv ok, Hid (ok = decide (yx ∈ whysB (ps.take j))) ∧ (Instr.lookup 50 (.map (some wo.heap.size)) (.string yx) true).run Tryf.prog (wr.alloc (.cells #[.string gx, .string yx] 42)) = .ok (.tuple #[lv, .bool ok]) (wr.alloc (.cells #[.string gx, .string yx] 42)) := by
          obtain ⟨gv, _, _, _, G, _⟩ := L
          exact ⟨_, _, rfl, (G.below ((Below.refl _ _).alloc (Nat.le_refl _) _)).look_ok yx hpy.2⟩
        go_upto_if 64 with fail
        go_cut [8, 52] from 52 to 81 (fun wv' iv wx => iv = .int .i64 j ∧ Mid w wo.heap.size wr.heap.size ps j gx yx wv' wx)
        case first =>
          cases ok
          case true =>
            have HM : Hid _ := L.old gx yx hpj (of_decide_eq_true HK.out.symm)
            go_wp2_with fail
            go_meet
            case rel => exact ⟨rfl, HM.out⟩
          case false =>
            have hm := of_decide_eq_false HK.out.symm
            obtain ⟨i0, hi, hz0, hz1, hz2⟩ := info_parts Tryf.info9
            have hwl := whysB_le (ps.take j)
            have htl : (ps.take j).length ≤ 4096 := by rw [List.length_take]; omega
            have hown : wr.ownsRow w.heap.size 9 1 u8 (whysB (ps.take j)).length ((whysB (ps.take j)).map Value.string) := let ⟨_, h1, _⟩ := L; h1
            have HL : Hid _ := L
            have HM : Hid _ := hm
            clear hm L
            have hblk : ((wr.alloc (.cells #[.string gx, .string yx] 42)).alloc (.cells #[.string yx] 9)).heap[wr.heap.size + 1]? = some (.cells #[.string yx] 9 (0, 0)) := by
              have := heap_alloc_new (wr.alloc (.cells #[.string gx, .string yx] 42)) (.cells #[.string yx] 9)
              rw [World.size_alloc] at this
              exact this
            go_wp2_with (at_builtin; refine wpList_append_own_at _ rfl _ _ 22 rfl w.heap.size 9 i0 (.string ByteArray.empty) 1 16 Tryf.underlying22 hi hz0 hz1 hz2 rfl (by decide) _ _ _ rfl ((hown.alloc _).alloc _) ⟨wr.heap.size + 1, 0, none⟩ 1 1 [.string yx] rfl rfl (World.news_of_block hblk) (fun x hx => by simp at hx; subst hx; rfl) (by unfold maxLen; omega) (by omega) (by simp; omega) ?_; intro v' w3 hown' hgrow3 hnil3 hob3)
            go_meet
            case rel => exact ⟨rfl, Lp.new HL.out gx yx hpj HM.out hown' hgrow3 hob3⟩
        case rest =>
          clear hlook HK L hc1 hc2
          obtain ⟨rfl, gv, h1, h2, hN1, h3, hN2, G, hbx, hNb⟩ := hcut
          have k0 : wc.cell? ⟨wr.heap.size, 0, none⟩ = some (.string gx) := by rw [cell_of_row _ _ _ _ _ _ hNb]; rfl
          have k1 : wc.cell? ⟨wr.heap.size, 1, none⟩ = some (.string yx) := by rw [cell_of_row _ _ _ _ _ _ hNb]; rfl
          obtain ⟨i0, hi, hz0, hz1, hz2⟩ := info_parts Tryf.info9
          have hbA : Below wc.heap.size wc (wc.alloc (.cells #[.string gx] 9)).drew := ((Below.refl _ _).alloc (Nat.le_refl _) _).drew
          have hlk0 : (Instr.lookup 50 (.map (some wo.heap.size)) (.string yx) false).run Tryf.prog wc.drew = .ok (gv yx) wc.drew := (G.below (Below.refl _ _).drew).look yx hpy.2
          have hlk1 : (Instr.lookup 50 (.map (some wo.heap.size)) (.string yx) false).run Tryf.prog (wc.alloc (.cells #[.string gx] 9)).drew = .ok (gv yx) (wc.alloc (.cells #[.string gx] 9)).drew := (G.below hbA).look yx hpy.2
          have hownA := (G.below hbA).rows yx
          have hgl2 : (grantsB yx (ps.take j)).length ≤ 4096 := Nat.le_trans (grantsB_le _ _) (by rw [List.length_take]; omega)
          have hblk : (wc.alloc (.cells #[.string gx] 9)).drew.heap[wc.heap.size]? = some (.cells #[.string gx] 9 (0, 0)) := heap_alloc_new wc _
          have hNlt : wr.heap.size < wc.heap.size := (Array.getElem?_eq_some_iff.1 hNb).1
          have HX : Hid (∀ (g' cap' : Nat) (w3 : World), w3.ownsRow w.heap.size 9 1 (.slice (some ⟨g', 0, none⟩) ((grantsB yx (ps.take j)).length + 1) cap') ((grantsB yx (ps.take j)).length + 1) ((grantsB yx (ps.take j)).map Value.string ++ [.string gx]) →
              (wc.alloc (.cells #[.string gx] 9)).drew.grownBy w3 (gv yx).ownBlock → ((gv yx).ownBlock = some g' ∨ g' = wc.heap.size + 1) →
              (w3.cell? ⟨wr.heap.size, 0, none⟩ = some (.string gx) ∧ w3.cell? ⟨wr.heap.size, 1, none⟩ = some (.string yx)) ∧
              ∃ w4, (Instr.mapUpdate 50 (.map (some wo.heap.size)) (.string yx) (.slice (some ⟨g', 0, none⟩) ((grantsB yx (ps.take j)).length + 1) cap')).run Tryf.prog w3 = .ok () w4 ∧ (w4.cell? ⟨wr.heap.size, 0, none⟩ = some (.string gx) ∧ w4.cell? ⟨wr.heap.size, 1, none⟩ = some (.string yx)) ∧ Lp w wo.heap.size ps (j + 1) u8 w4) := by
            intro g' cap' w3 ho hg ha
            obtain ⟨w4, hr, hg4, L4⟩ := Mid.next gx yx hpj hpy.2 (by omega) h1 h2 h3 G hbx _ _ ho hg (by
              rcases ha with e | e
              · exact .inl (by rw [e]; rfl)
              · exact .inr (by rw [e]; simp [Value.ownBlock]))
            have hb3 : w3.heap[wr.heap.size]? = some (.cells #[.string gx, .string yx] 42 (0, 0)) := by
              rw [hg.block _ (by simp; omega) (fun q => hN2 yx q.symm), hbA.block _ hNlt]
              exact hNb
            have hMN : wo.heap.size ≠ wr.heap.size := fun q => by
              obtain ⟨D, m1, _⟩ := G.map
              obtain ⟨es, ck, hh, _⟩ := m1
              rw [q, hNb] at hh
              cases hh
            have hb4 : w4.heap[wr.heap.size]? = some (.cells #[.string gx, .string yx] 42 (0, 0)) := by
              rw [hg4.block _ (Array.getElem?_eq_some_iff.1 hb3).1 (fun q => hMN (by injection q with q; exact q.symm))]
              exact hb3
            exact ⟨⟨by rw [cell_of_row _ _ _ _ _ _ hb3]; rfl, by rw [cell_of_row _ _ _ _ _ _ hb3]; rfl⟩, w4, hr, ⟨by rw [cell_of_row _ _ _ _ _ _ hb4]; rfl, by rw [cell_of_row _ _ _ _ _ _ hb4]; rfl⟩, L4⟩
          have HG : Hid (w.heap.size ≤ wc.heap.size) := hbx.size
          clear h1 h2 hN1 h3 hN2 G hbx hNb hbA
          go_upto_region 18 with fail
          go_region_held3 (fun w' => w'.cell? ⟨wr.heap.size, 0, none⟩ = some (.string gx) ∧ w'.cell? ⟨wr.heap.size, 1, none⟩ = some (.string yx)) (go_keep)
            (first
              | (refine step_append_lies _ rfl _ _ 22 rfl w.heap.size 9 i0 (.string ByteArray.empty) 1 16 Tryf.underlying22 hi hz0 hz1 hz2 rfl (by decide) _ _ _ rfl hownA ⟨wc.heap.size, 0, none⟩ 1 1 [.string gx] rfl rfl (World.news_of_block hblk) (fun x hx => by simp at hx; subst hx; rfl) (by decide) (by unfold maxLen; omega) (by omega) (by simp; exact Nat.le_succ_of_le HG.out) (wc.heap.size + 1) (by simp) ?_; intro g' cap' w3 hown' hgrow3 hat3 hlt3; obtain ⟨⟨k03, k13⟩, w4, hrun4, ⟨k04, k14⟩, L4⟩ := HX.out g' cap' w3 hown' hgrow3 hat3)
              | (refine step_mapUpdate rfl _ _ _ 50 rfl _ _ _ rfl rfl rfl hrun4 ?_))
          all_goals
            go_wp2_with fail
            go_roundw
            case rel => exact ⟨j + 1, by omega, by go_num, L4⟩
            case measure => simp [intOf]; omega
      · obtain rfl : j = ps.length := by omega
        obtain ⟨gv, h1, h2, h3, G, hbw⟩ := L
        rw [List.take_length] at h1 G
        clear h2 h3 G0 hb0 hbm c2m
        obtain ⟨wl, rfl⟩ : ∃ wl, wl = wr := ⟨_, rfl⟩
        obtain ⟨aw, cw, rfl, hst⟩ := StrsAt.of_ownsAny h1
        clear h1
        have hwl := whysB_le ps
        have HH : Hid (∀ k, (FigT (headT held (strL ss) (str wi) (str be)) ps k).length ≤ 40000000) := fun k => Nat.le_trans (FigT_le _ _ _) hlen
        have HE : Hid _ := FigT_all (headT held (strL ss) (str wi) (str be)) ps
        have HE0 : Hid _ := FigT_zero (headT held (strL ss) (str wi) (str be)) ps
        have HS : Hid _ := FigT_succ (headT held (strL ss) (str wi) (str be)) ps
        have HF0 : Hid (F.told.answers wl.tape) := by rw [hbw.tape, ← hbc.tape]; exact HF.out
        clear HF
        go_wp2_with fail
        go_loopw [7, 84] (fun tv i wq => ∃ k : Nat, k ≤ (whysB ps).length ∧ i = .int .i64 k ∧ tv = .string (B8 (FigT (headT held (strL ss) (str wi) (str be)) ps k)) ∧ Below wl.heap.size wl wq) (fun _ i _ => (whysB ps).length - (intOf i).toNat)
        case atStart => exact ⟨0, Nat.zero_le _, rfl, by rw [HE0.out], Below.refl _ _⟩
        case round =>
          obtain ⟨k, hk, rfl, rfl, hbq⟩ := hrel
          by_cases hlt : k < (whysB ps).length
          · obtain ⟨y, hyk⟩ : ∃ y, (whysB ps)[k]? = some y := ⟨_, List.getElem?_eq_getElem hlt⟩
            have hbs : (B8 (FigT (headT held (strL ss) (str wi) (str be)) ps k)).size ≤ 40000000 := HH.out k
            obtain ⟨q, hq, hqy⟩ := whysB_mem (List.mem_of_getElem? hyk)
            have hys : y.size ≤ 1048576 := by rw [← hqy]; exact (hpz q hq).2
            clear hq hqy
            obtain ⟨b2, off2, haw, hcell⟩ := (hst.keeps (Keeps.below hbq)).at (by omega)
            have hck := hcell k y hyk
            clear hcell
            subst haw
            have G2 := G.below hbq
            have hlk := G2.look y hys
            obtain ⟨ga, gc, hgv, hgs⟩ := StrsAt.of_ownsAny (G2.rows y)
            rw [hgv] at hlk
            clear G2 hgv
            have HNm : Hid _ := names_any ga gc (grantsB y ps) wr hgs (Nat.le_trans (grantsB_le _ _) (by omega)) (by
              intro s hs
              unfold grantsB at hs
              obtain ⟨p, hp, rfl⟩ := List.mem_map.1 hs
              exact (hpz p (List.mem_filter.1 hp).1).1) (by unfold strL; rw [grantsB_str]; exact hng _)
            have hnl : (names (strL (grantsB y ps))).length ≤ 40000000 := by unfold strL; rw [grantsB_str]; exact hng _
            obtain ⟨gt, HG⟩ : ∃ gt, Hid (gt = [59, 32] ++ names (strL (grantsB y ps)) ++ notHeldT ++ str y) := ⟨[59, 32] ++ names (strL (grantsB y ps)) ++ notHeldT ++ str y, Eq.refl _⟩
            have HS' : Hid (FigT (headT held (strL ss) (str wi) (str be)) ps (k + 1) = FigT (headT held (strL ss) (str wi) (str be)) ps k ++ gt) := by rw [HG.out]; exact HS.out k y hyk
            have HF1 : Hid (F.told.answers wr.tape) := by rw [hbq.tape]; exact HF0.out
            have hgz : (B8 gt).size ≤ 90000000 := by
              show gt.length ≤ _
              rw [HG.out]
              simp [notHeldT, str_length]
              omega
            go_wp2_with (go_at_call 21; refine Calls.mono HNm.out ?_; rintro e w2 ⟨rfl, hb2⟩; have hsp := sprint_group F w2.heap.size (B8 (names (strL (grantsB y ps)))) y (w2.alloc (.cells #[.iface 9 (.string (B8 (names (strL (grantsB y ps))))), .iface 9 (.string y)] 20)) (by show F.told.answers w2.tape; rw [hb2.tape]; exact HF1.out) (Nat.le_trans hnl (by decide)) (by omega) (by rw [cell_of_row _ _ _ _ _ _ (heap_alloc_new w2 _)]; rfl) (by rw [cell_of_row _ _ _ _ _ _ (heap_alloc_new w2 _)]; rfl); rw [str_B8, ← HG.out] at hsp)
            go_roundw
            case rel => exact ⟨k + 1, by omega, by go_num, by rw [HS'.out, B8_add, str_B8], hbq.trans (((hb2.mono hbq.size).trans ((((Below.refl _ _).alloc (Nat.le_refl _) _).drew).mono (Nat.le_trans hbq.size hb2.size))))⟩
            case measure => simp [intOf]; omega
          · obtain rfl : k = (whysB ps).length := by omega
            rw [HE.out]
            have hbf := hbw.trans (hbq.mono hbw.size)
            go_wp2_with fail
            go_ret
            exact ⟨rfl, hbf⟩
end Go.Proofs.Qxb6616546aFmt
