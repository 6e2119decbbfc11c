/-
  reserveGrants, walked.
-/
import Derived.Test.Qxb6616546aRound2
import Derived.Deep.AppendLies
import Derived.Deep.RegionLaw
namespace Go.Proofs.Qxb6616546a
open Go.RowKit
set_option linter.unusedVariables false

theorem Try.info9 : (Try.prog.info? 9).map (fun i => (i.zero, i.size, i.bytes)) = some (some (.string ByteArray.empty), 1, 16) := by kernel_rfl
theorem hide {p : Prop} (h : p) : Hid p := h

set_option maxHeartbeats 2000000 in
set_option maxRecDepth 100000 in
theorem grants_any (pb : Nat) (rs : List Row) (w : World) (hp : PlanAt w pb rs) (hl : rs.length ≤ 4096) (hF : Fits rs) (hz : ∀ r ∈ rs, r.name.size ≤ 9223372036854775807 ∧ r.of.size ≤ 9223372036854775807) :
    Calls Try.prog 12 #[.pointer (some ⟨pb, 0, none⟩)] w fun e w' => GivesRG w w' rs e := by
  obtain ⟨GB, hG, haw⟩ := hp
  have hGl : pb < w.heap.size := World.block_lt_of_cell? w _ hG
  have hB0 : Below w.heap.size w (w.alloc (.cells #[.pointer none, .pointer none, .slice none 0 0] 30)) := (Below.refl _ _).alloc (Nat.le_refl _) _
  have hk0 := Keeps.below hB0
  have haw0 : Hid (∀ i x, rs[i]? = some x → AwCells (w.alloc (.cells #[.pointer none, .pointer none, .slice none 0 0] 30)) GB (i * 18) x) := fun i x q => (haw i x q).keeps hk0
  have hbm : Below (w.alloc (.cells #[.pointer none, .pointer none, .slice none 0 0] 30)).heap.size (w.alloc (.cells #[.pointer none, .pointer none, .slice none 0 0] 30)) ((w.alloc (.cells #[.pointer none, .pointer none, .slice none 0 0] 30)).alloc (.map #[] 0)) := (Below.refl _ _).alloc (Nat.le_refl _) _
  have hG1 := (Keeps.below hbm).2 _ _ (hk0.2 _ _ hG)
  have L0 := Lp1.start (w.alloc (.cells #[.pointer none, .pointer none, .slice none 0 0] 30)) (w.alloc (.cells #[.pointer none, .pointer none, .slice none 0 0] 30)) (Below.refl _ _) rs
  have hG0 : Hid _ := hk0.2 _ _ hG
  have hsz0 : (w.alloc (.cells #[.pointer none, .pointer none, .slice none 0 0] 30)).heap.size = w.heap.size + 1 := by simp
  have HF : Hid _ := hF
  have HZ : Hid _ := hz
  rw [hsz0] at L0
  obtain ⟨w0, hw0⟩ : ∃ w0, w0 = w.alloc (.cells #[.pointer none, .pointer none, .slice none 0 0] 30) := ⟨_, rfl⟩
  rw [← hw0] at haw0 hG0 hsz0
  have HW : Hid _ := hw0
  have L0' : Lp1 w0 (w.heap.size + 1) rs 0 ((w.alloc (.cells #[.pointer none, .pointer none, .slice none 0 0] 30)).alloc (.map #[] 0)) := by rw [hw0]; exact L0
  clear L0 hw0 hF hz haw hbm hk0 hB0
  have hmm := @run_makeMap Try.prog
  go_enter Try.func12, Try.ntmps12
  go_wp2_with fail
  clear hmm
  go_loopw [22] (fun i wr => ∃ j : Nat, j ≤ rs.length ∧ i = .int .i64 j ∧ Lp1 w0 (w.heap.size + 1) rs j wr) (fun i _ => rs.length - (intOf i).toNat)
  case atStart => exact ⟨0, Nat.zero_le _, rfl, L0'⟩
  case round =>
    clear L0' hG1
    obtain ⟨j, hj, rfl, L⟩ := hrel
    have hbr := L.below
    have hkr := Keeps.below hbr
    have hGr := hkr.2 _ _ hG0.out
    by_cases hlt : j < rs.length
    · obtain ⟨x, hx⟩ : ∃ x, rs[j]? = some x := ⟨_, List.getElem?_eq_getElem hlt⟩
      have hcs := haw0.out j x hx
      cases hg : x.g
      · have c15 : wr.cell? ⟨GB, j * 18 + 15, none⟩ = some (.pointer none) := by
          rcases hcs.of with ⟨_, q⟩ | ⟨q, _⟩
          · exact hkr.2 _ _ q
          · rw [hg] at q; cases q
        have HL : Hid _ := L.skip x hx hg
        have hn := neqP57_nil wr
        clear L hg hcs hbr hkr
        go_wp2_with fail
        go_roundw
        case rel => exact ⟨j + 1, by omega, by go_num, HL.out⟩
        case measure => simp [intOf]; omega
      · obtain ⟨pp, c15, cof⟩ : ∃ pp, wr.cell? ⟨GB, j * 18 + 15, none⟩ = some (.pointer (some ⟨pp, 0, none⟩)) ∧ wr.cell? ⟨pp, 0, none⟩ = some (.string x.of) := by
          rcases hcs.of with ⟨q, _⟩ | ⟨_, pp, q1, q2⟩
          · rw [hg] at q; cases q
          · exact ⟨pp, hkr.2 _ _ q1, hkr.2 _ _ q2⟩
        have cof0 : Hid (w0.cell? ⟨pp, 0, none⟩ = some (.string x.of)) := by
          rcases hcs.of with ⟨q, _⟩ | ⟨_, pp', q1, q2⟩
          · rw [hg] at q; cases q
          · have e := hkr.2 _ _ q1
            rw [c15] at e
            injection e with e
            injection e with e
            injection e with e
            injection e with e
            rw [e]; exact q2
        have hxs := HZ.out x (List.mem_of_getElem? hx)
        have hn := neqP57_some ⟨pp, 0, none⟩ wr
        obtain ⟨lv, ok, hlook, HT, HN⟩ := L.look x.of hxs.2
        have HT : Hid _ := HT
        have HN : Hid _ := HN
        have HL : Hid _ := L
        have HQ : Hid _ := hcs
        clear L hcs hkr
        go_upto_if 44 with fail
        go_cut [7, 22] from 22 to 63 (fun pv iv wx => iv = .int .i64 j ∧ Mid1 w0 (w.heap.size + 1) rs j x.of pv wx)
        case first =>
          cases ok
          case true =>
            have HM : Hid _ := HT.out rfl x hx hg rfl
            clear HT HN HL HQ
            go_wp2_with fail
            go_meet
            case rel => exact ⟨rfl, HM.out⟩
          case false =>
            obtain ⟨w2, hup, hM⟩ := Lp1.new HL.out (by omega) x hx hg hxs.2 (HN.out rfl)
            have HM : Hid _ := hM
            have hba : Below wr.heap.size wr (wr.alloc (.cells #[.bool false, .slice none 0 0] 38)) := (Below.refl _ _).alloc (Nat.le_refl _) _
            have cofa := (Keeps.below hba).2 _ _ cof
            clear HT HN HL HQ hM hba
            go_wp2_with fail
            go_meet
            case rel => exact ⟨rfl, HM.out⟩
        case rest =>
          obtain ⟨rfl, hM⟩ := hcut
          obtain ⟨b, rfl, hbx, HA⟩ := Mid1.add hM hx hg hl HF.out
          have HA : Hid _ := HA
          have hkx := Keeps.below hbx
          have hGx := hkx.2 _ _ hG0.out
          have cq := hkx.2 _ _ HQ.out.q
          have hq := HF.out x (List.mem_of_getElem? hx)
          have HNI : Hid _ := newInt_any x.q wc hq.1 hq.2.1
          clear hM hkx hbx HT HN HL HQ hlook hn hq cof c15 hGr
          go_wp2_with (first
            | (go_at_call 9; refine Calls.mono HNI.out ?_; intro e1 w1 hN1; obtain ⟨c1, rfl, HC0⟩ := HA.out e1 w1 hN1; have HC : Hid _ := HC0; clear HC0)
            | (go_at_call 8; refine Calls.mono HC.out ?_; rintro e2 w2 ⟨rfl, hL2⟩))
          go_roundw
          case rel => exact ⟨j + 1, by omega, by go_num, hL2⟩
          case measure => simp [intOf]; omega
    · obtain rfl : j = rs.length := by omega
      obtain ⟨wl, rfl⟩ : ∃ wl, wl = wr := ⟨_, rfl⟩
      have hmk := makeH wl rs.length hl
      have hpl : pb < wl.heap.size := World.block_lt_of_cell? wl _ hGr
      have hres : wl.heap[w.heap.size]? = some (.cells #[.pointer none, .pointer none, .slice none 0 0] 30 (0, 0)) := by
        rw [hbr.block _ (by omega), HW.out]
        exact heap_alloc_new w _
      obtain ⟨bv, eG, eR, eL, V0, B6⟩ := V2.start L hres
      have hG6 := (Keeps.below B6).2 _ _ hGr
      unfold W6 at hG6 V0
      have L20 : Lp2 w0 (w.heap.size + 1) (wl.heap.size + 1 + 1 + 1 + 1) wl.heap.size w.heap.size rs bv 0 _ := ⟨0, _, by rw [heldTo_zero]; exact V0⟩
      have L20 : Hid _ := L20
      clear L hkr hres V0 B6 hbr
      go_upto_region 17 with fail
      clear hmk
      go_loopw [80] (fun i wr => ∃ j : Nat, j ≤ rs.length ∧ i = .int .i64 j ∧ Lp2 w0 (w.heap.size + 1) (wl.heap.size + 1 + 1 + 1 + 1) wl.heap.size w.heap.size rs bv j wr) (fun i _ => rs.length - (intOf i).toNat)
      case atStart => exact ⟨0, Nat.zero_le _, rfl, L20.out⟩
      case round =>
        clear L20 hG6
        obtain ⟨i, hi, rfl, hL⟩ := hrel
        by_cases hil : i < rs.length
        · obtain ⟨x, hx⟩ : ∃ x, rs[i]? = some x := ⟨_, List.getElem?_eq_getElem hil⟩
          obtain ⟨zL, hv, V⟩ := hL
          have hkr := Keeps.below V.below
          have hGr := hkr.2 _ _ hG0.out
          have hcs := haw0.out i x hx
          obtain ⟨pr, c14, crv⟩ := hcs.r
          have c14r := hkr.2 _ _ c14
          have crr := hkr.2 _ _ crv
          have hq := HF.out x (List.mem_of_getElem? hx)
          have HXs := HZ.out x (List.mem_of_getElem? hx)
          have HS := V.setL x.r hq.2.2.1 hq.2.2.2
          rw [eL] at HS
          have HS : Hid _ := HS
          have HC : Hid _ := hcs
          clear V hkr hcs c14 crv
          go_upto_region 21 with (go_at_call 22; refine Calls.mono HS.out ?_; rintro e w1 ⟨rfl, V1⟩)
          have k1 := V1.cells.2.1
          have HR := V1.addR (small_r rs i HF.out hl) (by omega)
          rw [eR] at k1 HR
          rw [eL] at HR
          have HR : Hid _ := HR
          clear V1 HS c14r crr hGr
          go_upto_region 22 with (go_at_call 8; refine Calls.mono HR.out ?_; rintro e w2 ⟨rfl, V2'⟩)
          have hk2 := Keeps.below V2'.below
          have c0 := hk2.2 _ _ HC.out.name
          have k2 := V2'.cells.1
          rw [eG] at k2
          obtain ⟨lv, ok, hlook, HT, HN⟩ : ∃ lv ok, (Instr.lookup 73 (.map (some (w.heap.size + 1))) (.string x.name) true).run Try.prog w2 = .ok (.tuple #[lv, .bool ok]) w2 ∧ Hid (ok = true → InK rs x.name ∧ lv = .pointer (some ⟨bv (.k x.name), 0, none⟩)) ∧ Hid (ok = false → ¬ InK rs x.name) :=
            ⟨_, _, V2'.look x.name HXs.1, fun q => ⟨of_dec q, by simp [pvOf, of_dec q]⟩, fun q => of_dec_false q⟩
          have HV := hide V2'
          clear V2' HR k1 hk2
          go_upto_if 112 with fail
          clear hlook
          go_cut [80] from 80 to 143 (fun iv wx => iv = .int .i64 i ∧ Mid2 w0 (w.heap.size + 1) (wl.heap.size + 1 + 1 + 1 + 1) wl.heap.size w.heap.size rs bv i x wx)
          case first =>
            cases ok
            case true =>
              obtain ⟨hin, rfl⟩ := HT.out rfl
              have HG := V2.addG HV.out x.name hin (small_g rs i HF.out hl) (small_s rs x.name HF.out hl)
              rw [eG] at HG
              have HG : Hid _ := HG
              have HIN : Hid _ := hin
              clear HT HN hin
              go_wp2_with (first
                | (go_at_call 8; refine Calls.mono HG.out ?_; rintro e w3 ⟨rfl, V3⟩; have HSB := V3.subL x.name HIN.out (by omega) (small_s rs x.name HF.out hl); rw [eL] at HSB; have HSB : Hid _ := HSB; clear V3)
                | (go_at_call 23; refine Calls.mono HSB.out ?_; rintro e w4 ⟨rfl, V4⟩))
              go_meet
              case rel =>
                refine ⟨rfl, hv, ?_⟩
                rw [gtot_next rs i x hx, rtot_next rs i x hx]
                exact V4
            case false =>
              have hno := HN.out rfl
              have HM : Hid (Mid2 w0 (w.heap.size + 1) (wl.heap.size + 1 + 1 + 1 + 1) wl.heap.size w.heap.size rs bv i x w2) := by
                refine ⟨hv, ?_⟩
                rw [gtot_next rs i x hx, rtot_next rs i x hx, gsum_none hno, Int.add_zero]
                unfold left
                rw [gsum_none hno, Int.sub_zero]
                exact HV.out
              clear HT HN HV hno
              go_wp2_with fail
              go_meet
              case rel => exact ⟨rfl, HM.out⟩
          case rest =>
            obtain ⟨rfl, hM⟩ := hcut
            clear HT HN HV c0 k2
            rcases (show left rs x < 0 ∨ left rs x = 0 ∨ 0 < left rs x by omega) with hs | hs | hs
            · obtain ⟨hv2, VM⟩ := hM
              have HSg := VM.sign
              have hsg : sgn (left rs x) = -1 := by unfold sgn; rw [if_pos hs]
              rw [eL, hsg] at HSg
              have HSg : Hid _ := HSg
              obtain ⟨ao, co, rfl, _⟩ := StrsAt.of_ownsAny VM.over
              have kk := (Keeps.below VM.below).2 _ _ HC.out.name
              have k2 := VM.cells.2.2.1
              have q2 := VM.cells.2.2.2 2
              have hown := VM.over
              have hol : (over rs (rs.take i)).length ≤ 4096 := Nat.le_trans (over_le _ _) (by rw [List.length_take]; omega)
              have hgb := VM.gbase
              obtain ⟨i0, hi0, hz0, hz1, hz2⟩ := info_parts Try.info9
              have HX := hide (fun (hv' : Value) (w1 w3 : World) (hb1 : Below wc.heap.size wc w1) (hg : w1.grownBy w3 (Value.slice ao (over rs (rs.take i)).length co).ownBlock) ho => Mid2.neg (hv' := hv') VM hx hs hb1 hg ho)
              clear VM hs hsg
              go_upto_region 30 with (go_at_call 24; refine Calls.mono HSg.out ?_; rintro e w5 ⟨rfl, hw5⟩; obtain rfl : wc = w5 := hw5)
              have hbA : Below wc.heap.size wc (wc.alloc (.cells #[.string x.name] 9)).drew := ((Below.refl _ _).alloc (Nat.le_refl _) _).drew
              have hownA : (wc.alloc (.cells #[.string x.name] 9)).drew.ownsRow w0.heap.size 9 1 (.slice ao (over rs (rs.take i)).length co) (over rs (rs.take i)).length ((over rs (rs.take i)).map Value.string) := hown.alloc _
              have hblk : (wc.alloc (.cells #[.string x.name] 9)).drew.heap[wc.heap.size]? = some (.cells #[.string x.name] 9 (0, 0)) := heap_alloc_new wc _
              have k2A : (wc.alloc (.cells #[.string x.name] 9)).cell? ⟨wl.heap.size + 1 + 1 + 1 + 1, 2, none⟩ = some (.slice ao (over rs (rs.take i)).length co) := (Keeps.below hbA).2 _ _ k2
              have HGB := hide hgb
              have HBA := hide hbA
              clear hown hgb hbA
              go_region_law (first
                | (refine step_append_lies _ rfl _ _ 28 rfl w0.heap.size 9 i0 (.string ByteArray.empty) 1 16 Try.underlying28 hi0 hz0 hz1 hz2 rfl (by decide) _ _ _ rfl hownA ⟨wc.heap.size, 0, none⟩ 1 1 [.string x.name] rfl rfl (World.news_of_block hblk) (fun x hx => by simp at hx; subst hx; rfl) (by decide) (by unfold maxLen; omega) (by omega) (by simp; have := HGB.out; omega) (wc.heap.size + 1) (by simp) ?_; intro g' cap' w3 hown' hgrow3 hat3 hlt3; obtain ⟨HL3, ⟨v3, k3⟩, q3⟩ := HX.out _ _ w3 HBA.out hgrow3 hown'; have HL3 := hide HL3; clear hown' hgrow3 hat3 hlt3))
              all_goals
                go_wp2_with fail
                go_roundw
                case rel => exact ⟨i + 1, by omega, by go_num, HL3.out⟩
                case measure => simp [intOf]; omega
            · have HZ0 : Hid _ := Mid2.zero hM hx hs
              obtain ⟨hv2, VM⟩ := hM
              have HSg := VM.sign
              rw [eL, hs] at HSg
              have HSg : Hid _ := HSg
              clear VM hs
              go_wp2_with (go_at_call 24; refine Calls.mono HSg.out ?_; rintro e w5 ⟨rfl, hw5⟩; obtain rfl : wc = w5 := hw5)
              go_roundw
              case rel => exact ⟨i + 1, by omega, by go_num, HZ0.out⟩
              case measure => simp [intOf]; omega
            · obtain ⟨hv2, VM⟩ := hM
              have HSg := VM.sign
              have hsg : sgn (left rs x) = 1 := by unfold sgn; rw [if_neg (by omega), if_pos hs]
              have HI := VM.int64 hs
              rw [eL] at HSg HI
              rw [hsg] at HSg
              have HSg : Hid _ := HSg
              have HI : Hid _ := HI
              have HP : Hid _ := Mid2.pos VM hx hs
              obtain ⟨⟨v0, hc0⟩, hf0⟩ := VM.hrow i (by rw [heldTo_length rs i hi]; exact hil)
              clear VM hs hsg
              go_wp2_with (first
                | (go_at_call 24; refine Calls.mono HSg.out ?_; rintro e w5 ⟨rfl, hw5⟩; obtain rfl : wc = w5 := hw5)
                | (go_at_call 25; refine Calls.mono HI.out ?_; rintro e w5 ⟨rfl, hw5⟩; obtain rfl : wc = w5 := hw5))
              go_roundw
              case rel => exact ⟨i + 1, by omega, by go_num, HP.out⟩
              case measure => simp [intOf]; omega
        · obtain rfl : i = rs.length := by omega
          obtain ⟨zL, hv, V⟩ := hL
          rw [List.take_length, heldTo_all] at V
          obtain ⟨ao, co, rfl, _⟩ := StrsAt.of_ownsAny V.over
          obtain ⟨k0, k1, k2, _⟩ := V.cells
          rw [eG] at k0
          rw [eR] at k1
          have hrb : wr.heap[w.heap.size]? = some (.cells #[.pointer none, .pointer none, .slice none 0 0] 30 (0, 0)) := by obtain ⟨_, _, h, _⟩ := V; exact h.res
          have r0 : wr.cell? ⟨w.heap.size, 0, none⟩ = some (.pointer none) := by rw [cell_of_row _ _ _ _ _ _ hrb]; rfl
          have r1 : wr.cell? ⟨w.heap.size, 1, none⟩ = some (.pointer none) := by rw [cell_of_row _ _ _ _ _ _ hrb]; rfl
          have r2 : wr.cell? ⟨w.heap.size, 2, none⟩ = some (.slice none 0 0) := by rw [cell_of_row _ _ _ _ _ _ hrb]; rfl
          have f0 : wr.frozen? ⟨w.heap.size, 0, none⟩ = false := by simp [World.frozen?, hrb]
          have f1 : wr.frozen? ⟨w.heap.size, 1, none⟩ = false := by simp [World.frozen?, hrb]
          have f2 : wr.frozen? ⟨w.heap.size, 2, none⟩ = false := by simp [World.frozen?, hrb]
          have HV := hide V
          have HE := hide (heap_setCell_row (heap_setCell_row (heap_setCell_row hrb 0 (.pointer (some ⟨wl.heap.size + 1, 0, none⟩))) 1 (.pointer (some ⟨wl.heap.size + 1 + 1, 0, none⟩))) 2 (.slice ao (over rs rs).length co))
          clear V hrb
          go_upto_region 32 with fail
          go_region
          all_goals go_wp2_with fail
          all_goals
            have hE := HE.out
            have q0 := cell_of_row _ _ 0 _ _ _ hE
            have q1 := cell_of_row _ _ 1 _ _ _ hE
            have q2 := cell_of_row _ _ 2 _ _ _ hE
            refine bodyPost_ret (v := .tuple #[.slice (some ⟨wl.heap.size, 0, none⟩) rs.length rs.length, .agg #[.pointer (some ⟨wl.heap.size + 1, 0, none⟩), .pointer (some ⟨wl.heap.size + 1 + 1, 0, none⟩), .slice ao (over rs rs).length co]]) (by simp [results, Try.results12, go_sem, q0, q1, q2]) rfl ?_
            have hg := fin_gives (w' := ((wr.setCell ⟨w.heap.size, 0, none⟩ (.pointer (some ⟨wl.heap.size + 1, 0, none⟩))).setCell ⟨w.heap.size, 1, none⟩ (.pointer (some ⟨wl.heap.size + 1 + 1, 0, none⟩))).setCell ⟨w.heap.size, 2, none⟩ (.slice ao (over rs rs).length co)) HV.out HW.out rfl rfl rfl (by simp [World.setCell]) (fun k hk => by rw [Below.heap_setCell _ _ _ _ hk, Below.heap_setCell _ _ _ _ hk, Below.heap_setCell _ _ _ _ hk])
            rw [eG, eR] at hg
            obtain ⟨hb, bG, bR, oG, oR, ao', co', e, g1, g2, g3, g4, g5, g6, g7⟩ := hg
            exact ⟨hb, bG, bR, oG, oR, ao', co', e, g1, g2, g3, g4, g5.drew, g6, g7⟩
end Go.Proofs.Qxb6616546a
