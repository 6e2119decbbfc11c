import Derived.Test.Qxb6616546aWords
import Derived.LaidEqlPtr
namespace Go.Proofs.Qxb6616546a
open Go.RowKit
set_option linter.unusedVariables false

theorem Try.info72 : (Try.prog.info? 72).map (fun i => (i.zero, i.size, i.bytes)) = some (some (.int .u64 0), 1, 8) := by kernel_rfl
theorem Try.info72s : (Try.prog.info? 72).map (·.size) = some 1 := by kernel_rfl
theorem Try.und87 : Try.prog.underlying 87 = some (.pointer 72) := by kernel_rfl

theorem neqP_same (a : Addr) (w : World) : (binOp .neq 87 (.pointer (some a)) (.pointer (some a))).run Try.prog w = .ok (.bool false) w := by
  obtain ⟨j, hte, _, _, _⟩ := info_parts Try.info72
  have h : ∀ d : Nat, (Op.equalIn (d + 1) 87 (.pointer (some a)) (.pointer (some a))).run Try.prog w = .ok true w := fun d => by
    simp [Op.equalIn, run_underlying Try.und87, sizeOf, typeInfo, hte, run_sameAddr_same]
  simp only [binOp]
  simp [Op.equal, Op.maxDepth, h 9999]
theorem neqP_other {a b : Addr} (w : World) {ca cb : Array Value} {ta tb : TypeId} (hne : a ≠ b) (ha : w.heap[a.block]? = some (.cells ca ta (0, 0))) (hb : w.heap[b.block]? = some (.cells cb tb (0, 0))) :
    (binOp .neq 87 (.pointer (some a)) (.pointer (some b))).run Try.prog w = .ok (.bool true) w := by
  obtain ⟨j, hte, _, hz, _⟩ := info_parts Try.info72
  have h : ∀ d : Nat, (Op.equalIn (d + 1) 87 (.pointer (some a)) (.pointer (some b))).run Try.prog w = .ok false w := fun d => by
    simp [Op.equalIn, run_underlying Try.und87, sizeOf, typeInfo, hte, hz, run_sameAddr_other w hne ha hb]
  simp only [binOp]
  simp [Op.equal, Op.maxDepth, h 9999]

theorem step_copy_none {P : Program} {ops : Array Oper} {o : Oper} {a : Act} {w : World} {K : Act → World → Prop} {Q : Exit → Act → World → Prop} {E : Prop} (hgd : o.guard = none) (d s : Operand) (dT sT : TypeId)
    (ho : o.op = .call { callee := .builtin .copy, args := #[d, s], argTypes := #[dT, sT] }) (elem : TypeId) (hu : P.underlying dT = some (.slice elem)) (hsz : (P.info? elem).map (·.size) = some 1)
    (dp sp : Option Addr) (dLen dCap sLen sCap : Nat) (hd : a.eval d = .slice dp dLen dCap) (hs : a.eval s = .slice sp sLen sCap) (hn : Nat.min sLen dLen = 0) (h : K (a.put o.dst (goInt 0)) w) :
    if Region.wanted o (yielded ops a.tmps) = true then Oper.wp P o a w K Q else E := by
  have hw : Region.wanted o (yielded ops a.tmps) = true := by simp [Region.wanted, hgd]
  rw [if_pos hw]
  have hrun := run_copy_none (P := P) w dT sT o.type elem dp sp dLen dCap sLen sCap hu hsz hn
  unfold Oper.wp
  simp [execOp, ho, resolve, invoke, builtin, hd, hs, hrun, Result.andThen]
  exact h

set_option maxHeartbeats 1000000 in
set_option maxRecDepth 100000 in
theorem addVW_any (zg xg cz cx capz capx c : Nat) (fz fx : Nat → Nat) (w : World) (hz : WRow w zg capz fz) (hx : WRow w xg capx fx) (nz : 2 ≤ capz) (nx : 2 ≤ capx) (pz : 1 ≤ cz) (px : 1 ≤ cx) (hc : c ≤ 1) (bx : fx 1 < 18446744073709551616) :
    Calls Try.prog 29 #[.slice (some ⟨zg, 1, none⟩) 1 cz, .slice (some ⟨xg, 1, none⟩) 1 cx, .int .u64 (c : Int)] w fun e w' => GivesW (addK (fx 1) c 0) e ∧ WRow w' zg capz (updN fz 1 (addS (fx 1) c 0)) ∧ Only (· = zg) w w' := by
  have hcx := hx.cell 1 (by omega)
  have hcz := hz.cell 1 (by omega)
  have hfz := hz.frozen 1
  have hk := addK_le bx (show c < 18446744073709551616 by omega) (Nat.zero_le 1)
  have HB : Hid (Calls Try.prog 31 #[.int .u64 (fx 1 : Int), .int .u64 (c : Int), .int .u64 0] w fun e w' => Gives2 (addS (fx 1) c 0) (addK (fx 1) c 0) e ∧ w = w') := bitsAdd_any (fx 1) c 0 (by omega) w
  have HR : Hid _ := hz.set 1 (addS (fx 1) c 0)
  have HO : Hid _ := (Only.refl (· = zg) w).setCell ⟨zg, 1, none⟩ rfl (.int .u64 (addS (fx 1) c 0 : Int))
  obtain ⟨k, hk0⟩ : ∃ k, k = addK (fx 1) c 0 := ⟨_, rfl⟩
  rw [← hk0] at HB hk ⊢
  clear hk0
  go_enter Try.func29, Try.ntmps29
  go_upto_if 33 with (go_at_call 31; refine Calls.mono HB.out ?_; rintro e w1 ⟨rfl, rfl⟩)
  rcases (show k = 0 ∨ k = 1 by omega) with rfl | rfl
  · by_cases e : xg = zg
    · subst e
      have hp := neqP_same ⟨xg, 1, none⟩
      go_wp2_with fail
      go_quiet (fail)
      go_wp2_with fail
      go_ret
      exact ⟨rfl, HR.out, HO.out.drewN _⟩
    · have hp : ∀ n, (binOp .neq 87 (.pointer (some ⟨zg, 1, none⟩)) (.pointer (some ⟨xg, 1, none⟩))).run Try.prog ((w.setCell ⟨zg, 1, none⟩ (.int .u64 (addS (fx 1) c 0 : Int))).drewN n) = .ok (.bool true) ((w.setCell ⟨zg, 1, none⟩ (.int .u64 (addS (fx 1) c 0 : Int))).drewN n) := fun n =>
        neqP_other _ (fun q => e (by simpa using (Addr.mk.inj q).1.symm)) (ca := wcs capz (updN fz 1 (addS (fx 1) c 0))) (ta := 72) HR.out (cb := wcs capx fx) (tb := 72) (HO.out.row hx e)
      go_wp2_with fail
      go_quiet (fail)
      go_upto_region 9 with fail
      go_region_held3 (fun _ => True) (trivial) (first | (refine step_copy_none rfl _ _ 35 35 rfl 72 Try.underlying35 Try.info72s _ _ _ _ _ _ rfl rfl (by decide) ?_))
      all_goals go_wp2_with fail
      all_goals
        go_ret
        exact ⟨rfl, HR.out, HO.out.drewN _⟩
  · go_wp2_with fail
    go_loop [9] (fun iv => iv = .int .i64 1) (fun _ => 0)
    case atStart => rfl
    case round =>
      subst hrel
      go_wp2_with fail
      go_ret
      exact ⟨rfl, HR.out, HO.out⟩
set_option maxHeartbeats 1000000 in
set_option maxRecDepth 100000 in
theorem subVW_any (zg xg cz cx capz capx c : Nat) (fz fx : Nat → Nat) (w : World) (hz : WRow w zg capz fz) (hx : WRow w xg capx fx) (nz : 2 ≤ capz) (nx : 2 ≤ capx) (pz : 1 ≤ cz) (px : 1 ≤ cx) (hc : c ≤ 1) :
    Calls Try.prog 33 #[.slice (some ⟨zg, 1, none⟩) 1 cz, .slice (some ⟨xg, 1, none⟩) 1 cx, .int .u64 (c : Int)] w fun e w' => GivesW (subK (fx 1) c 0) e ∧ WRow w' zg capz (updN fz 1 (subS (fx 1) c 0)) ∧ Only (· = zg) w w' := by
  have hcx := hx.cell 1 (by omega)
  have hcz := hz.cell 1 (by omega)
  have hfz := hz.frozen 1
  have hk := subK_le (fx 1) c 0
  have HB : Hid (Calls Try.prog 34 #[.int .u64 (fx 1 : Int), .int .u64 (c : Int), .int .u64 0] w fun e w' => Gives2 (subS (fx 1) c 0) (subK (fx 1) c 0) e ∧ w = w') := bitsSub_any (fx 1) c 0 (by omega) w
  have HR : Hid _ := hz.set 1 (subS (fx 1) c 0)
  have HO : Hid _ := (Only.refl (· = zg) w).setCell ⟨zg, 1, none⟩ rfl (.int .u64 (subS (fx 1) c 0 : Int))
  obtain ⟨k, hk0⟩ : ∃ k, k = subK (fx 1) c 0 := ⟨_, rfl⟩
  rw [← hk0] at HB hk ⊢
  clear hk0
  go_enter Try.func33, Try.ntmps33
  go_upto_if 33 with (go_at_call 34; refine Calls.mono HB.out ?_; rintro e w1 ⟨rfl, rfl⟩)
  rcases (show k = 0 ∨ k = 1 by omega) with rfl | rfl
  · by_cases e : xg = zg
    · subst e
      have hp := neqP_same ⟨xg, 1, none⟩
      go_wp2_with fail
      go_quiet (fail)
      go_wp2_with fail
      go_ret
      exact ⟨rfl, HR.out, HO.out.drewN _⟩
    · have hp : ∀ n, (binOp .neq 87 (.pointer (some ⟨zg, 1, none⟩)) (.pointer (some ⟨xg, 1, none⟩))).run Try.prog ((w.setCell ⟨zg, 1, none⟩ (.int .u64 (subS (fx 1) c 0 : Int))).drewN n) = .ok (.bool true) ((w.setCell ⟨zg, 1, none⟩ (.int .u64 (subS (fx 1) c 0 : Int))).drewN n) := fun n =>
        neqP_other _ (fun q => e (by simpa using (Addr.mk.inj q).1.symm)) (ca := wcs capz (updN fz 1 (subS (fx 1) c 0))) (ta := 72) HR.out (cb := wcs capx fx) (tb := 72) (HO.out.row hx e)
      go_wp2_with fail
      go_quiet (fail)
      go_upto_region 9 with fail
      go_region_held3 (fun _ => True) (trivial) (first | (refine step_copy_none rfl _ _ 35 35 rfl 72 Try.underlying35 Try.info72s _ _ _ _ _ _ rfl rfl (by decide) ?_))
      all_goals go_wp2_with fail
      all_goals
        go_ret
        exact ⟨rfl, HR.out, HO.out.drewN _⟩
  · go_wp2_with fail
    go_loop [9] (fun iv => iv = .int .i64 1) (fun _ => 0)
    case atStart => rfl
    case round =>
      subst hrel
      go_wp2_with fail
      go_ret
      exact ⟨rfl, HR.out, HO.out⟩
end Go.Proofs.Qxb6616546a
