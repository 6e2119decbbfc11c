/-
  THE SHELL OF A PROOF OF 'Rows.FnPlacedNestsAsOnePathSaid' ('example.com/evenkeel/evenkeel/zzlaws_api_b1.FnPlacedNestsAsOnePath'), WRITTEN BY PROGRAM (proof-skeleton.mjs) off the guide's own print for that function. Not trusted: Lean checks it.
  FILLED BY HAND: the walk (step 1). ALL ELSE IS THE GUIDE's TEMPLATE (howto/template/XProofs.lean) at this function's number and types: leave it.
-/
import Derived.Test.Qxb6617117aRows
import Derived.WalkKit
import Derived.ProofKit
import Derived.OpenShut
import Derived.ShutString
namespace Go.Proofs.Qxb6617117a.fnPlacedNestsAsOnePath
open Go.ChangeShapes Go.WideShapes Go.ChangeAt Go.RowKit
open Go.ChangeMaps (open_string shut_string)
set_option linter.unusedVariables false      -- a walk need not use every 'w<i>' (that an integer argument fits its kind)

theorem own : ownKnob Try.prog.godebug = none := by kernel_rfl

/-! ### STEP 1: THE WALK -/
theorem placed_nil (b : ByteArray) (w : World) :
    Calls Try.prog 14 #[.string ByteArray.empty, .string b] w fun e w' => e = .returned (.string b) ∧ w = w' := by
  go_enter Try.func14, Try.ntmps14
  go_wp2
  go_ret
  exact ⟨rfl, rfl⟩

theorem placed_cons (a b : ByteArray) (w : World) (ha : a.toList.isEmpty = false) (ha' : a.size ≤ 10000000) (hb : b.size ≤ 10000000) :
    Calls Try.prog 14 #[.string a, .string b] w fun e w' => e = .returned (.string (a ++ ⟨#[46]⟩ ++ b)) ∧ w = w' := by
  go_enter Try.func14, Try.ntmps14
  go_wp2
  go_ret
  exact ⟨rfl, rfl⟩

theorem bytes_any (a b c : ByteArray) (w : World) (ha : a.size ≤ maxLen) (hb : b.size ≤ maxLen) (hc : c.size ≤ maxLen) :
    Calls Try.prog 13 #[.string a, .string b, .string c] w fun e w' => (∃ r, e = .returned (.bool r)) ∧ w = w' := by
  unfold maxLen at *
  go_enter Try.func13, Try.ntmps13
  go_wp2
  all_goals go_ret
  all_goals exact ⟨⟨_, rfl⟩, rfl⟩

theorem empty_of (b : ByteArray) (h : b.toList.isEmpty = true) : b = ByteArray.empty := by
  have h1 : b.toList = [] := by simpa using h
  have h2 : b.data.toList = [] := by rw [← h1]; exact (ByteArray.toList_eq _).symm
  cases b with | mk d => cases d with | mk l => simp at h2; subst h2; rfl

theorem size_dot (a b : ByteArray) : (a ++ (⟨#[46]⟩ : ByteArray) ++ b).size = a.size + 1 + b.size := by
  simp [ByteArray.size_append]; rfl

theorem dot_ne (a b : ByteArray) : (a ++ (⟨#[46]⟩ : ByteArray) ++ b).toList.isEmpty = false := by
  rw [ByteArray.toList_eq]; simp

theorem walk (a0 : ByteArray) (a1 : ByteArray) (a2 : ByteArray) (w0 : a0.size ≤ maxLen) (w1 : a1.size ≤ maxLen) (w2 : a2.size ≤ maxLen) (w : World) :
    Calls Try.prog 5 #[.string a0, .string a1, .string a2] w fun e w' => e = .returned (.bool true) ∧ Grown w w' := by
  have w0' : a0.size ≤ 9223372036854775807 := w0
  have w1' : a1.size ≤ 9223372036854775807 := w1
  have w2' : a2.size ≤ 9223372036854775807 := w2
  by_cases c0 : a0.size ≤ 262144
  · by_cases c1 : a1.size ≤ 262144
    · by_cases c2 : a2.size ≤ 262144
      · cases c3 : a1.toList.isEmpty
        · cases c4 : a0.toList.isEmpty
          · have hq1 : ((a0 ++ (⟨#[46]⟩ : ByteArray) ++ (a1 ++ (⟨#[46]⟩ : ByteArray) ++ a2)).toList == (a0 ++ (⟨#[46]⟩ : ByteArray) ++ a1 ++ (⟨#[46]⟩ : ByteArray) ++ a2).toList) = true := by
              simp only [ByteArray.append_assoc, beq_self_eq_true]
            have s1 := size_dot a0 a1
            have s2 := size_dot a1 a2
            have H1 : Hid ((a0 ++ (⟨#[46]⟩ : ByteArray) ++ a1).size ≤ 10000000) := by rw [s1]; show _ ≤ _; omega
            have H2 : Hid ((a1 ++ (⟨#[46]⟩ : ByteArray) ++ a2).size ≤ 10000000) := by rw [s2]; show _ ≤ _; omega
            clear s1 s2
            go_enter Try.func5, Try.ntmps5
            go_wp2_with (go_at_call 13; refine (bytes_any _ _ _ _ w0 w1 w2).mono ?_; rintro e w' ⟨⟨r, rfl⟩, rfl⟩; cases r)
            · go_ret
              exact ⟨rfl, Grown.refl _⟩
            · refine (placed_cons a0 a1 _ c4 (by omega) (by omega)).mono ?_
              rintro e w' ⟨rfl, rfl⟩
              go_wp2_with fail
              refine (placed_cons a1 a2 _ c3 (by omega) (by omega)).mono ?_
              rintro e w' ⟨rfl, rfl⟩
              go_wp2_with fail
              refine (placed_cons a0 _ _ c4 (by omega) H2.out).mono ?_
              rintro e w' ⟨rfl, rfl⟩
              go_wp2_with fail
              refine (placed_cons _ a2 _ (dot_ne _ _) H1.out (by omega)).mono ?_
              rintro e w' ⟨rfl, rfl⟩
              have s1 := H1.out
              have s2 := H2.out
              go_wp2_with fail
              go_ret
              exact ⟨rfl, Grown.refl _⟩
          · have := empty_of a0 c4
            subst this
            have hq1 : ((a1 ++ (⟨#[46]⟩ : ByteArray) ++ a2).toList == (a1 ++ (⟨#[46]⟩ : ByteArray) ++ a2).toList) = true := beq_self_eq_true _
            go_enter Try.func5, Try.ntmps5
            go_wp2_with (go_at_call 13; refine (bytes_any _ _ _ _ w0 w1 w2).mono ?_; rintro e w' ⟨⟨r, rfl⟩, rfl⟩; cases r)
            · go_ret
              exact ⟨rfl, Grown.refl _⟩
            · refine (placed_nil a1 _).mono ?_
              rintro e w' ⟨rfl, rfl⟩
              go_wp2_with fail
              refine (placed_cons a1 a2 _ c3 (by omega) (by omega)).mono ?_
              rintro e w' ⟨rfl, rfl⟩
              go_wp2_with fail
              refine (placed_nil _ _).mono ?_
              rintro e w' ⟨rfl, rfl⟩
              go_wp2_with fail
              refine (placed_cons a1 a2 _ c3 (by omega) (by omega)).mono ?_
              rintro e w' ⟨rfl, rfl⟩
              go_wp2_with fail
              go_ret
              exact ⟨rfl, Grown.refl _⟩
        · go_enter Try.func5, Try.ntmps5
          go_wp2_with (go_at_call 13; refine (bytes_any _ _ _ _ w0 w1 w2).mono ?_; rintro e w' ⟨⟨r, rfl⟩, rfl⟩; cases r)
          all_goals go_ret
          all_goals exact ⟨rfl, Grown.refl _⟩
      · go_enter Try.func5, Try.ntmps5
        go_wp2_with (go_at_call 13; refine (bytes_any _ _ _ _ w0 w1 w2).mono ?_; rintro e w' ⟨⟨r, rfl⟩, rfl⟩; cases r)
        all_goals go_ret
        all_goals exact ⟨rfl, Grown.refl _⟩
    · go_enter Try.func5, Try.ntmps5
      go_wp2_with (go_at_call 13; refine (bytes_any _ _ _ _ w0 w1 w2).mono ?_; rintro e w' ⟨⟨r, rfl⟩, rfl⟩; cases r)
      all_goals go_ret
      all_goals exact ⟨rfl, Grown.refl _⟩
  · go_enter Try.func5, Try.ntmps5
    go_wp2_with (go_at_call 13; refine (bytes_any _ _ _ _ w0 w1 w2).mono ?_; rintro e w' ⟨⟨r, rfl⟩, rfl⟩; cases r)
    all_goals go_ret
    all_goals exact ⟨rfl, Grown.refl _⟩

/-! ### THE ROW's STEP: WRITTEN OUT: LEAVE IT -/
set_option maxRecDepth 100000 in
theorem lifted (os : Os) (started : os.Started) (H : Type) (enc : TypeId × Value → H) :
    ReturnsInHanded {} Try.checked os 5 .any (Rows.fnPlacedNestsAsOnePathSpec.pre6 enc Try.prog Try.f5 Rows.fnPlacedNestsAsOnePathRow.domain false) (Rows.fnPlacedNestsAsOnePathSpec.post enc Try.prog Try.f5 false true false false) := by
  refine returnsInHanded_of_change (C := Try.checked) own started (by kernel_rfl) Try.func5
    (ChangeSpec.witness6 (enc := enc) (C := Try.checked) false ⟨#[], #[.string ByteArray.empty, .string ByteArray.empty, .string ByteArray.empty], []⟩ 8 (by kernel_rfl) (by kernel_rfl) (by kernel_rfl) (by kernel_rfl)) ?_
  intro W base args ds gs before hval0 hW hcnd _
  have hval : ∀ (j : Nat) t v, Try.f5.params[j]? = some t → args[j]? = some v → Value.okWide Try.prog W .any base t v := hval0
  have hW' := hW
  obtain ⟨p, q, hA0, hV, rfl, hfz, hnd⟩ := hW
  have hA : DataW.TrodAll enc Try.prog W 0 (fun _ => true) true Try.f5.params.toList args.toList ds p := hA0
  rw [Try.params5] at hA hval
  obtain ⟨v0, vs0, d0, ds0, p0, q0, hargs, rfl, rfl, h0, r0⟩ := trodAll_cons hA
  obtain ⟨v1, vs1, d1, ds1, p1, q1, rfl, rfl, rfl, h1, r1⟩ := trodAll_cons r0
  obtain ⟨v2, vs2, d2, ds2, p2, q2, rfl, rfl, rfl, h2, r2⟩ := trodAll_cons r1
  obtain ⟨rfl, rfl, rfl⟩ := trodAll_nil r2
  obtain rfl : args = #[v0, v1, v2] := by cases args; simp_all
  obtain ⟨rfl, rfl⟩ := trodVars_none hV
  obtain ⟨a0, rfl, rfl, rfl, w0⟩ := open_string Try.underlying9 (hval 0 9 v0 rfl rfl) h0
  obtain ⟨a1, rfl, rfl, rfl, w1⟩ := open_string Try.underlying9 (hval 1 9 v1 rfl rfl) h1
  obtain ⟨a2, rfl, rfl, rfl, w2⟩ := open_string Try.underlying9 (hval 2 9 v2 rfl rfl) h2
  clear hA0 hval0
  simp only [List.append_nil] at hW'
  refine (walk a0 a1 a2 w0 w1 w2 W).mono fun e W' ⟨he, hg⟩ => ?_
  subst he
  exact ⟨_, rfl, post_of_same (pa := []) (pv := []) hW' (fun _ _ _ => (trodAll_cons_mk (shut_bool Try.underlying4 _) trodAll_mk0)) (fun sp _ => (trodAll_cons_mk (shut_string Try.underlying9 w0) (trodAll_cons_mk (shut_string Try.underlying9 w1) (trodAll_cons_mk (shut_string Try.underlying9 w2) trodAll_mk0)))) (fun _ _ => rfl) rfl
    (hg.frame _) hg.2.1 (ok_one (by kernel_rfl) rfl (okWide_bool_mk Try.underlying4 _))⟩

theorem over : Rows.fnPlacedNestsAsOnePathRow.holds Try.pinned (OpenSpec.ofChange Rows.fnPlacedNestsAsOnePathSpec) :=
  OpenClaim.holds_of_wide 5 Try.f5 rfl rfl rfl rfl rfl rfl rfl ⟨rfl, rfl, rfl, rfl, rfl⟩ rfl rfl rfl rfl rfl (by kernel_rfl) Try.func5 (by kernel_rfl)
    (of_decide_eq_true (by kernel_rfl)) (by unfold Func.isWrapper; first | (rw [if_pos (by decide +kernel)]; kernel_rfl) | (rw [if_neg (by decide +kernel)]; exact ⟨rfl, rfl⟩))
    (fun os started H enc _ => lifted os started H enc)

/-- ████ THE STATEMENT ████ -/
theorem proved : Rows.FnPlacedNestsAsOnePathSaid :=
  over
#print axioms proved
end Go.Proofs.Qxb6617117a.fnPlacedNestsAsOnePath
