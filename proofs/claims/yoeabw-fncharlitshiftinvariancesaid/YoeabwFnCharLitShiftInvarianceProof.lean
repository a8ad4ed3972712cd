/-
  THE PROOF OF 'Rows.FnCharLitShiftInvarianceSaid': the frame is the given shell's, the walk is filled in over the contracts of YoeabwCharLit.lean.
-/
import Derived.Test.YoeabwRows
import Derived.WalkKit
import Derived.ProofKit
import Derived.OpenShut
import Derived.ShutString
import Derived.Test.YoeabwCharLit
namespace Go.Proofs.Yoeabw.fnCharLitShiftInvariance
open Go.ChangeShapes Go.WideShapes Go.ChangeAt Go.RowKit
open Go.ChangeMaps (open_string shut_string)
set_option linter.unusedVariables false      -- a walk need not use every 'w<i>' (that an integer argument fits its kind)

theorem own : ownKnob Eabg.prog.godebug = none := by kernel_rfl

/-! ### THE WALK: the Go text returns true: a long literal; and else two literals, Pos, End and String of each. -/
theorem walk (a0 : Int) (a1 : Int) (a2 : Int) (a3 : Int) (a4 : ByteArray) (w0 : (Lit.int .i32 a0).wf = true) (w1 : (Lit.int .i32 a1).wf = true) (w2 : (Lit.int .i64 a2).wf = true) (w3 : (Lit.int .i64 a3).wf = true) (w4 : a4.size ≤ maxLen) (w : World) :
    Calls Eabg.prog 4 #[.int .i32 a0, .int .i32 a1, .int .i64 a2, .int .i64 a3, .string a4] w fun e w' => e = .returned (.bool true) ∧ Grown w w' := by
  have b3 := bounds_i64 w3
  by_cases hlen : a4.size ≤ 1048576
  · have e1 := diff_wraps a2 a3 b3.1 b3.2
    have e2 := diff_wraps_len a2 a3 a4.size b3.1 b3.2
    go_enter Eabg.func4, Eabg.ntmps4
    go_wp2_with (go_at_call 8; refine (bytes8_yes _ _ _ _ _ _ hlen).mono ?_; rintro e w' ⟨rfl, rfl⟩)
    refine (pos_any _ (wrap64 (a2 + a3)) _ (by simp [go_sem])).mono ?_
    rintro e w' ⟨rfl, rfl⟩
    go_wp2_with fail
    refine (pos_any _ a2 _ (by simp [go_sem])).mono ?_
    rintro e w' ⟨rfl, rfl⟩
    go_wp2_with fail
    refine (end_any _ (wrap64 (a2 + a3)) a4 _ (by simp [go_sem]) (by simp [go_sem])).mono ?_
    rintro e w' ⟨rfl, n, rfl⟩
    go_wp2_with fail
    refine (end_any _ a2 a4 _ (by simp [go_sem]) (by simp [go_sem])).mono ?_
    rintro e w' ⟨rfl, m, rfl⟩
    go_wp2_with fail
    refine (string_any _ a4 _ (by simp [go_sem])).mono ?_
    rintro e w' ⟨rfl, rfl⟩
    go_wp2_with fail
    refine (string_any _ a4 _ (by simp [go_sem])).mono ?_
    rintro e w' ⟨rfl, rfl⟩
    go_wp2_with fail
    go_ret
    exact ⟨by simp, by repeat (first | exact Grown.refl _ | apply grown_drewN | apply Grown.drew | apply Grown.alloc)⟩
  · go_enter Eabg.func4, Eabg.ntmps4
    go_wp2_with (go_at_call 8; refine (bytes8_no _ _ _ _ _ _ (by omega)).mono ?_; rintro e w' ⟨rfl, rfl⟩)
    go_ret
    exact ⟨rfl, Grown.refl _⟩

/-! ### THE ROW's STEP: WRITTEN OUT: LEAVE IT -/
set_option maxRecDepth 100000 in
theorem lifted (os : Os) (started : os.Started) (H : Type) (enc : TypeId × Value → H) :
    ReturnsInHanded {} Eabg.checked os 4 .any (Rows.fnCharLitShiftInvarianceSpec.pre6 enc Eabg.prog Eabg.f4 Rows.fnCharLitShiftInvarianceRow.domain false) (Rows.fnCharLitShiftInvarianceSpec.post enc Eabg.prog Eabg.f4 false true false false) := by
  refine returnsInHanded_of_change (C := Eabg.checked) own started (by kernel_rfl) Eabg.func4
    (ChangeSpec.witness6 (enc := enc) (C := Eabg.checked) false ⟨#[], #[.int .i32 0, .int .i32 0, .int .i64 0, .int .i64 0, .string ByteArray.empty], []⟩ 8 (by kernel_rfl) (by kernel_rfl) (by kernel_rfl) (by kernel_rfl)) ?_
  intro W base args ds gs before hval0 hW hcnd _
  have hval : ∀ (j : Nat) t v, Eabg.f4.params[j]? = some t → args[j]? = some v → Value.okWide Eabg.prog W .any base t v := hval0
  have hW' := hW
  obtain ⟨p, q, hA0, hV, rfl, hfz, hnd⟩ := hW
  have hA : DataW.TrodAll enc Eabg.prog W 0 (fun _ => true) true Eabg.f4.params.toList args.toList ds p := hA0
  rw [Eabg.params4] at hA hval
  obtain ⟨v0, vs0, d0, ds0, p0, q0, hargs, rfl, rfl, h0, r0⟩ := trodAll_cons hA
  obtain ⟨v1, vs1, d1, ds1, p1, q1, rfl, rfl, rfl, h1, r1⟩ := trodAll_cons r0
  obtain ⟨v2, vs2, d2, ds2, p2, q2, rfl, rfl, rfl, h2, r2⟩ := trodAll_cons r1
  obtain ⟨v3, vs3, d3, ds3, p3, q3, rfl, rfl, rfl, h3, r3⟩ := trodAll_cons r2
  obtain ⟨v4, vs4, d4, ds4, p4, q4, rfl, rfl, rfl, h4, r4⟩ := trodAll_cons r3
  obtain ⟨rfl, rfl, rfl⟩ := trodAll_nil r4
  obtain rfl : args = #[v0, v1, v2, v3, v4] := by cases args; simp_all
  obtain ⟨rfl, rfl⟩ := trodVars_none hV
  obtain ⟨a0, rfl, rfl, rfl, w0⟩ := open_int Eabg.underlying21 (hval 0 21 v0 rfl rfl) h0
  obtain ⟨a1, rfl, rfl, rfl, w1⟩ := open_int Eabg.underlying21 (hval 1 21 v1 rfl rfl) h1
  obtain ⟨a2, rfl, rfl, rfl, w2⟩ := open_int Eabg.underlying3 (hval 2 3 v2 rfl rfl) h2
  obtain ⟨a3, rfl, rfl, rfl, w3⟩ := open_int Eabg.underlying3 (hval 3 3 v3 rfl rfl) h3
  obtain ⟨a4, rfl, rfl, rfl, w4⟩ := open_string Eabg.underlying9 (hval 4 9 v4 rfl rfl) h4
  clear hA0 hval0
  simp only [List.append_nil] at hW'
  refine (walk a0 a1 a2 a3 a4 w0 w1 w2 w3 w4 W).mono fun e W' ⟨he, hg⟩ => ?_
  subst he
  exact ⟨_, rfl, post_of_same (pa := []) (pv := []) hW' (fun _ _ _ => (trodAll_cons_mk (shut_bool Eabg.underlying4 _) trodAll_mk0)) (fun sp _ => (trodAll_cons_mk (shut_int Eabg.underlying21 w0) (trodAll_cons_mk (shut_int Eabg.underlying21 w1) (trodAll_cons_mk (shut_int Eabg.underlying3 w2) (trodAll_cons_mk (shut_int Eabg.underlying3 w3) (trodAll_cons_mk (shut_string Eabg.underlying9 w4) trodAll_mk0)))))) (fun _ _ => rfl) rfl
    (hg.frame _) hg.2.1 (ok_one (by kernel_rfl) rfl (okWide_bool_mk Eabg.underlying4 _))⟩

theorem over : Rows.fnCharLitShiftInvarianceRow.holds Eabg.pinned (OpenSpec.ofChange Rows.fnCharLitShiftInvarianceSpec) :=
  OpenClaim.holds_of_wide 4 Eabg.f4 rfl rfl rfl rfl rfl rfl rfl ⟨rfl, rfl, rfl, rfl, rfl⟩ rfl rfl rfl rfl rfl (by kernel_rfl) Eabg.func4 (by kernel_rfl)
    (of_decide_eq_true (by kernel_rfl)) (by unfold Func.isWrapper; first | (rw [if_pos (by decide +kernel)]; kernel_rfl) | (rw [if_neg (by decide +kernel)]; exact ⟨rfl, rfl⟩))
    (fun os started H enc _ => lifted os started H enc)

/-- ████ THE STATEMENT ████ -/
theorem proved : Rows.FnCharLitShiftInvarianceSaid :=
  over
end Go.Proofs.Yoeabw.fnCharLitShiftInvariance

namespace Go.Proofs.Yoeabw
/-- The statement, by a short name. -/
theorem fnCharLitShiftInvariance_proved : Rows.FnCharLitShiftInvarianceSaid :=
  fnCharLitShiftInvariance.proved
end Go.Proofs.Yoeabw
