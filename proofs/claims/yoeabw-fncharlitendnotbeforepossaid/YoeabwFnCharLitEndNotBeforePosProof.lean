/-
  THE PROOF OF 'Rows.FnCharLitEndNotBeforePosSaid': the frame is the given shell's, the walk is filled in over the contracts of YoeabwCharLit.lean.
-/
import Derived.Test.YoeabwRows
import Derived.WalkKit
import Derived.ProofKit
import Derived.OpenShut
import Derived.ShutString
import Derived.Test.YoeabwCharLit
namespace Go.Proofs.Yoeabw.fnCharLitEndNotBeforePos
open Go.ChangeShapes Go.WideShapes Go.ChangeAt Go.RowKit
open Go.ChangeMaps (open_string shut_string)
set_option linter.unusedVariables false      -- a walk need not use every 'w<i>' (that an integer argument fits its kind)

theorem own : ownKnob Eabg.prog.godebug = none := by kernel_rfl

/-! ### THE WALK: the Go text returns true: a long literal; a position too near the greatest int; and else Pos, End and the two tests. -/
theorem walk (a0 : Int) (a1 : Int) (a2 : ByteArray) (w0 : (Lit.int .i32 a0).wf = true) (w1 : (Lit.int .i64 a1).wf = true) (w2 : a2.size ≤ maxLen) (w : World) :
    Calls Eabg.prog 3 #[.int .i32 a0, .int .i64 a1, .string a2] w fun e w' => e = .returned (.bool true) ∧ Grown w w' := by
  have b1 := bounds_i64 w1
  by_cases hlen : a2.size ≤ 1048576
  · by_cases hroom : 9223372036854775807 - (a2.size : Int) < a1
    · go_enter Eabg.func3, Eabg.ntmps3
      go_wp2_with (go_at_call 5; refine (bytes5_yes _ _ _ _ hlen).mono ?_; rintro e w' ⟨rfl, rfl⟩)
      go_ret
      exact ⟨rfl, Grown.refl _⟩
    · go_enter Eabg.func3, Eabg.ntmps3
      go_wp2_with (go_at_call 5; refine (bytes5_yes _ _ _ _ hlen).mono ?_; rintro e w' ⟨rfl, rfl⟩)
      refine (pos_any _ a1 _ (by simp [go_sem])).mono ?_
      rintro e w' ⟨rfl, rfl⟩
      go_wp2_with fail
      refine (end_in _ a1 a2 _ (by simp [go_sem]) (by simp [go_sem]) (by omega) (by omega)).mono ?_
      rintro e w' ⟨rfl, n, rfl⟩
      go_wp2_with fail
      go_ret
      exact ⟨ret_bool (same_iff a1 a2.size), grown_drewN ((Grown.refl _).alloc _ _) n⟩
  · go_enter Eabg.func3, Eabg.ntmps3
    go_wp2_with (go_at_call 5; refine (bytes5_no _ _ _ _ (by omega)).mono ?_; rintro e w' ⟨rfl, rfl⟩)
    go_ret
    exact ⟨rfl, Grown.refl _⟩

/-! ### THE ROW's STEP: WRITTEN OUT: LEAVE IT -/
set_option maxRecDepth 100000 in
theorem lifted (os : Os) (started : os.Started) (H : Type) (enc : TypeId × Value → H) :
    ReturnsInHanded {} Eabg.checked os 3 .any (Rows.fnCharLitEndNotBeforePosSpec.pre6 enc Eabg.prog Eabg.f3 Rows.fnCharLitEndNotBeforePosRow.domain false) (Rows.fnCharLitEndNotBeforePosSpec.post enc Eabg.prog Eabg.f3 false true false false) := by
  refine returnsInHanded_of_change (C := Eabg.checked) own started (by kernel_rfl) Eabg.func3
    (ChangeSpec.witness6 (enc := enc) (C := Eabg.checked) false ⟨#[], #[.int .i32 0, .int .i64 0, .string ByteArray.empty], []⟩ 8 (by kernel_rfl) (by kernel_rfl) (by kernel_rfl) (by kernel_rfl)) ?_
  intro W base args ds gs before hval0 hW hcnd _
  have hval : ∀ (j : Nat) t v, Eabg.f3.params[j]? = some t → args[j]? = some v → Value.okWide Eabg.prog W .any base t v := hval0
  have hW' := hW
  obtain ⟨p, q, hA0, hV, rfl, hfz, hnd⟩ := hW
  have hA : DataW.TrodAll enc Eabg.prog W 0 (fun _ => true) true Eabg.f3.params.toList args.toList ds p := hA0
  rw [Eabg.params3] at hA hval
  obtain ⟨v0, vs0, d0, ds0, p0, q0, hargs, rfl, rfl, h0, r0⟩ := trodAll_cons hA
  obtain ⟨v1, vs1, d1, ds1, p1, q1, rfl, rfl, rfl, h1, r1⟩ := trodAll_cons r0
  obtain ⟨v2, vs2, d2, ds2, p2, q2, rfl, rfl, rfl, h2, r2⟩ := trodAll_cons r1
  obtain ⟨rfl, rfl, rfl⟩ := trodAll_nil r2
  obtain rfl : args = #[v0, v1, v2] := by cases args; simp_all
  obtain ⟨rfl, rfl⟩ := trodVars_none hV
  obtain ⟨a0, rfl, rfl, rfl, w0⟩ := open_int Eabg.underlying21 (hval 0 21 v0 rfl rfl) h0
  obtain ⟨a1, rfl, rfl, rfl, w1⟩ := open_int Eabg.underlying3 (hval 1 3 v1 rfl rfl) h1
  obtain ⟨a2, rfl, rfl, rfl, w2⟩ := open_string Eabg.underlying9 (hval 2 9 v2 rfl rfl) h2
  clear hA0 hval0
  simp only [List.append_nil] at hW'
  refine (walk a0 a1 a2 w0 w1 w2 W).mono fun e W' ⟨he, hg⟩ => ?_
  subst he
  exact ⟨_, rfl, post_of_same (pa := []) (pv := []) hW' (fun _ _ _ => (trodAll_cons_mk (shut_bool Eabg.underlying4 _) trodAll_mk0)) (fun sp _ => (trodAll_cons_mk (shut_int Eabg.underlying21 w0) (trodAll_cons_mk (shut_int Eabg.underlying3 w1) (trodAll_cons_mk (shut_string Eabg.underlying9 w2) trodAll_mk0)))) (fun _ _ => rfl) rfl
    (hg.frame _) hg.2.1 (ok_one (by kernel_rfl) rfl (okWide_bool_mk Eabg.underlying4 _))⟩

theorem over : Rows.fnCharLitEndNotBeforePosRow.holds Eabg.pinned (OpenSpec.ofChange Rows.fnCharLitEndNotBeforePosSpec) :=
  OpenClaim.holds_of_wide 3 Eabg.f3 rfl rfl rfl rfl rfl rfl rfl ⟨rfl, rfl, rfl, rfl, rfl⟩ rfl rfl rfl rfl rfl (by kernel_rfl) Eabg.func3 (by kernel_rfl)
    (of_decide_eq_true (by kernel_rfl)) (by unfold Func.isWrapper; first | (rw [if_pos (by decide +kernel)]; kernel_rfl) | (rw [if_neg (by decide +kernel)]; exact ⟨rfl, rfl⟩))
    (fun os started H enc _ => lifted os started H enc)

/-- ████ THE STATEMENT ████ -/
theorem proved : Rows.FnCharLitEndNotBeforePosSaid :=
  over
end Go.Proofs.Yoeabw.fnCharLitEndNotBeforePos

namespace Go.Proofs.Yoeabw
/-- The statement, by a short name. -/
theorem fnCharLitEndNotBeforePos_proved : Rows.FnCharLitEndNotBeforePosSaid :=
  fnCharLitEndNotBeforePos.proved
end Go.Proofs.Yoeabw
