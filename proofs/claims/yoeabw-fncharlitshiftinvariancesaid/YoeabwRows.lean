/-
  No cell of these rows narrows 'for every input' (looked for: loops, veiled, ifaces, maps, wideKeys, modest, calm, conditions, laid).
  DERIVED. THE GIVEN ROWS OF THIS SEAT. 2 by the template 'for every input the law returns true; each argument reads behind the call as it read before'; 0 by the template 'total and deterministic' (their statements: YoeabwTotals.lean).
  GIVEN WITH THE SEED: the statements are not yours to turn. If you find one false, say at which input.
  Laid BY PROGRAM, IN A SANDBOX (cutbox-rows.mjs): the forced cells as the released guide's own fill.sh prints them over the translation 11b74ec468ba0d19… (all of the seat's roots in one cut). By AI agents, Wed Nov 11 2026. No macro, syntax, notation, axiom, sorry.
-/
import Derived.Test.YoeabwChecked
import GoSem.Claim
import GoSem.ClaimJoined
import GoSem.ClaimMapViews
import Derived.JoinedTies
import Derived.KernelRfl
namespace Go.Proofs.Yoeabw
/- THE CELL 'sum', in the pinned program and in every row, IS THE sha256 OF THE DUMP (.gsa) THAT YoeabwProg.lean LOADS. Nothing in Lean hashes anything: it is a label: what it is worth is what the hold of that sum in a sandbox is worth. -/
noncomputable def Eabg.pinned : Pinned := { name := "yoeabw", sum := "11b74ec468ba0d19834ad886f00d03becb1bf235176ad6fecad304f4c6e28b62", checked := Eabg.checked }
namespace Rows
def none {H : Type} : Left H := { results := [], args := [] }

/-- 'zzlaws_parser_b7.FnCharLitEndNotBeforePos': WHATEVER THE INPUT: true; the input reads as it did. -/
def fnCharLitEndNotBeforePosSpec : ChangeSpec := { name := "fnCharLitEndNotBeforePos", fn := fun _ => fun
  | [d1, d2, d3] => { results := [.lit (.bool true)], args := [d1, d2, d3] }
  | _ => none }
def fnCharLitEndNotBeforePosRow : OpenClaim := { program := "yoeabw", sum := "11b74ec468ba0d19834ad886f00d03becb1bf235176ad6fecad304f4c6e28b62", func := "github.com/d5/tengo/v2/zzlaws_parser_b7.FnCharLitEndNotBeforePos", spec := "fnCharLitEndNotBeforePos", apart := false }
def FnCharLitEndNotBeforePosSaid : Prop := fnCharLitEndNotBeforePosRow.holds Eabg.pinned (OpenSpec.ofChange fnCharLitEndNotBeforePosSpec)

/-- ITS FALSE NEIGHBOUR: 'it returns false'. Refute it at one input. -/
def fnCharLitEndNotBeforePosWrong : ChangeSpec := { name := "fnCharLitEndNotBeforePos", fn := fun _ => fun
  | [d1, d2, d3] => { results := [.lit (.bool false)], args := [d1, d2, d3] }
  | _ => none }
def FnCharLitEndNotBeforePosWrongFalsely : Prop := fnCharLitEndNotBeforePosRow.holds Eabg.pinned (OpenSpec.ofChange fnCharLitEndNotBeforePosWrong)

/-- 'zzlaws_parser_b7.FnCharLitShiftInvariance': WHATEVER THE INPUT: true; the input reads as it did. -/
def fnCharLitShiftInvarianceSpec : ChangeSpec := { name := "fnCharLitShiftInvariance", fn := fun _ => fun
  | [d1, d2, d3, d4, d5] => { results := [.lit (.bool true)], args := [d1, d2, d3, d4, d5] }
  | _ => none }
def fnCharLitShiftInvarianceRow : OpenClaim := { program := "yoeabw", sum := "11b74ec468ba0d19834ad886f00d03becb1bf235176ad6fecad304f4c6e28b62", func := "github.com/d5/tengo/v2/zzlaws_parser_b7.FnCharLitShiftInvariance", spec := "fnCharLitShiftInvariance", apart := false }
def FnCharLitShiftInvarianceSaid : Prop := fnCharLitShiftInvarianceRow.holds Eabg.pinned (OpenSpec.ofChange fnCharLitShiftInvarianceSpec)

/-- ITS FALSE NEIGHBOUR: 'it returns false'. Refute it at one input. -/
def fnCharLitShiftInvarianceWrong : ChangeSpec := { name := "fnCharLitShiftInvariance", fn := fun _ => fun
  | [d1, d2, d3, d4, d5] => { results := [.lit (.bool false)], args := [d1, d2, d3, d4, d5] }
  | _ => none }
def FnCharLitShiftInvarianceWrongFalsely : Prop := fnCharLitShiftInvarianceRow.holds Eabg.pinned (OpenSpec.ofChange fnCharLitShiftInvarianceWrong)

end Rows
end Go.Proofs.Yoeabw
