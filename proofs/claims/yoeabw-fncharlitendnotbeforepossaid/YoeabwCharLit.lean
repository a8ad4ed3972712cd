/-
  THE CALLEES OF BOTH LAWS, EACH BY A CONTRACT OF ITS OWN: the two size tests, and the three methods of parser.CharLit (Pos, End, String) behind a pointer whose cells are known.
-/
import Derived.Test.YoeabwRows
import Derived.WalkKit
import Derived.WalkSpells
import Derived.Deep.QuietTactic
import Derived.BigQuiet
namespace Go.Proofs.Yoeabw
open Go.RowKit

/-! ### THE PLAIN LAWS: no Go in sight -/
/-- A position equals itself plus a length exactly where the length is nought. -/
theorem same_iff (p : Int) (n : Nat) : ((p == p + (n : Int)) == ((n : Int) == 0)) = true := by
  by_cases h : n = 0
  · subst h; simp
  · have e1 : (p == p + (n : Int)) = false := by simp; omega
    have e2 : ((n : Int) == 0) = false := by simp; omega
    rw [e1, e2]; rfl

/-- Positions that lie d apart, each wrapped: their difference wraps to d. -/
theorem diff_wraps (p d : Int) (lo : -9223372036854775808 ≤ d) (hi : d ≤ 9223372036854775807) : wrap64 (wrap64 (p + d) - p) = d := by
  unfold wrap64
  omega
/-- So do two such positions with one length added to each. -/
theorem diff_wraps_len (p d : Int) (n : Int) (lo : -9223372036854775808 ≤ d) (hi : d ≤ 9223372036854775807) : wrap64 (wrap64 (wrap64 (p + d) + n) - wrap64 (p + n)) = d := by
  unfold wrap64
  omega

theorem ret_bool {a b : Bool} (h : a = b) : Ending.returned (.bool a) = .returned (.bool b) := by rw [h]

/-- Draws turn nothing that was there. -/
theorem grown_drewN {W w' : World} (h : Grown W w') (n : Nat) : Grown W (w'.drewN n) := h

/-- zzBytes_FnCharLitEndNotBeforePos at a short literal: true. -/
theorem bytes5_yes (a0 a1 : Int) (s : ByteArray) (w : World) (h : s.size ≤ 1048576) :
    Calls Eabg.prog 5 #[.int .i32 a0, .int .i64 a1, .string s] w fun e w' => e = .returned (.bool true) ∧ w' = w := by
  go_enter Eabg.func5, Eabg.ntmps5
  go_wp2
  go_ret
  exact ⟨rfl, rfl⟩

/-- zzBytes_FnCharLitEndNotBeforePos at a long literal: false. -/
theorem bytes5_no (a0 a1 : Int) (s : ByteArray) (w : World) (h : 1048576 < s.size) :
    Calls Eabg.prog 5 #[.int .i32 a0, .int .i64 a1, .string s] w fun e w' => e = .returned (.bool false) ∧ w' = w := by
  go_enter Eabg.func5, Eabg.ntmps5
  go_wp2
  go_ret
  exact ⟨rfl, rfl⟩

/-- zzBytes_FnCharLitShiftInvariance at a short literal: true. -/
theorem bytes8_yes (a0 a1 a2 a3 : Int) (s : ByteArray) (w : World) (h : s.size ≤ 1048576) :
    Calls Eabg.prog 8 #[.int .i32 a0, .int .i32 a1, .int .i64 a2, .int .i64 a3, .string s] w fun e w' => e = .returned (.bool true) ∧ w' = w := by
  go_enter Eabg.func8, Eabg.ntmps8
  go_wp2
  go_ret
  exact ⟨rfl, rfl⟩

/-- zzBytes_FnCharLitShiftInvariance at a long literal: false. -/
theorem bytes8_no (a0 a1 a2 a3 : Int) (s : ByteArray) (w : World) (h : 1048576 < s.size) :
    Calls Eabg.prog 8 #[.int .i32 a0, .int .i32 a1, .int .i64 a2, .int .i64 a3, .string s] w fun e w' => e = .returned (.bool false) ∧ w' = w := by
  go_enter Eabg.func8, Eabg.ntmps8
  go_wp2
  go_ret
  exact ⟨rfl, rfl⟩

/-- (*CharLit).Pos: the cell ValuePos. -/
theorem pos_any (b : Nat) (p : Int) (w : World) (h1 : w.cell? ⟨b, 1, none⟩ = some (.int .i64 p)) :
    Calls Eabg.prog 6 #[.pointer (some ⟨b, 0, none⟩)] w fun e w' => e = .returned (.int .i64 p) ∧ w' = w := by
  go_enter Eabg.func6, Eabg.ntmps6
  go_wp2
  go_ret
  exact ⟨rfl, rfl⟩

/-- (*CharLit).End: ValuePos plus the literal's length, wrapped; the two reads are made in an open order. -/
theorem end_any (b : Nat) (p : Int) (s : ByteArray) (w : World) (h1 : w.cell? ⟨b, 1, none⟩ = some (.int .i64 p)) (h2 : w.cell? ⟨b, 2, none⟩ = some (.string s)) :
    Calls Eabg.prog 7 #[.pointer (some ⟨b, 0, none⟩)] w fun e w' => e = .returned (.int .i64 (wrap64 (p + (s.size : Int)))) ∧ ∃ n, w' = w.drewN n := by
  go_enter Eabg.func7, Eabg.ntmps7
  go_wp2
  go_quiet (fail)
  go_wp2
  go_ret
  exact ⟨rfl, _, rfl⟩

/-- (*CharLit).End where nothing wraps. -/
theorem end_in (b : Nat) (p : Int) (s : ByteArray) (w : World) (h1 : w.cell? ⟨b, 1, none⟩ = some (.int .i64 p)) (h2 : w.cell? ⟨b, 2, none⟩ = some (.string s))
    (lo : -9223372036854775808 ≤ p) (hi : p + (s.size : Int) ≤ 9223372036854775807) :
    Calls Eabg.prog 7 #[.pointer (some ⟨b, 0, none⟩)] w fun e w' => e = .returned (.int .i64 (p + (s.size : Int))) ∧ ∃ n, w' = w.drewN n := by
  have e := IntWalk.wrap64_in (p + (s.size : Int)) ⟨by omega, by omega⟩
  have h := end_any b p s w h1 h2
  rw [e] at h
  exact h

/-- (*CharLit).String: the cell Literal. -/
theorem string_any (b : Nat) (s : ByteArray) (w : World) (h2 : w.cell? ⟨b, 2, none⟩ = some (.string s)) :
    Calls Eabg.prog 9 #[.pointer (some ⟨b, 0, none⟩)] w fun e w' => e = .returned (.string s) ∧ w' = w := by
  go_enter Eabg.func9, Eabg.ntmps9
  go_wp2
  go_ret
  exact ⟨rfl, rfl⟩
end Go.Proofs.Yoeabw
