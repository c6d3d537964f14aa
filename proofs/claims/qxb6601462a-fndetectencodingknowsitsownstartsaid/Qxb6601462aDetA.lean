import Derived.Test.Qxb6601462aRows
import Derived.WalkKit
import Derived.ProofKit
import Derived.Below
import Derived.Laws.CopyOwn
import Derived.WalkSpells
namespace Go.Proofs.Qxb6601462a
open Go.RowKit
set_option linter.unusedVariables false

/-- The size test of function 9. -/
theorem zb9 (a0 a1 a2 : Int) (a3 : Bool) (a4 : Option Addr) (len cap : Nat) (w : World) (hl : len ≤ maxLen) (b : Bool) (hb : b = decide ((len : Int) ≤ 1048576)) :
    Calls Try.prog 9 #[.int .u8 a0, .int .u16 a1, .int .u8 a2, .bool a3, .slice a4 len cap] w fun e w' => e = .returned (.bool b) ∧ w' = w := by
  unfold maxLen at hl
  by_cases h : (len : Int) ≤ 1048576
  · obtain rfl : b = true := by rw [hb]; simpa using h
    clear hb
    go_enter Try.func9, Try.ntmps9
    go_wp2
    go_ret
    exact ⟨rfl, rfl⟩
  · obtain rfl : b = false := by rw [hb]; simpa using h
    clear hb
    go_enter Try.func9, Try.ntmps9
    go_wp2
    go_ret
    exact ⟨rfl, rfl⟩

theorem enc10_yes (e : Int) (w : World) (h0 : 0 ≤ e) (h4 : e ≤ 4) :
    Calls Try.prog 10 #[.int .u8 e] w fun r w' => r = .returned (.bool true) ∧ w' = w := by
  rcases (show e = 0 ∨ e = 1 ∨ e = 2 ∨ e = 3 ∨ e = 4 by omega) with rfl | rfl | rfl | rfl | rfl
  all_goals
    go_enter Try.func10, Try.ntmps10
    go_wp2
    go_ret
    exact ⟨rfl, rfl⟩

theorem enc10_no (e : Int) (w : World) (h4 : 4 < e) :
    Calls Try.prog 10 #[.int .u8 e] w fun r w' => r = .returned (.bool false) ∧ w' = w := by
  have e0 : (e == 0) = false := by simp; omega
  have e1 : (e == 1) = false := by simp; omega
  have e2 : (e == 2) = false := by simp; omega
  have e3 : (e == 3) = false := by simp; omega
  have e4 : (e == 4) = false := by simp; omega
  go_enter Try.func10, Try.ntmps10
  go_wp2
  go_ret
  exact ⟨rfl, rfl⟩

end Go.Proofs.Qxb6601462a
