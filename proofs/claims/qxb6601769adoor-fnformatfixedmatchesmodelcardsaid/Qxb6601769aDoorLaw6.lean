import Derived.Test.Qxb6601769aDoorModel
namespace Go.Proofs.Qxb6601769aDoor
open Go.RowKit
set_option linter.unusedVariables false
set_option linter.unusedSimpArgs false

theorem six11_pos (M p : Nat) (w : World) (hM : M ≤ 9223372036854775807) (hp : p ≤ 19) (htab : Lib.TabIs Tryd.prog w Tryd.powName .u64 Lib.pow10Tab) :
    Calls Tryd.prog 11 #[.int .i64 M, .int .i64 p] w fun e w' => e = .returned (.string (strOfNums (Fx.text false p M))) ∧ Below w.heap.size w w' := by
  have H : Hid (Calls Tryd.prog 21 #[.int .i64 M, .int .i64 p] w fun e w' => e = .returned (.string (strOfNums (Fx.text false p M))) ∧ Below w.heap.size w w') := fmt21_pos M p w hM hp htab
  clear htab
  go_enter Tryd.func11, Tryd.ntmps11
  go_wp2_with (go_at_call 21; refine H.out.mono ?_; rintro e w1 ⟨rfl, hb⟩)
  go_ret
  exact ⟨rfl, hb⟩
theorem six11_neg (M p : Nat) (w : World) (hM1 : 1 ≤ M) (hM : M ≤ 9223372036854775808) (hp : p ≤ 19) (htab : Lib.TabIs Tryd.prog w Tryd.powName .u64 Lib.pow10Tab) :
    Calls Tryd.prog 11 #[.int .i64 (-(M : Int)), .int .i64 p] w fun e w' => e = .returned (.string (strOfNums (Fx.text true p M))) ∧ Below w.heap.size w w' := by
  have H : Hid (Calls Tryd.prog 21 #[.int .i64 (-(M : Int)), .int .i64 p] w fun e w' => e = .returned (.string (strOfNums (Fx.text true p M))) ∧ Below w.heap.size w w') := fmt21_neg M p w hM1 hM hp htab
  clear htab
  go_enter Tryd.func11, Tryd.ntmps11
  go_wp2_with (go_at_call 21; refine H.out.mono ?_; rintro e w1 ⟨rfl, hb⟩)
  go_ret
  exact ⟨rfl, hb⟩

theorem law6_core (n : Int) (p : Nat) (s : ByteArray) (w : World) (hp : p ≤ 19)
    (H1 : Hid (Calls Tryd.prog 11 #[.int .i64 n, .int .i64 p] w fun e w' => e = .returned (.string s) ∧ Below w.heap.size w w'))
    (H2 : Hid (∀ w, Calls Tryd.prog 12 #[.int .i64 n, .int .i64 p] w fun e w' => e = .returned (.string s) ∧ Below w.heap.size w w')) :
    Calls Tryd.prog 6 #[.int .i64 n, .int .i64 p] w fun e w' => e = .returned (.bool true) ∧ Below w.heap.size w w' := by
  go_enter Tryd.func6, Tryd.ntmps6
  go_wp2_with (first
    | (go_at_call 11; refine H1.out.mono ?_; rintro e w1 ⟨rfl, hb1⟩)
    | (go_at_call 12; refine (H2.out _).mono ?_; rintro e w2 ⟨rfl, hb2⟩))
  go_ret
  exact ⟨rfl, hb1.trans (hb2.mono hb1.size)⟩

theorem law6_out (n p : Int) (w : World) (hp : p < 0 ∨ 19 < p) :
    Calls Tryd.prog 6 #[.int .i64 n, .int .i64 p] w fun e w' => e = .returned (.bool true) ∧ Below w.heap.size w w' := by
  rcases hp with hp | hp
  · have z : decide (p < 0) = true := by simpa using hp
    go_enter Tryd.func6, Tryd.ntmps6
    go_wp2
    go_ret
    exact ⟨rfl, Below.refl _ _⟩
  · have z : decide (p < 0) = false := by simp; omega
    have z2 : decide (19 < p) = true := by simpa using hp
    go_enter Tryd.func6, Tryd.ntmps6
    go_wp2
    go_ret
    exact ⟨rfl, Below.refl _ _⟩

theorem fnFormatFixedMatchesModel_walk (n p : Int) (w : World) (h0 : -9223372036854775808 ≤ n) (h1 : n ≤ 9223372036854775807) (hp0 : -9223372036854775808 ≤ p) (hp1 : p ≤ 9223372036854775807) (htab : Lib.TabIs Tryd.prog w Tryd.powName .u64 Lib.pow10Tab) :
    Calls Tryd.prog 6 #[.int .i64 n, .int .i64 p] w fun e w' => e = .returned (.bool true) ∧ Below w.heap.size w w' := by
  by_cases hp : p < 0 ∨ 19 < p
  · exact law6_out n p w hp
  · obtain ⟨P, rfl⟩ := Int.eq_ofNat_of_zero_le (show 0 ≤ p by omega)
    by_cases hn : 0 ≤ n
    · obtain ⟨M, rfl⟩ := Int.eq_ofNat_of_zero_le hn
      exact law6_core _ P _ w (by omega) (six11_pos M P w (by omega) (by omega) htab) (fun w' => model12_pos M P w' (by omega) (by omega))
    · obtain ⟨M, hM⟩ := Int.eq_ofNat_of_zero_le (show 0 ≤ -n by omega)
      obtain rfl : n = -(M : Int) := by omega
      exact law6_core _ P _ w (by omega) (six11_neg M P w (by omega) (by omega) (by omega) htab) (fun w' => model12_neg M P w' (by omega) (by omega) (by omega))

end Go.Proofs.Qxb6601769aDoor
