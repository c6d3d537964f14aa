import Derived.Test.Qxb6601836aRows
import Derived.WalkKit
import Derived.ProofKit
import Derived.Below
import Derived.Lib.SliceRun
import Derived.WalkSpells
import Derived.WalkSmall
import Derived.Deep.AppendLies
import Derived.Deep.QuietTactic
import Derived.BigQuiet
import Derived.Outline
namespace Go.Proofs.Qxb6601836a
open Go.RowKit
set_option linter.unusedVariables false
set_option linter.unusedSimpArgs false

theorem add9 (t n : Int) (w : World) (ht0 : 0 ≤ t) (ht1 : t ≤ 1048577) (hn0 : 0 ≤ n) (hn1 : n ≤ 9223372036854775807) :
    Calls Try.prog 9 #[.int .i64 t, .int .i64 n] w fun e w' => ∃ z, e = .returned (.int .i64 z) ∧ 0 ≤ z ∧ z ≤ 1048577 ∧ w = w' := by
  by_cases h1 : t ≤ 1048576
  · by_cases h2 : n ≤ 1048576
    · have z1 : decide (1048576 < t) = false := by simp; omega
      have z2 : decide (n < 0) = false := by simp; omega
      have z3 : decide (1048576 < n) = false := by simp; omega
      by_cases h3 : t + n ≤ 1048576
      · go_enter Try.func9, Try.ntmps9
        go_wp2
        go_ret
        exact ⟨_, rfl, by omega, by omega, rfl⟩
      · go_enter Try.func9, Try.ntmps9
        go_wp2
        go_ret
        exact ⟨_, rfl, by omega, by omega, rfl⟩
    · have z1 : decide (1048576 < t) = false := by simp; omega
      have z2 : decide (n < 0) = false := by simp; omega
      have z3 : decide (1048576 < n) = true := by simp; omega
      go_enter Try.func9, Try.ntmps9
      go_wp2
      go_ret
      exact ⟨_, rfl, by omega, by omega, rfl⟩
  · have z1 : decide (1048576 < t) = true := by simp; omega
    go_enter Try.func9, Try.ntmps9
    go_wp2
    go_ret
    exact ⟨_, rfl, by omega, by omega, rfl⟩

theorem times18 (t : Int) (n : Nat) (k : Int) (w : World) (ht0 : 0 ≤ t) (ht1 : t ≤ 1048577) (hn : n ≤ 1048576) (hk0 : k = 16 ∨ k = 48) :
    Calls Try.prog 18 #[.int .i64 t, .int .i64 n, .int .i64 k] w fun e w' => ∃ z, e = .returned (.int .i64 z) ∧ 0 ≤ z ∧ z ≤ 1048577 ∧ w = w' := by
  have z2 : decide ((n : Int) < 0) = false := by simp
  have z3 : decide (1048576 < (n : Int)) = false := by simp; omega
  rcases hk0 with rfl | rfl
  all_goals
    go_enter Try.func18, Try.ntmps18
    go_wp2_with (go_at_call 9; refine (add9 _ _ _ ht0 ht1 (by omega) (by omega)).mono ?_; rintro e w1 ⟨z, rfl, hz0, hz1, hw⟩; subst hw)
    go_ret
    exact ⟨_, rfl, hz0, hz1, rfl⟩

/-- A slice of strings that can be read: its strings; where it lies. -/
structure Strs (w : World) (a : Option Addr) (n : Nat) (ss : List ByteArray) : Prop where
  hlen : ss.length = n
  small : ∀ j, (ss.getD j ByteArray.empty).size ≤ maxLen
  lies : 0 < n → ∃ b o, a = some ⟨b, o, none⟩ ∧ ∀ j, j < n → w.cell? ⟨b, o + j, none⟩ = some (.string (ss.getD j ByteArray.empty))

theorem Strs.later {w w' : World} {a : Option Addr} {n : Nat} {ss : List ByteArray} (h : Strs w a n ss) (hb : Below w.heap.size w w') : Strs w' a n ss :=
  ⟨h.hlen, h.small, fun h0 => by
    obtain ⟨b, o, ha, hc⟩ := h.lies h0
    exact ⟨b, o, ha, fun j hj => (hb.cell (World.block_lt_of_cell? w _ (hc j hj))).trans (hc j hj)⟩⟩

/-- One form or the other, for the walk. -/
theorem Strs.form {w : World} {a : Option Addr} {n : Nat} {ss : List ByteArray} (h : Strs w a n ss) : n ≤ 0 ∨ (0 < n ∧ ∃ b o, a = some ⟨b, o, none⟩ ∧ Hid (∀ j, j < n → w.cell? ⟨b, o + j, none⟩ = some (.string (ss.getD j ByteArray.empty)))) := by
  by_cases h0 : 0 < n
  · exact Or.inr ⟨h0, h.lies h0⟩
  · exact Or.inl (by omega)

set_option maxHeartbeats 1000000 in
theorem strings8 (t : Int) (a : Option Addr) (n c : Nat) (ss : List ByteArray) (w : World) (hS : Strs w a n ss) (ht0 : 0 ≤ t) (ht1 : t ≤ 1048577) (hn : n ≤ 1048576) :
    Calls Try.prog 8 #[.int .i64 t, .slice a n c] w fun e w' => ∃ z, e = .returned (.int .i64 z) ∧ 0 ≤ z ∧ z ≤ 1048577 ∧ w = w' := by
  have hsm := hS.small
  have HSM : Hid (∀ j, (ss.getD j ByteArray.empty).size ≤ maxLen) := hsm
  clear hsm
  rcases hS.form with h0 | ⟨h0, b, o, rfl, HC⟩
  all_goals
    clear hS
    go_enter Try.func8, Try.ntmps8
    go_wp2_with (go_at_call 18; refine (times18 _ _ _ _ ht0 ht1 hn (Or.inl rfl)).mono ?_; rintro e w1 ⟨z, rfl, hz0, hz1, hw⟩; subst hw)
    go_loop [0, 5] (fun u i => ∃ (k : Nat) (z : Int), k ≤ n ∧ i = .int .i64 k ∧ u = .int .i64 z ∧ 0 ≤ z ∧ z ≤ 1048577) (fun _ i => n - (intOf i).toNat)
    case atStart => exact ⟨0, z, Nat.zero_le _, rfl, rfl, hz0, hz1⟩
    case round =>
      clear hz0 hz1
      obtain ⟨k, z2, hk, rfl, rfl, hz0, hz1⟩ := hrel
      by_cases hlt : k < n
      · first
          | (exfalso; omega)
          | (by_cases hz : z2 ≤ 1048576
             · have c1 := HC.out k hlt
               have hsz := HSM.out k
               generalize ss.getD k ByteArray.empty = s at c1 hsz
               unfold maxLen at hsz
               go_wp2_with (go_at_call 9; refine (add9 _ _ _ hz0 hz1 (by omega) (by omega)).mono ?_; rintro e w1 ⟨z3, rfl, hz2, hz3, hw⟩; subst hw)
               go_round
               case rel => exact ⟨k + 1, z3, by omega, by go_num, rfl, hz2, hz3⟩
               case measure => simp [intOf]; omega
             · go_wp2
               go_ret
               exact ⟨_, rfl, hz0, hz1, rfl⟩)
      · go_wp2
        go_ret
        exact ⟨_, rfl, hz0, hz1, rfl⟩

end Go.Proofs.Qxb6601836a
