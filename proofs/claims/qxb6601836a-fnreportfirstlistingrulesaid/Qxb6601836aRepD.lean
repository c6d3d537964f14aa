import Derived.Test.Qxb6601836aRepC
namespace Go.Proofs.Qxb6601836a
open Go.RowKit
set_option linter.unusedVariables false
set_option linter.unusedSimpArgs false

/-- What the size test says where it says yes. -/
def Small (n0 n1 : Nat) (rs : List Rl) : Prop := n0 ≤ 1048576 ∧ n1 ≤ 1048576 ∧ ∀ j, j < n1 → (rs.getD j Rl0).kl ≤ 1048576

/-- The end of the size test. -/
def Sized (n0 n1 : Nat) (rs : List Rl) (w : World) (e : Ending) (w' : World) : Prop := ∃ b, e = .returned (.bool b) ∧ (b = true → Small n0 n1 rs) ∧ w = w'
theorem Sized.no {n0 n1 : Nat} {rs : List Rl} {w : World} : Sized n0 n1 rs w (.returned (.bool false)) w := ⟨false, rfl, (fun h => by cases h), rfl⟩
theorem Sized.yes {n0 n1 : Nat} {rs : List Rl} {w : World} (h : Small n0 n1 rs) : Sized n0 n1 rs w (.returned (.bool true)) w := ⟨true, rfl, fun _ => h, rfl⟩

set_option maxRecDepth 100000 in
set_option maxHeartbeats 4000000 in
theorem bytes6 (a0 a1 : Option Addr) (n0 c0 n1 c1 : Nat) (ss : List ByteArray) (rs : List Rl) (sa : Int) (kind : ByteArray) (w : World) (hB : Strs w a0 n0 ss) (hR : Rules w a1 n1 rs) (hn0 : n0 ≤ maxLen) (hn1 : n1 ≤ maxLen) (hkd : kind.size ≤ maxLen) :
    Calls Try.prog 6 #[.slice a0 n0 c0, .slice a1 n1 c1, .int .i64 sa, .string kind] w fun e w' => Sized n0 n1 rs w e w' := by
  have HSM : Hid (∀ j, (ss.getD j ByteArray.empty).size ≤ maxLen) := hB.small
  have HG : Hid (∀ j, j < n1 → Good w (rs.getD j Rl0)) := hR.good
  unfold maxLen at hn0 hn1 hkd
  rcases hB.form with h0 | ⟨h0, b0, o0, rfl, HC0⟩
  all_goals
    rcases hR.form with h1 | ⟨h1, b1, o1, rfl, HC1⟩
    all_goals
      clear hB hR
      by_cases hs0 : n0 ≤ 1048576
      · go_enter Try.func6, Try.ntmps6
        go_wp2
        go_loop [9, 10] (fun u i => ∃ (k : Nat) (z : Int), k ≤ n0 ∧ i = .int .i64 k ∧ u = .int .i64 z ∧ 0 ≤ z ∧ z ≤ 1048576) (fun _ i => n0 - (intOf i).toNat)
        case atStart => exact ⟨0, n0, Nat.zero_le _, rfl, by go_num, by omega, by omega⟩
        case round =>
          obtain ⟨k, z, hk, rfl, rfl, hz0, hz1⟩ := hrel
          by_cases hlt : k < n0
          · first
              | (exfalso; omega)
              | (have d1 := HC0.out k hlt
                 have hsz := HSM.out k
                 generalize ss.getD k ByteArray.empty = s at d1 hsz
                 unfold maxLen at hsz
                 by_cases q1 : s.size ≤ 1048576
                 · by_cases q2 : z + s.size ≤ 1048576
                   · go_wp2
                     go_round
                     case rel => exact ⟨k + 1, z + s.size, by omega, by go_num, rfl, by omega, by omega⟩
                     case measure => simp [intOf]; omega
                   · go_wp2
                     go_ret
                     exact Sized.no
                 · go_wp2
                   go_ret
                   exact Sized.no)
          · by_cases q1 : n1 ≤ 1048576
            · by_cases q2 : z + n1 ≤ 1048576
              · go_wp2
                go_loop [9, 11] (fun u i => ∃ (k : Nat) (z : Int), k ≤ n1 ∧ i = .int .i64 k ∧ u = .int .i64 z ∧ 0 ≤ z ∧ z ≤ 1048576 ∧ Hid (∀ j, j < k → (rs.getD j Rl0).kl ≤ 1048576)) (fun _ i => n1 - (intOf i).toNat)
                case atStart => exact ⟨0, z + n1, Nat.zero_le _, rfl, rfl, by omega, by omega, fun j hj => by omega⟩
                case round =>
                  obtain ⟨k2, z2, hk2, rfl, rfl, hz2, hz3, HKK⟩ := hrel
                  clear q2 hz0 hz1
                  by_cases hlt2 : k2 < n1
                  · first
                      | (exfalso; omega)
                      | (obtain ⟨ka, kl, kc, ks, dy, da, HE, e0, e1, e2, hS, hkl, hda, _, _, _⟩ := rule_at HC1.out HG.out k2 hlt2
                         have HKS : Hid (∀ j, (ks.getD j ByteArray.empty).size ≤ maxLen) := hS.small
                         by_cases q3 : kl ≤ 1048576
                         · have HK2 : Hid (∀ j, j < k2 + 1 → (rs.getD j Rl0).kl ≤ 1048576) := fun j hj => by
                             by_cases hjk : j < k2
                             · exact HKK.out j hjk
                             · obtain rfl : j = k2 := by omega
                               rw [HE.out]; exact q3
                           by_cases q4 : z2 + kl ≤ 1048576
                           · rcases hS.form with hk0 | ⟨hk0, b2, o2, rfl, HC2⟩
                             all_goals
                               clear hS
                               go_wp2
                               go_loop [9, 12] (fun u i => ∃ (j : Nat) (z : Int), j ≤ kl ∧ i = .int .i64 j ∧ u = .int .i64 z ∧ 0 ≤ z ∧ z ≤ 1048576) (fun _ i => kl - (intOf i).toNat)
                               case atStart => exact ⟨0, z2 + kl, Nat.zero_le _, rfl, rfl, by omega, by omega⟩
                               case round =>
                                 obtain ⟨j, z3, hj, rfl, rfl, hz4, hz5⟩ := hrel
                                 clear q4 hz2 hz3
                                 by_cases hjl : j < kl
                                 · first
                                     | (exfalso; omega)
                                     | (have d1 := HC2.out j hjl
                                        have hsz := HKS.out j
                                        generalize ks.getD j ByteArray.empty = s at d1 hsz
                                        unfold maxLen at hsz
                                        by_cases q5 : s.size ≤ 1048576
                                        · by_cases q6 : z3 + s.size ≤ 1048576
                                          · go_wp2
                                            go_round
                                            case rel => exact ⟨j + 1, z3 + s.size, by omega, by go_num, rfl, by omega, by omega⟩
                                            case measure => simp [intOf]; omega
                                          · go_wp2
                                            go_ret
                                            exact Sized.no
                                        · go_wp2
                                          go_ret
                                          exact Sized.no)
                                 · by_cases q5 : da.size ≤ 1048576
                                   · by_cases q6 : z3 + da.size ≤ 1048576
                                     · go_wp2
                                       go_round
                                       case rel => exact ⟨k2 + 1, z3 + da.size, by omega, by go_num, rfl, by omega, by omega, HK2⟩
                                       case measure => simp [intOf]; omega
                                     · go_wp2
                                       go_ret
                                       exact Sized.no
                                   · go_wp2
                                     go_ret
                                     exact Sized.no
                           · go_wp2
                             go_ret
                             exact Sized.no
                         · go_wp2
                           go_ret
                           exact Sized.no)
                  · by_cases q3 : kind.size ≤ 1048576
                    · by_cases q4 : z2 + kind.size ≤ 1048576
                      · go_wp2
                        go_ret
                        exact Sized.yes ⟨hs0, q1, fun j hj => HKK.out j (by omega)⟩
                      · go_wp2
                        go_ret
                        exact Sized.no
                    · go_wp2
                      go_ret
                      exact Sized.no
              · first
                  | (exfalso; omega)
                  | (go_wp2
                     go_ret
                     exact Sized.no)
            · first
                | (exfalso; omega)
                | (go_wp2
                   go_ret
                   exact Sized.no)
      · first
          | (exfalso; omega)
          | (go_enter Try.func6, Try.ntmps6
             go_wp2
             go_ret
             exact Sized.no)
end Go.Proofs.Qxb6601836a
