import Derived.Test.Qxb6601887aHexA
namespace Go.Proofs.Qxb6601887a
open Go.RowKit
set_option linter.unusedVariables false
set_option linter.unusedSimpArgs false

theorem hx_at {c : Int} (h : Hx c) : ∃ p : Nat, (p < 10 ∧ c = 48 + p) ∨ (10 ≤ p ∧ p < 16 ∧ c = 87 + p) ∨ (16 ≤ p ∧ p < 22 ∧ c = 49 + p) := by
  rcases h with ⟨h1, h2⟩ | ⟨h1, h2⟩ | ⟨h1, h2⟩
  · exact ⟨(c - 48).toNat, .inl ⟨by omega, by omega⟩⟩
  · exact ⟨(c - 87).toNat, .inr (.inl ⟨by omega, by omega, by omega⟩)⟩
  · exact ⟨(c - 49).toNat, .inr (.inr ⟨by omega, by omega, by omega⟩)⟩

theorem cases22 (k : Nat) (h : k < 22) : k = 0 ∨ k = 1 ∨ k = 2 ∨ k = 3 ∨ k = 4 ∨ k = 5 ∨ k = 6 ∨ k = 7 ∨ k = 8 ∨ k = 9 ∨ k = 10 ∨ k = 11 ∨ k = 12 ∨ k = 13 ∨ k = 14 ∨ k = 15 ∨ k = 16 ∨ k = 17 ∨ k = 18 ∨ k = 19 ∨ k = 20 ∨ k = 21 := by omega

/-- The digit at place k of the alphabet. -/
theorem alpha_at (k : Nat) (h : k < 22) (h' : k < (⟨#[48, 49, 50, 51, 52, 53, 54, 55, 56, 57, 97, 98, 99, 100, 101, 102, 65, 66, 67, 68, 69, 70]⟩ : ByteArray).size) :
    (((⟨#[48, 49, 50, 51, 52, 53, 54, 55, 56, 57, 97, 98, 99, 100, 101, 102, 65, 66, 67, 68, 69, 70]⟩ : ByteArray)[k]'h').toNat : Int) = if k < 10 then 48 + (k : Int) else if k < 16 then 87 + (k : Int) else 49 + (k : Int) := by
  rcases cases22 k h with rfl | rfl | rfl | rfl | rfl | rfl | rfl | rfl | rfl | rfl | rfl | rfl | rfl | rfl | rfl | rfl | rfl | rfl | rfl | rfl | rfl | rfl <;> rfl

set_option maxHeartbeats 4000000 in
theorem in8_no (c : Int) (w : World) (hc0 : 0 ≤ c) (hc1 : c ≤ 255) (h : ¬ Hx c) :
    Calls Try.prog 8 #[.int .u8 c] w fun e w' => e = .returned (.bool false) ∧ w = w' := by
  have HN : Hid (¬ Hx c) := h
  clear h
  go_enter Try.func8, Try.ntmps8
  go_wp2
  go_loop [3] (fun i => ∃ k : Nat, k ≤ 22 ∧ i = .int .i64 k) (fun i => 22 - (intOf i).toNat)
  case atStart => exact ⟨0, Nat.zero_le _, rfl⟩
  case round =>
    obtain ⟨k, hk, rfl⟩ := hrel
    by_cases hlt : k < 22
    · have hsz : k < (⟨#[48, 49, 50, 51, 52, 53, 54, 55, 56, 57, 97, 98, 99, 100, 101, 102, 65, 66, 67, 68, 69, 70]⟩ : ByteArray).size := hlt
      have hne : ((((⟨#[48, 49, 50, 51, 52, 53, 54, 55, 56, 57, 97, 98, 99, 100, 101, 102, 65, 66, 67, 68, 69, 70]⟩ : ByteArray)[k]'hsz).toNat : Int) == c) = false := by
        have := HN.out
        unfold Hx at this
        rw [alpha_at k hlt]
        have : ¬ (if k < 10 then 48 + (k : Int) else if k < 16 then 87 + (k : Int) else 49 + (k : Int)) = c := by
          split
          · omega
          · split <;> omega
        simpa using this
      go_wp2
      go_round
      case rel => exact ⟨k + 1, by omega, by go_num⟩
      case measure => simp [intOf]; omega
    · obtain rfl : k = 22 := by omega
      go_wp2
      go_ret
      exact ⟨rfl, rfl⟩

set_option maxHeartbeats 4000000 in
theorem in8_yes (c : Int) (w : World) (h : Hx c) :
    Calls Try.prog 8 #[.int .u8 c] w fun e w' => e = .returned (.bool true) ∧ w = w' := by
  obtain ⟨p, hp0⟩ := hx_at h
  have hp : p < 22 := by omega
  have HP : Hid ((p < 10 ∧ c = 48 + p) ∨ (10 ≤ p ∧ p < 16 ∧ c = 87 + p) ∨ (16 ≤ p ∧ p < 22 ∧ c = 49 + p)) := hp0
  clear h hp0
  go_enter Try.func8, Try.ntmps8
  go_wp2
  go_loop [3] (fun i => ∃ k : Nat, k ≤ p ∧ i = .int .i64 k) (fun i => 22 - (intOf i).toNat)
  case atStart => exact ⟨0, Nat.zero_le _, rfl⟩
  case round =>
    obtain ⟨k, hk, rfl⟩ := hrel
    have hlt : k < 22 := by omega
    have hsz : k < (⟨#[48, 49, 50, 51, 52, 53, 54, 55, 56, 57, 97, 98, 99, 100, 101, 102, 65, 66, 67, 68, 69, 70]⟩ : ByteArray).size := hlt
    by_cases hkp : k = p
    · subst hkp
      have heq : ((((⟨#[48, 49, 50, 51, 52, 53, 54, 55, 56, 57, 97, 98, 99, 100, 101, 102, 65, 66, 67, 68, 69, 70]⟩ : ByteArray)[k]'hsz).toNat : Int) == c) = true := by
        have := HP.out
        rw [alpha_at k hlt]
        have : (if k < 10 then 48 + (k : Int) else if k < 16 then 87 + (k : Int) else 49 + (k : Int)) = c := by
          split
          · omega
          · split <;> omega
        simpa using this
      go_wp2
      go_ret
      exact ⟨rfl, rfl⟩
    · have hne : ((((⟨#[48, 49, 50, 51, 52, 53, 54, 55, 56, 57, 97, 98, 99, 100, 101, 102, 65, 66, 67, 68, 69, 70]⟩ : ByteArray)[k]'hsz).toNat : Int) == c) = false := by
        have := HP.out
        rw [alpha_at k hlt]
        have : ¬ (if k < 10 then 48 + (k : Int) else if k < 16 then 87 + (k : Int) else 49 + (k : Int)) = c := by
          split
          · omega
          · split <;> omega
        simpa using this
      go_wp2
      go_round
      case rel => exact ⟨k + 1, by omega, by go_num⟩
      case measure => simp [intOf]; omega

theorem all_step {zs : List Int} {k : Nat} (h : ∀ j, j < k → Hx (zs.getD j 0)) (hk : Hx (zs.getD k 0)) : ∀ j, j < k + 1 → Hx (zs.getD j 0) := fun j hj => by
  rcases Nat.lt_succ_iff_lt_or_eq.1 hj with h1 | rfl
  · exact h j h1
  · exact hk

set_option maxRecDepth 100000 in
set_option maxHeartbeats 1000000 in
theorem law3 (a : Option Addr) (n c : Nat) (zs : List Int) (w : World) (hS : Bs w a n zs) (hn : n ≤ maxLen) (hnil : a = none → n = 0 ∧ c = 0) :
    Calls Try.prog 3 #[.slice a n c] w fun e w' => e = .returned (.bool true) ∧ Below w.heap.size w w' := by
  have hm := hn
  unfold maxLen at hm
  by_cases hsm : n ≤ 1048576
  · go_enter Try.func3, Try.ntmps3
    go_wp2_with (go_at_call 6; refine (zb6 _ _ _ _ true (by simpa using hsm) hn).mono ?_; rintro e w1 ⟨rfl, hw⟩; subst hw; go_wp2_with (go_at_call 7; refine (clone7 _ _ _ _ _ hS hsm hnil).mono ?_; rintro e w1 ⟨a1, c1, rfl, hS1, hb1⟩))
    clear hS hnil
    have HS1 : Hid (Bs w1 a1 n zs) := hS1
    have HB : Hid (∀ j, 0 ≤ zs.getD j 0 ∧ zs.getD j 0 ≤ 255) := hS1.bytes
    rcases hS1.form with rfl | ⟨h0, b, o, rfl, HC⟩
    · clear hS1
      go_loop [3, 4] (fun b i => ∃ k : Nat, k ≤ 0 ∧ i = .int .i64 k ∧ ((b = .bool true ∧ Hid (∀ j, j < k → Hx (zs.getD j 0))) ∨ (b = .bool false ∧ Hid (∃ j, j < 0 ∧ ¬ Hx (zs.getD j 0))))) (fun _ i => 0 - (intOf i).toNat)
      case atStart => exact ⟨0, Nat.zero_le _, rfl, .inl ⟨rfl, fun j hj => absurd hj (Nat.not_lt_zero _)⟩⟩
      case round =>
        obtain ⟨k, hk, rfl, hbb⟩ := hrel
        by_cases hlt : k < 0
        · exfalso; omega
        · obtain rfl : k = _ := Nat.le_antisymm hk (Nat.le_of_not_lt hlt)
          rcases hbb with ⟨rfl, HH⟩ | ⟨rfl, HH⟩
          · go_wp2_with (go_at_call 9; refine (hex9_yes _ _ _ _ _ HS1.out hsm HH.out).mono ?_; rintro e w1 ⟨rfl, hw⟩; subst hw)
            go_ret
            exact ⟨rfl, hb1⟩
          · obtain ⟨j0, hj0, hno⟩ := HH.out
            have HNO : Hid (¬ Hx (zs.getD j0 0)) := hno
            clear hno
            go_wp2_with (go_at_call 9; refine (hex9_no _ _ _ _ _ HS1.out hsm j0 hj0 HNO.out).mono ?_; rintro e w1 ⟨rfl, hw⟩; subst hw)
            go_ret
            exact ⟨rfl, hb1⟩
    · clear hS1
      go_loop [3, 4] (fun b i => ∃ k : Nat, k ≤ n ∧ i = .int .i64 k ∧ ((b = .bool true ∧ Hid (∀ j, j < k → Hx (zs.getD j 0))) ∨ (b = .bool false ∧ Hid (∃ j, j < n ∧ ¬ Hx (zs.getD j 0))))) (fun _ i => n - (intOf i).toNat)
      case atStart => exact ⟨0, Nat.zero_le _, rfl, .inl ⟨rfl, fun j hj => absurd hj (Nat.not_lt_zero _)⟩⟩
      case round =>
        obtain ⟨k, hk, rfl, hbb⟩ := hrel
        by_cases hlt : k < n
        · have d1 := HC.out k hlt
          have hzb := HB.out k
          by_cases hx : Hx (zs.getD k 0)
          · have HST : Hid ((∀ j, j < k → Hx (zs.getD j 0)) → ∀ j, j < k + 1 → Hx (zs.getD j 0)) := fun h => all_step h hx
            generalize zs.getD k 0 = z at d1 hzb hx
            rcases hbb with ⟨rfl, HH⟩ | ⟨rfl, HH⟩
            · go_wp2_with (go_at_call 8; refine (in8_yes _ _ hx).mono ?_; rintro e w1 ⟨rfl, hw⟩; subst hw)
              go_round
              case rel => exact ⟨k + 1, by omega, by go_num, .inl ⟨rfl, HST.out HH.out⟩⟩
              case measure => simp [intOf]; omega
            · go_wp2_with (go_at_call 8; refine (in8_yes _ _ hx).mono ?_; rintro e w1 ⟨rfl, hw⟩; subst hw)
              go_round
              case rel => exact ⟨k + 1, by omega, by go_num, .inr ⟨rfl, HH⟩⟩
              case measure => simp [intOf]; omega
          · have HST : Hid (∃ j, j < _ ∧ ¬ Hx (zs.getD j 0)) := ⟨k, hlt, hx⟩
            generalize zs.getD k 0 = z at d1 hzb hx
            obtain ⟨hz0, hz1⟩ := hzb
            rcases hbb with ⟨rfl, HH⟩ | ⟨rfl, HH⟩
            all_goals
              go_wp2_with (go_at_call 8; refine (in8_no _ _ hz0 hz1 hx).mono ?_; rintro e w1 ⟨rfl, hw⟩; subst hw)
              go_round
              case rel => exact ⟨k + 1, by omega, by go_num, .inr ⟨rfl, HST⟩⟩
              case measure => simp [intOf]; omega
        · obtain rfl : k = _ := Nat.le_antisymm hk (Nat.le_of_not_lt hlt)
          rcases hbb with ⟨rfl, HH⟩ | ⟨rfl, HH⟩
          · go_wp2_with (go_at_call 9; refine (hex9_yes _ _ _ _ _ HS1.out hsm HH.out).mono ?_; rintro e w1 ⟨rfl, hw⟩; subst hw)
            go_ret
            exact ⟨rfl, hb1⟩
          · obtain ⟨j0, hj0, hno⟩ := HH.out
            have HNO : Hid (¬ Hx (zs.getD j0 0)) := hno
            clear hno
            go_wp2_with (go_at_call 9; refine (hex9_no _ _ _ _ _ HS1.out hsm j0 hj0 HNO.out).mono ?_; rintro e w1 ⟨rfl, hw⟩; subst hw)
            go_ret
            exact ⟨rfl, hb1⟩
  · go_enter Try.func3, Try.ntmps3
    go_wp2_with (go_at_call 6; refine (zb6 _ _ _ _ false (by simpa using hsm) hn).mono ?_; rintro e w1 ⟨rfl, hw⟩; subst hw)
    go_ret
    exact ⟨rfl, Below.refl _ _⟩
end Go.Proofs.Qxb6601887a
