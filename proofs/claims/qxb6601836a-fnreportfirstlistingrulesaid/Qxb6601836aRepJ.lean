import Derived.Test.Qxb6601836aRepI
namespace Go.Proofs.Qxb6601836a
open Go.RowKit
set_option linter.unusedVariables false
set_option linter.unusedSimpArgs false

theorem of_not {b : Bool} (h : (!b) = false) : b = true := by
  cases b with
  | false => cases h
  | true => rfl

set_option maxRecDepth 100000 in
set_option maxHeartbeats 4000000 in
theorem law_none (a0 a1 : Option Addr) (n0 c0 n1 c1 : Nat) (ss : List ByteArray) (rs : List Rl) (sa : Int) (kind : ByteArray) (w : World) (hB : Strs w a0 n0 ss) (hR : Rules w a1 n1 rs) (hn0 : n0 ≤ maxLen) (hn1 : n1 ≤ maxLen) (hkd : kind.size ≤ maxLen) (hnil0 : a0 = none → n0 = 0 ∧ c0 = 0) (hnil1 : a1 = none → n1 = 0 ∧ c1 = 0)
    (hno : ∀ k, k < n1 → ∀ j, j < (rs.getD k Rl0).kl → ¬ Hit (rs.getD k Rl0).ks kind j) :
    Calls Try.prog 3 #[.slice a0 n0 c0, .slice a1 n1 c1, .int .i64 sa, .string kind] w fun e w' => e = .returned (.bool true) ∧ Below w.heap.size w w' := by
  have HNO : Hid (∀ k, k < n1 → ∀ j, j < (rs.getD k Rl0).kl → ¬ Hit (rs.getD k Rl0).ks kind j) := hno
  have HR : Hid (Rules w a1 n1 rs) := hR
  have hkd2 := hkd
  unfold maxLen at hkd2
  clear hno
  go_enter Try.func3, Try.ntmps3
  go_wp2_with (first
    | (go_at_call 6; refine (bytes6 _ _ _ _ _ _ _ _ _ _ _ hB hR hn0 hn1 hkd).mono ?_; rintro e w1 ⟨b, rfl, hSm, hw⟩; subst hw)
    | (go_at_call 9; refine (add9 _ _ _ (by omega) (by omega) (by omega) (by omega)).mono ?_; rintro e w1 ⟨x1, rfl, hx0, hx1, hw⟩; subst hw; have hS2 : Small n0 n1 rs := hSm (of_not (by assumption)); have hn1' : n1 ≤ 1048576 := hS2.2.1)
    | (go_at_call 8; refine (strings8 _ _ _ _ _ _ hB hx0 hx1 hS2.1).mono ?_; rintro e w1 ⟨x2, rfl, hx2, hx3, hw⟩; subst hw)
    | (go_at_call 7; refine (rules7 _ _ _ _ _ _ hR hx2 hx3 hS2.2.1 hS2.2.2).mono ?_; rintro e w1 ⟨x3, rfl, hx4, hx5, hw⟩; subst hw)
    | (go_at_call 10; refine (build10 _ _ _ _ _ _ _ _ _ _ hB hR hS2 hnil0 hnil1).mono ?_; rintro e w1 ⟨P, a', c', rfl, hBt, hb1⟩)
    | (go_at_call 11; refine (report_no _ _ _ _ _ _ _ hBt hS2.2.1 HNO.out hS2.2.2).mono ?_; rintro e w2 ⟨rfl, hb2⟩))
  all_goals first
    | (go_ret; exact ⟨rfl, Below.refl _ _⟩)
    | skip
  have hb12 := hb1.trans (hb2.mono hb1.size)
  have hb3 : Below w.heap.size w (w2.alloc (.cells #[.slice none 0 0, .int .i64 0, .string ⟨#[]⟩] 33)) := hb12.alloc hb12.size _
  have HS2 : Hid (Small n0 n1 rs) := hS2
  have HB3 : Hid (Below w.heap.size w (w2.alloc (.cells #[.slice none 0 0, .int .i64 0, .string ⟨#[]⟩] 33))) := hb3
  clear hB hR hn0 hn1 hkd hnil0 hnil1 hSm hBt hb1 hb2 hb12 hb3 hS2
  go_loop [12, 13] (fun u i => u = .int .i64 (-1) ∧ ∃ k : Nat, k ≤ n1 ∧ i = .int .i64 ((k : Int) - 1)) (fun _ i => (intOf i + 1).toNat)
  case atStart => exact ⟨rfl, n1, Nat.le_refl _, rfl⟩
  case round =>
    obtain ⟨rfl, k, hk, rfl⟩ := hrel
    by_cases hlt : 0 < k
    · obtain ⟨m, rfl⟩ : ∃ m, k = m + 1 := ⟨k - 1, by omega⟩
      have hR3 := HR.out.later (HB3.out.mono (Nat.le_refl _))
      rcases hR3.form with h0 | ⟨h0, b1, o1, rfl, HC⟩
      · exfalso; omega
      · obtain ⟨ka, kl, kc, ks, dy, da, HE, d0, d1, d2, hSt, hkl1, hda1, hdy0, hdy1, hkn⟩ := rule_at HC.out hR3.good m (by omega)
        have hkl : kl ≤ 1048576 := by have := HS2.out.2.2 m (by omega); rw [HE.out] at this; exact this
        have HN2 : Hid (∀ j, j < kl → ¬ Hit ks kind j) := by have := HNO.out m (by omega); rw [HE.out] at this; exact this
        clear hR3 d1 d2 hkn
        go_wp2_with (go_at_call 12; refine (lists12_no _ _ _ _ _ _ hSt hkl HN2.out).mono ?_; rintro e w4 ⟨rfl, hw⟩; subst hw)
        go_round
        case rel => exact ⟨rfl, m, by omega, by go_num⟩
        case measure => simp [intOf]
    · go_wp2_with (go_at_call 13; refine (isZero13 _).mono ?_; rintro e w4 ⟨rfl, hb4⟩)
      go_ret
      exact ⟨rfl, HB3.out.trans (hb4.mono HB3.out.size)⟩
end Go.Proofs.Qxb6601836a
