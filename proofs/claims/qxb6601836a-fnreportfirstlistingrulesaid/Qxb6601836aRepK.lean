import Derived.Test.Qxb6601836aRepJ
import Derived.Deep.RegionHeld3
namespace Go.Proofs.Qxb6601836a
open Go.RowKit
set_option linter.unusedVariables false
set_option linter.unusedSimpArgs false

set_option maxRecDepth 100000 in
set_option maxHeartbeats 4000000 in
theorem law_some (a0 a1 : Option Addr) (n0 c0 n1 c1 : Nat) (ss : List ByteArray) (rs : List Rl) (sa : Int) (kind : ByteArray) (w : World) (hB : Strs w a0 n0 ss) (hR : Rules w a1 n1 rs) (hn0 : n0 ≤ maxLen) (hn1 : n1 ≤ maxLen) (hkd : kind.size ≤ maxLen) (hnil0 : a0 = none → n0 = 0 ∧ c0 = 0) (hnil1 : a1 = none → n1 = 0 ∧ c1 = 0)
    (j0 m0 : Nat) (hj0 : j0 < n1) (hm0 : m0 < (rs.getD j0 Rl0).kl) (hhit : Hit (rs.getD j0 Rl0).ks kind m0)
    (hno : ∀ k, k < j0 → ∀ j, j < (rs.getD k Rl0).kl → ¬ Hit (rs.getD k Rl0).ks kind j) :
    Calls Try.prog 3 #[.slice a0 n0 c0, .slice a1 n1 c1, .int .i64 sa, .string kind] w fun e w' => e = .returned (.bool true) ∧ Below w.heap.size w w' := by
  have HNO : Hid (∀ k, k < j0 → ∀ j, j < (rs.getD k Rl0).kl → ¬ Hit (rs.getD k Rl0).ks kind j) := hno
  have HM0 : Hid (m0 < (rs.getD j0 Rl0).kl) := hm0
  have HHIT : Hid (Hit (rs.getD j0 Rl0).ks kind m0) := hhit
  have HR : Hid (Rules w a1 n1 rs) := hR
  have hkd2 := hkd
  unfold maxLen at hkd2
  clear hno hm0 hhit
  obtain ⟨ra, rl, rc, rks, rdy, rda, HE0⟩ : ∃ (ka : Option Addr) (kl kc : Nat) (ks : List ByteArray) (dy : Int) (da : ByteArray), Hid (rs.getD j0 Rl0 = ⟨ka, kl, kc, ks, dy, da⟩) := ⟨_, _, _, _, _, _, (show rs.getD j0 Rl0 = ⟨_, _, _, _, _, _⟩ from rfl)⟩
  go_enter Try.func3, Try.ntmps3
  go_wp2_with (first
    | (go_at_call 6; refine (bytes6 _ _ _ _ _ _ _ _ _ _ _ hB hR hn0 hn1 hkd).mono ?_; rintro e w1 ⟨b, rfl, hSm, hw⟩; subst hw)
    | (go_at_call 9; refine (add9 _ _ _ (by omega) (by omega) (by omega) (by omega)).mono ?_; rintro e w1 ⟨x1, rfl, hx0, hx1, hw⟩; subst hw; have hS2 : Small n0 n1 rs := hSm (of_not (by assumption)); have hn1' : n1 ≤ 1048576 := hS2.2.1)
    | (go_at_call 8; refine (strings8 _ _ _ _ _ _ hB hx0 hx1 hS2.1).mono ?_; rintro e w1 ⟨x2, rfl, hx2, hx3, hw⟩; subst hw)
    | (go_at_call 7; refine (rules7 _ _ _ _ _ _ hR hx2 hx3 hS2.2.1 hS2.2.2).mono ?_; rintro e w1 ⟨x3, rfl, hx4, hx5, hw⟩; subst hw)
    | (go_at_call 10; refine (build10 _ _ _ _ _ _ _ _ _ _ hB hR hS2 hnil0 hnil1).mono ?_; rintro e w1 ⟨P, a', c', rfl, hBt, hb1⟩)
    | (go_at_call 11; refine (report_yes _ _ _ _ _ _ _ hBt hS2.2.1 j0 m0 hj0 HM0.out HHIT.out HNO.out hS2.2.2).mono ?_; rintro e w2 ⟨qa, qc, rfl, hQ, hq1, hq2, hb2⟩; rw [HE0.out] at hQ hq1 hq2; rw [HE0.out]))
  all_goals first
    | (go_ret; exact ⟨rfl, Below.refl _ _⟩)
    | skip
  have hb12 := hb1.trans (hb2.mono hb1.size)
  obtain ⟨wg, hwg⟩ : ∃ wg : World, wg = w2.alloc (.cells #[.slice qa rl qc, .int .i64 rdy, .string rda] 33) := ⟨_, rfl⟩
  obtain ⟨G, hG⟩ : ∃ G : Nat, G = w2.heap.size := ⟨_, rfl⟩
  have hb23 : Below w2.heap.size w2 wg := by rw [hwg]; exact (Below.refl _ _).alloc (Nat.le_refl _) _
  have hgg : wg.heap[G]? = some (.cells #[.slice qa rl qc, .int .i64 rdy, .string rda] 33 (0, 0)) := by rw [hwg, hG]; exact heap_alloc_new w2 _
  rw [← hwg, ← hG]
  have HB3 : Hid (Below w.heap.size w wg) := hb12.trans (hb23.mono hb12.size)
  have HQ : Hid (Strs wg qa rl rks) := hQ.later hb23
  have HNQ : Hid ((ra = none → qa = none) ∧ (qa = none → ra = none)) := ⟨hq1, hq2⟩
  have Y0 : Hid (wg.cell? ⟨G, 0, none⟩ = some (.slice qa rl qc)) := cell_of_row wg G 0 _ 33 (0, 0) hgg
  have Y1 : Hid (wg.cell? ⟨G, 1, none⟩ = some (.int .i64 rdy)) := cell_of_row wg G 1 _ 33 (0, 0) hgg
  have Y2 : Hid (wg.cell? ⟨G, 2, none⟩ = some (.string rda)) := cell_of_row wg G 2 _ 33 (0, 0) hgg
  have HS2 : Hid (Small n0 n1 rs) := hS2
  clear hB hR hn0 hn1 hkd hnil0 hnil1 hSm hBt hb1 hb2 hb12 hS2 hQ hq1 hq2 hb23 hgg hwg hG
  have HRG : Hid (Rules wg a1 n1 rs) := HR.out.later HB3.out
  rcases HRG.out.form with h0 | ⟨h0, b1, o1, rfl, HC⟩
  · exfalso; omega
  · have HG : Hid (∀ j, j < n1 → Good wg (rs.getD j Rl0)) := HRG.out.good
    clear HRG HR
    go_loop [12, 13] (fun u i => ∃ (k : Nat) (z : Int), u = .int .i64 z ∧ k ≤ n1 ∧ i = .int .i64 ((k : Int) - 1) ∧ Hid (k ≤ j0 → z = j0)) (fun _ i => (intOf i + 1).toNat)
    case atStart => exact ⟨n1, -1, rfl, Nat.le_refl _, rfl, fun h => by omega⟩
    case round =>
      obtain ⟨k, z, rfl, hk, rfl, HZ⟩ := hrel
      by_cases hlt : 0 < k
      · obtain ⟨m, rfl⟩ : ∃ m, k = m + 1 := ⟨k - 1, by omega⟩
        obtain ⟨ka, kl, kc, ks, dy, da, HE, d0, d1, d2, hSt, hkl1, hda1, hdy0, hdy1, hkn⟩ := rule_at HC.out HG.out m (by omega)
        have hkl : kl ≤ 1048576 := by have := HS2.out.2.2 m (by omega); rw [HE.out] at this; exact this
        clear d1 d2 hkn
        by_cases hx : ∃ j, j < kl ∧ Hit ks kind j
        · have hmj : j0 ≤ m := by
            obtain ⟨j, hj, hh⟩ := hx
            apply Nat.le_of_not_lt
            intro hc
            have := HNO.out m hc j
            rw [HE.out] at this
            exact this hj hh
          obtain ⟨j, hj, hh⟩ := hx
          have HH : Hid (Hit ks kind j) := hh
          clear hh
          go_wp2_with (go_at_call 12; refine (lists12_yes _ _ _ _ _ _ hSt hkl j hj HH.out).mono ?_; rintro e w4 ⟨rfl, hw⟩; subst hw)
          go_round
          case rel => exact ⟨m, m, by go_num, by omega, by go_num, fun h => by omega⟩
          case measure => simp [intOf]
        · have HN2 : Hid (∀ j, j < kl → ¬ Hit ks kind j) := fun j hj hh => hx ⟨j, hj, hh⟩
          have hmj : m ≠ j0 := by
            intro he
            subst he
            have h1 := HM0.out
            have h2 := HHIT.out
            rw [HE.out] at h1 h2
            exact HN2.out m0 h1 h2
          clear hx
          go_wp2_with (go_at_call 12; refine (lists12_no _ _ _ _ _ _ hSt hkl HN2.out).mono ?_; rintro e w4 ⟨rfl, hw⟩; subst hw)
          go_round
          case rel => exact ⟨m, z, rfl, by omega, by go_num, fun h => HZ.out (by omega)⟩
          case measure => simp [intOf]
      · obtain rfl : z = j0 := HZ.out (by omega)
        obtain rfl : k = 0 := by omega
        obtain ⟨ka, kl, kc, ks, dy, da, HE, d0, d1, d2, hSt, hkl1, hda1, hdy0, hdy1, hkn⟩ := rule_at HC.out HG.out j0 hj0
        have hkl : kl ≤ 1048576 := by have := HS2.out.2.2 j0 hj0; rw [HE.out] at this; exact this
        have he := HE.out
        rw [HE0.out] at he
        cases he
        have hQd : Strs wg.drew qa rl rks := HQ.out.later (Below.refl _ _).drew
        have hSd : Strs wg.drew ra rl rks := hSt.later (Below.refl _ _).drew
        have y0 := Y0.out
        have y1 := Y1.out
        have y2 := Y2.out
        clear hkn hSt
        go_wp2
        go_region_held3 (fun w' => w'.cell? ⟨G, 0, none⟩ = some (.slice qa rl qc) ∧ w'.cell? ⟨G, 1, none⟩ = some (.int .i64 rdy) ∧ w'.cell? ⟨G, 2, none⟩ = some (.string rda) ∧ w'.cell? ⟨b1, o1 + j0 * 3, none⟩ = some (.slice ra rl rc) ∧ w'.cell? ⟨b1, o1 + j0 * 3 + 1, none⟩ = some (.int .i64 rdy) ∧ w'.cell? ⟨b1, o1 + j0 * 3 + 2, none⟩ = some (.string rda)) (go_keep) ((go_at_call 14; refine (matches14 ra qa rl rc qc rks rdy rda wg.drew hSd hQd HNQ.out.1 HNQ.out.2 hkl).mono ?_; rintro e w4 ⟨rfl, hb4⟩; have v0 := (hb4.cell (World.block_lt_of_cell? wg _ y0)).trans y0; have v1 := (hb4.cell (World.block_lt_of_cell? wg _ y1)).trans y1; have v2 := (hb4.cell (World.block_lt_of_cell? wg _ y2)).trans y2; have v3 := (hb4.cell (World.block_lt_of_cell? wg _ d0)).trans d0; have v4 := (hb4.cell (World.block_lt_of_cell? wg _ d1)).trans d1; have v5 := (hb4.cell (World.block_lt_of_cell? wg _ d2)).trans d2))
        all_goals go_wp2
        go_ret
        exact ⟨rfl, HB3.out.drew.trans (hb4.mono (by exact HB3.out.size))⟩

/-- The least number of a kind. -/
theorem least (p : Nat → Prop) : ∀ n, (∃ k, k < n ∧ p k) → ∃ j, p j ∧ ∀ k, k < j → ¬ p k := by
  intro n
  induction n with
  | zero => intro h; obtain ⟨k, hk, _⟩ := h; omega
  | succ n ih =>
    intro h
    by_cases hx : ∃ k, k < n ∧ p k
    · exact ih hx
    · obtain ⟨k, hk, hp⟩ := h
      exact ⟨k, hp, fun m hm hq => hx ⟨m, by omega, hq⟩⟩

/-- The law, at every input. -/
theorem law_all (a0 a1 : Option Addr) (n0 c0 n1 c1 : Nat) (ss : List ByteArray) (rs : List Rl) (sa : Int) (kind : ByteArray) (w : World) (hB : Strs w a0 n0 ss) (hR : Rules w a1 n1 rs) (hn0 : n0 ≤ maxLen) (hn1 : n1 ≤ maxLen) (hkd : kind.size ≤ maxLen) (hnil0 : a0 = none → n0 = 0 ∧ c0 = 0) (hnil1 : a1 = none → n1 = 0 ∧ c1 = 0) :
    Calls Try.prog 3 #[.slice a0 n0 c0, .slice a1 n1 c1, .int .i64 sa, .string kind] w fun e w' => e = .returned (.bool true) ∧ Below w.heap.size w w' := by
  by_cases hx : ∃ k, k < n1 ∧ ∃ j, j < (rs.getD k Rl0).kl ∧ Hit (rs.getD k Rl0).ks kind j
  · obtain ⟨j0, ⟨hj0, m0, hm0, hh⟩, hmin⟩ := least (fun k => k < n1 ∧ ∃ j, j < (rs.getD k Rl0).kl ∧ Hit (rs.getD k Rl0).ks kind j) n1 (by obtain ⟨k, hk⟩ := hx; exact ⟨k, hk.1, hk⟩)
    exact law_some a0 a1 n0 c0 n1 c1 ss rs sa kind w hB hR hn0 hn1 hkd hnil0 hnil1 j0 m0 hj0 hm0 hh (fun k hk j hj hh' => hmin k hk ⟨by omega, j, hj, hh'⟩)
  · exact law_none a0 a1 n0 c0 n1 c1 ss rs sa kind w hB hR hn0 hn1 hkd hnil0 hnil1 (fun k hk j hj hh => hx ⟨k, hk, j, hj, hh⟩)
end Go.Proofs.Qxb6601836a
