import Derived.Test.Qxb6601462aFlowD
namespace Go.Proofs.Qxb6601462a.Flow
open Go.RowKit
set_option linter.unusedVariables false
set_option linter.unusedSimpArgs false

theorem read8_empty (ao : Option Addr) (m c : Nat) (hm : m = 0) (q ind : Int) (w : World) (hi0 : -9223372036854775808 ≤ ind) (hi1 : ind ≤ 65536) :
    Calls Try.prog 8 #[.slice ao m c, .int .u8 q, .int .i64 ind] w fun e w' => e = .returned (.tuple #[.slice (some ⟨w.heap.size, 0, none⟩) 0 m, .bool true]) ∧ Below w.heap.size w w' := by
  subst hm
  exact read8_nil ao c q ind w hi0 hi1

set_option maxRecDepth 100000 in
set_option maxHeartbeats 2000000 in
theorem law_b (len0 cap0 : Nat) (es : List Int) (s : ByteArray) (q ind : Int) (w : World) (bb off : Nat) (hE : Els w (some ⟨bb, off, none⟩) len0 cap0 es) (hl : (len0 : Int) + s.size ≤ 1048576)
    (hi0 : -9223372036854775808 ≤ ind) (hi1 : ind ≤ 65536) (hm : ind ≤ 0 ∨ (0 < ind ∧ wrap64 (↑s.size * ind) ≤ 67108864)) (hform : 0 < len0) (hs : s.size ≤ 0) :
    Calls Try.prog 3 #[.slice (some ⟨bb, off, none⟩) len0 cap0, .string s, .int .u8 q, .int .i64 ind] w fun e w' => e = .returned (.bool true) ∧ Below w.heap.size w w' := by
  have HR : Hid (Wr q ind.toNat false s es es 0) := by
    show Wr _ _ _ _ _ _ _; unfold Wr
    rw [List.drop_eq_nil_of_le (by rw [bytes_len]; omega)]
    simp [wr]
  obtain ⟨n, hn⟩ : ∃ n, n = len0 := ⟨_, rfl⟩
  have HN : Hid (es.length = n) := by show _ = _; rw [hE.hlen, hn]
  have hn1 : n ≤ len0 := by omega
  have hn2 : len0 ≤ n := by omega
  clear hn
  rcases hm with hm | ⟨hm, hm2⟩
  all_goals
    go_enter Try.func3, Try.ntmps3
    go_wp2_with (first
      | (go_at_call 5; refine (z5_yes _ _ _ _ _ _ _ hl).mono ?_; rintro e w0 ⟨rfl, hw⟩; subst hw)
      | (go_at_call 7; refine (copy7 _ _ _ es w hE (by omega)).mono ?_; rintro e w1 ⟨v1, rfl, hown1, hb1⟩)
      | (go_at_call 6; refine (flow6_some v1 _ es hE.hlen s q ind w1 w.heap.size hb1.size hown1 hi0 hi1 (by omega) es HR.out n HN.out (by omega) (by omega)).mono ?_; rintro e w2 ⟨g, cap, rfl, hBg, hcap, hcapm, hown2, hb2⟩))
    have hbw := hb1.trans hb2
    have HO : Hid (w2.ownsRow w.heap.size 5 1 (.slice (some ⟨g, 0, none⟩) n cap) n (es.map (Value.int .u8))) := hown2
    clear hown2 hown1
    go_loopw [10] (fun i wr => ∃ k : Nat, k ≤ len0 ∧ i = .int .i64 k ∧ Same w2 wr ∧ Below w.heap.size w wr) (fun i _ => len0 - (intOf i).toNat)
    case atStart => exact ⟨0, Nat.zero_le _, rfl, rfl, hbw⟩
    case round =>
      obtain ⟨k, hk, rfl, hSame, hbr⟩ := hrel
      by_cases hlt : k < len0
      · have c1 : wr.cell? ⟨g, k, none⟩ = some (.int .u8 (es.getD k 0)) := by rw [hSame.cell, own_cells HO.out k (by omega)]
        have c2 : wr.cell? ⟨bb, off + k, none⟩ = some (.int .u8 (es.getD k 0)) := els_cell (hE.later hbr) k hlt
        generalize es.getD k 0 = cc at c1 c2
        go_wp2
        go_quiet (fail)
        go_wp2
        go_roundw
        case rel => exact ⟨k + 1, by omega, by go_num, hSame.drewN _, below_drewN hbr _⟩
        case measure => simp [intOf]; omega
      · by_cases hcc : cap = len0
        · have HCC : Hid (cap = len0) := hcc
          go_wp2_with (go_at_call 8; refine (read8_empty _ _ _ (by omega) q ind wr hi0 hi1).mono ?_; rintro e w4 ⟨rfl, hb4⟩)
          have hb5 := hbr.trans (hb4.mono hbr.size)
          refine wp_loop_rounds 1 ?_
          rw [rounds_succ]
          go_wp2
          go_ret
          exact ⟨rfl, hb5⟩
        · go_wp2_with (go_at_call 8; refine (read8_empty _ _ _ (by omega) q ind wr hi0 hi1).mono ?_; rintro e w4 ⟨rfl, hb4⟩)
          have hb5 := hbr.trans (hb4.mono hbr.size)
          refine wp_loop_rounds 1 ?_
          rw [rounds_succ]
          go_wp2
          go_ret
          exact ⟨rfl, hb5⟩

set_option maxRecDepth 100000 in
set_option maxHeartbeats 2000000 in
theorem law_0 (a0 : Option Addr) (cap0 : Nat) (es : List Int) (s : ByteArray) (q ind : Int) (w : World) (hE : Els w a0 0 cap0 es)
    (hi0 : -9223372036854775808 ≤ ind) (hi1 : ind ≤ 65536) (hm : ind ≤ 0 ∨ (0 < ind ∧ wrap64 (↑s.size * ind) ≤ 67108864)) (hs : s.size ≤ 0) :
    Calls Try.prog 3 #[.slice a0 0 cap0, .string s, .int .u8 q, .int .i64 ind] w fun e w' => e = .returned (.bool true) ∧ Below w.heap.size w w' := by
  have he : es = [] := List.eq_nil_of_length_eq_zero hE.hlen
  subst he
  rcases hm with hm | ⟨hm, hm2⟩
  all_goals
    go_enter Try.func3, Try.ntmps3
    go_wp2_with (first
      | (go_at_call 5; refine (z5_yes _ _ _ _ _ _ _ (by simp; omega)).mono ?_; rintro e w0 ⟨rfl, hw⟩; subst hw)
      | (go_at_call 7; refine (copy7 _ _ _ [] w hE (by omega)).mono ?_; rintro e w1 ⟨v1, rfl, hown1, hb1⟩))
    refine (flow6_none v1 s q ind w1 w.heap.size hb1.size hown1 hi0 hi1 (by omega)).mono ?_
    rintro e w2 ⟨ao, cap, rfl, hcapm, hao, hb2⟩
    have hbw := hb1.trans hb2
    cases ao with
    | none =>
      obtain rfl := hao rfl
      go_wp2
      refine wp_loop_rounds 1 ?_
      rw [rounds_succ]
      go_wp2_with (go_at_call 8; refine (read8_empty _ _ _ rfl q ind w2 hi0 hi1).mono ?_; rintro e w4 ⟨rfl, hb4⟩)
      have hb5 := hbw.trans (hb4.mono hbw.size)
      refine wp_loop_rounds 1 ?_
      rw [rounds_succ]
      go_wp2
      go_ret
      exact ⟨rfl, hb5⟩
    | some ad =>
      clear hao
      go_wp2
      refine wp_loop_rounds 1 ?_
      rw [rounds_succ]
      go_wp2_with (go_at_call 8; refine (read8_empty _ _ _ rfl q ind w2 hi0 hi1).mono ?_; rintro e w4 ⟨rfl, hb4⟩)
      all_goals
        have hb5 := hbw.trans (hb4.mono hbw.size)
        refine wp_loop_rounds 1 ?_
        rw [rounds_succ]
        go_wp2
        go_ret
        exact ⟨rfl, hb5⟩

theorem triv_size (a0 : Option Addr) (len0 cap0 : Nat) (s : ByteArray) (q ind : Int) (w : World) (hl : len0 ≤ maxLen) (hs : s.size ≤ maxLen) (h : ¬ (len0 : Int) + s.size ≤ 1048576) :
    Calls Try.prog 3 #[.slice a0 len0 cap0, .string s, .int .u8 q, .int .i64 ind] w fun e w' => e = .returned (.bool true) ∧ Below w.heap.size w w' := by
  go_enter Try.func3, Try.ntmps3
  go_wp2_with (go_at_call 5; refine (z5_no _ _ _ _ _ _ _ hl hs h).mono ?_; rintro e w0 ⟨rfl, hw⟩; subst hw)
  go_ret
  exact ⟨rfl, Below.refl _ _⟩

theorem triv_ind (a0 : Option Addr) (len0 cap0 : Nat) (s : ByteArray) (q ind : Int) (w : World) (h : (len0 : Int) + s.size ≤ 1048576) (h2 : 65536 < ind) :
    Calls Try.prog 3 #[.slice a0 len0 cap0, .string s, .int .u8 q, .int .i64 ind] w fun e w' => e = .returned (.bool true) ∧ Below w.heap.size w w' := by
  go_enter Try.func3, Try.ntmps3
  go_wp2_with (go_at_call 5; refine (z5_yes _ _ _ _ _ _ _ h).mono ?_; rintro e w0 ⟨rfl, hw⟩; subst hw)
  go_ret
  exact ⟨rfl, Below.refl _ _⟩

theorem triv_mul (a0 : Option Addr) (len0 cap0 : Nat) (s : ByteArray) (q ind : Int) (w : World) (h : (len0 : Int) + s.size ≤ 1048576) (h2 : ind ≤ 65536) (h3 : 0 < ind) (h4 : 67108864 < wrap64 (↑s.size * ind)) :
    Calls Try.prog 3 #[.slice a0 len0 cap0, .string s, .int .u8 q, .int .i64 ind] w fun e w' => e = .returned (.bool true) ∧ Below w.heap.size w w' := by
  go_enter Try.func3, Try.ntmps3
  go_wp2_with (go_at_call 5; refine (z5_yes _ _ _ _ _ _ _ h).mono ?_; rintro e w0 ⟨rfl, hw⟩; subst hw)
  go_ret
  exact ⟨rfl, Below.refl _ _⟩

theorem text_small (s : ByteArray) (q ind : Int) (hs : (s.size : Int) ≤ 1048576) (hi1 : ind ≤ 65536) (hm : ind ≤ 0 ∨ (0 < ind ∧ wrap64 (↑s.size * ind) ≤ 67108864)) : (wr q ind.toNat false (bytes s)).length ≤ 800000000 := by
  have h := (wr_len q ind.toNat (bytes s)).1
  rw [bytes_len, Nat.add_mul] at h
  have hp : ind.toNat * s.size ≤ 67108864 := by
    rcases hm with hm | ⟨hm, hm2⟩
    · have : ind.toNat = 0 := by omega
      rw [this]; omega
    · obtain ⟨m, rfl⟩ := Int.eq_ofNat_of_zero_le (show 0 ≤ ind by omega)
      have hb : (s.size : Int) * (m : Int) ≤ 1048576 * 65536 := by
        have h1 : s.size * m ≤ 1048576 * 65536 := Nat.mul_le_mul (by omega) (by omega)
        have h2 : ((s.size * m : Nat) : Int) ≤ ((1048576 * 65536 : Nat) : Int) := by exact Int.ofNat_le.2 h1
        rw [Int.natCast_mul] at h2
        exact h2
      have h0 : 0 ≤ (s.size : Int) * (m : Int) := by
        have : (0 : Int) ≤ ((s.size * m : Nat) : Int) := Int.natCast_nonneg _
        rwa [Int.natCast_mul] at this
      rw [IntWalk.wrap64_in _ ⟨by omega, by omega⟩] at hm2
      have h3 : ((s.size * m : Nat) : Int) ≤ 67108864 := by rw [Int.natCast_mul]; exact hm2
      rw [Int.toNat_natCast, Nat.mul_comm]
      omega
  omega

theorem law_all (a0 : Option Addr) (len0 cap0 : Nat) (z0 : List Int) (s : ByteArray) (q ind : Int) (w : World) (h0 : IsRow .u8 w a0 len0 cap0 z0) (hs : s.size ≤ maxLen) (hi0 : -9223372036854775808 ≤ ind) :
    Calls Try.prog 3 #[.slice a0 len0 cap0, .string s, .int .u8 q, .int .i64 ind] w fun e w' => e = .returned (.bool true) ∧ Below w.heap.size w w' := by
  have hE := h0.els
  by_cases hl : (len0 : Int) + s.size ≤ 1048576
  · by_cases hi1 : ind ≤ 65536
    · by_cases hm3 : 0 < ind ∧ 67108864 < wrap64 (↑s.size * ind)
      · exact triv_mul _ _ _ _ _ _ _ hl hi1 hm3.1 hm3.2
      · have hm : ind ≤ 0 ∨ (0 < ind ∧ wrap64 (↑s.size * ind) ≤ 67108864) := by omega
        have hform : len0 ≤ 0 ∨ (0 < len0 ∧ ∃ bb off, a0 = some ⟨bb, off, none⟩) := by
          by_cases hlen : 0 < len0
          · refine Or.inr ⟨hlen, ?_⟩
            rcases h0 with ⟨_, h, _, _⟩ | ⟨x, rfl, hl', hm', hz, hc, _⟩
            · omega
            · obtain ⟨bb, off, spot⟩ := x
              have hc0 := hc 0 (by omega)
              have hspot : spot = none := by simpa [Addr.add] using World.cell?_spot hc0
              subst hspot
              exact ⟨bb, off, rfl⟩
          · exact Or.inl (by omega)
        by_cases hsz : s.size ≤ 0
        · rcases hform with hform | ⟨hform, bb, off, rfl⟩
          · obtain rfl : len0 = 0 := by omega
            exact law_0 a0 cap0 _ s q ind w hE hi0 hi1 hm hsz
          · exact law_b len0 cap0 _ s q ind w bb off hE hl hi0 hi1 hm hform hsz
        · refine law_more a0 len0 cap0 _ s q ind w hE hl hi0 hi1 hm hform _ rfl _ rfl ?_ (text_small s q ind (by omega) hi1 hm)
          apply Classical.byContradiction
          intro h
          have h1 : wr q ind.toNat false (bytes s) = [] := List.eq_nil_of_length_eq_zero (by omega)
          have h2 := wr_nil _ _ _ h1
          have h3 := bytes_len s
          rw [h2] at h3
          simp at h3
          omega
    · exact triv_ind _ _ _ _ _ _ _ hl (by omega)
  · exact triv_size _ _ _ _ _ _ _ hE.fits hs hl

end Go.Proofs.Qxb6601462a.Flow
