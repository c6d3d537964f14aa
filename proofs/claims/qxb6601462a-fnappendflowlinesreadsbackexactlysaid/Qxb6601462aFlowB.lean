import Derived.Test.Qxb6601462aFlowA
namespace Go.Proofs.Qxb6601462a.Flow
open Go.RowKit
set_option linter.unusedVariables false
set_option linter.unusedSimpArgs false

/-- A string's bytes as numbers. -/
def bytes (s : ByteArray) : List Int := s.data.toList.map fun c => (c.toNat : Int)
theorem bytes_len (s : ByteArray) : (bytes s).length = s.size := by unfold bytes; rw [List.length_map]; rfl
theorem bytes_at (s : ByteArray) (k : Nat) (h : k < s.size) : (bytes s).getD k 0 = (s[k].toNat : Int) := by
  have : k < s.data.size := h
  simp [bytes, List.getD]
  rw [Array.getElem?_eq_getElem this]; rfl

/-- What the writer has written, and what is still to come. -/
def Wr (q : Int) (ind : Nat) (b : Bool) (s : ByteArray) (cur R : List Int) (k : Nat) : Prop := cur ++ wr q ind b ((bytes s).drop k) = R

theorem Wr.lf {q : Int} {ind : Nat} {s : ByteArray} {cur R : List Int} {k : Nat} (h : Wr q ind false s cur R k) (hk : k < s.size) (hc : (s[k].toNat : Int) = 10) : Wr q ind true s (cur ++ [10]) R k := by
  unfold Wr at *
  rw [wr_lf q ind _ k (by rw [bytes_len]; exact hk) (by rw [bytes_at s k hk]; exact hc)] at h
  simpa using h
theorem Wr.more {q : Int} {ind : Nat} {s : ByteArray} {cur R : List Int} {k : Nat} (h : Wr q ind true s cur R k) (hk : k < s.size) (hc : (s[k].toNat : Int) = 10) : Wr q ind true s (cur ++ [10]) R (k + 1) := by
  unfold Wr at *
  rw [wr_true_lf q ind _ k (by rw [bytes_len]; exact hk) (by rw [bytes_at s k hk]; exact hc)] at h
  simpa using h
theorem Wr.spaces {q : Int} {ind : Nat} {s : ByteArray} {cur R : List Int} {k : Nat} (h : Wr q ind true s cur R k) (hc : ∀ hk : k < s.size, (s[k].toNat : Int) ≠ 10) : Wr q ind false s (cur ++ sp ind) R k := by
  unfold Wr at *
  rw [wr_true_stop q ind _ k (fun hk => by rw [bytes_len] at hk; rw [bytes_at s k hk]; exact hc hk)] at h
  simpa using h
theorem Wr.quote {q : Int} {ind : Nat} {s : ByteArray} {cur R : List Int} {k : Nat} (h : Wr q ind false s cur R k) (hk : k < s.size) (hc : (s[k].toNat : Int) ≠ 10) (hq : q ≠ 0) (he : (s[k].toNat : Int) = q) : Wr q ind false s (cur ++ [q, q]) R (k + 1) := by
  unfold Wr at *
  rw [wr_quote q ind _ k (by rw [bytes_len]; exact hk) (by rw [bytes_at s k hk]; exact hc) hq (by rw [bytes_at s k hk]; exact he)] at h
  simpa using h
theorem Wr.plain {q : Int} {ind : Nat} {s : ByteArray} {cur R : List Int} {k : Nat} (h : Wr q ind false s cur R k) (hk : k < s.size) (hc : (s[k].toNat : Int) ≠ 10) (he : ¬ (q ≠ 0 ∧ (s[k].toNat : Int) = q)) : Wr q ind false s (cur ++ [(s[k].toNat : Int)]) R (k + 1) := by
  unfold Wr at *
  rw [wr_plain q ind _ k (by rw [bytes_len]; exact hk) (by rw [bytes_at s k hk]; exact hc) (by rw [bytes_at s k hk]; exact he), bytes_at s k hk] at h
  simpa using h
theorem Wr.len {q : Int} {ind : Nat} {b : Bool} {s : ByteArray} {cur R : List Int} {k : Nat} (h : Wr q ind b s cur R k) : cur.length ≤ R.length := by
  unfold Wr at h; rw [← h]; simp
theorem Wr.done {q : Int} {ind : Nat} {s : ByteArray} {cur R : List Int} {k : Nat} (h : Wr q ind false s cur R k) (hk : s.size ≤ k) : cur = R := by
  unfold Wr at h
  rw [List.drop_eq_nil_of_le (by rw [bytes_len]; exact hk)] at h
  simpa [wr] using h

theorem app_row {w : World} {B : Nat} {v : Value} {m : Nat} {cur news : List Int} (h : w.ownsRow B 5 1 v (cur.length + m) (cur.map (Value.int .u8) ++ news.map (Value.int .u8))) (hm : news.length = m) : w.ownsRow B 5 1 v (cur ++ news).length ((cur ++ news).map (Value.int .u8)) := by
  subst hm
  rw [List.length_append, List.map_append]; exact h

theorem sp_row {w : World} {B : Nat} {v : Value} {m : Nat} {cur : List Int} (h : w.ownsRow B 5 1 v (cur.length + m) (cur.map (Value.int .u8) ++ List.replicate m (Value.int .u8 32))) : w.ownsRow B 5 1 v (cur ++ sp m).length ((cur ++ sp m).map (Value.int .u8)) := by
  refine app_row (m := m) ?_ (by simp [sp])
  rw [sp, List.map_replicate]; exact h

set_option maxHeartbeats 1000000 in
theorem flow13 (v : Value) (bs : List Int) (s : ByteArray) (q ind : Int) (w : World) (B : Nat) (hB : B ≤ w.heap.size) (hown : w.ownsRow B 5 1 v bs.length (bs.map (Value.int .u8)))
    (hi0 : -9223372036854775808 ≤ ind) (hi1 : ind ≤ 65536) (hs : s.size ≤ 1048576) (R : List Int) (hR : Wr q ind.toNat false s bs R 0) (hRl : R.length ≤ 900000000) :
    Calls Try.prog 13 #[v, .string s, .int .u8 q, .int .i64 ind] w fun e w' => ∃ v', e = .returned v' ∧ w'.ownsRow B 5 1 v' R.length (R.map (Value.int .u8)) ∧ Below B w w' := by
  obtain ⟨i0, hi, hz0, hz1, hz2⟩ := info_parts info5
  go_enter Try.func13, Try.ntmps13
  go_wp2
  go_loopw [0, 9] (fun u i wr => ∃ (k : Nat) (cur : List Int), k ≤ s.size ∧ i = .int .i64 k ∧ wr.ownsRow B 5 1 u cur.length (cur.map (Value.int .u8)) ∧ Wr q ind.toNat false s cur R k ∧ Below B w wr)
    (fun _ i _ => s.size - (intOf i).toNat)
  case atStart => exact ⟨0, bs, Nat.zero_le _, rfl, hown, hR, Below.refl _ _⟩
  case round =>
    obtain ⟨k, cur, hk, rfl, hownr, hW, hbr⟩ := hrel
    have hsz := hbr.size
    have hcl := hW.len
    by_cases hlt : k < s.size
    · by_cases hc : (s[k].toNat : Int) = 10
      · have hcb : ((s[k].toNat : Int) == 10) = true := by simpa using hc
        have HC : Hid ((s[k].toNat : Int) = 10) := hc
        clear hc
        go_wp2_with (at_builtin; refine wpList_append_own _ rfl (.tmp 27) (.tmp 28) 22 rfl B 5 i0 (.int .u8 0) 1 1 Try.underlying22 hi hz0 hz1 hz2 rfl (by decide) u0 _ _ rfl (hownr.alloc _) ⟨_, 0, none⟩ 1 1 [.int .u8 10] rfl rfl (World.news_of_block (heap_alloc_new _ _)) (ints_oneCell .u8 [10]) (by unfold maxLen; omega) (by omega) (by simp; omega) ?_; intro v1 w1 hown1 hgr1 _)
        have hrow1 := app_row (news := [10]) hown1 rfl
        have hW1 := hW.lf hlt HC.out
        have hb1 := app_kept hbr (by omega) hownr hgr1
        clear hown1 hgr1 hownr hW hbr
        generalize hcur : cur ++ [10] = cur1 at hrow1 hW1
        clear hcur
        go_loopw [0, 9] (fun u i wr => ∃ (j : Nat) (cur : List Int), k ≤ j ∧ j ≤ s.size ∧ i = .int .i64 j ∧ wr.ownsRow B 5 1 u cur.length (cur.map (Value.int .u8)) ∧ Wr q ind.toNat true s cur R j ∧ Below B w wr)
          (fun _ i _ => s.size - (intOf i).toNat)
        case atStart => exact ⟨k, cur1, Nat.le_refl _, by omega, rfl, hrow1, hW1, hb1⟩
        case round =>
          clear hrow1 hW1 hb1 hcb hsz hcl
          obtain ⟨j, cur2, hkj, hj, rfl, hownr, hW, hbr⟩ := hrel
          have hsz := hbr.size
          have hcl := hW.len
          by_cases hjl : j < s.size
          · by_cases hjc : (s[j].toNat : Int) = 10
            · have hjb : ((s[j].toNat : Int) == 10) = true := by simpa using hjc
              have HJ : Hid ((s[j].toNat : Int) = 10) := hjc
              clear hjc
              go_wp2_with (at_builtin; refine wpList_append_own _ rfl (.tmp 42) (.tmp 43) 22 rfl B 5 i0 (.int .u8 0) 1 1 Try.underlying22 hi hz0 hz1 hz2 rfl (by decide) _ _ _ rfl (hownr.alloc _) ⟨_, 0, none⟩ 1 1 [.int .u8 10] rfl rfl (World.news_of_block (heap_alloc_new _ _)) (ints_oneCell .u8 [10]) (by unfold maxLen; omega) (by omega) (by simp; omega) ?_; intro v2 w2 hown2 hgr2 _)
              go_roundw
              case rel => exact ⟨j + 1, cur2 ++ [10], by omega, by omega, by go_num, app_row (news := [10]) hown2 rfl, hW.more hjl HJ.out, app_kept hbr (by omega) hownr hgr2⟩
              case measure => simp [intOf]; omega
            · have hjb : ((s[j].toNat : Int) == 10) = false := by simpa using hjc
              have hkj' : k < j := by
                apply Classical.byContradiction
                intro hh
                obtain rfl : k = j := by omega
                exact hjc HC.out
              have hW2 := hW.spaces (fun _ => hjc)
              clear hjc
              go_wp2_with (go_at_call 15; refine (spaces15 _ _ _ ind _ B (by omega) hownr hi0 hi1 (by omega)).mono ?_; rintro e w3 ⟨v3, rfl, hown3, hb3⟩)
              go_roundw
              case rel => exact ⟨j, cur2 ++ sp ind.toNat, by omega, by go_num, sp_row hown3, hW2, hbr.trans hb3⟩
              case measure => simp [intOf]; omega
          · have hkj' : k < j := by omega
            have hW2 := hW.spaces (fun h => absurd h hjl)
            go_wp2_with (go_at_call 15; refine (spaces15 _ _ _ ind _ B (by omega) hownr hi0 hi1 (by omega)).mono ?_; rintro e w3 ⟨v3, rfl, hown3, hb3⟩)
            go_roundw
            case rel => exact ⟨j, cur2 ++ sp ind.toNat, by omega, by go_num, sp_row hown3, hW2, hbr.trans hb3⟩
            case measure => simp [intOf]; omega
      · have hcb : ((s[k].toNat : Int) == 10) = false := by simpa using hc
        by_cases hq : q ≠ 0 ∧ (s[k].toNat : Int) = q
        · have HQ : Hid (q ≠ 0 ∧ (s[k].toNat : Int) = q) := hq
          have HC : Hid ((s[k].toNat : Int) ≠ 10) := hc
          have hq1 : (q == 0) = false := by simpa using hq.1
          have hq3 : (q != 0) = true := by simpa using hq.1
          have hq2 : ((s[k].toNat : Int) == q) = true := by simpa using hq.2
          clear hq hc
          go_wp2_with (at_builtin; refine wpList_append_own _ rfl (.tmp 58) (.tmp 61) 22 rfl B 5 i0 (.int .u8 0) 1 1 Try.underlying22 hi hz0 hz1 hz2 rfl (by decide) u0 _ _ rfl (hownr.alloc _) ⟨_, 0, none⟩ 2 2 [.int .u8 q, .int .u8 q] rfl rfl (World.news_of_block (heap_alloc_new _ _)) (ints_oneCell .u8 [q, q]) (by unfold maxLen; omega) (by omega) (by simp; omega) ?_; intro v1 w1 hown1 hgr1 _)
          go_roundw
          case rel => exact ⟨k + 1, cur ++ [q, q], by omega, by go_num, app_row (news := [q, q]) hown1 rfl, hW.quote hlt HC.out HQ.out.1 HQ.out.2, app_kept hbr (by omega) hownr hgr1⟩
          case measure => simp [intOf]; omega
        · have HQ : Hid (¬ (q ≠ 0 ∧ (s[k].toNat : Int) = q)) := hq
          have HC : Hid ((s[k].toNat : Int) ≠ 10) := hc
          by_cases hq0 : q = 0
          · have hq3 : (q != 0) = false := by simpa using hq0
            clear hq hc hq0
            go_wp2_with (at_builtin; refine wpList_append_own _ rfl (.tmp 20) (.tmp 22) 22 rfl B 5 i0 (.int .u8 0) 1 1 Try.underlying22 hi hz0 hz1 hz2 rfl (by decide) u0 _ _ rfl (hownr.alloc _) ⟨_, 0, none⟩ 1 1 [.int .u8 (s[k].toNat : Int)] rfl rfl (World.news_of_block (heap_alloc_new _ _)) (ints_oneCell .u8 [(s[k].toNat : Int)]) (by unfold maxLen; omega) (by omega) (by simp; omega) ?_; intro v1 w1 hown1 hgr1 _)
            go_roundw
            case rel => exact ⟨k + 1, cur ++ [(s[k].toNat : Int)], by omega, by go_num, app_row (news := [(s[k].toNat : Int)]) hown1 rfl, hW.plain hlt HC.out HQ.out, app_kept hbr (by omega) hownr hgr1⟩
            case measure => simp [intOf]; omega
          · have hq3 : (q != 0) = true := by simpa using hq0
            have hq2 : ((s[k].toNat : Int) == q) = false := by simp; intro h; exact hq ⟨hq0, h⟩
            clear hq hc hq0
            go_wp2_with (at_builtin; refine wpList_append_own _ rfl (.tmp 20) (.tmp 22) 22 rfl B 5 i0 (.int .u8 0) 1 1 Try.underlying22 hi hz0 hz1 hz2 rfl (by decide) u0 _ _ rfl (hownr.alloc _) ⟨_, 0, none⟩ 1 1 [.int .u8 (s[k].toNat : Int)] rfl rfl (World.news_of_block (heap_alloc_new _ _)) (ints_oneCell .u8 [(s[k].toNat : Int)]) (by unfold maxLen; omega) (by omega) (by simp; omega) ?_; intro v1 w1 hown1 hgr1 _)
            go_roundw
            case rel => exact ⟨k + 1, cur ++ [(s[k].toNat : Int)], by omega, by go_num, app_row (news := [(s[k].toNat : Int)]) hown1 rfl, hW.plain hlt HC.out HQ.out, app_kept hbr (by omega) hownr hgr1⟩
            case measure => simp [intOf]; omega
    · go_wp2
      go_ret
      have := hW.done (by omega)
      subst this
      exact ⟨_, rfl, hownr, hbr⟩

set_option maxHeartbeats 400000 in
theorem flow6 (v : Value) (bs : List Int) (s : ByteArray) (q ind : Int) (w : World) (B : Nat) (hB : B ≤ w.heap.size) (hown : w.ownsRow B 5 1 v bs.length (bs.map (Value.int .u8)))
    (hi0 : -9223372036854775808 ≤ ind) (hi1 : ind ≤ 65536) (hs : s.size ≤ 1048576) (R : List Int) (hR : Wr q ind.toNat false s bs R 0) (hRl : R.length ≤ 900000000) :
    Calls Try.prog 6 #[v, .string s, .int .u8 q, .int .i64 ind] w fun e w' => ∃ v', e = .returned v' ∧ w'.ownsRow B 5 1 v' R.length (R.map (Value.int .u8)) ∧ Below B w w' := by
  go_enter Try.func6, Try.ntmps6
  go_wp2_with (go_at_call 13; refine (flow13 v bs s q ind w B hB hown hi0 hi1 hs R hR hRl).mono ?_; rintro e w1 ⟨v1, rfl, hown1, hb1⟩)
  go_ret
  exact ⟨_, rfl, hown1, hb1⟩
end Go.Proofs.Qxb6601462a.Flow
