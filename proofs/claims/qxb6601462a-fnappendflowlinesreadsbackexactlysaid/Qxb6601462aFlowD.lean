import Derived.Test.Qxb6601462aFlowC
import Derived.Deep.QuietTactic
import Derived.BigQuiet
import Derived.WalkSmall
namespace Go.Proofs.Qxb6601462a.Flow
open Go.RowKit
set_option linter.unusedVariables false
set_option linter.unusedSimpArgs false

/-- The reader at an empty text, wherever it lies. -/
theorem read8_nil (ao : Option Addr) (c : Nat) (q ind : Int) (w : World) (hi0 : -9223372036854775808 ≤ ind) (hi1 : ind ≤ 65536) :
    Calls Try.prog 8 #[.slice ao 0 c, .int .u8 q, .int .i64 ind] w fun e w' => e = .returned (.tuple #[.slice (some ⟨w.heap.size, 0, none⟩) 0 0, .bool true]) ∧ Below w.heap.size w w' := by
  obtain ⟨i0, hi, hz0, hz1, hz2⟩ := info_parts info5
  have hneg : ind < 0 ∨ 0 ≤ ind := by omega
  rcases hneg with hneg | hneg
  all_goals
    go_enter Try.func8, Try.ntmps8
    go_wp2_with (at_make; refine wpList_make_own _ rfl (.const (.int .i64 0)) (.tmp 17) 22 rfl w.heap.size 5 i0 (.int .u8 0) 1 Try.underlying22 hi hz0 hz1 .i64 .i64 _ 0 rfl rfl rfl (by rw [hz2]; omega) (by unfold maxLen; omega) (Nat.le_refl _) ?_; intro w1 hown hgr; have hb := below_made hgr; clear hgr)
    refine wp_loop_rounds 1 ?_
    rw [rounds_succ]
    go_wp2
    go_ret2
    exact ⟨rfl, hb⟩

theorem flow6_some (v : Value) (len : Nat) (bs : List Int) (hbl : bs.length = len) (s : ByteArray) (q ind : Int) (w : World) (B : Nat) (hB : B ≤ w.heap.size) (hown : w.ownsRow B 5 1 v len (bs.map (Value.int .u8)))
    (hi0 : -9223372036854775808 ≤ ind) (hi1 : ind ≤ 65536) (hs : s.size ≤ 1048576) (R : List Int) (hR : Wr q ind.toNat false s bs R 0) (n : Nat) (hn : R.length = n) (hRl : n ≤ 900000000) (h0 : 0 < n) :
    Calls Try.prog 6 #[v, .string s, .int .u8 q, .int .i64 ind] w fun e w' => ∃ g cap, e = .returned (.slice (some ⟨g, 0, none⟩) n cap) ∧ B ≤ g ∧ n ≤ cap ∧ cap ≤ maxLen ∧ w'.ownsRow B 5 1 (.slice (some ⟨g, 0, none⟩) n cap) n (R.map (Value.int .u8)) ∧ Below B w w' := by
  subst hbl hn
  refine (flow6 v bs s q ind w B hB hown hi0 hi1 hs R hR hRl).mono ?_
  rintro e w' ⟨v', rfl, hown', hb⟩
  rcases hown'.2 with ⟨_, h'⟩ | ⟨g, cap, cur, rfl, hg, _, h1, h2, _, _⟩
  · omega
  · exact ⟨g, cap, rfl, hg, h1, h2, hown', hb⟩

theorem flow6_none (v : Value) (s : ByteArray) (q ind : Int) (w : World) (B : Nat) (hB : B ≤ w.heap.size) (hown : w.ownsRow B 5 1 v 0 [])
    (hi0 : -9223372036854775808 ≤ ind) (hi1 : ind ≤ 65536) (hs : s.size = 0) :
    Calls Try.prog 6 #[v, .string s, .int .u8 q, .int .i64 ind] w fun e w' => ∃ ao cap, e = .returned (.slice ao 0 cap) ∧ cap ≤ maxLen ∧ (ao = none → cap = 0) ∧ Below B w w' := by
  refine (flow6 v [] s q ind w B hB hown hi0 hi1 (by omega) [] ?_ (by simp)).mono ?_
  · unfold Wr
    rw [List.drop_eq_nil_of_le (by rw [bytes_len]; omega)]
    simp [wr]
  · rintro e w' ⟨v', rfl, hown', hb⟩
    rcases hown'.2 with ⟨rfl, _⟩ | ⟨g, cap, cur, rfl, hg, _, h1, h2, _, _⟩
    · exact ⟨none, 0, rfl, Nat.zero_le _, fun _ => rfl, hb⟩
    · exact ⟨_, cap, rfl, h2, (fun h => by cases h), hb⟩

theorem own_cells {w : World} {B g n cap : Nat} {zs : List Int} (h : w.ownsRow B 5 1 (.slice (some ⟨g, 0, none⟩) n cap) n (zs.map (Value.int .u8))) :
    ∀ j, j < n → w.cell? ⟨g, j, none⟩ = some (.int .u8 (zs.getD j 0)) := by
  intro j hj
  have hl : zs.length = n := by have := h.1; simpa using this
  have := h.cellAt j (by omega)
  rw [this]
  simp [List.getD, show j < zs.length by omega]

/-- A byte of b, where it came in and where it was copied to. -/
theorem els_cell {w : World} {bb off len0 cap0 : Nat} {es : List Int} (hE : Els w (some ⟨bb, off, none⟩) len0 cap0 es) (k : Nat) (hk : k < len0) : w.cell? ⟨bb, off + k, none⟩ = some (.int .u8 (es.getD k 0)) := by
  have hl := hE.hlen
  have := hE.cells _ rfl k (.int .u8 (es.getD k 0)) (by simp [List.getD, show k < es.length by omega])
  rwa [Addr.add_lit] at this

theorem getD_left (es T : List Int) (k : Nat) (h : k < es.length) : (es ++ T).getD k 0 = es.getD k 0 := by
  simp [List.getD, List.getElem?_append_left h]
theorem getD_right (es T : List Int) (len j : Nat) (h : es.length = len) : (es ++ T).getD (len + j) 0 = T.getD j 0 := by
  subst h
  simp [List.getD, List.getElem?_append_right]

theorem lies_of {w : World} {B g n cap len0 tn : Nat} {es T : List Int} (h : w.ownsRow B 5 1 (.slice (some ⟨g, 0, none⟩) n cap) n ((es ++ T).map (Value.int .u8))) (hn : n = len0 + tn) (he : es.length = len0) (ht : T.length = tn) (nq : Nat) : Lies (w.drewN nq) g len0 tn T := by
  refine ⟨ht, fun j hj => ?_⟩
  have := own_cells h (len0 + j) (by omega)
  rw [getD_right es T len0 j he] at this
  exact this

/-- The memory is the same. -/
def Same (w w' : World) : Prop := w'.heap = w.heap
theorem Same.cell {w w' : World} (h : Same w w') (a : Addr) : w'.cell? a = w.cell? a := by
  unfold Same at h
  exact World.cell?_of_block (by rw [h])
theorem Same.drewN {w w' : World} (h : Same w w') (n : Nat) : Same w (w'.drewN n) := h
theorem lies_same {w w' : World} {g off n : Nat} {t : List Int} (h : Lies w g off n t) (hs : Same w w') : Lies w' g off n t := ⟨h.1, fun j hj => (hs.cell _).trans (h.2 j hj)⟩

theorem read8_at (g off n c m : Nat) (t v : List Int) (hm : v.length = m) (q ind : Int) (w : World) (hL : Lies w g off n t) (ht : t = wr q ind.toNat false v) (hn : n ≤ 1000000000) (hi0 : -9223372036854775808 ≤ ind) (hi1 : ind ≤ 65536) :
    Calls Try.prog 8 #[.slice (some ⟨g, off, none⟩) n c, .int .u8 q, .int .i64 ind] w fun e w' => e = .returned (.tuple #[.slice (some ⟨w.heap.size, 0, none⟩) m n, .bool true]) ∧
      w'.ownsRow w.heap.size 5 1 (.slice (some ⟨w.heap.size, 0, none⟩) m n) m (v.map (Value.int .u8)) ∧ Below w.heap.size w w' := by
  subst hm
  exact read8 g off n c t v q ind ind.toNat rfl w hL ht hn hi0 hi1

set_option maxRecDepth 100000 in
set_option maxHeartbeats 2000000 in
theorem law_more (a0 : Option Addr) (len0 cap0 : Nat) (es : List Int) (s : ByteArray) (q ind : Int) (w : World) (hE : Els w a0 len0 cap0 es) (hl : (len0 : Int) + s.size ≤ 1048576)
    (hi0 : -9223372036854775808 ≤ ind) (hi1 : ind ≤ 65536) (hm : ind ≤ 0 ∨ (0 < ind ∧ wrap64 (↑s.size * ind) ≤ 67108864)) (hform : len0 ≤ 0 ∨ (0 < len0 ∧ ∃ bb off, a0 = some ⟨bb, off, none⟩))
    (T : List Int) (hT : T = wr q ind.toNat false (bytes s)) (tn : Nat) (htn : T.length = tn) (ht0 : 0 < tn) (ht1 : tn ≤ 800000000) :
    Calls Try.prog 3 #[.slice a0 len0 cap0, .string s, .int .u8 q, .int .i64 ind] w fun e w' => e = .returned (.bool true) ∧ Below w.heap.size w w' := by
  have HT : Hid (T = wr q ind.toNat false (bytes s)) := hT
  have HR : Hid (Wr q ind.toNat false s es (es ++ T) 0) := by show Wr _ _ _ _ _ _ _; unfold Wr; rw [hT]; simp
  obtain ⟨n, hn⟩ : ∃ n, n = len0 + tn := ⟨_, rfl⟩
  have HN : Hid ((es ++ T).length = n) := by show _ = _; rw [List.length_append, hE.hlen, htn, hn]
  have HNN : Hid (n = len0 + (n - len0)) := by show _ = _; omega
  have hn1 : n ≤ len0 + tn := by omega
  have hn2 : len0 + tn ≤ n := by omega
  have HTL : Hid (T.length = n - len0) := by show _ = _; omega
  clear hT htn hn
  rcases hm with hm | ⟨hm, hm2⟩
  all_goals
    rcases hform with hform | ⟨hform, bb, off, rfl⟩
    all_goals
      go_enter Try.func3, Try.ntmps3
      go_wp2_with (first
        | (go_at_call 5; refine (z5_yes _ _ _ _ _ _ _ hl).mono ?_; rintro e w0 ⟨rfl, hw⟩; subst hw)
        | (go_at_call 7; refine (copy7 _ _ _ es w hE (by omega)).mono ?_; rintro e w1 ⟨v1, rfl, hown1, hb1⟩)
        | (go_at_call 6; refine (flow6_some v1 _ es hE.hlen s q ind w1 w.heap.size hb1.size hown1 hi0 hi1 (by omega) (es ++ T) HR.out n HN.out (by omega) (by omega)).mono ?_; rintro e w2 ⟨g, cap, rfl, hBg, hcap, hcapm, hown2, hb2⟩))
      have hbw := hb1.trans hb2
      have HO : Hid (w2.ownsRow w.heap.size 5 1 (.slice (some ⟨g, 0, none⟩) n cap) n ((es ++ T).map (Value.int .u8))) := hown2
      clear hown2 hown1
      go_loopw [10] (fun i wr => ∃ k : Nat, k ≤ len0 ∧ i = .int .i64 k ∧ Same w2 wr ∧ Below w.heap.size w wr) (fun i _ => len0 - (intOf i).toNat)
      case atStart => exact ⟨0, Nat.zero_le _, rfl, rfl, hbw⟩
      case round =>
        obtain ⟨k, hk, rfl, hSame, hbr⟩ := hrel
        by_cases hlt : k < len0
        · first
            | (exfalso; omega)
            | (have c1 : wr.cell? ⟨g, k, none⟩ = some (.int .u8 (es.getD k 0)) := by rw [hSame.cell, own_cells HO.out k (by omega), getD_left es T k (by rw [hE.hlen]; exact hlt)]
               have c2 : wr.cell? ⟨bb, off + k, none⟩ = some (.int .u8 (es.getD k 0)) := els_cell (hE.later hbr) k hlt
               generalize es.getD k 0 = cc at c1 c2
               go_wp2
               go_quiet (fail)
               go_wp2
               go_roundw
               case rel => exact ⟨k + 1, by omega, by go_num, hSame.drewN _, below_drewN hbr _⟩
               case measure => simp [intOf]; omega)
        · go_wp2_with (go_at_call 8; refine (read8_at g len0 (n - len0) (cap - len0) s.size T (bytes s) (bytes_len s) q ind wr (lies_same (lies_of HO.out HNN.out hE.hlen HTL.out 0) hSame) HT.out (by omega) hi0 hi1).mono ?_; rintro e w4 ⟨rfl, hown4, hb4⟩)
          have hb5 := hbr.trans (hb4.mono hbr.size)
          obtain ⟨H, hH⟩ : ∃ H, H = wr.heap.size := ⟨_, rfl⟩
          have HO4 : Hid (w4.ownsRow wr.heap.size 5 1 (.slice (some ⟨wr.heap.size, 0, none⟩) s.size (n - len0)) s.size ((bytes s).map (Value.int .u8))) := hown4
          clear hown4 hH H hb4 hbr hSame hlt hk hbw hb1 hb2
          obtain ⟨wo, hwo⟩ : ∃ wo : World, wo = wr := ⟨_, rfl⟩
          rw [← hwo] at HO4
          rw [← hwo]
          clear hwo
          go_loopw [13] (fun i wr => ∃ k : Nat, k ≤ s.size ∧ i = .int .i64 k ∧ Same w4 wr ∧ Below w.heap.size w wr) (fun i _ => s.size - (intOf i).toNat)
          case atStart => exact ⟨0, Nat.zero_le _, rfl, rfl, hb5⟩
          case round =>
            obtain ⟨k, hk, rfl, hSame, hbr⟩ := hrel
            by_cases hlt : k < s.size
            · have c1 : wr.cell? ⟨wo.heap.size, k, none⟩ = some (.int .u8 (s[k].toNat : Int)) := by rw [hSame.cell, own_cells HO4.out k hlt, bytes_at s k hlt]
              go_wp2
              go_quiet (fail)
              go_wp2
              go_roundw
              case rel => exact ⟨k + 1, by omega, by go_num, hSame.drewN _, below_drewN hbr _⟩
              case measure => simp [intOf]; omega
            · go_wp2
              go_ret
              exact ⟨rfl, hbr⟩
end Go.Proofs.Qxb6601462a.Flow
