import Derived.Test.Qxb6601462aFlowB
namespace Go.Proofs.Qxb6601462a.Flow
open Go.RowKit
set_option linter.unusedVariables false
set_option linter.unusedSimpArgs false

/-- The text that the reader is handed: its cells, from 'off' on in block 'g'. -/
def Lies (w : World) (g off n : Nat) (t : List Int) : Prop := t.length = n ∧ ∀ j, j < n → w.cell? ⟨g, off + j, none⟩ = some (.int .u8 (t.getD j 0))
theorem Lies.cell {w w1 : World} {g off n : Nat} {t : List Int} (h : Lies w g off n t) (hb : Below w.heap.size w w1) (j : Nat) (hj : j < n) : w1.cell? ⟨g, off + j, none⟩ = some (.int .u8 (t.getD j 0)) :=
  (hb.cell (World.block_lt_of_cell? w _ (h.2 j hj))).trans (h.2 j hj)

theorem fit_row {w : World} {B g p n m : Nat} {old news : List Int} (h : w.ownsRow B 5 1 (.slice (some ⟨g, 0, none⟩) (p + m) n) (p + m) (old.map (Value.int .u8) ++ news.map (Value.int .u8))) (all : List Int) (ha : all = old ++ news) : w.ownsRow B 5 1 (.slice (some ⟨g, 0, none⟩) (p + m) n) (p + m) (all.map (Value.int .u8)) := by
  rw [ha, List.map_append]; exact h
theorem below_fit {B g : Nat} {w w1 w2 : World} {o : Obj} (hb : Below B w w1) (hB : B ≤ w1.heap.size) (hg : (w1.alloc o).grownBy w2 (some g)) (hBg : B ≤ g) : Below B w w2 :=
  (hb.alloc hB o).grown hg (by simp; omega) (by intro k hk; cases hk; exact hBg)

theorem take_one (v : List Int) (p : Nat) (h : p < v.length) : v.take (p + 1) = v.take p ++ [v.getD p 0] := by
  rw [List.take_succ_eq_append_getElem h]; simp [List.getD, h]

set_option maxRecDepth 100000 in
set_option maxHeartbeats 2000000 in
theorem read8 (g off n c : Nat) (t v : List Int) (q ind : Int) (N : Nat) (hN : N = ind.toNat) (w : World) (hL : Lies w g off n t) (ht : t = wr q N false v) (hn : n ≤ 1000000000) (hi0 : -9223372036854775808 ≤ ind) (hi1 : ind ≤ 65536) :
    Calls Try.prog 8 #[.slice (some ⟨g, off, none⟩) n c, .int .u8 q, .int .i64 ind] w fun e w' => e = .returned (.tuple #[.slice (some ⟨w.heap.size, 0, none⟩) v.length n, .bool true]) ∧
      w'.ownsRow w.heap.size 5 1 (.slice (some ⟨w.heap.size, 0, none⟩) v.length n) v.length (v.map (Value.int .u8)) ∧ Below w.heap.size w w' := by
  obtain ⟨i0, hi, hz0, hz1, hz2⟩ := info_parts info5
  have hAt0 : At q N t v 0 0 := by rw [ht]; exact At.start _ _ _
  have hneg : (ind < 0 ∧ N ≤ 0) ∨ ind = (N : Int) := by omega
  have htl := hL.1
  have HTL : Hid (t.length = n) := htl
  clear ht htl hN
  rcases hneg with ⟨hneg, hN⟩ | rfl
  all_goals
    go_enter Try.func8, Try.ntmps8
    go_wp2_with (at_make; refine wpList_make_own _ rfl (.const (.int .i64 0)) (.tmp 17) 22 rfl w.heap.size 5 i0 (.int .u8 0) 1 Try.underlying22 hi hz0 hz1 .i64 .i64 _ n rfl rfl rfl (by rw [hz2]; omega) (by unfold maxLen; omega) (Nat.le_refl _) ?_; intro w1 hown hgr; have hb := below_made hgr; clear hgr)
    go_loopw [8, 9] (fun r i wr => ∃ (p k : Nat), i = .int .i64 k ∧ At q N t v k p ∧ r = .slice (some ⟨w.heap.size, 0, none⟩) p n ∧ wr.ownsRow w.heap.size 5 1 (.slice (some ⟨w.heap.size, 0, none⟩) p n) p ((v.take p).map (Value.int .u8)) ∧ Below w.heap.size w wr)
      (fun _ i _ => n - (intOf i).toNat)
    case atStart => exact ⟨0, 0, rfl, hAt0, rfl, by simpa using hown, hb⟩
    case round =>
      obtain ⟨p, k, rfl, hA, rfl, hownr, hbr⟩ := hrel
      clear hown hb
      have hsz := hbr.size
      have hkn : k ≤ n := by have := hA.le; rw [HTL.out] at this; exact this
      have hpk := hA.pi
      by_cases hlt : k < n
      · have hklt : k < t.length := by rw [HTL.out]; exact hlt
        have hpv := hA.more hklt
        by_cases hlf : v.getD p 0 = 10
        · obtain ⟨r, hr1, hr2, hr3, hten, hnext, hsps, hend, htake, hA2⟩ := hA.run hklt hlf
          rw [HTL.out] at hr2 hnext hend
          have HTk : Hid (v.take (p + r) = v.take p ++ List.replicate r 10) := htake
          have HTEN : Hid (∀ j, j < r + 1 → wr.cell? ⟨g, off + (k + j), none⟩ = some (.int .u8 10)) := fun j hj => by
            have := hL.cell hbr (k + j) (by omega); rwa [hten j hj] at this
          have HNX : Hid (k + (r + 1) < n → ∃ cc, (cc == 10) = false ∧ wr.cell? ⟨g, off + (k + (r + 1)), none⟩ = some (.int .u8 cc)) := fun h => ⟨_, by simpa using hnext h, hL.cell hbr _ h⟩
          have HSP : Hid (∀ (w1 : World), Below w.heap.size w w1 → ∀ j, j < N → w1.cell? ⟨g, off + (k + (r + 1) + j), none⟩ = some (.int .u8 32)) := fun w1 hb j hj => by
            have := hL.cell hb (k + (r + 1) + j) (by omega); rwa [hsps j hj] at this
          have HEN : Hid (∀ (w1 : World), Below w.heap.size w w1 → k + (r + 1) + N < n → ∃ cc, (cc == 10) = false ∧ w1.cell? ⟨g, off + (k + (r + 1) + N), none⟩ = some (.int .u8 cc)) := fun w1 hb h => ⟨_, by simpa using hend h, hL.cell hb _ h⟩
          have c0 := HTEN.out 0 (by omega)
          rw [Nat.add_zero] at c0
          clear htake hten hnext hsps hend hlf hA hklt hpv
          go_wp2
          go_loop [9, 11] (fun i m => ∃ j : Nat, j ≤ r + 1 ∧ i = .int .i64 (↑(k + j)) ∧ m = .int .i64 j) (fun i _ => n - (intOf i).toNat)
          case atStart => exact ⟨0, by omega, rfl, rfl⟩
          case round =>
            obtain ⟨j, hj, rfl, rfl⟩ := hrel
            clear c0
            by_cases hjr : j < r + 1
            · have cj := HTEN.out j hjr
              go_wp2
              go_round
              case rel => exact ⟨j + 1, by omega, by go_num, by go_num⟩
              case measure => simp [intOf]; omega
            · obtain rfl : j = r + 1 := by omega
              clear hjr
              have hways : (k + (r + 1) < n ∧ ∃ cc, (cc == 10) = false ∧ wr.cell? ⟨g, off + (k + (r + 1)), none⟩ = some (.int .u8 cc)) ∨ ¬ k + (r + 1) < n := by
                by_cases h : k + (r + 1) < n
                · exact Or.inl ⟨h, HNX.out h⟩
                · exact Or.inr h
              rcases hways with ⟨hE, cc, hcc, ccell⟩ | hE
              all_goals
                go_wp2
                go_loopw [8, 12] (fun u i wr3 => ∃ j : Nat, j ≤ r ∧ i = .int .i64 (↑j + 1) ∧ u = .slice (some ⟨w.heap.size, 0, none⟩) (p + j) n ∧ wr3.ownsRow w.heap.size 5 1 (.slice (some ⟨w.heap.size, 0, none⟩) (p + j) n) (p + j) ((v.take p ++ List.replicate j 10).map (Value.int .u8)) ∧ Below w.heap.size w wr3) (fun _ i _ => r + 1 - (intOf i).toNat)
                case atStart => exact ⟨0, Nat.zero_le _, rfl, rfl, by simpa using hownr, hbr⟩
                case round =>
                  clear hownr hbr hsz
                  try clear hcc ccell
                  obtain ⟨j, hj, rfl, rfl, hownr, hbr⟩ := hrel
                  have hsz := hbr.size
                  by_cases hjr : j < r
                  · go_wp2_with (at_builtin; refine wpList_append_fits _ rfl (.tmp 51) (.tmp 52) 22 rfl w.heap.size 5 i0 1 Try.underlying22 hi hz1 w.heap.size (p + j) n _ rfl (hownr.alloc _) ⟨_, 0, none⟩ 1 1 [.int .u8 10] rfl rfl (World.news_of_block (heap_alloc_new _ _)) (ints_oneCell .u8 [10]) (by omega) ?_; intro w2 hown2 hgr2)
                    go_roundw
                    case rel => exact ⟨j + 1, by omega, by go_num, rfl, fit_row (p := p + j) (news := [10]) hown2 _ (by rw [List.replicate_succ', List.append_assoc]), below_fit hbr (by omega) hgr2 (Nat.le_refl _)⟩
                    case measure => simp [intOf]; omega
                  · obtain rfl : j = r := by omega
                    clear hjr
                    rw [← HTk.out] at hownr
                    go_wp2
                    go_loop [9, 13] (fun i kk => ∃ j2 : Nat, j2 ≤ N ∧ i = .int .i64 (↑(k + (j + 1) + j2)) ∧ kk = .int .i64 j2) (fun i _ => n - (intOf i).toNat)
                    case atStart => exact ⟨0, Nat.zero_le _, rfl, rfl⟩
                    case round =>
                      obtain ⟨j2, hj2, rfl, rfl⟩ := hrel
                      by_cases hjr : j2 < N
                      · have c3 := HSP.out _ hbr j2 hjr
                        first
                          | (exfalso; omega)
                          | (go_wp2
                             go_round
                             case rel => exact ⟨j2 + 1, by omega, by go_num, by go_num⟩
                             case measure => simp [intOf]; omega)
                      · obtain rfl : N = j2 := by omega
                        clear hjr hj2
                        have hways : (k + (j + 1) + N < n ∧ ∃ cc, (cc == 10) = false ∧ wr.cell? ⟨g, off + (k + (j + 1) + N), none⟩ = some (.int .u8 cc)) ∨ ¬ k + (j + 1) + N < n := by
                          by_cases h : k + (j + 1) + N < n
                          · exact Or.inl ⟨h, HEN.out _ hbr h⟩
                          · exact Or.inr h
                        rcases hways with ⟨hE2, cc2, hcc2, ccell2⟩ | hE2
                        all_goals first | (exfalso; omega) | skip
                        all_goals
                          go_wp2
                          go_roundw
                          case rel => exact ⟨p + j, k + (j + 1) + N, by go_num, hA2, rfl, hownr, hbr⟩
                          case measure => simp [intOf]; omega
        · by_cases hq : q ≠ 0 ∧ v.getD p 0 = q
          · obtain ⟨hc0, hk1, hc1, hA2⟩ := hA.quote hklt hlf hq.1 hq.2
            have c0 := hL.cell hbr k hlt
            have hk1' : k + 1 < n := by rw [HTL.out] at hk1; exact hk1
            have c1 := hL.cell hbr (k + 1) hk1'
            rw [hc0] at c0
            rw [hc1] at c1
            have hrow := take_one v p hpv
            rw [hq.2] at hrow
            have HR : Hid (v.take (p + 1) = v.take p ++ [q]) := hrow
            have q1 : (q == 10) = false := by rw [hq.2] at hlf; simpa using hlf
            have q2 : (q != 0) = true := by simpa using hq.1
            clear hrow hq hlf hc0 hk1 hc1 hA hklt hpv
            go_wp2_with (at_builtin; refine wpList_append_fits _ rfl (.tmp 104) (.tmp 106) 22 rfl w.heap.size 5 i0 1 Try.underlying22 hi hz1 w.heap.size p n _ rfl (hownr.alloc _) ⟨_, 0, none⟩ 1 1 [.int .u8 q] rfl rfl (World.news_of_block (heap_alloc_new _ _)) (ints_oneCell .u8 [q]) (by omega) ?_; intro w2 hown2 hgr2)
            go_roundw
            case rel => exact ⟨p + 1, k + 2, by go_num, hA2, rfl, fit_row (news := [q]) hown2 _ HR.out, below_fit hbr (by omega) hgr2 (Nat.le_refl _)⟩
            case measure => simp [intOf]; omega
          · obtain ⟨hc0, hA2⟩ := hA.plain hklt hlf hq
            have c0 := hL.cell hbr k hlt
            rw [hc0] at c0
            have hrow := take_one v p hpv
            generalize v.getD p 0 = cc at *
            have HR : Hid (v.take (p + 1) = v.take p ++ [cc]) := hrow
            have q1 : (cc == 10) = false := by simpa using hlf
            by_cases hq0 : q = 0
            · have q2 : (q != 0) = false := by simpa using hq0
              clear hrow hq hlf hc0 hA hklt hpv hq0
              go_wp2_with (at_builtin; refine wpList_append_fits _ rfl (.tmp 110) (.tmp 112) 22 rfl w.heap.size 5 i0 1 Try.underlying22 hi hz1 w.heap.size p n _ rfl (hownr.alloc _) ⟨_, 0, none⟩ 1 1 [.int .u8 cc] rfl rfl (World.news_of_block (heap_alloc_new _ _)) (ints_oneCell .u8 [cc]) (by omega) ?_; intro w2 hown2 hgr2)
              go_roundw
              case rel => exact ⟨p + 1, k + 1, by go_num, hA2, rfl, fit_row (news := [cc]) hown2 _ HR.out, below_fit hbr (by omega) hgr2 (Nat.le_refl _)⟩
              case measure => simp [intOf]; omega
            · have q2 : (q != 0) = true := by simpa using hq0
              have q3 : (cc == q) = false := by simp; intro h; exact hq ⟨hq0, h⟩
              clear hrow hq hlf hc0 hA hklt hpv hq0
              go_wp2_with (at_builtin; refine wpList_append_fits _ rfl (.tmp 110) (.tmp 112) 22 rfl w.heap.size 5 i0 1 Try.underlying22 hi hz1 w.heap.size p n _ rfl (hownr.alloc _) ⟨_, 0, none⟩ 1 1 [.int .u8 cc] rfl rfl (World.news_of_block (heap_alloc_new _ _)) (ints_oneCell .u8 [cc]) (by omega) ?_; intro w2 hown2 hgr2)
              go_roundw
              case rel => exact ⟨p + 1, k + 1, by go_num, hA2, rfl, fit_row (news := [cc]) hown2 _ HR.out, below_fit hbr (by omega) hgr2 (Nat.le_refl _)⟩
              case measure => simp [intOf]; omega
      · have hp : p = v.length := hA.stop (by rw [HTL.out]; omega)
        have HP : Hid (p = v.length) := hp
        clear hp
        go_wp2
        go_ret2
        rw [← HP.out]
        refine ⟨rfl, ?_, hbr⟩
        rw [List.take_of_length_le (by have := HP.out; omega)] at hownr
        exact hownr
end Go.Proofs.Qxb6601462a.Flow
