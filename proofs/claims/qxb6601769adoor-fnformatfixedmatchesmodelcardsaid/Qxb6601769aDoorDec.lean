import Derived.Test.Qxb6601769aDoorFmt
namespace Go.Proofs.Qxb6601769aDoor
open Go.RowKit
set_option linter.unusedVariables false
set_option linter.unusedSimpArgs false

theorem mag18_pos (M : Nat) (w : World) (hM : M ≤ 9223372036854775807) :
    Calls Tryd.prog 18 #[.int .i64 M] w fun e w' => e = .returned (.int .u64 M) ∧ w = w' := by
  go_enter Tryd.func18, Tryd.ntmps18
  go_wp2
  go_ret
  exact ⟨rfl, rfl⟩

theorem ret_u64 {a b : Int} (h : a = b) : Ending.returned (.int .u64 a) = .returned (.int .u64 b) := by rw [h]

theorem mag18_neg (M : Nat) (w : World) (hM1 : 1 ≤ M) (hM : M ≤ 9223372036854775808) :
    Calls Tryd.prog 18 #[.int .i64 (-(M : Int))] w fun e w' => e = .returned (.int .u64 M) ∧ w = w' := by
  go_enter Tryd.func18, Tryd.ntmps18
  go_wp2
  go_ret
  exact ⟨ret_u64 (by omega), rfl⟩

/-- The digits, the least significant first. -/
def Rv (u : Nat) : Nat → List Int
  | 0 => []
  | k + 1 => Rv u k ++ [48 + ((u / 10 ^ k % 10 : Nat) : Int)]
theorem Rv_len (u k : Nat) : (Rv u k).length = k := by
  induction k with
  | zero => rfl
  | succ k ih => simp [Rv, ih]
theorem Rv_getD (u k j : Nat) (h : j < k) : (Rv u k).getD j 0 = 48 + ((u / 10 ^ j % 10 : Nat) : Int) := by
  induction k with
  | zero => omega
  | succ k ih =>
    by_cases hj : j < k
    · have e : (Rv u (k + 1)).getD j 0 = (Rv u k).getD j 0 := by
        simp only [Rv, List.getD, List.getElem?_append_left (show j < (Rv u k).length by rw [Rv_len]; exact hj)]
      rw [e, ih hj]
    · obtain rfl : j = k := by omega
      simp only [Rv, List.getD]
      rw [List.getElem?_append_right (by rw [Rv_len]; exact Nat.le_refl _), Rv_len]
      simp

/-- The numeral as it stands when its first j digits are laid. -/
def part (u n j : Nat) : List Int := (Fx.W n u).take j ++ List.replicate (n - j) 0
theorem part_zero (u n : Nat) : part u n 0 = List.replicate n 0 := by simp [part]
theorem part_all (u n : Nat) : part u n n = Fx.W n u := by
  simp [part, List.take_of_length_le (show (Fx.W n u).length ≤ n by rw [Fx.W_len]; exact Nat.le_refl _)]
theorem part_set (u n j : Nat) (h : j < n) : (part u n j).set j ((Rv u n).getD (n - 1 - j) 0) = part u n (j + 1) := by
  rw [Rv_getD _ _ _ (by omega)]
  have hl : j < (Fx.W n u).length := by rw [Fx.W_len]; exact h
  have e : (Fx.W n u)[j] = 48 + ((u / 10 ^ (n - 1 - j) % 10 : Nat) : Int) := by
    have := Fx.W_getD n u j h
    simp only [List.getD, List.getElem?_eq_getElem hl, Option.getD_some] at this
    exact this
  unfold part
  rw [List.take_succ_eq_append_getElem hl, e]
  rw [List.set_append_right _ _ (by simp [Fx.W_len]; omega)]
  have e2 : j - ((Fx.W n u).take j).length = 0 := by simp [Fx.W_len]; omega
  rw [e2, show n - j = (n - (j + 1)) + 1 by omega, List.replicate_succ, List.set_cons_zero]
  simp

theorem dec_more (u k : Nat) (hu : 1 ≤ u) (h : k < Fx.nd u) : 1 ≤ u / 10 ^ k := by
  have h1 := Fx.le_nd u hu
  have h2 : 10 ^ k ≤ 10 ^ (Fx.nd u - 1) := Nat.pow_le_pow_right (by omega) (by omega)
  rw [Nat.le_div_iff_mul_le (Nat.pow_pos (by omega))]
  omega
theorem dec_done (u : Nat) : u / 10 ^ Fx.nd u = 0 := Nat.div_eq_of_lt (Fx.lt_nd u)

theorem rv_row {w : World} {B : Nat} {v : Value} {u k : Nat} (h : w.ownsRow B 5 1 v (k + 1) ((Rv u k).map (Value.int .u8) ++ [Value.int .u8 (48 + ((u / 10 ^ k : Nat) : Int) % 10)])) : w.ownsRow B 5 1 v (k + 1) ((Rv u (k + 1)).map (Value.int .u8)) := by
  have e : (Rv u (k + 1)).map (Value.int .u8) = (Rv u k).map (Value.int .u8) ++ [Value.int .u8 (48 + ((u / 10 ^ k : Nat) : Int) % 10)] := by simp [Rv]
  rw [e]; exact h

theorem own_below {B : Nat} {w w1 w2 : World} {v : Value} {n : Nat} {xs : List Value} {o : Obj} (hb : Below B w w1) (hB : B ≤ w1.heap.size) (hown : w1.ownsRow B 5 1 v n xs) (hg : (w1.alloc o).grownBy w2 v.ownBlock) : Below B w w2 :=
  (hb.alloc hB o).grown hg (by simp; omega) (fun k hk => (hown.lt k hk).1)
theorem made_zero (n : Nat) : (madeCells (Value.int .u8 0).cells (n * 1)).toList = (List.replicate n (0 : Int)).map (Value.int .u8) := by
  rw [Nat.mul_one, List.map_replicate]
  exact toList_madeCells_one _ _
theorem own_cells {w : World} {B g n cap : Nat} {zs : List Int} (h : w.ownsRow B 5 1 (.slice (some ⟨g, 0, none⟩) n cap) n (zs.map (Value.int .u8))) :
    ∀ j, j < n → w.cell? ⟨g, j, none⟩ = some (.int .u8 (zs.getD j 0)) := by
  intro j hj
  have hl : zs.length = n := by have := h.1; simpa using this
  have := h.cellAt j (by omega)
  rw [this]
  simp [List.getD, show j < zs.length by omega]

theorem dec19_zero (w : World) :
    Calls Tryd.prog 19 #[.int .u64 0] w fun e w' => e = .returned (.slice (some ⟨w.heap.size, 0, none⟩) 1 1) ∧ w'.ownsRow w.heap.size 5 1 (.slice (some ⟨w.heap.size, 0, none⟩) 1 1) 1 ([48].map (Value.int .u8)) ∧ Below w.heap.size w w' := by
  go_enter Tryd.func19, Tryd.ntmps19
  go_wp2
  go_ret
  exact ⟨rfl, World.ownsRow_lit w #[.int .u8 48] 1 (Nat.le_refl _) (by unfold maxLen; omega) rfl, (Below.refl _ _).alloc (Nat.le_refl _) _⟩

set_option maxRecDepth 100000 in
set_option maxHeartbeats 2000000 in
theorem dec19 (u : Nat) (hu : 1 ≤ u) (hu64 : u < 18446744073709551616) (w : World) (n : Nat) (hn : Fx.nd u = n) (hn20 : n ≤ 20) :
    Calls Tryd.prog 19 #[.int .u64 u] w fun e w' => ∃ H, e = .returned (.slice (some ⟨H, 0, none⟩) n n) ∧ w.heap.size ≤ H ∧ w'.ownsRow w.heap.size 5 1 (.slice (some ⟨H, 0, none⟩) n n) n ((Fx.W n u).map (Value.int .u8)) ∧ Below w.heap.size w w' := by
  obtain ⟨i0, hi, hz0, hz1, hz2⟩ := info_parts info5
  have hn1 : 1 ≤ n := by rw [← hn]; exact Fx.nd_pos u
  have HN : Hid (Fx.nd u = n) := hn
  have hu0 : ((u : Int) == 0) = false := by simp; omega
  clear hn
  go_enter Tryd.func19, Tryd.ntmps19
  go_wp2
  go_loopw [0, 3] (fun x v wr => ∃ k X : Nat, k ≤ n ∧ x = .int .u64 X ∧ Hid (X = u / 10 ^ k) ∧ wr.ownsRow w.heap.size 5 1 v k ((Rv u k).map (Value.int .u8)) ∧ Below w.heap.size w wr) (fun x _ _ => (intOf x).toNat)
  case atStart => exact ⟨0, u, Nat.zero_le _, rfl, by show _ = _; simp, World.ownsRow_nil _ _ _ _, Below.refl _ _⟩
  case round =>
    obtain ⟨k, X, hk, rfl, HX, hownr, hbr⟩ := hrel
    have hsz := hbr.size
    by_cases hlt : k < n
    · have hX1 : 1 ≤ X := by rw [HX.out]; exact dec_more u k hu (by rw [HN.out]; exact hlt)
      have hXb : X < 18446744073709551616 := by rw [HX.out]; exact Nat.lt_of_le_of_lt (Nat.div_le_self _ _) hu64
      go_wp2_with (at_builtin; refine wpList_append_own _ rfl (.tmp 11) (.tmp 16) 26 rfl w.heap.size 5 i0 (.int .u8 0) 1 1 Tryd.underlying26 hi hz0 hz1 hz2 rfl (by decide) u3 _ _ rfl (hownr.alloc _) ⟨_, 0, none⟩ 1 1 [.int .u8 (48 + (X : Int) % 10)] rfl rfl (World.news_of_block (heap_alloc_new _ _)) (ints_oneCell .u8 [48 + (X : Int) % 10]) (by unfold maxLen; omega) (by omega) (by simp; omega) ?_; intro v1 w1 hown1 hgr1 _)
      go_roundw
      case rel => exact ⟨k + 1, X / 10, by omega, by go_num, by show _ = _; rw [HX.out, Nat.div_div_eq_div_mul, Nat.pow_succ], rv_row (by rw [← HX.out]; exact hown1), own_below hbr (by omega) hownr hgr1⟩
      case measure => simp [intOf]; omega
    · obtain rfl : n = k := by omega
      have hX0 : X = 0 := by rw [HX.out, ← HN.out]; exact dec_done u
      subst hX0
      obtain ⟨g, cap, hv⟩ : ∃ g cap, u3 = .slice (some ⟨g, 0, none⟩) n cap := by
        rcases hownr.2 with ⟨_, h⟩ | ⟨g, cap, cur, h, _⟩
        · omega
        · exact ⟨g, cap, h⟩
      subst hv
      go_wp2_with (at_make; refine wpList_make_full _ rfl (.tmp 21) (.tmp 21) 26 rfl w.heap.size 5 i0 (.int .u8 0) 1 Tryd.underlying26 hi hz0 hz1 .i64 .i64 _ _ n rfl rfl rfl rfl (by rw [hz2]; omega) (by unfold maxLen; omega) (by omega) ?_; intro w1 hown hgr; have hbm := (Below.refl wr.heap.size wr).grown hgr (Nat.le_refl _) (by intro k hk; cases hk); rw [made_zero, ← part_zero u n] at hown; clear hgr)
      obtain ⟨wo, hwo⟩ : ∃ wo : World, wo = wr := ⟨_, rfl⟩
      rw [← hwo] at hownr hbr hbm hown hsz
      rw [← hwo]
      clear hwo
      go_loopw [5] (fun i wq => ∃ j : Nat, j ≤ n ∧ i = .int .i64 j ∧ wq.ownsRow w.heap.size 5 1 (.slice (some ⟨wo.heap.size, 0, none⟩) n n) n ((part u n j).map (Value.int .u8)) ∧ Below wo.heap.size wo wq) (fun i _ => n - (intOf i).toNat)
      case atStart => exact ⟨0, Nat.zero_le _, rfl, hown, hbm⟩
      case round =>
        clear hown hbm
        obtain ⟨j, hj, rfl, hownq, hbq⟩ := hrel
        by_cases hjn : j < n
        · have hg := (hownr.lt g rfl).2
          have c1 : wr.cell? ⟨g, n - 1 - j, none⟩ = some (.int .u8 ((Rv u n).getD (n - 1 - j) 0)) := (hbq.cell hg).trans (own_cells hownr _ (by omega))
          have c2 := own_cells hownq j hjn
          have c3 := hownq.frozenAt j
          have hst := hownq.stored j (.int .u8 ((Rv u n).getD (n - 1 - j) 0))
          have hrow : ((part u n j).map (Value.int .u8)).set j (.int .u8 ((Rv u n).getD (n - 1 - j) 0)) = (part u n (j + 1)).map (Value.int .u8) := by
            rw [← List.map_set, part_set u n j hjn]
          rw [hrow] at hst
          have HST : Hid ((wr.setCell ⟨wo.heap.size, j, none⟩ (.int .u8 ((Rv u n).getD (n - 1 - j) 0))).ownsRow w.heap.size 5 1 (.slice (some ⟨wo.heap.size, 0, none⟩) n n) n ((part u n (j + 1)).map (Value.int .u8))) := hst.1
          clear hrow hst
          generalize (Rv u n).getD (n - 1 - j) 0 = cc at c1 HST
          generalize (part u n j).getD j 0 = old at c2
          go_wp2
          go_roundw
          case rel => exact ⟨j + 1, by omega, by go_num, HST.out, hbq.setCell (Nat.le_refl _) _⟩
          case measure => simp [intOf]; omega
        · obtain rfl : n = j := by omega
          rw [part_all] at hownq
          go_wp2
          go_ret
          exact ⟨_, rfl, by omega, hownq, hbr.trans (hbq.mono hsz)⟩

end Go.Proofs.Qxb6601769aDoor
