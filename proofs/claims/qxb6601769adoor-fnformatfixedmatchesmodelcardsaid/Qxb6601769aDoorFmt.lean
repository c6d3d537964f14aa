import Derived.Test.Qxb6601769aDoorApp
import Derived.Laws.Bits64
namespace Go.Proofs.Qxb6601769aDoor
open Go.RowKit
set_option linter.unusedVariables false
set_option linter.unusedSimpArgs false

theorem tab_below {w w' : World} (h : Lib.TabIs Tryd.prog w Tryd.powName .u64 Lib.pow10Tab) (hb : Below w.heap.size w w') : Lib.TabIs Tryd.prog w' Tryd.powName .u64 Lib.pow10Tab := by
  unfold Lib.TabIs World.var? at *
  cases hg : Tryd.prog.globalNamed Tryd.powName with
  | none => simp [hg] at h
  | some g =>
    simp only [hg, Option.bind_some] at h ⊢
    have hlt : g < w.heap.size := by
      rcases Nat.lt_or_ge g w.heap.size with h' | h'
      · exact h'
      · rw [Array.getElem?_eq_none h'] at h; simp at h
    rw [hb.block g hlt]
    exact h

theorem pow_le18 (k : Nat) (h : k ≤ 18) : 10 ^ k ≤ 1000000000000000000 := by
  have := Nat.pow_le_pow_right (show 0 < 10 by omega) h
  simpa using this
theorem pow_le19 (k : Nat) (h : k ≤ 19) : 10 ^ k ≤ 10000000000000000000 := by
  have := Nat.pow_le_pow_right (show 0 < 10 by omega) h
  simpa using this

theorem wrap_u64_nat (n : Nat) (h : n < 18446744073709551616) : IntKind.u64.wrap (n : Int) = (n : Int) := by
  rw [IntKind.wrap_u64]
  omega

theorem zeros32 (w : World) : Arr (w.alloc (.cells (Array.replicate 32 (Value.int .u8 0)) 47)) w.heap.size 47 32 0 [] :=
  ⟨rfl, by omega, _, heap_alloc_new w _, by simp, rfl⟩

theorem wdig (p m j : Nat) (h : j < p) : (Fx.W p m).take (j + 1) = (Fx.W p m).take j ++ [48 + (((m % 10 ^ p) / (10 ^ (p - j) / 10) % 10 : Nat) : Int)] := by
  have hl : j < (Fx.W p m).length := by rw [Fx.W_len]; exact h
  rw [List.take_succ_eq_append_getElem hl]
  congr 1
  have e : (Fx.W p m)[j] = (Fx.W p m).getD j 0 := by simp [List.getD, hl]
  rw [e, Fx.W_getD p m j h]
  have e2 : 10 ^ (p - j) / 10 = 10 ^ (p - 1 - j) := by
    rw [show p - j = (p - 1 - j) + 1 by omega, Nat.pow_succ, Nat.mul_div_cancel _ (by omega)]
  rw [e2]
  have e3 : 10 ^ p = 10 ^ (p - 1 - j) * 10 ^ (j + 1) := by rw [← Nat.pow_add]; congr 1; omega
  have e4 : m % 10 ^ p / 10 ^ (p - 1 - j) % 10 = m / 10 ^ (p - 1 - j) % 10 := by
    rw [e3, Nat.mod_mul_right_div_self, Nat.pow_succ, Nat.mul_comm (10 ^ j) 10, Nat.mod_mul_right_mod]
  rw [e4]

/-- The array, its first byte a minus sign. -/
theorem minus32 (w : World) : Arr (w.alloc (.cells ((Array.replicate 32 (Value.int .u8 0)).setIfInBounds 0 (.int .u8 45)) 47)) w.heap.size 47 32 1 [.int .u8 45] :=
  ⟨rfl, by omega, _, heap_alloc_new w _, by simp, rfl⟩

/-- The text so far. -/
def sofar (pre : List Int) (p M Q j : Nat) : List Int := pre ++ (Fx.W (Fx.nd Q) Q ++ 46 :: (Fx.W p M).take j)
theorem sofar_len (pre : List Int) (p M Q j : Nat) (h : j ≤ p) : (sofar pre p M Q j).length = pre.length + (Fx.nd Q + 1 + j) := by
  unfold sofar; simp [Fx.W_len]; omega
theorem sofar_zero {w : World} {g lab N n : Nat} {pre : List Int} {p M Q : Nat} (h : Arr w g lab N n (pre.map (Value.int .u8) ++ decCells Q ++ [Value.int .u8 46])) : Arr w g lab N n ((sofar pre p M Q 0).map (Value.int .u8)) := by
  have e : (sofar pre p M Q 0).map (Value.int .u8) = pre.map (Value.int .u8) ++ decCells Q ++ [Value.int .u8 46] := by simp [sofar, decCells]
  rw [e]; exact h
theorem sofar_succ {w : World} {g lab N n : Nat} {pre : List Int} {p M Q j U F V D : Nat} (hU : U = 10 ^ p) (hF : F = M % U) (hV : V = 10 ^ (p - j) / 10) (hD : D = F / V) (hj : j < p)
    (h : Arr w g lab N n ((sofar pre p M Q j).map (Value.int .u8) ++ [Value.int .u8 (48 + (D : Int) % 10)])) : Arr w g lab N n ((sofar pre p M Q (j + 1)).map (Value.int .u8)) := by
  have e : sofar pre p M Q (j + 1) = sofar pre p M Q j ++ [48 + (D : Int) % 10] := by
    unfold sofar
    rw [wdig p M j hj, hD, hF, hU, hV]
    simp
  rw [e, List.map_append]; exact h
theorem sofar_text (pre : List Int) (p M : Nat) : sofar pre p M (M / 10 ^ p) p = pre ++ Fx.body p M := by
  unfold sofar Fx.body
  rw [List.take_of_length_le (by rw [Fx.W_len]; exact Nat.le_refl _)]

theorem conv_text {w : World} {g n : Nat} {L : List Int} (hl : L.length = n) (h : Arr w g 47 32 n (L.map (Value.int .u8))) :
    (convert 26 9 (.slice (some ⟨g, 0, none⟩) n 32)).run Tryd.prog w = .ok (.string (strOfNums L)) w := by
  refine run_convert_bytes_arg (P := Tryd.prog) w 26 5 Tryd.underlying26 Tryd.underlying5 g 0 n 32 L hl ?_ 9 Tryd.underlying9
  intro i hi
  rw [Nat.zero_add, h.cell i hi]
  simp [List.getD, show i < L.length by omega]

theorem arr_below {B g : Nat} {w w1 w2 : World} {o : Obj} (hb : Below B w w1) (hB : B ≤ w1.heap.size) (hg : (w1.alloc o).grownBy w2 (some g)) (hBg : B ≤ g) : Below B w w2 :=
  (hb.alloc hB o).grown hg (by simp; omega) (by intro k hk; cases hk; exact hBg)
theorem arr_below1 {B g : Nat} {w w1 w2 : World} (hb : Below B w w1) (hB : B ≤ w1.heap.size) (hg : w1.grownBy w2 (some g)) (hBg : B ≤ g) : Below B w w2 :=
  hb.grown hg hB (by intro k hk; cases hk; exact hBg)
theorem pow_pred (p j : Nat) (h : j < p) : 10 ^ (p - j) / 10 / 10 = 10 ^ (p - (j + 1)) / 10 := by
  have e : 10 ^ (p - j) / 10 = 10 ^ (p - (j + 1)) := by
    rw [show p - j = (p - (j + 1)) + 1 by omega, Nat.pow_succ, Nat.mul_div_cancel _ (by omega)]
  rw [e]
theorem pow_one (p j : Nat) (h : j < p) : 1 ≤ 10 ^ (p - j) / 10 := by
  rw [show p - j = (p - (j + 1)) + 1 by omega, Nat.pow_succ, Nat.mul_div_cancel _ (by omega)]
  exact Nat.pow_pos (by omega)
theorem neg_neg_u64 (M : Nat) (h1 : 1 ≤ M) (h2 : M ≤ 9223372036854775808) : IntKind.u64.wrap (-(IntKind.u64.wrap (-(M : Int)))) = (M : Int) := by
  rw [IntKind.wrap_u64, IntKind.wrap_u64]
  omega

set_option maxRecDepth 100000 in
set_option maxHeartbeats 2000000 in
theorem fmt21_pos (M p : Nat) (w : World) (hM : M ≤ 9223372036854775807) (hp : p ≤ 19) (htab : Lib.TabIs Tryd.prog w Tryd.powName .u64 Lib.pow10Tab) :
    Calls Tryd.prog 21 #[.int .i64 M, .int .i64 p] w fun e w' => e = .returned (.string (strOfNums (Fx.text false p M))) ∧ Below w.heap.size w w' := by
  obtain ⟨i0, hi, hz0, hz1, hz2⟩ := info_parts info5
  go_enter Tryd.func21, Tryd.ntmps21
  go_wp2
  go_loop [5, 11] (fun u i => ∃ k U : Nat, k ≤ p ∧ i = .int .i64 k ∧ u = .int .u64 U ∧ Hid (U = 10 ^ k)) (fun _ i => p - (intOf i).toNat)
  case atStart => exact ⟨0, 1, Nat.zero_le _, rfl, rfl, rfl⟩
  case round =>
    obtain ⟨k, U, hk, rfl, rfl, HU⟩ := hrel
    by_cases hlt : k < p
    · have hU : U ≤ 1000000000000000000 := by rw [HU.out]; exact pow_le18 k (by omega)
      go_wp2
      go_round
      case rel => exact ⟨k + 1, U * 10, by omega, by go_num, by go_num, by show _ = _; rw [HU.out, Nat.pow_succ]⟩
      case measure => simp [intOf]; omega
    · obtain rfl : p = k := by omega
      have hU : U ≤ 10000000000000000000 := by rw [HU.out]; exact pow_le19 p hp
      have hU1 : 1 ≤ U := by rw [HU.out]; exact Nat.pow_pos (by omega)
      obtain ⟨Q, hQ⟩ : ∃ Q, Q = M / U := ⟨_, rfl⟩
      obtain ⟨F, hF⟩ : ∃ F, F = M % U := ⟨_, rfl⟩
      have hQM : Q ≤ M := by rw [hQ]; exact Nat.div_le_self _ _
      have hFU : F < U := by rw [hF]; exact Nat.mod_lt _ (by omega)
      have hq : (M : Int) / (U : Int) = (Q : Int) := by rw [hQ, Int.natCast_ediv]
      have hf : (M : Int) % (U : Int) = (F : Int) := by rw [hF, Int.natCast_emod]
      obtain ⟨a, ha⟩ : ∃ a, a = Fx.nd Q := ⟨_, rfl⟩
      have hap : a + p ≤ 20 := by rw [ha, hQ, HU.out]; exact Fx.whole_le p M hp (by omega)
      have HQ : Hid (Q = M / U) := hQ
      have HF : Hid (F = M % U) := hF
      have HA : Hid (Fx.nd Q = a) := ha.symm
      clear hQ hF ha
      go_wp2_with (first
        | (go_at_call 25; refine (app25 _ Q rfl (by omega) w.heap.size 47 32 0 [] _ (zeros32 w) a HA.out (by omega) (by omega) (by omega) (tab_alloc htab _)).mono ?_; rintro e w1 ⟨rfl, hA1, hgr1⟩; have hb1 := arr_below (Below.refl w.heap.size w) (Nat.le_refl _) hgr1 (Nat.le_refl _); simp only [Nat.zero_add, List.nil_append] at hA1; clear hgr1)
        | (at_builtin; refine wpList_append_arr _ rfl (.tmp 30) (.tmp 31) 26 rfl 5 i0 Tryd.underlying26 hi hz1 w.heap.size 47 32 _ _ rfl (hA1.alloc _) ⟨_, 0, none⟩ 1 1 [.int .u8 46] rfl rfl (World.news_of_block (heap_alloc_new _ _)) (ints_oneCell .u8 [46]) (by omega) ?_; intro w2 hA2 hgr2; have hb2 := arr_below hb1 (by have := hb1.size; omega) hgr2 (Nat.le_refl _); clear hgr2))
      have hA3 := sofar_zero (pre := []) (p := p) (M := M) hA2
      clear hA1 hA2 hb1 
      rw [hf]
      go_loopw [5, 7] (fun u v wr => ∃ j V : Nat, j ≤ p ∧ u = .int .u64 V ∧ Hid (V = 10 ^ (p - j) / 10) ∧ v = .slice (some ⟨w.heap.size, 0, none⟩) (a + 1 + j) 32 ∧ Arr wr w.heap.size 47 32 (a + 1 + j) ((sofar [] p M Q j).map (Value.int .u8)) ∧ Below w.heap.size w wr) (fun u _ _ => (intOf u).toNat)
      case atStart => exact ⟨0, U / 10, Nat.zero_le _, by go_num, by show _ = _; rw [HU.out, Nat.sub_zero], rfl, hA3, hb2⟩
      case round =>
        obtain ⟨j, V, hj, rfl, HV, rfl, hAr, hbr⟩ := hrel
        clear hA3 hb2
        have hsz := hbr.size
        by_cases hjp : j < p
        · have hV1 : 1 ≤ V := by rw [HV.out]; exact pow_one p j hjp
          obtain ⟨D, hD⟩ : ∃ D, D = F / V := ⟨_, rfl⟩
          have hDF : D ≤ F := by rw [hD]; exact Nat.div_le_self _ _
          have hd : (F : Int) / (V : Int) = (D : Int) := by rw [hD, Int.natCast_ediv]
          have HD : Hid (D = F / V) := hD
          have hVU : V ≤ 10000000000000000000 := by
            rw [HV.out]; exact Nat.le_trans (Nat.div_le_self _ _) (pow_le19 _ (by omega))
          clear hD
          go_wp2_with (at_builtin; refine wpList_append_arr _ rfl (.tmp 42) (.tmp 49) 26 rfl 5 i0 Tryd.underlying26 hi hz1 w.heap.size 47 32 _ _ rfl (hAr.alloc _) ⟨_, 0, none⟩ 1 1 [.int .u8 (48 + (D : Int) % 10)] rfl rfl (World.news_of_block (heap_alloc_new _ _)) (ints_oneCell .u8 [48 + (D : Int) % 10]) (by omega) ?_; intro w3 hA3 hgr3)
          go_roundw
          case rel => exact ⟨j + 1, V / 10, by omega, by go_num, by show _ = _; rw [HV.out]; exact pow_pred p j hjp, rfl, sofar_succ HU.out HF.out HV.out HD.out hjp hA3, arr_below hbr (by omega) hgr3 (Nat.le_refl _)⟩
          case measure => simp [intOf]; omega
        · obtain rfl : j = p := by omega
          have hV0 : V = 0 := by rw [HV.out, Nat.sub_self]
          subst hV0
          have hc := conv_text (by rw [sofar_len _ _ _ _ _ (Nat.le_refl _), HA.out]; simp <;> omega) hAr
          have HX : Hid (sofar [] j M Q j = Fx.text false j M) := by
            show _ = _
            have e : Q = M / 10 ^ j := by rw [HQ.out, HU.out]
            rw [e, sofar_text]; rfl
          clear hAr
          go_wp2
          go_ret
          rw [← HX.out]
          exact ⟨rfl, hbr⟩

set_option maxRecDepth 100000 in
set_option maxHeartbeats 2000000 in
theorem fmt21_neg (M p : Nat) (w : World) (hM1 : 1 ≤ M) (hM : M ≤ 9223372036854775808) (hp : p ≤ 19) (htab : Lib.TabIs Tryd.prog w Tryd.powName .u64 Lib.pow10Tab) :
    Calls Tryd.prog 21 #[.int .i64 (-(M : Int)), .int .i64 p] w fun e w' => e = .returned (.string (strOfNums (Fx.text true p M))) ∧ Below w.heap.size w w' := by
  obtain ⟨i0, hi, hz0, hz1, hz2⟩ := info_parts info5
  go_enter Tryd.func21, Tryd.ntmps21
  go_wp2
  go_loop [5, 11] (fun u i => ∃ k U : Nat, k ≤ p ∧ i = .int .i64 k ∧ u = .int .u64 U ∧ Hid (U = 10 ^ k)) (fun _ i => p - (intOf i).toNat)
  case atStart => exact ⟨0, 1, Nat.zero_le _, rfl, rfl, rfl⟩
  case round =>
    obtain ⟨k, U, hk, rfl, rfl, HU⟩ := hrel
    by_cases hlt : k < p
    · have hU : U ≤ 1000000000000000000 := by rw [HU.out]; exact pow_le18 k (by omega)
      go_wp2
      go_round
      case rel => exact ⟨k + 1, U * 10, by omega, by go_num, by go_num, by show _ = _; rw [HU.out, Nat.pow_succ]⟩
      case measure => simp [intOf]; omega
    · obtain rfl : p = k := by omega
      have hU : U ≤ 10000000000000000000 := by rw [HU.out]; exact pow_le19 p hp
      have hU1 : 1 ≤ U := by rw [HU.out]; exact Nat.pow_pos (by omega)
      obtain ⟨Q, hQ⟩ : ∃ Q, Q = M / U := ⟨_, rfl⟩
      obtain ⟨F, hF⟩ : ∃ F, F = M % U := ⟨_, rfl⟩
      have hQM : Q ≤ M := by rw [hQ]; exact Nat.div_le_self _ _
      have hFU : F < U := by rw [hF]; exact Nat.mod_lt _ (by omega)
      have hq : (M : Int) / (U : Int) = (Q : Int) := by rw [hQ, Int.natCast_ediv]
      have hf : (M : Int) % (U : Int) = (F : Int) := by rw [hF, Int.natCast_emod]
      obtain ⟨a, ha⟩ : ∃ a, a = Fx.nd Q := ⟨_, rfl⟩
      have hap : a + p ≤ 20 := by rw [ha, hQ, HU.out]; exact Fx.whole_le p M hp (by omega)
      have HQ : Hid (Q = M / U) := hQ
      have HF : Hid (F = M % U) := hF
      have HA : Hid (Fx.nd Q = a) := ha.symm
      clear hQ hF ha
      have hnn := neg_neg_u64 M hM1 hM
      go_wp2_with (first
        | (go_at_call 25; refine (app25 _ Q rfl (by omega) w.heap.size 47 32 1 [.int .u8 45] _ ((minus32 w).alloc _) a HA.out (by omega) (by omega) (by omega) (tab_alloc (tab_alloc htab _) _)).mono ?_; rintro e w1 ⟨rfl, hA1, hgr1⟩; have hb1 := arr_below1 (((Below.refl w.heap.size w).alloc (Nat.le_refl _) _).alloc (by simp) _) (by simp; omega) hgr1 (Nat.le_refl _); clear hgr1)
        | (at_builtin; refine wpList_append_arr _ rfl (.tmp 30) (.tmp 31) 26 rfl 5 i0 Tryd.underlying26 hi hz1 w.heap.size 47 32 _ _ rfl (hA1.alloc _) ⟨_, 0, none⟩ 1 1 [.int .u8 46] rfl rfl (World.news_of_block (heap_alloc_new _ _)) (ints_oneCell .u8 [46]) (by omega) ?_; intro w2 hA2 hgr2; have hb2 := arr_below hb1 (by have := hb1.size; omega) hgr2 (Nat.le_refl _); clear hgr2))
      have hA3 := sofar_zero (pre := [45]) (p := p) (M := M) hA2
      clear hA1 hA2 hb1 
      rw [hf]
      go_loopw [5, 7] (fun u v wr => ∃ j V : Nat, j ≤ p ∧ u = .int .u64 V ∧ Hid (V = 10 ^ (p - j) / 10) ∧ v = .slice (some ⟨w.heap.size, 0, none⟩) (1 + a + 1 + j) 32 ∧ Arr wr w.heap.size 47 32 (1 + a + 1 + j) ((sofar [45] p M Q j).map (Value.int .u8)) ∧ Below w.heap.size w wr) (fun u _ _ => (intOf u).toNat)
      case atStart => exact ⟨0, U / 10, Nat.zero_le _, by go_num, by show _ = _; rw [HU.out, Nat.sub_zero], rfl, hA3, hb2⟩
      case round =>
        obtain ⟨j, V, hj, rfl, HV, rfl, hAr, hbr⟩ := hrel
        clear hA3 hb2
        have hsz := hbr.size
        by_cases hjp : j < p
        · have hV1 : 1 ≤ V := by rw [HV.out]; exact pow_one p j hjp
          obtain ⟨D, hD⟩ : ∃ D, D = F / V := ⟨_, rfl⟩
          have hDF : D ≤ F := by rw [hD]; exact Nat.div_le_self _ _
          have hd : (F : Int) / (V : Int) = (D : Int) := by rw [hD, Int.natCast_ediv]
          have HD : Hid (D = F / V) := hD
          have hVU : V ≤ 10000000000000000000 := by
            rw [HV.out]; exact Nat.le_trans (Nat.div_le_self _ _) (pow_le19 _ (by omega))
          clear hD
          go_wp2_with (at_builtin; refine wpList_append_arr _ rfl (.tmp 42) (.tmp 49) 26 rfl 5 i0 Tryd.underlying26 hi hz1 w.heap.size 47 32 _ _ rfl (hAr.alloc _) ⟨_, 0, none⟩ 1 1 [.int .u8 (48 + (D : Int) % 10)] rfl rfl (World.news_of_block (heap_alloc_new _ _)) (ints_oneCell .u8 [48 + (D : Int) % 10]) (by omega) ?_; intro w3 hA3 hgr3)
          go_roundw
          case rel => exact ⟨j + 1, V / 10, by omega, by go_num, by show _ = _; rw [HV.out]; exact pow_pred p j hjp, rfl, sofar_succ HU.out HF.out HV.out HD.out hjp hA3, arr_below hbr (by omega) hgr3 (Nat.le_refl _)⟩
          case measure => simp [intOf]; omega
        · obtain rfl : j = p := by omega
          have hV0 : V = 0 := by rw [HV.out, Nat.sub_self]
          subst hV0
          have hc := conv_text (by rw [sofar_len _ _ _ _ _ (Nat.le_refl _), HA.out]; simp <;> omega) hAr
          have HX : Hid (sofar [45] j M Q j = Fx.text true j M) := by
            show _ = _
            have e : Q = M / 10 ^ j := by rw [HQ.out, HU.out]
            rw [e, sofar_text]; rfl
          clear hAr
          go_wp2
          go_ret
          rw [← HX.out]
          exact ⟨rfl, hbr⟩

end Go.Proofs.Qxb6601769aDoor
