import Derived.Test.Qxb6601769aDoorFmt
namespace Go.Proofs.Qxb6601769aDoor
open Go.RowKit
set_option linter.unusedVariables false
set_option linter.unusedSimpArgs false

theorem fmt11_pos (M p : Nat) (w : World) (hM : M ≤ 9223372036854775807) (hp : p ≤ 19) (htab : Lib.TabIs Tryd.prog w Tryd.powName .u64 Lib.pow10Tab) :
    Calls Tryd.prog 11 #[.int .i64 M, .int .i64 p] w fun e w' => e = .returned (.string (strOfNums (Fx.text false p M))) ∧ Below w.heap.size w w' := by
  have H : Hid (Calls Tryd.prog 21 #[.int .i64 M, .int .i64 p] w fun e w' => e = .returned (.string (strOfNums (Fx.text false p M))) ∧ Below w.heap.size w w') := fmt21_pos M p w hM hp htab
  clear htab
  go_enter Tryd.func11, Tryd.ntmps11
  go_wp2_with (go_at_call 21; refine H.out.mono ?_; rintro e w1 ⟨rfl, hb⟩)
  go_ret
  exact ⟨rfl, hb⟩
theorem fmt11_neg (M p : Nat) (w : World) (hM1 : 1 ≤ M) (hM : M ≤ 9223372036854775808) (hp : p ≤ 19) (htab : Lib.TabIs Tryd.prog w Tryd.powName .u64 Lib.pow10Tab) :
    Calls Tryd.prog 11 #[.int .i64 (-(M : Int)), .int .i64 p] w fun e w' => e = .returned (.string (strOfNums (Fx.text true p M))) ∧ Below w.heap.size w w' := by
  have H : Hid (Calls Tryd.prog 21 #[.int .i64 (-(M : Int)), .int .i64 p] w fun e w' => e = .returned (.string (strOfNums (Fx.text true p M))) ∧ Below w.heap.size w w') := fmt21_neg M p w hM1 hM hp htab
  clear htab
  go_enter Tryd.func11, Tryd.ntmps11
  go_wp2_with (go_at_call 21; refine H.out.mono ?_; rintro e w1 ⟨rfl, hb⟩)
  go_ret
  exact ⟨rfl, hb⟩

theorem str_at (L : List Int) (i : Nat) (h : i < (strOfNums L).size) (x : Int) (hx : L.getD i 0 = x) (h0 : 0 ≤ x) (h1 : x ≤ 255) : ((strOfNums L)[i].toNat : Int) = x := by
  have hl : i < L.length := by rw [strOfNums_size] at h; exact h
  have e : (strOfNums L)[i] = UInt8.ofNat (L.getD i 0).toNat := by
    have e1 : (L.map fun n => UInt8.ofNat n.toNat)[i]? = some (UInt8.ofNat (L.getD i 0).toNat) := by simp [List.getD, hl]
    have e2 : (L.map fun n => UInt8.ofNat n.toNat).toArray[i]? = some ((strOfNums L)[i]) := Array.getElem?_eq_getElem _
    rw [List.getElem?_toArray, e1] at e2
    exact (Option.some.inj e2).symm
  rw [e, hx]
  simp only [UInt8.toNat_ofNat']
  omega

/-- What the reader needs to know of the text: b signs, a whole digits (of q), a dot, p digits (of m). -/
structure Txt (s : ByteArray) (b a p q m : Nat) : Prop where
  size : s.size = b + a + 1 + p
  sign : ∀ h : 0 < s.size, b = 1 → (s[0].toNat : Int) = 45
  whole : ∀ j (h : b + j < s.size), j < a → (s[b + j].toNat : Int) = 48 + ((q / 10 ^ (a - 1 - j) % 10 : Nat) : Int)
  dot : ∀ h : b + a < s.size, (s[b + a].toNat : Int) = 46
  frac : ∀ j (h : b + a + 1 + j < s.size), j < p → (s[b + a + 1 + j].toNat : Int) = 48 + ((m / 10 ^ (p - 1 - j) % 10 : Nat) : Int)

theorem getD_app (A B : List Int) (i j : Nat) (h : A.length = i) : (A ++ B).getD (i + j) 0 = B.getD j 0 := by
  subst h; simp [List.getD, List.getElem?_append_right]
theorem getD_app_left (A B : List Int) (j : Nat) (h : j < A.length) : (A ++ B).getD j 0 = A.getD j 0 := by
  simp [List.getD, List.getElem?_append_left h]

theorem txt_of (pre : List Int) (b : Nat) (hb : pre.length = b) (hpre : b = 1 → pre.getD 0 0 = 45) (p m : Nat) : Txt (strOfNums (pre ++ Fx.body p m)) b (Fx.nd (m / 10 ^ p)) p (m / 10 ^ p) m := by
  have hsz : (strOfNums (pre ++ Fx.body p m)).size = b + Fx.nd (m / 10 ^ p) + 1 + p := by
    rw [strOfNums_size, List.length_append, hb, Fx.body_len]; omega
  refine ⟨hsz, fun h h1 => ?_, fun j h hj => ?_, fun h => ?_, fun j h hj => ?_⟩
  · refine str_at _ 0 h 45 ?_ (by omega) (by omega)
    rw [getD_app_left _ _ _ (by omega)]; exact hpre h1
  · refine str_at _ (b + j) h _ ?_ (by omega) (by omega)
    rw [getD_app _ _ _ _ hb, Fx.body, getD_app_left _ _ _ (by rw [Fx.W_len]; exact hj), Fx.W_getD _ _ _ hj]
  · refine str_at _ (b + Fx.nd (m / 10 ^ p)) h 46 ?_ (by omega) (by omega)
    rw [getD_app _ _ _ _ hb, Fx.body]
    have := getD_app (Fx.W (Fx.nd (m / 10 ^ p)) (m / 10 ^ p)) (46 :: Fx.W p m) _ 0 (Fx.W_len _ _)
    rw [Nat.add_zero] at this
    rw [this]; rfl
  · refine str_at _ (b + Fx.nd (m / 10 ^ p) + 1 + j) h _ ?_ (by omega) (by omega)
    rw [show b + Fx.nd (m / 10 ^ p) + 1 + j = b + (Fx.nd (m / 10 ^ p) + (1 + j)) by omega, getD_app _ _ _ _ hb, Fx.body, getD_app _ _ _ _ (Fx.W_len _ _)]
    rw [show 1 + j = j + 1 by omega, List.getD_cons_succ, Fx.W_getD _ _ _ hj]

/-- Reading one digit more. -/
theorem step (q a j : Nat) (h : j < a) : q / 10 ^ (a - j) * 10 + q / 10 ^ (a - 1 - j) % 10 = q / 10 ^ (a - (j + 1)) := by
  have e : 10 ^ (a - j) = 10 ^ (a - (j + 1)) * 10 := by rw [← Nat.pow_succ]; congr 1; omega
  rw [e, ← Nat.div_div_eq_div_mul, show a - 1 - j = a - (j + 1) by omega]
  omega

set_option maxRecDepth 100000 in
set_option maxHeartbeats 2000000 in
theorem law7_pos (M p : Nat) (w : World) (hM : M ≤ 9223372036854775807) (hp : p ≤ 19) (htab : Lib.TabIs Tryd.prog w Tryd.powName .u64 Lib.pow10Tab) :
    Calls Tryd.prog 7 #[.int .i64 M, .int .i64 p] w fun e w' => e = .returned (.bool true) ∧ Below w.heap.size w w' := by
  obtain ⟨s, a, q, ha1, hap, hlead, hqm, HT, HF⟩ : ∃ (s : ByteArray) (a q : Nat), 1 ≤ a ∧ a + p ≤ 20 ∧ Hid (1 < a → 1 ≤ q / 10 ^ (a - 1) % 10) ∧ Hid (q = M / 10 ^ p ∧ q / 10 ^ a = 0) ∧ Txt s 0 a p q M ∧ Hid (Calls Tryd.prog 11 #[.int .i64 M, .int .i64 p] w fun e w' => e = .returned (.string s) ∧ Below w.heap.size w w') :=
    ⟨_, _, _, Fx.nd_pos _, Fx.whole_le p M hp (by omega), fun h => Fx.nd_lead _ h, ⟨rfl, Nat.div_eq_of_lt (Fx.lt_nd _)⟩, txt_of [] 0 rfl (fun h => by omega) p M, fmt11_pos M p w hM hp htab⟩
  have hsz : s.size ≤ 0 + a + 1 + p := by rw [HT.size]; exact Nat.le_refl _
  have hsz2 : 0 + a + 1 + p ≤ s.size := by rw [HT.size]; exact Nat.le_refl _
  have hqM : q ≤ M := by rw [hqm.out.1]; exact Nat.div_le_self _ _
  have h0 : 0 < s.size := by omega
  clear htab
  obtain ⟨d0, hd0, c0⟩ : ∃ d0 : Nat, d0 ≤ 9 ∧ (s[0].toNat : Int) = 48 + (d0 : Int) := ⟨q / 10 ^ (a - 1 - 0) % 10, by omega, (by have := HT.whole 0 (by omega) (by omega); simpa only [Nat.zero_add] using this)⟩
  go_enter Tryd.func7, Tryd.ntmps7
  go_wp2_with (go_at_call 11; refine HF.out.mono ?_; rintro e w1 ⟨rfl, hb⟩)
  clear c0
  go_loop [6, 9] (fun i v => ∃ j V : Nat, j ≤ a ∧ i = .int .i64 (↑(j)) ∧ v = .int .u64 V ∧ Hid (V = q / 10 ^ (a - j))) (fun i _ => s.size - (intOf i).toNat)
  case atStart => exact ⟨0, 0, Nat.zero_le _, rfl, rfl, by show _ = _; rw [Nat.sub_zero, hqm.out.2]⟩
  case round =>
    obtain ⟨j, V, hj, rfl, rfl, HV⟩ := hrel
    by_cases hlt : j < a
    · have hin : j < s.size := by omega
      obtain ⟨d, hd⟩ : ∃ d, d = q / 10 ^ (a - 1 - j) % 10 := ⟨_, rfl⟩
      have c1 : (s[j].toNat : Int) = 48 + (d : Int) := by rw [hd]; exact (by have := HT.whole j (by omega) hlt; simpa only [Nat.zero_add] using this)
      have hd9 : d ≤ 9 := by omega
      have hst := step q a j hlt
      rw [← HV.out, ← hd] at hst
      have HS : Hid (V * 10 + d = q / 10 ^ (a - (j + 1))) := hst
      have hVb : V * 10 + d ≤ 9223372036854775808 := by
        rw [hst]; exact Nat.le_trans (Nat.div_le_self _ _) (by omega)
      clear hst hd
      go_wp2
      go_round
      case rel => exact ⟨j + 1, by omega, by omega, V * 10 + d, by omega, HS⟩
      case measure => simp [intOf]; omega
    · obtain rfl : a = j := by omega
      have hin : a < s.size := by omega
      have hV : V = q := by rw [HV.out, Nat.sub_self]; simp
      have c1 : (s[a].toNat : Int) = 46 := (by have := HT.dot (by omega); simpa only [Nat.zero_add] using this)
      have HVQ : Hid (V = M / 10 ^ p) := by show _ = _; rw [hV, hqm.out.1]
      have hVM : V ≤ M := by omega
      clear hV HV hlt hj
      have hways : (a ≤ 1) ∨ (1 < a ∧ ∃ d0 : Nat, 1 ≤ d0 ∧ d0 ≤ 9 ∧ (s[0].toNat : Int) = 48 + (d0 : Int)) := by
        by_cases h1 : a ≤ 1
        · exact Or.inl h1
        · refine Or.inr ⟨by omega, q / 10 ^ (a - 1) % 10, hlead.out (by omega), by omega, ?_⟩
          have := HT.whole 0 (by omega) (by omega)
          simpa only [Nat.zero_add, Nat.add_zero, Nat.sub_zero] using this
      rcases hways with ha | ⟨ha, d0, hd1, hd2, c0⟩
      rotate_left
      have cb : (48 + (d0 : Int) == 48) = false := by simp; omega
      rotate_left
      all_goals
        go_wp2
        go_loop [6, 9] (fun i v => ∃ j U : Nat, j ≤ p ∧ i = .int .i64 (↑(a + 1 + j)) ∧ v = .int .u64 U ∧ Hid (U = M / 10 ^ (p - j))) (fun i _ => s.size - (intOf i).toNat)
        case atStart => exact ⟨0, V, Nat.zero_le _, by go_num, rfl, by show _ = _; rw [Nat.sub_zero]; exact HVQ.out⟩
        case round =>
          obtain ⟨j, U, hj, rfl, rfl, HU⟩ := hrel
          clear c1
          by_cases hlt : j < p
          · have hin : a + 1 + j < s.size := by omega
            obtain ⟨d, hd⟩ : ∃ d, d = M / 10 ^ (p - 1 - j) % 10 := ⟨_, rfl⟩
            have c2 : (s[a + 1 + j].toNat : Int) = 48 + (d : Int) := by rw [hd]; exact (by have := HT.frac j (by omega) hlt; simpa only [Nat.zero_add] using this)
            have hd9 : d ≤ 9 := by omega
            have hst := step M p j hlt
            rw [← HU.out, ← hd] at hst
            have HS : Hid (U * 10 + d = M / 10 ^ (p - (j + 1))) := hst
            have hUb : U * 10 + d ≤ 9223372036854775808 := by
              rw [hst]; exact Nat.le_trans (Nat.div_le_self _ _) (by omega)
            clear hst hd
            go_wp2
            go_round
            case rel => exact ⟨j + 1, U * 10 + d, by omega, by go_num, by go_num, HS⟩
            case measure => simp [intOf]; omega
          · obtain rfl : p = j := by omega
            have hU : U = M := by rw [HU.out, Nat.sub_self]; simp
            subst hU
            clear hlt hj


            go_wp2
            go_ret
            exact ⟨rfl, hb⟩

set_option maxRecDepth 100000 in
set_option maxHeartbeats 2000000 in
theorem law7_neg (M p : Nat) (w : World) (hM1 : 1 ≤ M) (hM : M ≤ 9223372036854775808) (hp : p ≤ 19) (htab : Lib.TabIs Tryd.prog w Tryd.powName .u64 Lib.pow10Tab) :
    Calls Tryd.prog 7 #[.int .i64 (-(M : Int)), .int .i64 p] w fun e w' => e = .returned (.bool true) ∧ Below w.heap.size w w' := by
  obtain ⟨s, a, q, ha1, hap, hlead, hqm, HT, HF⟩ : ∃ (s : ByteArray) (a q : Nat), 1 ≤ a ∧ a + p ≤ 20 ∧ Hid (1 < a → 1 ≤ q / 10 ^ (a - 1) % 10) ∧ Hid (q = M / 10 ^ p ∧ q / 10 ^ a = 0) ∧ Txt s 1 a p q M ∧ Hid (Calls Tryd.prog 11 #[.int .i64 (-(M : Int)), .int .i64 p] w fun e w' => e = .returned (.string s) ∧ Below w.heap.size w w') :=
    ⟨_, _, _, Fx.nd_pos _, Fx.whole_le p M hp (by omega), fun h => Fx.nd_lead _ h, ⟨rfl, Nat.div_eq_of_lt (Fx.lt_nd _)⟩, txt_of [45] 1 rfl (fun _ => rfl) p M, fmt11_neg M p w hM1 hM hp htab⟩
  have hsz : s.size ≤ 1 + a + 1 + p := by rw [HT.size]; exact Nat.le_refl _
  have hsz2 : 1 + a + 1 + p ≤ s.size := by rw [HT.size]; exact Nat.le_refl _
  have hqM : q ≤ M := by rw [hqm.out.1]; exact Nat.div_le_self _ _
  have h0 : 0 < s.size := by omega
  clear htab
  have c0 := HT.sign h0 rfl
  go_enter Tryd.func7, Tryd.ntmps7
  go_wp2_with (go_at_call 11; refine HF.out.mono ?_; rintro e w1 ⟨rfl, hb⟩)
  clear c0
  go_loop [6, 9] (fun i v => ∃ j V : Nat, j ≤ a ∧ i = .int .i64 (↑(1 + j)) ∧ v = .int .u64 V ∧ Hid (V = q / 10 ^ (a - j))) (fun i _ => s.size - (intOf i).toNat)
  case atStart => exact ⟨0, 0, Nat.zero_le _, rfl, rfl, by show _ = _; rw [Nat.sub_zero, hqm.out.2]⟩
  case round =>
    obtain ⟨j, V, hj, rfl, rfl, HV⟩ := hrel
    by_cases hlt : j < a
    · have hin : 1 + j < s.size := by omega
      obtain ⟨d, hd⟩ : ∃ d, d = q / 10 ^ (a - 1 - j) % 10 := ⟨_, rfl⟩
      have c1 : (s[1 + j].toNat : Int) = 48 + (d : Int) := by rw [hd]; exact HT.whole j (by omega) hlt
      have hd9 : d ≤ 9 := by omega
      have hst := step q a j hlt
      rw [← HV.out, ← hd] at hst
      have HS : Hid (V * 10 + d = q / 10 ^ (a - (j + 1))) := hst
      have hVb : V * 10 + d ≤ 9223372036854775808 := by
        rw [hst]; exact Nat.le_trans (Nat.div_le_self _ _) (by omega)
      clear hst hd
      go_wp2
      go_round
      case rel => exact ⟨j + 1, V * 10 + d, by omega, by go_num, by go_num, HS⟩
      case measure => simp [intOf]; omega
    · obtain rfl : a = j := by omega
      have hin : 1 + a < s.size := by omega
      have hV : V = q := by rw [HV.out, Nat.sub_self]; simp
      have c1 : (s[1 + a].toNat : Int) = 46 := HT.dot (by omega)
      have HVQ : Hid (V = M / 10 ^ p) := by show _ = _; rw [hV, hqm.out.1]
      have hVM : V ≤ M := by omega
      clear hV HV hlt hj
      have hways : (a ≤ 1) ∨ (1 < a ∧ ∃ d0 : Nat, 1 ≤ d0 ∧ d0 ≤ 9 ∧ (s[1].toNat : Int) = 48 + (d0 : Int)) := by
        by_cases h1 : a ≤ 1
        · exact Or.inl h1
        · refine Or.inr ⟨by omega, q / 10 ^ (a - 1) % 10, hlead.out (by omega), by omega, ?_⟩
          have := HT.whole 0 (by omega) (by omega)
          simpa only [Nat.zero_add, Nat.add_zero, Nat.sub_zero] using this
      rcases hways with ha | ⟨ha, d0, hd1, hd2, c0⟩
      rotate_left
      have cb : (48 + (d0 : Int) == 48) = false := by simp; omega
      rotate_left
      all_goals
        go_wp2
        go_loop [6, 9] (fun i v => ∃ j U : Nat, j ≤ p ∧ i = .int .i64 (↑(1 + a + 1 + j)) ∧ v = .int .u64 U ∧ Hid (U = M / 10 ^ (p - j))) (fun i _ => s.size - (intOf i).toNat)
        case atStart => exact ⟨0, V, Nat.zero_le _, by go_num, rfl, by show _ = _; rw [Nat.sub_zero]; exact HVQ.out⟩
        case round =>
          obtain ⟨j, U, hj, rfl, rfl, HU⟩ := hrel
          clear c1
          by_cases hlt : j < p
          · have hin : 1 + a + 1 + j < s.size := by omega
            obtain ⟨d, hd⟩ : ∃ d, d = M / 10 ^ (p - 1 - j) % 10 := ⟨_, rfl⟩
            have c2 : (s[1 + a + 1 + j].toNat : Int) = 48 + (d : Int) := by rw [hd]; exact HT.frac j (by omega) hlt
            have hd9 : d ≤ 9 := by omega
            have hst := step M p j hlt
            rw [← HU.out, ← hd] at hst
            have HS : Hid (U * 10 + d = M / 10 ^ (p - (j + 1))) := hst
            have hUb : U * 10 + d ≤ 9223372036854775808 := by
              rw [hst]; exact Nat.le_trans (Nat.div_le_self _ _) (by omega)
            clear hst hd
            go_wp2
            go_round
            case rel => exact ⟨j + 1, U * 10 + d, by omega, by go_num, by go_num, HS⟩
            case measure => simp [intOf]; omega
          · obtain rfl : p = j := by omega
            have hU : U = M := by rw [HU.out, Nat.sub_self]; simp
            subst hU
            clear hlt hj
            have z0 : ((U : Int) == 0) = false := by simp; omega
            have z1 : (-(U : Int) == -((U : Int) - 1) - 1) = true := by simp; omega
            go_wp2
            go_ret
            exact ⟨rfl, hb⟩

theorem law7_out (n p : Int) (w : World) (hp : p < 0 ∨ 19 < p) :
    Calls Tryd.prog 7 #[.int .i64 n, .int .i64 p] w fun e w' => e = .returned (.bool true) ∧ Below w.heap.size w w' := by
  rcases hp with hp | hp
  · have z : decide (p < 0) = true := by simpa using hp
    go_enter Tryd.func7, Tryd.ntmps7
    go_wp2
    go_ret
    exact ⟨rfl, Below.refl _ _⟩
  · have z : decide (p < 0) = false := by simp; omega
    have z2 : decide (19 < p) = true := by simpa using hp
    go_enter Tryd.func7, Tryd.ntmps7
    go_wp2
    go_ret
    exact ⟨rfl, Below.refl _ _⟩

theorem fnFormatFixedParsesBack_walk (n p : Int) (w : World) (h0 : -9223372036854775808 ≤ n) (h1 : n ≤ 9223372036854775807) (hp0 : -9223372036854775808 ≤ p) (hp1 : p ≤ 9223372036854775807) (htab : Lib.TabIs Tryd.prog w Tryd.powName .u64 Lib.pow10Tab) :
    Calls Tryd.prog 7 #[.int .i64 n, .int .i64 p] w fun e w' => e = .returned (.bool true) ∧ Below w.heap.size w w' := by
  by_cases hp : p < 0 ∨ 19 < p
  · exact law7_out n p w hp
  · obtain ⟨P, rfl⟩ := Int.eq_ofNat_of_zero_le (show 0 ≤ p by omega)
    by_cases hn : 0 ≤ n
    · obtain ⟨M, rfl⟩ := Int.eq_ofNat_of_zero_le hn
      exact law7_pos M P w (by omega) (by omega) htab
    · obtain ⟨M, hM⟩ := Int.eq_ofNat_of_zero_le (show 0 ≤ -n by omega)
      obtain rfl : n = -(M : Int) := by omega
      exact law7_neg M P w (by omega) (by omega) (by omega) htab

end Go.Proofs.Qxb6601769aDoor
