import Derived.Test.Qxb6601887aHexA
namespace Go.Proofs.Qxb6601887a
open Go.RowKit
set_option linter.unusedVariables false
set_option linter.unusedSimpArgs false

theorem set_hx {es : List Int} {m : Nat} {x : Int} (h : ∀ j, j < m → Hx (es.getD j 0)) (hm : m < es.length) (hx : Hx x) : ∀ j, j < m + 1 → Hx ((es.set m x).getD j 0) := fun j hj => by
  by_cases he : j = m
  · subst he
    simp only [List.getD, List.getElem?_set_self hm, Option.getD_some]
    exact hx
  · simp only [List.getD, List.getElem?_set_ne (Ne.symm he)]
    exact h j (by omega)

theorem cases16 (k : Nat) (h : k < 16) : k = 0 ∨ k = 1 ∨ k = 2 ∨ k = 3 ∨ k = 4 ∨ k = 5 ∨ k = 6 ∨ k = 7 ∨ k = 8 ∨ k = 9 ∨ k = 10 ∨ k = 11 ∨ k = 12 ∨ k = 13 ∨ k = 14 ∨ k = 15 := by omega

theorem bs_of_hx {w : World} {H m : Nat} {B : Nat} {es : List Int} (h : w.ownsRow B 5 1 (.slice (some ⟨H, 0, none⟩) m m) m (es.map (Value.int .u8))) (hx : ∀ j, j < m → Hx (es.getD j 0)) : Bs w (some ⟨H, 0, none⟩) m es := by
  have hl : es.length = m := by have := h.1; simpa using this
  refine ⟨hl, fun j => ?_, fun _ => ⟨H, 0, rfl, fun j hj => by rw [Nat.zero_add]; exact own_cells h j hj⟩⟩
  by_cases hj : j < m
  · have := hx j hj
    unfold Hx at this
    omega
  · have : es.getD j 0 = 0 := by simp [List.getD, List.getElem?_eq_none (show es.length ≤ j by omega)]
    omega

theorem Hid_mk {P : Prop} (h : P) : Hid P := h

theorem digit_low (k : Nat) (h : k < 16) (h' : k < (⟨#[48, 49, 50, 51, 52, 53, 54, 55, 56, 57, 97, 98, 99, 100, 101, 102]⟩ : ByteArray).size) : Hx (((⟨#[48, 49, 50, 51, 52, 53, 54, 55, 56, 57, 97, 98, 99, 100, 101, 102]⟩ : ByteArray)[k]'h').toNat : Int) := by
  have e : (((⟨#[48, 49, 50, 51, 52, 53, 54, 55, 56, 57, 97, 98, 99, 100, 101, 102]⟩ : ByteArray)[k]'h').toNat : Int) = if k < 10 then 48 + (k : Int) else 87 + (k : Int) := by
    rcases cases16 k h with rfl | rfl | rfl | rfl | rfl | rfl | rfl | rfl | rfl | rfl | rfl | rfl | rfl | rfl | rfl | rfl <;> rfl
  rw [e]
  unfold Hx
  split <;> omega

set_option maxRecDepth 100000 in
set_option maxHeartbeats 1000000 in
theorem law5_low (a : Option Addr) (n c : Nat) (zs : List Int) (w : World) (hS : Bs w a n zs) (hsm : n ≤ 524288) (hnil : a = none → n = 0 ∧ c = 0) :
    Calls Try.prog 5 #[.slice a n c, .bool false] w fun e w' => e = .returned (.bool true) ∧ Below w.heap.size w w' := by
  obtain ⟨i0, hi, hz0, hz1, hz2⟩ := info_parts info5
  have hm1 : n ≤ 1048576 := by omega
  have hm2 : n ≤ maxLen := by unfold maxLen; omega
  go_enter Try.func5, Try.ntmps5
  go_wp2_with (go_at_call 11; refine (zb11 _ _ _ _ _ true (by simpa using hm1) hm2).mono ?_; rintro e w1 ⟨rfl, hw⟩; subst hw; go_wp2_with (go_at_call 7; refine (clone7 _ _ _ _ _ hS hm1 hnil).mono ?_; rintro e w1 ⟨a1, c1, rfl, hS1, hb1⟩; have hsz1 := hb1.size; go_wp2_with (at_make; refine wpList_make_full _ rfl (.tmp 21) (.tmp 21) 22 rfl w.heap.size 5 i0 (.int .u8 0) 1 Try.underlying22 hi hz0 hz1 .i64 .i64 _ _ (2 * n) rfl rfl (by go_num) (by go_num) (by rw [hz2]; omega) (by unfold maxLen; omega) hsz1 ?_; intro w2 hown hgr; have hb2 := (Below.refl w1.heap.size w1).grown hgr (Nat.le_refl _) (by intro k hk; cases hk); rw [made_zero] at hown; clear hgr)))
  clear hS hnil
  have HB : Hid (∀ j, 0 ≤ zs.getD j 0 ∧ zs.getD j 0 ≤ 255) := hS1.bytes
  have hform := hS1.form
  clear hS1
  go_loopw [7] (fun i wr => ∃ k : Nat, k ≤ n ∧ i = .int .i64 k ∧ ∃ es : List Int, wr.ownsRow w.heap.size 5 1 (.slice (some ⟨w1.heap.size, 0, none⟩) (2 * n) (2 * n)) (2 * n) (es.map (Value.int .u8)) ∧ Hid (∀ j, j < 2 * k → Hx (es.getD j 0)) ∧ Below w1.heap.size w1 wr) (fun i _ => n - (intOf i).toNat)
  case atStart => exact ⟨0, Nat.zero_le _, rfl, _, hown, (fun j hj => by omega), hb2⟩
  case round =>
    clear hown hb2
    obtain ⟨k, hk, rfl, es, hownr, HH, hbr⟩ := hrel
    by_cases hlt : k < n
    · rcases hform with h0 | ⟨h0, b, o, rfl, HC⟩
      · exfalso; omega
      · have c1 : wr.cell? ⟨b, o + k, none⟩ = some (.int .u8 (zs.getD k 0)) := (hbr.cell (World.block_lt_of_cell? w1 _ (HC.out k hlt))).trans (HC.out k hlt)
        have hzb := HB.out k
        generalize zs.getD k 0 = z at c1 hzb
        obtain ⟨hzb0, hzb1⟩ := hzb
        have g1 : (z / 16).toNat < 16 := by omega
        have g2 : (z % 16).toNat < 16 := by omega
        have e1 : (z / 16).toNat < (⟨#[48, 49, 50, 51, 52, 53, 54, 55, 56, 57, 97, 98, 99, 100, 101, 102]⟩ : ByteArray).size := g1
        have e2 : (z % 16).toNat < (⟨#[48, 49, 50, 51, 52, 53, 54, 55, 56, 57, 97, 98, 99, 100, 101, 102]⟩ : ByteArray).size := g2
        have X1 : Hid (Hx (((⟨#[48, 49, 50, 51, 52, 53, 54, 55, 56, 57, 97, 98, 99, 100, 101, 102]⟩ : ByteArray)[(z / 16).toNat]'e1).toNat : Int)) := digit_low _ g1 e1
        have X2 : Hid (Hx (((⟨#[48, 49, 50, 51, 52, 53, 54, 55, 56, 57, 97, 98, 99, 100, 101, 102]⟩ : ByteArray)[(z % 16).toNat]'e2).toNat : Int)) := digit_low _ g2 e2
        have hl : es.length = 2 * n := by have := hownr.1; simpa using this
        have HL : Hid (es.length = 2 * n) := hl
        have c2 := own_cells hownr (2 * k) (by omega)
        have c3 := hownr.frozenAt (2 * k)
        have S1 := (hownr.stored (2 * k) (.int .u8 (((⟨#[48, 49, 50, 51, 52, 53, 54, 55, 56, 57, 97, 98, 99, 100, 101, 102]⟩ : ByteArray)[(z / 16).toNat]'e1).toNat : Int))).1
        rw [← List.map_set] at S1
        have c4 := own_cells S1 (2 * k + 1) (by omega)
        have c5 := S1.frozenAt (2 * k + 1)
        have S2 := (S1.stored (2 * k + 1) (.int .u8 (((⟨#[48, 49, 50, 51, 52, 53, 54, 55, 56, 57, 97, 98, 99, 100, 101, 102]⟩ : ByteArray)[(z % 16).toNat]'e2).toNat : Int))).1
        rw [← List.map_set] at S2
        generalize es.getD (2 * k) 0 = old at c2
        generalize (es.set (2 * k) (((⟨#[48, 49, 50, 51, 52, 53, 54, 55, 56, 57, 97, 98, 99, 100, 101, 102]⟩ : ByteArray)[(z / 16).toNat]'e1).toNat : Int)).getD (2 * k + 1) 0 = old2 at c4
        have HX : Hid (∀ j, j < 2 * (k + 1) → Hx (((es.set (2 * k) (((⟨#[48, 49, 50, 51, 52, 53, 54, 55, 56, 57, 97, 98, 99, 100, 101, 102]⟩ : ByteArray)[(z / 16).toNat]'e1).toNat : Int)).set (2 * k + 1) (((⟨#[48, 49, 50, 51, 52, 53, 54, 55, 56, 57, 97, 98, 99, 100, 101, 102]⟩ : ByteArray)[(z % 16).toNat]'e2).toNat : Int)).getD j 0)) := fun j hj => set_hx (m := 2 * k + 1) (set_hx (m := 2 * k) HH.out (by omega) X1.out) (by rw [List.length_set]; omega) X2.out j (by omega)
        have HS2 := Hid_mk S2
        clear S1 S2 hownr hl
        go_wp2
        go_roundw
        case rel => exact ⟨k + 1, by omega, by go_num, _, HS2.out, HX, (hbr.setCell (Nat.le_refl _) _).setCell (Nat.le_refl _) _⟩
        case measure => simp [intOf]; omega
    · obtain rfl : n = k := by omega
      have HB2 : Hid (Bs wr (some ⟨w1.heap.size, 0, none⟩) (2 * n) es) := bs_of_hx hownr HH.out
      clear hownr
      go_wp2_with (go_at_call 9; refine (hex9_yes _ _ _ _ _ HB2.out (by omega) HH.out).mono ?_; rintro e w3 ⟨rfl, hw⟩; subst hw)
      go_ret
      exact ⟨rfl, hb1.trans (hbr.mono hsz1)⟩

theorem digit_up (k : Nat) (h : k < 16) (h' : k < (⟨#[48, 49, 50, 51, 52, 53, 54, 55, 56, 57, 65, 66, 67, 68, 69, 70]⟩ : ByteArray).size) : Hx (((⟨#[48, 49, 50, 51, 52, 53, 54, 55, 56, 57, 65, 66, 67, 68, 69, 70]⟩ : ByteArray)[k]'h').toNat : Int) := by
  have e : (((⟨#[48, 49, 50, 51, 52, 53, 54, 55, 56, 57, 65, 66, 67, 68, 69, 70]⟩ : ByteArray)[k]'h').toNat : Int) = if k < 10 then 48 + (k : Int) else 55 + (k : Int) := by
    rcases cases16 k h with rfl | rfl | rfl | rfl | rfl | rfl | rfl | rfl | rfl | rfl | rfl | rfl | rfl | rfl | rfl | rfl <;> rfl
  rw [e]
  unfold Hx
  split <;> omega

set_option maxRecDepth 100000 in
set_option maxHeartbeats 1000000 in
theorem law5_up (a : Option Addr) (n c : Nat) (zs : List Int) (w : World) (hS : Bs w a n zs) (hsm : n ≤ 524288) (hnil : a = none → n = 0 ∧ c = 0) :
    Calls Try.prog 5 #[.slice a n c, .bool true] w fun e w' => e = .returned (.bool true) ∧ Below w.heap.size w w' := by
  obtain ⟨i0, hi, hz0, hz1, hz2⟩ := info_parts info5
  have hm1 : n ≤ 1048576 := by omega
  have hm2 : n ≤ maxLen := by unfold maxLen; omega
  go_enter Try.func5, Try.ntmps5
  go_wp2_with (go_at_call 11; refine (zb11 _ _ _ _ _ true (by simpa using hm1) hm2).mono ?_; rintro e w1 ⟨rfl, hw⟩; subst hw; go_wp2_with (go_at_call 7; refine (clone7 _ _ _ _ _ hS hm1 hnil).mono ?_; rintro e w1 ⟨a1, c1, rfl, hS1, hb1⟩; have hsz1 := hb1.size; go_wp2_with (at_make; refine wpList_make_full _ rfl (.tmp 21) (.tmp 21) 22 rfl w.heap.size 5 i0 (.int .u8 0) 1 Try.underlying22 hi hz0 hz1 .i64 .i64 _ _ (2 * n) rfl rfl (by go_num) (by go_num) (by rw [hz2]; omega) (by unfold maxLen; omega) hsz1 ?_; intro w2 hown hgr; have hb2 := (Below.refl w1.heap.size w1).grown hgr (Nat.le_refl _) (by intro k hk; cases hk); rw [made_zero] at hown; clear hgr)))
  clear hS hnil
  have HB : Hid (∀ j, 0 ≤ zs.getD j 0 ∧ zs.getD j 0 ≤ 255) := hS1.bytes
  have hform := hS1.form
  clear hS1
  go_loopw [7] (fun i wr => ∃ k : Nat, k ≤ n ∧ i = .int .i64 k ∧ ∃ es : List Int, wr.ownsRow w.heap.size 5 1 (.slice (some ⟨w1.heap.size, 0, none⟩) (2 * n) (2 * n)) (2 * n) (es.map (Value.int .u8)) ∧ Hid (∀ j, j < 2 * k → Hx (es.getD j 0)) ∧ Below w1.heap.size w1 wr) (fun i _ => n - (intOf i).toNat)
  case atStart => exact ⟨0, Nat.zero_le _, rfl, _, hown, (fun j hj => by omega), hb2⟩
  case round =>
    clear hown hb2
    obtain ⟨k, hk, rfl, es, hownr, HH, hbr⟩ := hrel
    by_cases hlt : k < n
    · rcases hform with h0 | ⟨h0, b, o, rfl, HC⟩
      · exfalso; omega
      · have c1 : wr.cell? ⟨b, o + k, none⟩ = some (.int .u8 (zs.getD k 0)) := (hbr.cell (World.block_lt_of_cell? w1 _ (HC.out k hlt))).trans (HC.out k hlt)
        have hzb := HB.out k
        generalize zs.getD k 0 = z at c1 hzb
        obtain ⟨hzb0, hzb1⟩ := hzb
        have g1 : (z / 16).toNat < 16 := by omega
        have g2 : (z % 16).toNat < 16 := by omega
        have e1 : (z / 16).toNat < (⟨#[48, 49, 50, 51, 52, 53, 54, 55, 56, 57, 65, 66, 67, 68, 69, 70]⟩ : ByteArray).size := g1
        have e2 : (z % 16).toNat < (⟨#[48, 49, 50, 51, 52, 53, 54, 55, 56, 57, 65, 66, 67, 68, 69, 70]⟩ : ByteArray).size := g2
        have X1 : Hid (Hx (((⟨#[48, 49, 50, 51, 52, 53, 54, 55, 56, 57, 65, 66, 67, 68, 69, 70]⟩ : ByteArray)[(z / 16).toNat]'e1).toNat : Int)) := digit_up _ g1 e1
        have X2 : Hid (Hx (((⟨#[48, 49, 50, 51, 52, 53, 54, 55, 56, 57, 65, 66, 67, 68, 69, 70]⟩ : ByteArray)[(z % 16).toNat]'e2).toNat : Int)) := digit_up _ g2 e2
        have hl : es.length = 2 * n := by have := hownr.1; simpa using this
        have HL : Hid (es.length = 2 * n) := hl
        have c2 := own_cells hownr (2 * k) (by omega)
        have c3 := hownr.frozenAt (2 * k)
        have S1 := (hownr.stored (2 * k) (.int .u8 (((⟨#[48, 49, 50, 51, 52, 53, 54, 55, 56, 57, 65, 66, 67, 68, 69, 70]⟩ : ByteArray)[(z / 16).toNat]'e1).toNat : Int))).1
        rw [← List.map_set] at S1
        have c4 := own_cells S1 (2 * k + 1) (by omega)
        have c5 := S1.frozenAt (2 * k + 1)
        have S2 := (S1.stored (2 * k + 1) (.int .u8 (((⟨#[48, 49, 50, 51, 52, 53, 54, 55, 56, 57, 65, 66, 67, 68, 69, 70]⟩ : ByteArray)[(z % 16).toNat]'e2).toNat : Int))).1
        rw [← List.map_set] at S2
        generalize es.getD (2 * k) 0 = old at c2
        generalize (es.set (2 * k) (((⟨#[48, 49, 50, 51, 52, 53, 54, 55, 56, 57, 65, 66, 67, 68, 69, 70]⟩ : ByteArray)[(z / 16).toNat]'e1).toNat : Int)).getD (2 * k + 1) 0 = old2 at c4
        have HX : Hid (∀ j, j < 2 * (k + 1) → Hx (((es.set (2 * k) (((⟨#[48, 49, 50, 51, 52, 53, 54, 55, 56, 57, 65, 66, 67, 68, 69, 70]⟩ : ByteArray)[(z / 16).toNat]'e1).toNat : Int)).set (2 * k + 1) (((⟨#[48, 49, 50, 51, 52, 53, 54, 55, 56, 57, 65, 66, 67, 68, 69, 70]⟩ : ByteArray)[(z % 16).toNat]'e2).toNat : Int)).getD j 0)) := fun j hj => set_hx (m := 2 * k + 1) (set_hx (m := 2 * k) HH.out (by omega) X1.out) (by rw [List.length_set]; omega) X2.out j (by omega)
        have HS2 := Hid_mk S2
        clear S1 S2 hownr hl
        go_wp2
        go_roundw
        case rel => exact ⟨k + 1, by omega, by go_num, _, HS2.out, HX, (hbr.setCell (Nat.le_refl _) _).setCell (Nat.le_refl _) _⟩
        case measure => simp [intOf]; omega
    · obtain rfl : n = k := by omega
      have HB2 : Hid (Bs wr (some ⟨w1.heap.size, 0, none⟩) (2 * n) es) := bs_of_hx hownr HH.out
      clear hownr
      go_wp2_with (go_at_call 9; refine (hex9_yes _ _ _ _ _ HB2.out (by omega) HH.out).mono ?_; rintro e w3 ⟨rfl, hw⟩; subst hw)
      go_ret
      exact ⟨rfl, hb1.trans (hbr.mono hsz1)⟩

set_option maxHeartbeats 1000000 in
theorem law5 (a : Option Addr) (n c : Nat) (u : Bool) (zs : List Int) (w : World) (hS : Bs w a n zs) (hn : n ≤ maxLen) (hnil : a = none → n = 0 ∧ c = 0) :
    Calls Try.prog 5 #[.slice a n c, .bool u] w fun e w' => e = .returned (.bool true) ∧ Below w.heap.size w w' := by
  have hm := hn
  unfold maxLen at hm
  by_cases h1 : n ≤ 524288
  · cases u with
    | false => exact law5_low a n c zs w hS h1 hnil
    | true => exact law5_up a n c zs w hS h1 hnil
  · clear hS hnil
    by_cases h2 : n ≤ 1048576
    · go_enter Try.func5, Try.ntmps5
      go_wp2_with (go_at_call 11; refine (zb11 _ _ _ _ _ true (by simpa using h2) hn).mono ?_; rintro e w1 ⟨rfl, hw⟩; subst hw)
      go_ret
      exact ⟨rfl, Below.refl _ _⟩
    · go_enter Try.func5, Try.ntmps5
      go_wp2_with (go_at_call 11; refine (zb11 _ _ _ _ _ false (by simpa using h2) hn).mono ?_; rintro e w1 ⟨rfl, hw⟩; subst hw)
      go_ret
      exact ⟨rfl, Below.refl _ _⟩
end Go.Proofs.Qxb6601887a
