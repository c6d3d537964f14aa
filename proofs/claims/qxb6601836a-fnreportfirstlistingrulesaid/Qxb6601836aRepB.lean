import Derived.Test.Qxb6601836aRepA
namespace Go.Proofs.Qxb6601836a
open Go.RowKit
set_option linter.unusedVariables false
set_option linter.unusedSimpArgs false

/-- The kind stands among the strings. -/
def Hit (ss : List ByteArray) (kind : ByteArray) (j : Nat) : Prop := ((ss.getD j ByteArray.empty).toList == kind.toList) = true

set_option maxHeartbeats 1000000 in
theorem lists12_no (a : Option Addr) (n c : Nat) (ss : List ByteArray) (kind : ByteArray) (w : World) (hS : Strs w a n ss) (hn : n ≤ 1048576) (hno : ∀ j, j < n → ¬ Hit ss kind j) :
    Calls Try.prog 12 #[.slice a n c, .string kind] w fun e w' => e = .returned (.bool false) ∧ w = w' := by
  have HNO : Hid (∀ j, j < n → ((ss.getD j ByteArray.empty).toList == kind.toList) = false) := fun j hj => by
    have := hno j hj; unfold Hit at this; simpa using this
  clear hno
  rcases hS.form with h0 | ⟨h0, b, o, rfl, HC⟩
  all_goals
    clear hS
    go_enter Try.func12, Try.ntmps12
    go_wp2
    go_loop [5] (fun i => ∃ k : Nat, k ≤ n ∧ i = .int .i64 ((k : Int) - 1)) (fun i => (intOf i + 1).toNat)
    case atStart => exact ⟨n, Nat.le_refl _, rfl⟩
    case round =>
      obtain ⟨k, hk, rfl⟩ := hrel
      by_cases hlt : 0 < k
      · first
          | (exfalso; omega)
          | (obtain ⟨m, rfl⟩ : ∃ m, k = m + 1 := ⟨k - 1, by omega⟩
             have c1 := HC.out m (by omega)
             have hne := HNO.out m (by omega)
             generalize ss.getD m ByteArray.empty = s at c1 hne
             go_wp2
             go_round
             case rel => exact ⟨m, by omega, rfl⟩
             case measure => simp [intOf])
      · go_wp2
        go_ret
        exact ⟨rfl, rfl⟩

set_option maxHeartbeats 1000000 in
theorem lists12_yes (a : Option Addr) (n c : Nat) (ss : List ByteArray) (kind : ByteArray) (w : World) (hS : Strs w a n ss) (hn : n ≤ 1048576) (j0 : Nat) (hj0 : j0 < n) (hyes : Hit ss kind j0) :
    Calls Try.prog 12 #[.slice a n c, .string kind] w fun e w' => e = .returned (.bool true) ∧ w = w' := by
  have HY : Hid (((ss.getD j0 ByteArray.empty).toList == kind.toList) = true) := hyes
  clear hyes
  rcases hS.form with h0 | ⟨h0, b, o, rfl, HC⟩
  · exfalso; omega
  · clear hS
    go_enter Try.func12, Try.ntmps12
    go_wp2
    go_loop [5] (fun i => ∃ k : Nat, k ≤ n ∧ j0 < k ∧ i = .int .i64 ((k : Int) - 1)) (fun i => (intOf i + 1).toNat)
    case atStart => exact ⟨n, Nat.le_refl _, hj0, rfl⟩
    case round =>
      obtain ⟨k, hk, hjk, rfl⟩ := hrel
      obtain ⟨m, rfl⟩ : ∃ m, k = m + 1 := ⟨k - 1, by omega⟩
      have c1 := HC.out m (by omega)
      have hm : m = j0 → ((ss.getD m ByteArray.empty).toList == kind.toList) = true := fun h => by rw [h]; exact HY.out
      have HM : Hid (m = j0 → ((ss.getD m ByteArray.empty).toList == kind.toList) = true) := hm
      clear hm
      generalize ss.getD m ByteArray.empty = s at c1 HM
      by_cases hs : (s.toList == kind.toList) = true
      · go_wp2
        go_ret
        exact ⟨rfl, rfl⟩
      · have hs' : (s.toList == kind.toList) = false := by simpa using hs
        have hne : m ≠ j0 := fun h => hs (HM.out h)
        clear hs
        go_wp2
        go_round
        case rel => exact ⟨m, by omega, by omega, rfl⟩
        case measure => simp [intOf]

theorem info36 : (Try.prog.info? 36).map (fun i => (i.zero, i.size, i.bytes)) = some (some (.string ByteArray.empty), 1, 16) := by kernel_rfl
theorem info52 : (Try.prog.info? 52).map (fun i => (i.zero, i.size, i.bytes)) = some (some (.string ByteArray.empty), 1, 16) := by kernel_rfl

/-- The copy as it stands when its first j strings are laid. -/
def part (ss : List ByteArray) (n j : Nat) : List ByteArray := ss.take j ++ List.replicate (n - j) ByteArray.empty
theorem part_zero (ss : List ByteArray) (n : Nat) : part ss n 0 = List.replicate n ByteArray.empty := by simp [part]
theorem part_all (ss : List ByteArray) (n : Nat) (h : ss.length = n) : part ss n n = ss := by subst h; simp [part]
theorem part_set (ss : List ByteArray) (n j : Nat) (hl : ss.length = n) (h : j < n) : (part ss n j).set j (ss.getD j ByteArray.empty) = part ss n (j + 1) := by
  have hj : j < ss.length := by omega
  unfold part
  rw [List.take_succ_eq_append_getElem hj, List.set_append_right _ _ (by simp; omega)]
  have e2 : j - (ss.take j).length = 0 := by simp; omega
  have e3 : ss.getD j ByteArray.empty = ss[j] := by simp [List.getD, hj]
  rw [e2, e3, show n - j = (n - (j + 1)) + 1 by omega, List.replicate_succ, List.set_cons_zero, List.append_assoc]
  rfl

theorem made_str (n : Nat) : (madeCells (Value.string ByteArray.empty).cells (n * 1)).toList = (List.replicate n ByteArray.empty).map Value.string := by
  rw [Nat.mul_one, List.map_replicate]
  exact toList_madeCells_one _ _

theorem own_strs {w : World} {B g n cap : Nat} {e : TypeId} {zs : List ByteArray} (h : w.ownsRow B e 1 (.slice (some ⟨g, 0, none⟩) n cap) n (zs.map Value.string)) :
    ∀ j, j < n → w.cell? ⟨g, j, none⟩ = some (.string (zs.getD j ByteArray.empty)) := by
  intro j hj
  have hl : zs.length = n := by have := h.1; simpa using this
  have := h.cellAt j (by omega)
  rw [this]
  simp [List.getD, show j < zs.length by omega]

/-- What a copy of a slice of strings is: nil for nil; else a new row of the same strings. -/
structure Copied (w0 w' : World) (a : Option Addr) (n : Nat) (ss : List ByteArray) (a' : Option Addr) : Prop where
  nil1 : a = none → a' = none
  nil2 : a' = none → a = none
  strs : Strs w' a' n ss
  fresh : ∀ ad, a' = some ad → w0.heap.size ≤ ad.block ∧ ad.block < w'.heap.size

set_option maxRecDepth 100000 in
set_option maxHeartbeats 1000000 in
theorem kinds21 (a : Option Addr) (n c : Nat) (ss : List ByteArray) (w : World) (hS : Strs w a n ss) (hn : n ≤ 1048576) (hnil : a = none → n = 0 ∧ c = 0) :
    Calls Try.prog 21 #[.slice a n c] w fun e w' => ∃ a' c', e = .returned (.slice a' n c') ∧ Copied w w' a n ss a' ∧ Below w.heap.size w w' := by
  obtain ⟨i0, hi, hz0, hz1, hz2⟩ := info_parts info36
  have q22 : ∀ (w : World) (a : Option Addr) (n c n' c' : Nat), (binOp .eql 22 (.slice a n c) (.slice none n' c')).run Try.prog w = .ok (.bool a.isNone) w := fun w a n c n' c' => Lib.run_eql_slice_nil w _ _ a n c n' c' Try.underlying22
  have HL : Hid (ss.length = n) := hS.hlen
  have HSM : Hid (∀ j, (ss.getD j ByteArray.empty).size ≤ maxLen) := hS.small
  cases a with
  | none =>
    obtain ⟨rfl, rfl⟩ := hnil rfl
    clear hnil
    go_enter Try.func21, Try.ntmps21
    go_wp2
    go_ret
    exact ⟨_, _, rfl, ⟨fun _ => rfl, fun _ => rfl, hS, (fun ad h => by cases h)⟩, Below.refl _ _⟩
  | some ad =>
    clear hnil
    have hform := hS.form
    clear hS
    go_enter Try.func21, Try.ntmps21
    go_wp2_with (at_make; refine wpList_make_full _ rfl (.tmp 8) (.tmp 8) 30 rfl w.heap.size 36 i0 (.string ByteArray.empty) 1 Try.underlying30 hi hz0 hz1 .i64 .i64 _ _ n rfl rfl rfl rfl (by rw [hz2]; omega) (by unfold maxLen; omega) (Nat.le_refl _) ?_; intro w1 hown hgr; have hb := (Below.refl w.heap.size w).grown hgr (Nat.le_refl _) (by intro k hk; cases hk); rw [made_str, ← part_zero ss n] at hown; clear hgr)
    go_loopw [4] (fun i wr => ∃ j : Nat, j ≤ n ∧ i = .int .i64 j ∧ wr.ownsRow w.heap.size 36 1 (.slice (some ⟨w.heap.size, 0, none⟩) n n) n ((part ss n j).map Value.string) ∧ Below w.heap.size w wr) (fun i _ => n - (intOf i).toNat)
    case atStart => exact ⟨0, Nat.zero_le _, rfl, hown, hb⟩
    case round =>
      clear hown hb
      obtain ⟨j, hj, rfl, hownr, hbr⟩ := hrel
      by_cases hlt : j < n
      · rcases hform with h0 | ⟨h0, b, o, had, HC⟩
        · exfalso; omega
        · obtain rfl := Option.some.inj had
          have c1 : wr.cell? ⟨b, o + j, none⟩ = some (.string (ss.getD j ByteArray.empty)) := (hbr.cell (World.block_lt_of_cell? w _ (HC.out j hlt))).trans (HC.out j hlt)
          have c2 := own_strs hownr j hlt
          have c3 := hownr.frozenAt j
          have hst := (hownr.stored j (.string (ss.getD j ByteArray.empty))).1
          have hrow : ((part ss n j).map Value.string).set j (.string (ss.getD j ByteArray.empty)) = (part ss n (j + 1)).map Value.string := by
            rw [← List.map_set, part_set ss n j HL.out hlt]
          rw [hrow] at hst
          have HST : Hid ((wr.setCell ⟨w.heap.size, j, none⟩ (.string (ss.getD j ByteArray.empty))).ownsRow w.heap.size 36 1 (.slice (some ⟨w.heap.size, 0, none⟩) n n) n ((part ss n (j + 1)).map Value.string)) := hst
          clear hrow hst
          generalize ss.getD j ByteArray.empty = s at c1 HST
          generalize (part ss n j).getD j ByteArray.empty = old at c2
          go_wp2
          go_roundw
          case rel => exact ⟨j + 1, by omega, by go_num, HST.out, hbr.setCell (Nat.le_refl _) _⟩
          case measure => simp [intOf]; omega
      · obtain rfl : n = j := by omega
        rw [part_all ss n HL.out] at hownr
        go_wp2
        go_ret
        exact ⟨_, _, rfl, ⟨(fun h => by cases h), (fun h => by cases h), ⟨HL.out, HSM.out, fun _ => ⟨w.heap.size, 0, rfl, fun j hj => by rw [Nat.zero_add]; exact own_strs hownr j hj⟩⟩, fun ad h => by cases h; exact ⟨Nat.le_refl _, (hownr.lt _ rfl).2⟩⟩, hbr⟩

set_option maxRecDepth 100000 in
set_option maxHeartbeats 1000000 in
theorem binds19 (a : Option Addr) (n c : Nat) (ss : List ByteArray) (w : World) (hS : Strs w a n ss) (hn : n ≤ 1048576) (hnil : a = none → n = 0 ∧ c = 0) :
    Calls Try.prog 19 #[.slice a n c] w fun e w' => ∃ a' c', e = .returned (.slice a' n c') ∧ Copied w w' a n ss a' ∧ Below w.heap.size w w' := by
  obtain ⟨i0, hi, hz0, hz1, hz2⟩ := info_parts info52
  have q22 : ∀ (w : World) (a : Option Addr) (n c n' c' : Nat), (binOp .eql 22 (.slice a n c) (.slice none n' c')).run Try.prog w = .ok (.bool a.isNone) w := fun w a n c n' c' => Lib.run_eql_slice_nil w _ _ a n c n' c' Try.underlying22
  have HL : Hid (ss.length = n) := hS.hlen
  have HSM : Hid (∀ j, (ss.getD j ByteArray.empty).size ≤ maxLen) := hS.small
  cases a with
  | none =>
    obtain ⟨rfl, rfl⟩ := hnil rfl
    clear hnil
    go_enter Try.func19, Try.ntmps19
    go_wp2
    go_ret
    exact ⟨_, _, rfl, ⟨fun _ => rfl, fun _ => rfl, hS, (fun ad h => by cases h)⟩, Below.refl _ _⟩
  | some ad =>
    clear hnil
    have hform := hS.form
    clear hS
    go_enter Try.func19, Try.ntmps19
    go_wp2_with (at_make; refine wpList_make_full _ rfl (.tmp 8) (.tmp 8) 46 rfl w.heap.size 52 i0 (.string ByteArray.empty) 1 Try.underlying46 hi hz0 hz1 .i64 .i64 _ _ n rfl rfl rfl rfl (by rw [hz2]; omega) (by unfold maxLen; omega) (Nat.le_refl _) ?_; intro w1 hown hgr; have hb := (Below.refl w.heap.size w).grown hgr (Nat.le_refl _) (by intro k hk; cases hk); rw [made_str, ← part_zero ss n] at hown; clear hgr)
    go_loopw [4] (fun i wr => ∃ j : Nat, j ≤ n ∧ i = .int .i64 j ∧ wr.ownsRow w.heap.size 52 1 (.slice (some ⟨w.heap.size, 0, none⟩) n n) n ((part ss n j).map Value.string) ∧ Below w.heap.size w wr) (fun i _ => n - (intOf i).toNat)
    case atStart => exact ⟨0, Nat.zero_le _, rfl, hown, hb⟩
    case round =>
      clear hown hb
      obtain ⟨j, hj, rfl, hownr, hbr⟩ := hrel
      by_cases hlt : j < n
      · rcases hform with h0 | ⟨h0, b, o, had, HC⟩
        · exfalso; omega
        · obtain rfl := Option.some.inj had
          have c1 : wr.cell? ⟨b, o + j, none⟩ = some (.string (ss.getD j ByteArray.empty)) := (hbr.cell (World.block_lt_of_cell? w _ (HC.out j hlt))).trans (HC.out j hlt)
          have c2 := own_strs hownr j hlt
          have c3 := hownr.frozenAt j
          have hst := (hownr.stored j (.string (ss.getD j ByteArray.empty))).1
          have hrow : ((part ss n j).map Value.string).set j (.string (ss.getD j ByteArray.empty)) = (part ss n (j + 1)).map Value.string := by
            rw [← List.map_set, part_set ss n j HL.out hlt]
          rw [hrow] at hst
          have HST : Hid ((wr.setCell ⟨w.heap.size, j, none⟩ (.string (ss.getD j ByteArray.empty))).ownsRow w.heap.size 52 1 (.slice (some ⟨w.heap.size, 0, none⟩) n n) n ((part ss n (j + 1)).map Value.string)) := hst
          clear hrow hst
          generalize ss.getD j ByteArray.empty = s at c1 HST
          generalize (part ss n j).getD j ByteArray.empty = old at c2
          go_wp2
          go_roundw
          case rel => exact ⟨j + 1, by omega, by go_num, HST.out, hbr.setCell (Nat.le_refl _) _⟩
          case measure => simp [intOf]; omega
      · obtain rfl : n = j := by omega
        rw [part_all ss n HL.out] at hownr
        go_wp2
        go_ret
        exact ⟨_, _, rfl, ⟨(fun h => by cases h), (fun h => by cases h), ⟨HL.out, HSM.out, fun _ => ⟨w.heap.size, 0, rfl, fun j hj => by rw [Nat.zero_add]; exact own_strs hownr j hj⟩⟩, fun ad h => by cases h; exact ⟨Nat.le_refl _, (hownr.lt _ rfl).2⟩⟩, hbr⟩

end Go.Proofs.Qxb6601836a
