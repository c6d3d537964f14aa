import Derived.Test.Qxb6601836aRepE
namespace Go.Proofs.Qxb6601836a
open Go.RowKit
set_option linter.unusedVariables false
set_option linter.unusedSimpArgs false

/-- The memory is the same. -/
def Same (w w' : World) : Prop := w'.heap = w.heap
theorem Same.cell {w w' : World} (h : Same w w') (a : Addr) : w'.cell? a = w.cell? a := by
  unfold Same at h
  exact World.cell?_of_block (by rw [h])
theorem Same.drewN {w w' : World} (h : Same w w') (n : Nat) : Same w (w'.drewN n) := h
theorem below_drewN {B : Nat} {a w : World} (h : Below B a w) (n : Nat) : Below B a (w.drewN n) := ⟨h.os, h.tape, h.output, h.size, h.block⟩

theorem q30 : ∀ (w : World) (a : Option Addr) (n c n' c' : Nat), (binOp .eql 30 (.slice a n c) (.slice none n' c')).run Try.prog w = .ok (.bool a.isNone) w := fun w a n c n' c' => Lib.run_eql_slice_nil w _ _ a n c n' c' Try.underlying30
theorem q22 : ∀ (w : World) (a : Option Addr) (n c n' c' : Nat), (binOp .eql 22 (.slice a n c) (.slice none n' c')).run Try.prog w = .ok (.bool a.isNone) w := fun w a n c n' c' => Lib.run_eql_slice_nil w _ _ a n c n' c' Try.underlying22

set_option maxHeartbeats 1000000 in
theorem isZero13 (w : World) :
    Calls Try.prog 13 #[.agg #[.slice none 0 0, .int .i64 0, .string ⟨#[]⟩]] w fun e w' => e = .returned (.bool true) ∧ Below w.heap.size w w' := by
  have q := q30
  go_enter Try.func13, Try.ntmps13
  go_wp2
  go_ret
  exact ⟨rfl, (Below.refl _ _).alloc (Nat.le_refl _) _⟩

set_option maxRecDepth 100000 in
set_option maxHeartbeats 1000000 in
theorem matches14 (ka ka' : Option Addr) (kl kc kc' : Nat) (ks : List ByteArray) (dy : Int) (da : ByteArray) (w : World) (hS : Strs w ka kl ks) (hS' : Strs w ka' kl ks) (hn1 : ka = none → ka' = none) (hn2 : ka' = none → ka = none) (hkl : kl ≤ 1048576) :
    Calls Try.prog 14 #[.agg #[.slice ka' kl kc', .int .i64 dy, .string da], .agg #[.slice ka kl kc, .int .i64 dy, .string da]] w fun e w' => e = .returned (.bool true) ∧ Below w.heap.size w w' := by
  have qa := q30
  have qb := q22
  have hnn : ka'.isNone = ka.isNone := by
    cases ka with
    | none => rw [hn1 rfl]
    | some x => cases ka' with
      | none => cases hn2 rfl
      | some y => rfl
  clear hn1 hn2
  have hf := hS.form
  have hf' := hS'.form
  clear hS hS'
  go_enter Try.func14, Try.ntmps14
  go_wp2
  clear qa qb hnn
  obtain ⟨w1, hw1⟩ : ∃ w1 : World, w1 = w.alloc (.cells #[.slice ka' kl kc', .int .i64 dy, .string da] 33) := ⟨_, rfl⟩
  have s1 : w1.heap.size = w.heap.size + 1 := by rw [hw1]; simp
  have g1 : w1.heap[w.heap.size]? = some (.cells #[.slice ka' kl kc', .int .i64 dy, .string da] 33 (0, 0)) := by rw [hw1]; exact heap_alloc_new w _
  have b1 : Below w.heap.size w w1 := by rw [hw1]; exact (Below.refl _ _).alloc (Nat.le_refl _) _
  rw [← hw1]
  obtain ⟨w2, hw2⟩ : ∃ w2 : World, w2 = w1.alloc (.cells #[.slice ka kl kc, .int .i64 dy, .string da] 39) := ⟨_, rfl⟩
  have g2 : w2.heap[w.heap.size + 1]? = some (.cells #[.slice ka kl kc, .int .i64 dy, .string da] 39 (0, 0)) := by rw [hw2, ← s1]; exact heap_alloc_new w1 _
  have g3 : w2.heap[w.heap.size]? = some (.cells #[.slice ka' kl kc', .int .i64 dy, .string da] 33 (0, 0)) := by rw [hw2]; exact (Below.heap_alloc w1 _ _ (by omega)).trans g1
  have b2 : Below w.heap.size w w2 := by rw [hw2]; exact b1.alloc b1.size _
  rw [← hw2]
  have Y0 : Hid (w2.cell? ⟨w.heap.size, 0, none⟩ = some (.slice ka' kl kc')) := cell_of_row w2 _ 0 _ 33 (0, 0) g3
  have Y1 : Hid (w2.cell? ⟨w.heap.size + 1, 0, none⟩ = some (.slice ka kl kc)) := cell_of_row w2 _ 0 _ 39 (0, 0) g2
  clear g1 g2 g3 hw1 hw2 s1 b1
  go_loopw [5] (fun i wr => ∃ j : Nat, j ≤ kl ∧ i = .int .i64 j ∧ Same w2 wr ∧ Below w.heap.size w wr) (fun i _ => kl - (intOf i).toNat)
  case atStart => exact ⟨0, Nat.zero_le _, rfl, rfl, b2⟩
  case round =>
    clear b2
    obtain ⟨j, hj, rfl, hSame, hbr⟩ := hrel
    have y0 : wr.cell? ⟨w.heap.size, 0, none⟩ = some (.slice ka' kl kc') := by rw [hSame.cell]; exact Y0.out
    have y1 : wr.cell? ⟨w.heap.size + 1, 0, none⟩ = some (.slice ka kl kc) := by rw [hSame.cell]; exact Y1.out
    by_cases hlt : j < kl
    · rcases hf with hf | ⟨h0, b, o, rfl, HC⟩
      · exfalso; omega
      · rcases hf' with hf' | ⟨h1, b', o', rfl, HC'⟩
        · exfalso; omega
        · have c1 : wr.cell? ⟨b, o + j, none⟩ = some (.string (ks.getD j ByteArray.empty)) := (hbr.cell (World.block_lt_of_cell? w _ (HC.out j hlt))).trans (HC.out j hlt)
          have c2 : wr.cell? ⟨b', o' + j, none⟩ = some (.string (ks.getD j ByteArray.empty)) := (hbr.cell (World.block_lt_of_cell? w _ (HC'.out j hlt))).trans (HC'.out j hlt)
          generalize ks.getD j ByteArray.empty = s at c1 c2
          go_wp2
          go_quiet (fail)
          go_wp2
          go_roundw
          case rel => exact ⟨j + 1, by omega, by go_num, hSame.drewN _, below_drewN hbr _⟩
          case measure => simp [intOf]; omega
    · go_wp2
      go_ret
      exact ⟨rfl, hbr⟩
end Go.Proofs.Qxb6601836a
