import Derived.Test.Qxb6601836aRepF
import Derived.Test.Qxb6601836aRepG
import Derived.Test.Qxb6601836aRepH
namespace Go.Proofs.Qxb6601836a
open Go.RowKit
set_option linter.unusedVariables false
set_option linter.unusedSimpArgs false

set_option maxRecDepth 100000 in
set_option maxHeartbeats 4000000 in
/-- Report where there is no rule. -/
theorem report11_empty (P c : Nat) (a' : Option Addr) (kind : ByteArray) (w : World) (hcell : w.cell? ⟨P, 1, none⟩ = some (.slice a' 0 c)) :
    Calls Try.prog 11 #[.pointer (some ⟨P, 0, none⟩), .string kind] w fun e w' => e = .returned (.tuple #[.agg #[.slice none 0 0, .int .i64 0, .string ⟨#[]⟩], .bool false]) ∧ Below w.heap.size w w' := by
  have hc1 : ∀ o : Obj, (w.alloc o).cell? ⟨P, 1, none⟩ = some (.slice a' 0 c) := fun o => World.grownBy.cell (World.grownBy_alloc w o none) hcell (by simp)
  clear hcell
  go_enter Try.func11, Try.ntmps11
  go_wp2
  clear hc1
  obtain ⟨wz, hwz⟩ : ∃ wz : World, wz = w.alloc (.cells #[.slice none 0 0, .int .i64 0, .string ⟨#[]⟩] 33) := ⟨_, rfl⟩
  have hbz : Below w.heap.size w wz := by rw [hwz]; exact (Below.refl _ _).alloc (Nat.le_refl _) _
  have g1 : wz.heap[w.heap.size]? = some (.cells #[.slice none 0 0, .int .i64 0, .string ⟨#[]⟩] 33 (0, 0)) := by rw [hwz]; exact heap_alloc_new w _
  rw [← hwz]
  clear hwz
  have G1 : Hid (wz.heap[w.heap.size]? = some (.cells #[.slice none 0 0, .int .i64 0, .string ⟨#[]⟩] 33 (0, 0))) := g1
  clear g1
  go_loop [15] (fun i => i = .int .i64 0) (fun _ => 0)
  case atStart => rfl
  case round =>
    subst hrel
    have g1 := G1.out
    have y0 : wz.cell? ⟨w.heap.size, 0, none⟩ = some (.slice none 0 0) := cell_of_row wz _ 0 _ 33 (0, 0) g1
    have y1 : wz.cell? ⟨w.heap.size, 1, none⟩ = some (.int .i64 0) := cell_of_row wz _ 1 _ 33 (0, 0) g1
    have y2 : wz.cell? ⟨w.heap.size, 2, none⟩ = some (.string ⟨#[]⟩) := cell_of_row wz _ 2 _ 33 (0, 0) g1
    have f0 := frozen_of_row wz w.heap.size 0 _ 33 g1
    have f1 := frozen_of_row wz w.heap.size 1 _ 33 g1
    have f2 := frozen_of_row wz w.heap.size 2 _ 33 g1
    have hz := three_cells wz w.heap.size _ g1 rfl (.slice none 0 0) (.int .i64 0) (.string ⟨#[]⟩)
    have HZ := (show Hid _ from hz)
    clear g1 hz
    go_wp2
    have hb3 := ((hbz.setCell (p := ⟨w.heap.size, 0, none⟩) (Nat.le_refl _) (.slice none 0 0)).setCell (p := ⟨w.heap.size, 1, none⟩) (Nat.le_refl _) (.int .i64 0)).setCell (p := ⟨w.heap.size, 2, none⟩) (Nat.le_refl _) (.string ⟨#[]⟩)
    obtain ⟨z0, z1, z2, z3⟩ := HZ.out
    generalize (((wz.setCell ⟨w.heap.size, 0, none⟩ (.slice none 0 0)).setCell ⟨w.heap.size, 1, none⟩ (.int .i64 0)).setCell ⟨w.heap.size, 2, none⟩ (.string ⟨#[]⟩)) = W3 at z0 z1 z2 z3 hb3 ⊢
    exact bodyPost_ret (v := .tuple #[.agg #[.slice none 0 0, .int .i64 0, .string ⟨#[]⟩], .bool false]) (by simp [results, Try.results11, go_sem, z0, z1, z2, z3]) rfl ⟨rfl, hb3⟩

theorem report_no (P n c : Nat) (a' : Option Addr) (rs : List Rl) (kind : ByteArray) (w : World) (hBt : Built w P n rs a' c) (hn : n ≤ 1048576)
    (hno : ∀ k, k < n → ∀ j, j < (rs.getD k Rl0).kl → ¬ Hit (rs.getD k Rl0).ks kind j) (hkl : ∀ k, k < n → (rs.getD k Rl0).kl ≤ 1048576) :
    Calls Try.prog 11 #[.pointer (some ⟨P, 0, none⟩), .string kind] w fun e w' => e = .returned (.tuple #[.agg #[.slice none 0 0, .int .i64 0, .string ⟨#[]⟩], .bool false]) ∧ Below w.heap.size w w' := by
  rcases Nat.eq_zero_or_pos n with rfl | h0
  · exact report11_empty P c a' kind w hBt.cell
  · obtain ⟨H, rs', rfl, hL⟩ := hBt.laid h0
    exact report11_none P n c H rs rs' kind w hBt.cell hL hn hno hkl

theorem report_yes (P n c : Nat) (a' : Option Addr) (rs : List Rl) (kind : ByteArray) (w : World) (hBt : Built w P n rs a' c) (hn : n ≤ 1048576)
    (j0 m0 : Nat) (hj0 : j0 < n) (hm0 : m0 < (rs.getD j0 Rl0).kl) (hhit : Hit (rs.getD j0 Rl0).ks kind m0)
    (hno : ∀ k, k < j0 → ∀ j, j < (rs.getD k Rl0).kl → ¬ Hit (rs.getD k Rl0).ks kind j) (hkl : ∀ k, k < n → (rs.getD k Rl0).kl ≤ 1048576) :
    Calls Try.prog 11 #[.pointer (some ⟨P, 0, none⟩), .string kind] w fun e w' => ∃ (ka : Option Addr) (kc : Nat), e = .returned (.tuple #[.agg #[.slice ka (rs.getD j0 Rl0).kl kc, .int .i64 (rs.getD j0 Rl0).dy, .string (rs.getD j0 Rl0).da], .bool true]) ∧
      Strs w' ka (rs.getD j0 Rl0).kl (rs.getD j0 Rl0).ks ∧ ((rs.getD j0 Rl0).ka = none → ka = none) ∧ (ka = none → (rs.getD j0 Rl0).ka = none) ∧ Below w.heap.size w w' := by
  obtain ⟨H, rs', rfl, hL⟩ := hBt.laid (by omega)
  refine (report11_some P n c H rs rs' kind w hBt.cell hL hn j0 m0 hj0 hm0 hhit hno hkl).mono ?_
  rintro e w' ⟨r', rfl, hc, hb⟩
  refine ⟨r'.ka, r'.kc, ?_, ?_, hc.nil1, hc.nil2, hb⟩
  · rw [hc.kl, hc.dy, hc.da]
  · rw [← hc.kl, ← hc.ks]; exact hc.strs.later hb
end Go.Proofs.Qxb6601836a
