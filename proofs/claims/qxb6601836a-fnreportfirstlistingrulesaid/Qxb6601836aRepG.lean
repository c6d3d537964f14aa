import Derived.Test.Qxb6601836aRepE
namespace Go.Proofs.Qxb6601836a
open Go.RowKit
set_option linter.unusedVariables false
set_option linter.unusedSimpArgs false

theorem Laid.later' {w w' : World} {H n k : Nat} {rs rs' : List Rl} (h : Laid w H n k rs rs') (hb : Below w.heap.size w w') : Laid w' H n k rs rs' := by
  obtain ⟨h1, cur, hg, hs, ho⟩ := h
  refine ⟨h1, cur, (hb.block H (Array.getElem?_eq_some_iff.1 hg).1).trans hg, hs, fun j hj => ⟨(ho j hj).1, ?_⟩⟩
  have hc := (ho j hj).2
  exact ⟨hc.kl, hc.ks, hc.dy, hc.da, hc.nil1, hc.nil2, hc.strs.later hb, fun ad e => ⟨(hc.fresh ad e).1, Nat.lt_of_lt_of_le (hc.fresh ad e).2 hb.size⟩⟩

/-- One rule of the new slice, taken apart. -/
theorem laid_at {w : World} {H n : Nat} {rs rs' : List Rl} (h : Laid w H n n rs rs') (k : Nat) (hk : k < n) :
    ∃ (ka : Option Addr) (kl kc : Nat) (ks : List ByteArray) (dy : Int) (da : ByteArray), Hid (rs'.getD k Rl0 = ⟨ka, kl, kc, ks, dy, da⟩) ∧ w.cell? ⟨H, k * 3, none⟩ = some (.slice ka kl kc) ∧ w.cell? ⟨H, k * 3 + 1, none⟩ = some (.int .i64 dy) ∧ w.cell? ⟨H, k * 3 + 2, none⟩ = some (.string da) ∧
      Strs w ka kl ks ∧ CopyOf w (H + 1) (rs.getD k Rl0) ⟨ka, kl, kc, ks, dy, da⟩ := by
  obtain ⟨h1, cur, hg, hs, ho⟩ := h
  obtain ⟨⟨a0, a1, a2⟩, hc⟩ := ho k hk
  generalize hr : rs'.getD k Rl0 = r at a0 a1 a2 hc
  obtain ⟨ka, kl, kc, ks, dy, da⟩ := r
  exact ⟨ka, kl, kc, ks, dy, da, rfl, (cell_of_row w H (k * 3) cur 33 (0, 0) hg).trans a0, (cell_of_row w H (k * 3 + 1) cur 33 (0, 0) hg).trans a1, (cell_of_row w H (k * 3 + 2) cur 33 (0, 0) hg).trans a2, hc.strs, hc⟩

/-- The three cells of a struct behind its store. -/
theorem three_cells (w : World) (H : Nat) (cur : Array Value) (hg : w.heap[H]? = some (.cells cur 33 (0, 0))) (hs : cur.size = 3) (v0 v1 v2 : Value) :
    (((w.setCell ⟨H, 0, none⟩ v0).setCell ⟨H, 1, none⟩ v1).setCell ⟨H, 2, none⟩ v2).cell? ⟨H, 0, none⟩ = some v0 ∧ (((w.setCell ⟨H, 0, none⟩ v0).setCell ⟨H, 1, none⟩ v1).setCell ⟨H, 2, none⟩ v2).cell? ⟨H, 1, none⟩ = some v1 ∧ (((w.setCell ⟨H, 0, none⟩ v0).setCell ⟨H, 1, none⟩ v1).setCell ⟨H, 2, none⟩ v2).cell? ⟨H, 2, none⟩ = some v2 ∧ H < (((w.setCell ⟨H, 0, none⟩ v0).setCell ⟨H, 1, none⟩ v1).setCell ⟨H, 2, none⟩ v2).heap.size := by
  have s1 := heap_setCell_same w H 0 cur 33 v0 hg
  have s2 := heap_setCell_same _ H 1 _ 33 v1 s1
  have s3 := heap_setCell_same _ H 2 _ 33 v2 s2
  refine ⟨?_, ?_, ?_, (Array.getElem?_eq_some_iff.1 s3).1⟩
  · rw [cell_of_row _ H 0 _ 33 (0, 0) s3, Array.getElem?_setIfInBounds_ne (by omega), Array.getElem?_setIfInBounds_ne (by omega), Array.getElem?_setIfInBounds_self_of_lt (by omega)]
  · rw [cell_of_row _ H 1 _ 33 (0, 0) s3, Array.getElem?_setIfInBounds_ne (by omega), Array.getElem?_setIfInBounds_self_of_lt (by simp; omega)]
  · rw [cell_of_row _ H 2 _ 33 (0, 0) s3, Array.getElem?_setIfInBounds_self_of_lt (by simp; omega)]

set_option maxRecDepth 100000 in
set_option maxHeartbeats 4000000 in
/-- Report where no rule lists the kind. -/
theorem report11_none (P n c : Nat) (H : Nat) (rs rs' : List Rl) (kind : ByteArray) (w : World) (hcell : w.cell? ⟨P, 1, none⟩ = some (.slice (some ⟨H, 0, none⟩) n c)) (hL : Laid w H n n rs rs') (hn : n ≤ 1048576)
    (hno : ∀ k, k < n → ∀ j, j < (rs.getD k Rl0).kl → ¬ Hit (rs.getD k Rl0).ks kind j) (hkl : ∀ k, k < n → (rs.getD k Rl0).kl ≤ 1048576) :
    Calls Try.prog 11 #[.pointer (some ⟨P, 0, none⟩), .string kind] w fun e w' => e = .returned (.tuple #[.agg #[.slice none 0 0, .int .i64 0, .string ⟨#[]⟩], .bool false]) ∧ Below w.heap.size w w' := by
  have HNO : Hid (∀ k, k < n → ∀ j, j < (rs.getD k Rl0).kl → ¬ Hit (rs.getD k Rl0).ks kind j) := hno
  have HKL : Hid (∀ k, k < n → (rs.getD k Rl0).kl ≤ 1048576) := hkl
  have HLL : Hid (Laid w H n n rs rs') := hL
  have hc1 : ∀ o : Obj, (w.alloc o).cell? ⟨P, 1, none⟩ = some (.slice (some ⟨H, 0, none⟩) n c) := fun o => World.grownBy.cell (World.grownBy_alloc w o none) hcell (by simp)
  clear hno hkl hL hcell
  go_enter Try.func11, Try.ntmps11
  go_wp2
  clear hc1
  obtain ⟨wz, hwz⟩ : ∃ wz : World, wz = w.alloc (.cells #[.slice none 0 0, .int .i64 0, .string ⟨#[]⟩] 33) := ⟨_, rfl⟩
  have hbz : Below w.heap.size w wz := by rw [hwz]; exact (Below.refl _ _).alloc (Nat.le_refl _) _
  have hszz : wz.heap.size = w.heap.size + 1 := by rw [hwz]; simp
  have hres : wz.heap[w.heap.size]? = some (.cells #[.slice none 0 0, .int .i64 0, .string ⟨#[]⟩] 33 (0, 0)) := by rw [hwz]; exact heap_alloc_new w _
  rw [← hwz]
  have HRES : Hid (wz.heap[w.heap.size]? = some (.cells #[.slice none 0 0, .int .i64 0, .string ⟨#[]⟩] 33 (0, 0))) := hres
  have HSZ : Hid (wz.heap.size = w.heap.size + 1) := hszz
  have hszz1 : w.heap.size < wz.heap.size := by omega
  clear hwz hres hszz
  go_loopw [15] (fun i wr => ∃ k : Nat, k ≤ n ∧ i = .int .i64 k ∧ Below wz.heap.size wz wr) (fun i _ => n - (intOf i).toNat)
  case atStart => exact ⟨0, Nat.zero_le _, rfl, Below.refl _ _⟩
  case round =>
    obtain ⟨k, hk, rfl, hbr⟩ := hrel
    have hbw : Below w.heap.size w wr := hbz.trans (hbr.mono (by omega))
    by_cases hlt : k < n
    · obtain ⟨ka, kl, kc, ks, dy, da, HE, c0, c1, c2, hS, hC⟩ := laid_at (HLL.out.later' hbw) k hlt
      have hks : kl ≤ 1048576 := by have := HKL.out k hlt; rw [← hC.kl] at this; exact this
      have HN2 : Hid (∀ j, j < kl → ((ks.getD j ByteArray.empty).toList == kind.toList) = false) := fun j hj => by
        have := HNO.out k hlt j (by rw [← hC.kl]; exact hj)
        rw [← hC.ks] at this
        unfold Hit at this
        simpa using this
      have hS2 : ∀ o : Obj, Strs (wr.alloc o) ka kl ks := fun o => hS.later ((Below.refl _ _).alloc (Nat.le_refl _) o)
      have HS2 : Hid (∀ o : Obj, Strs (wr.alloc o) ka kl ks) := hS2
      clear hS2 hC
      rcases hS.form with hk0 | ⟨hk0, b2, o2, rfl, HC2⟩
      all_goals
        clear hS
        go_wp2
        go_loop [22] (fun i => ∃ j : Nat, j ≤ kl ∧ i = .int .i64 j) (fun i => kl - (intOf i).toNat)
        case atStart => exact ⟨0, Nat.zero_le _, rfl⟩
        case round =>
          obtain ⟨j, hj, rfl⟩ := hrel
          by_cases hjl : j < kl
          · first
              | (exfalso; omega)
              | (have d1 := HC2.out j hjl
                 have d2 : ∀ o : Obj, (wr.alloc o).cell? ⟨b2, o2 + j, none⟩ = some (.string (ks.getD j ByteArray.empty)) := fun o => World.grownBy.cell (World.grownBy_alloc wr o none) d1 (by simp)
                 have hne := HN2.out j hjl
                 clear d1
                 generalize ks.getD j ByteArray.empty = s at d2 hne
                 go_wp2
                 go_round
                 case rel => exact ⟨j + 1, by omega, by go_num⟩
                 case measure => simp [intOf]; omega)
          · go_wp2
            go_roundw
            case rel => exact ⟨k + 1, by omega, by go_num, hbr.alloc hbr.size _⟩
            case measure => simp [intOf]; omega
    · have g1 : wr.heap[w.heap.size]? = some (.cells #[.slice none 0 0, .int .i64 0, .string ⟨#[]⟩] 33 (0, 0)) := (hbr.block _ hszz1).trans HRES.out
      have y0 : wr.cell? ⟨w.heap.size, 0, none⟩ = some (.slice none 0 0) := cell_of_row wr _ 0 _ 33 (0, 0) g1
      have y1 : wr.cell? ⟨w.heap.size, 1, none⟩ = some (.int .i64 0) := cell_of_row wr _ 1 _ 33 (0, 0) g1
      have y2 : wr.cell? ⟨w.heap.size, 2, none⟩ = some (.string ⟨#[]⟩) := cell_of_row wr _ 2 _ 33 (0, 0) g1
      have f0 := frozen_of_row wr w.heap.size 0 _ 33 g1
      have f1 := frozen_of_row wr w.heap.size 1 _ 33 g1
      have f2 := frozen_of_row wr w.heap.size 2 _ 33 g1
      have hwlt : w.heap.size < wr.heap.size := (Array.getElem?_eq_some_iff.1 g1).1
      have hz := three_cells wr w.heap.size _ g1 rfl (.slice none 0 0) (.int .i64 0) (.string ⟨#[]⟩)
      have HZ := (show Hid _ from hz)
      clear g1 hz
      go_wp2
      have hb3 := ((hbw.setCell (p := ⟨w.heap.size, 0, none⟩) (Nat.le_refl _) (.slice none 0 0)).setCell (p := ⟨w.heap.size, 1, none⟩) (Nat.le_refl _) (.int .i64 0)).setCell (p := ⟨w.heap.size, 2, none⟩) (Nat.le_refl _) (.string ⟨#[]⟩)
      obtain ⟨z0, z1, z2, z3⟩ := HZ.out
      generalize (((wr.setCell ⟨w.heap.size, 0, none⟩ (.slice none 0 0)).setCell ⟨w.heap.size, 1, none⟩ (.int .i64 0)).setCell ⟨w.heap.size, 2, none⟩ (.string ⟨#[]⟩)) = W3 at z0 z1 z2 z3 hb3 ⊢
      exact bodyPost_ret (v := .tuple #[.agg #[.slice none 0 0, .int .i64 0, .string ⟨#[]⟩], .bool false]) (by simp [results, Try.results11, go_sem, z0, z1, z2, z3]) rfl ⟨rfl, hb3⟩

set_option maxRecDepth 100000 in
set_option maxHeartbeats 4000000 in
/-- Report where j0 is the first rule that lists the kind. -/
theorem report11_some (P n c : Nat) (H : Nat) (rs rs' : List Rl) (kind : ByteArray) (w : World) (hcell : w.cell? ⟨P, 1, none⟩ = some (.slice (some ⟨H, 0, none⟩) n c)) (hL : Laid w H n n rs rs') (hn : n ≤ 1048576)
    (j0 m0 : Nat) (hj0 : j0 < n) (hm0 : m0 < (rs.getD j0 Rl0).kl) (hhit : Hit (rs.getD j0 Rl0).ks kind m0)
    (hno : ∀ k, k < j0 → ∀ j, j < (rs.getD k Rl0).kl → ¬ Hit (rs.getD k Rl0).ks kind j) (hkl : ∀ k, k < n → (rs.getD k Rl0).kl ≤ 1048576) :
    Calls Try.prog 11 #[.pointer (some ⟨P, 0, none⟩), .string kind] w fun e w' => ∃ r', e = .returned (.tuple #[.agg #[.slice r'.ka r'.kl r'.kc, .int .i64 r'.dy, .string r'.da], .bool true]) ∧ CopyOf w (H + 1) (rs.getD j0 Rl0) r' ∧ Below w.heap.size w w' := by
  have HNO : Hid (∀ k, k < j0 → ∀ j, j < (rs.getD k Rl0).kl → ¬ Hit (rs.getD k Rl0).ks kind j) := hno
  have HKL : Hid (∀ k, k < n → (rs.getD k Rl0).kl ≤ 1048576) := hkl
  have HM0 : Hid (m0 < (rs.getD j0 Rl0).kl) := hm0
  have HHIT : Hid (Hit (rs.getD j0 Rl0).ks kind m0) := hhit
  have HLL : Hid (Laid w H n n rs rs') := hL
  have hc1 : ∀ o : Obj, (w.alloc o).cell? ⟨P, 1, none⟩ = some (.slice (some ⟨H, 0, none⟩) n c) := fun o => World.grownBy.cell (World.grownBy_alloc w o none) hcell (by simp)
  clear hno hkl hL hcell hm0 hhit
  go_enter Try.func11, Try.ntmps11
  go_wp2
  clear hc1
  obtain ⟨wz, hwz⟩ : ∃ wz : World, wz = w.alloc (.cells #[.slice none 0 0, .int .i64 0, .string ⟨#[]⟩] 33) := ⟨_, rfl⟩
  have hbz : Below w.heap.size w wz := by rw [hwz]; exact (Below.refl _ _).alloc (Nat.le_refl _) _
  have hszz : wz.heap.size = w.heap.size + 1 := by rw [hwz]; simp
  have hres : wz.heap[w.heap.size]? = some (.cells #[.slice none 0 0, .int .i64 0, .string ⟨#[]⟩] 33 (0, 0)) := by rw [hwz]; exact heap_alloc_new w _
  rw [← hwz]
  have HRES : Hid (wz.heap[w.heap.size]? = some (.cells #[.slice none 0 0, .int .i64 0, .string ⟨#[]⟩] 33 (0, 0))) := hres
  have hszz1 : w.heap.size < wz.heap.size := by omega
  clear hwz hres hszz
  go_loopw [15] (fun i wr => ∃ k : Nat, k ≤ j0 ∧ i = .int .i64 k ∧ Below wz.heap.size wz wr) (fun i _ => n - (intOf i).toNat)
  case atStart => exact ⟨0, Nat.zero_le _, rfl, Below.refl _ _⟩
  case round =>
    obtain ⟨k, hk, rfl, hbr⟩ := hrel
    have hbw : Below w.heap.size w wr := hbz.trans (hbr.mono (by omega))
    have hltn : k < n := by omega
    obtain ⟨ka, kl, kc, ks, dy, da, HE, c0, c1, c2, hS, hC⟩ := laid_at (HLL.out.later' hbw) k hltn
    have hks : kl ≤ 1048576 := by have := HKL.out k hltn; rw [← hC.kl] at this; exact this
    by_cases hlt : k < j0
    · have HN2 : Hid (∀ j, j < kl → ((ks.getD j ByteArray.empty).toList == kind.toList) = false) := fun j hj => by
        have := HNO.out k hlt j (by rw [← hC.kl]; exact hj)
        rw [← hC.ks] at this
        unfold Hit at this
        simpa using this
      clear hC
      rcases hS.form with hk0 | ⟨hk0, b2, o2, rfl, HC2⟩
      all_goals
        clear hS
        go_wp2
        go_loop [22] (fun i => ∃ j : Nat, j ≤ kl ∧ i = .int .i64 j) (fun i => kl - (intOf i).toNat)
        case atStart => exact ⟨0, Nat.zero_le _, rfl⟩
        case round =>
          obtain ⟨j, hj, rfl⟩ := hrel
          by_cases hjl : j < kl
          · first
              | (exfalso; omega)
              | (have d1 := HC2.out j hjl
                 have d2 : ∀ o : Obj, (wr.alloc o).cell? ⟨b2, o2 + j, none⟩ = some (.string (ks.getD j ByteArray.empty)) := fun o => World.grownBy.cell (World.grownBy_alloc wr o none) d1 (by simp)
                 have hne := HN2.out j hjl
                 clear d1
                 generalize ks.getD j ByteArray.empty = s at d2 hne
                 go_wp2
                 go_round
                 case rel => exact ⟨j + 1, by omega, by go_num⟩
                 case measure => simp [intOf]; omega)
          · go_wp2
            go_roundw
            case rel => exact ⟨k + 1, by omega, by go_num, hbr.alloc hbr.size _⟩
            case measure => simp [intOf]; omega
    · obtain rfl : j0 = k := by omega
      have hm1 : m0 < kl := by have := HM0.out; rw [← hC.kl] at this; exact this
      have HH2 : Hid (((ks.getD m0 ByteArray.empty).toList == kind.toList) = true) := by
        have := HHIT.out; rw [← hC.ks] at this; exact this
      have HCP : Hid (CopyOf w (H + 1) (rs.getD j0 Rl0) (rs'.getD j0 Rl0)) := by
        obtain ⟨_, cur, _, _, ho⟩ := HLL.out
        exact (ho j0 hj0).2
      rcases hS.form with hk0 | ⟨hk0, b2, o2, rfl, HC2⟩
      · exfalso; omega
      · clear hS hC
        go_wp2
        go_loop [22] (fun i => ∃ j : Nat, j ≤ m0 ∧ i = .int .i64 j) (fun i => kl - (intOf i).toNat)
        case atStart => exact ⟨0, Nat.zero_le _, rfl⟩
        case round =>
          obtain ⟨j, hj, rfl⟩ := hrel
          have hjl : j < kl := by omega
          have d1 := HC2.out j hjl
          have d2 : ∀ o : Obj, (wr.alloc o).cell? ⟨b2, o2 + j, none⟩ = some (.string (ks.getD j ByteArray.empty)) := fun o => World.grownBy.cell (World.grownBy_alloc wr o none) d1 (by simp)
          have HM : Hid (j = m0 → ((ks.getD j ByteArray.empty).toList == kind.toList) = true) := fun h => by rw [h]; exact HH2.out
          clear d1
          generalize ks.getD j ByteArray.empty = s at d2 HM
          by_cases hs : (s.toList == kind.toList) = true
          · have g1 : ∀ o : Obj, (wr.alloc o).heap[w.heap.size]? = some (.cells #[.slice none 0 0, .int .i64 0, .string ⟨#[]⟩] 33 (0, 0)) := fun o => (Below.heap_alloc wr o _ (by have := hbr.size; omega)).trans ((hbr.block _ hszz1).trans HRES.out)
            have y0 : ∀ o : Obj, (wr.alloc o).cell? ⟨w.heap.size, 0, none⟩ = some (.slice none 0 0) := fun o => cell_of_row _ _ 0 _ 33 (0, 0) (g1 o)
            have y1 : ∀ o : Obj, (wr.alloc o).cell? ⟨w.heap.size, 1, none⟩ = some (.int .i64 0) := fun o => cell_of_row _ _ 1 _ 33 (0, 0) (g1 o)
            have y2 : ∀ o : Obj, (wr.alloc o).cell? ⟨w.heap.size, 2, none⟩ = some (.string ⟨#[]⟩) := fun o => cell_of_row _ _ 2 _ 33 (0, 0) (g1 o)
            have f0 : ∀ o : Obj, (wr.alloc o).frozen? ⟨w.heap.size, 0, none⟩ = false := fun o => frozen_of_row _ w.heap.size 0 _ 33 (g1 o)
            have f1 : ∀ o : Obj, (wr.alloc o).frozen? ⟨w.heap.size, 1, none⟩ = false := fun o => frozen_of_row _ w.heap.size 1 _ 33 (g1 o)
            have f2 : ∀ o : Obj, (wr.alloc o).frozen? ⟨w.heap.size, 2, none⟩ = false := fun o => frozen_of_row _ w.heap.size 2 _ 33 (g1 o)
            have HG1 : Hid (∀ o : Obj, (wr.alloc o).heap[w.heap.size]? = some (.cells #[.slice none 0 0, .int .i64 0, .string ⟨#[]⟩] 33 (0, 0))) := g1
            clear g1
            go_wp2
            have hz := three_cells (wr.alloc (.cells #[.slice (some ⟨b2, o2, none⟩) kl kc, .int .i64 dy, .string da] 33)) w.heap.size _ (HG1.out _) rfl (.slice (some ⟨b2, o2, none⟩) kl kc) (.int .i64 dy) (.string da)
            have hb3 := (((hbw.alloc hbw.size (.cells #[.slice (some ⟨b2, o2, none⟩) kl kc, .int .i64 dy, .string da] 33)).setCell (p := ⟨w.heap.size, 0, none⟩) (Nat.le_refl _) (.slice (some ⟨b2, o2, none⟩) kl kc)).setCell (p := ⟨w.heap.size, 1, none⟩) (Nat.le_refl _) (.int .i64 dy)).setCell (p := ⟨w.heap.size, 2, none⟩) (Nat.le_refl _) (.string da)
            obtain ⟨z0, z1, z2, z3⟩ := hz
            generalize ((((wr.alloc (.cells #[.slice (some ⟨b2, o2, none⟩) kl kc, .int .i64 dy, .string da] 33)).setCell ⟨w.heap.size, 0, none⟩ (.slice (some ⟨b2, o2, none⟩) kl kc)).setCell ⟨w.heap.size, 1, none⟩ (.int .i64 dy)).setCell ⟨w.heap.size, 2, none⟩ (.string da)) = W3 at z0 z1 z2 z3 hb3 ⊢
            have hcp := HCP.out
            rw [HE.out] at hcp
            exact bodyPost_ret (v := .tuple #[.agg #[.slice (some ⟨b2, o2, none⟩) kl kc, .int .i64 dy, .string da], .bool true]) (by simp [results, Try.results11, go_sem, z0, z1, z2, z3]) rfl ⟨⟨some ⟨b2, o2, none⟩, kl, kc, ks, dy, da⟩, rfl, hcp, hb3⟩
          · have hs' : (s.toList == kind.toList) = false := by simpa using hs
            have hne : j ≠ m0 := fun h => hs (HM.out h)
            clear hs
            go_wp2
            go_round
            case rel => exact ⟨j + 1, by omega, by go_num⟩
            case measure => simp [intOf]; omega
end Go.Proofs.Qxb6601836a
