import Derived.Test.Qxb6601836aRepC
import Derived.Deep.RegionHeld3
namespace Go.Proofs.Qxb6601836a
open Go.RowKit
set_option linter.unusedVariables false
set_option linter.unusedSimpArgs false

theorem info33 : (Try.prog.info? 33).map (fun i => (i.zero, i.size, i.bytes)) = some (some (.agg #[.slice none 0 0, .int .i64 0, .string ByteArray.empty]), 3, 48) := by kernel_rfl

/-- r' is a copy of r: its kinds in a block of their own, from B on. -/
structure CopyOf (w : World) (B : Nat) (r r' : Rl) : Prop where
  kl : r'.kl = r.kl
  ks : r'.ks = r.ks
  dy : r'.dy = r.dy
  da : r'.da = r.da
  nil1 : r.ka = none → r'.ka = none
  nil2 : r'.ka = none → r.ka = none
  strs : Strs w r'.ka r'.kl r'.ks
  fresh : ∀ ad, r'.ka = some ad → B ≤ ad.block ∧ ad.block < w.heap.size

/-- The new slice as it stands when its first k rules are laid. -/
def Laid (w : World) (H n k : Nat) (rs rs' : List Rl) : Prop :=
  rs'.length = k ∧ ∃ cur : Array Value, w.heap[H]? = some (.cells cur 33 (0, 0)) ∧ cur.size = n * 3 ∧
    ∀ j, j < k → (cur[j * 3]? = some (.slice (rs'.getD j Rl0).ka (rs'.getD j Rl0).kl (rs'.getD j Rl0).kc) ∧ cur[j * 3 + 1]? = some (.int .i64 (rs'.getD j Rl0).dy) ∧ cur[j * 3 + 2]? = some (.string (rs'.getD j Rl0).da)) ∧ CopyOf w (H + 1) (rs.getD j Rl0) (rs'.getD j Rl0)

/-- The world behind a store into block H: all other blocks are as they were. -/
structure But (H : Nat) (w w3 : World) : Prop where
  blk : ∀ b, b ≠ H → b < w.heap.size → w3.heap[b]? = w.heap[b]?
  siz : w.heap.size ≤ w3.heap.size

theorem Strs.but {H : Nat} {w w3 : World} {a : Option Addr} {n : Nat} {ss : List ByteArray} (h : Strs w a n ss) (hb : But H w w3) (ha : ∀ ad, a = some ad → ad.block ≠ H) : Strs w3 a n ss :=
  ⟨h.hlen, h.small, fun h0 => by
    obtain ⟨b, o, e, hc⟩ := h.lies h0
    have hne := ha _ e
    refine ⟨b, o, e, fun j hj => ?_⟩
    have h1 := hc j hj
    have hlt := World.block_lt_of_cell? w _ h1
    exact (World.cell?_of_block (w := w) (a := ⟨b, o + j, none⟩) (hb.blk b hne hlt)).trans h1⟩

theorem CopyOf.but {H : Nat} {w w3 : World} {r r' : Rl} (h : CopyOf w (H + 1) r r') (hb : But H w w3) : CopyOf w3 (H + 1) r r' :=
  ⟨h.kl, h.ks, h.dy, h.da, h.nil1, h.nil2, h.strs.but hb (fun ad e => by have := (h.fresh ad e).1; omega), fun ad e => by have := h.fresh ad e; have := hb.siz; omega⟩

theorem But.store (H o : Nat) (w : World) (v0 v1 v2 : Value) : But H w (((w.setCell ⟨H, o, none⟩ v0).setCell ⟨H, o + 1, none⟩ v1).setCell ⟨H, o + 2, none⟩ v2) :=
  ⟨fun b hb _ => by rw [Below.heap_setCell _ _ _ _ hb, Below.heap_setCell _ _ _ _ hb, Below.heap_setCell _ _ _ _ hb], by simp [World.setCell]⟩
theorem But.of_below {H : Nat} {w w2 w3 : World} (hb : Below w.heap.size w w2) (h : But H w2 w3) : But H w w3 :=
  ⟨fun b h1 h2 => (h.blk b h1 (Nat.lt_of_lt_of_le h2 hb.size)).trans (hb.block b h2), Nat.le_trans hb.size h.siz⟩

theorem getD_snoc (rs' : List Rl) (r : Rl) (k j : Nat) (hl : rs'.length = k) (hj : j < k) : (rs' ++ [r]).getD j Rl0 = rs'.getD j Rl0 := by
  simp only [List.getD, List.getElem?_append_left (show j < rs'.length by omega)]
theorem getD_last (rs' : List Rl) (r : Rl) (k : Nat) (hl : rs'.length = k) : (rs' ++ [r]).getD k Rl0 = r := by
  subst hl; simp [List.getD]

theorem Laid.step {H n k : Nat} {wr w2 : World} {rs rs' : List Rl} {ka ka' : Option Addr} {kl kc kc' : Nat} {ks : List ByteArray} {dy : Int} {da : ByteArray} (hl : rs'.length = k) (cur : Array Value)
    (hg : wr.heap[H]? = some (.cells cur 33 (0, 0))) (hcs : cur.size = n * 3)
    (hold : ∀ j, j < k → (cur[j * 3]? = some (.slice (rs'.getD j Rl0).ka (rs'.getD j Rl0).kl (rs'.getD j Rl0).kc) ∧ cur[j * 3 + 1]? = some (.int .i64 (rs'.getD j Rl0).dy) ∧ cur[j * 3 + 2]? = some (.string (rs'.getD j Rl0).da)) ∧ CopyOf wr (H + 1) (rs.getD j Rl0) (rs'.getD j Rl0))
    (hb2 : Below wr.drew.heap.size wr.drew w2) (hCp : Copied wr.drew w2 ka kl ks ka') (HE : rs.getD k Rl0 = ⟨ka, kl, kc, ks, dy, da⟩) (hk : k < n) :
    Laid (((w2.setCell ⟨H, k * 3, none⟩ (.slice ka' kl kc')).setCell ⟨H, k * 3 + 1, none⟩ (.int .i64 dy)).setCell ⟨H, k * 3 + 2, none⟩ (.string da)) H n (k + 1) rs (rs' ++ [⟨ka', kl, kc', ks, dy, da⟩]) := by
  have hHlt : H < wr.heap.size := (Array.getElem?_eq_some_iff.1 hg).1
  have hbw : Below wr.heap.size wr w2 := (Below.refl _ _).drew.trans hb2
  have g2 : w2.heap[H]? = some (.cells cur 33 (0, 0)) := (hbw.block H hHlt).trans hg
  have hbut : But H w2 (((w2.setCell ⟨H, k * 3, none⟩ (.slice ka' kl kc')).setCell ⟨H, k * 3 + 1, none⟩ (.int .i64 dy)).setCell ⟨H, k * 3 + 2, none⟩ (.string da)) := But.store H (k * 3) w2 _ _ _
  have s1 := heap_setCell_same w2 H (k * 3) cur 33 (.slice ka' kl kc') g2
  have s2 := heap_setCell_same _ H (k * 3 + 1) _ 33 (.int .i64 dy) s1
  have s3 := heap_setCell_same _ H (k * 3 + 2) _ 33 (.string da) s2
  refine ⟨by simp [hl], _, s3, by simpa using hcs, fun j hj => ?_⟩
  by_cases hjk : j < k
  · rw [getD_snoc rs' _ k j hl hjk]
    obtain ⟨⟨h1, h2, h3⟩, hc⟩ := hold j hjk
    refine ⟨⟨?_, ?_, ?_⟩, hc.but (But.of_below hbw hbut)⟩
    · rw [Array.getElem?_setIfInBounds_ne (by omega), Array.getElem?_setIfInBounds_ne (by omega), Array.getElem?_setIfInBounds_ne (by omega)]; exact h1
    · rw [Array.getElem?_setIfInBounds_ne (by omega), Array.getElem?_setIfInBounds_ne (by omega), Array.getElem?_setIfInBounds_ne (by omega)]; exact h2
    · rw [Array.getElem?_setIfInBounds_ne (by omega), Array.getElem?_setIfInBounds_ne (by omega), Array.getElem?_setIfInBounds_ne (by omega)]; exact h3
  · obtain rfl : j = k := by omega
    rw [getD_last rs' _ j hl, HE]
    refine ⟨⟨?_, ?_, ?_⟩, ⟨rfl, rfl, rfl, rfl, hCp.nil1, hCp.nil2, hCp.strs.but hbut (fun ad e => ?_), fun ad e => ?_⟩⟩
    · rw [Array.getElem?_setIfInBounds_ne (by omega), Array.getElem?_setIfInBounds_ne (by omega), Array.getElem?_setIfInBounds_self_of_lt (by omega)]
    · rw [Array.getElem?_setIfInBounds_ne (by omega), Array.getElem?_setIfInBounds_self_of_lt (by simp; omega)]
    · rw [Array.getElem?_setIfInBounds_self_of_lt (by simp; omega)]
    · have h1 : wr.heap.size ≤ ad.block := (hCp.fresh ad e).1
      omega
    · have h1 : wr.heap.size ≤ ad.block := (hCp.fresh ad e).1
      have h2 := (hCp.fresh ad e).2
      have h3 := hbut.siz
      exact ⟨by omega, by omega⟩

theorem laid_start {w : World} {H n : Nat} {xs : List Value} {rs : List Rl} (h : w.ownsRow H 33 3 (.slice (some ⟨H, 0, none⟩) n n) n xs) : Laid w H n 0 rs [] := by
  rcases h.2 with ⟨h', _⟩ | ⟨g', cap, cur, h', hb, hg, hnc, hcm, hcs, htake⟩
  · simp at h'
  · simp only [Value.slice.injEq, Option.some.injEq, Addr.mk.injEq, and_true, true_and] at h'
    obtain ⟨rfl, rfl⟩ := h'
    exact ⟨rfl, cur, hg, hcs, fun j hj => by omega⟩

set_option maxRecDepth 100000 in
set_option maxHeartbeats 4000000 in
theorem rules20_some (b o : Nat) (n c : Nat) (rs : List Rl) (w : World) (h0 : 0 < n) (hn : n ≤ 1048576)
    (HC : Hid (∀ j, j < n → RuleAt w b (o + j * 3) (rs.getD j Rl0))) (HG : Hid (∀ j, j < n → Good w (rs.getD j Rl0))) (HK : Hid (∀ j, j < n → (rs.getD j Rl0).kl ≤ 1048576)) :
    Calls Try.prog 20 #[.slice (some ⟨b, o, none⟩) n c] w fun e w' => ∃ rs', e = .returned (.slice (some ⟨w.heap.size, 0, none⟩) n n) ∧ Laid w' w.heap.size n n rs rs' ∧ Below w.heap.size w w' := by
  obtain ⟨i0, hi, hz0, hz1, hz2⟩ := info_parts info33
  have q23 : ∀ (w : World) (a : Option Addr) (n c n' c' : Nat), (binOp .eql 23 (.slice a n c) (.slice none n' c')).run Try.prog w = .ok (.bool a.isNone) w := fun w a n c n' c' => Lib.run_eql_slice_nil w _ _ a n c n' c' Try.underlying23
  go_enter Try.func20, Try.ntmps20
  go_wp2_with (at_make; refine wpList_make_full _ rfl (.tmp 8) (.tmp 8) 48 rfl w.heap.size 33 i0 (.agg #[.slice none 0 0, .int .i64 0, .string ByteArray.empty]) 3 Try.underlying48 hi hz0 hz1 .i64 .i64 _ _ n rfl rfl rfl rfl (by rw [hz2]; omega) (by unfold maxLen; omega) (Nat.le_refl _) ?_; intro w1 hown hgr; have hb := (Below.refl w.heap.size w).grown hgr (Nat.le_refl _) (by intro k hk; cases hk); clear hgr)
  go_loopw [4] (fun i wr => ∃ (k : Nat) (rs' : List Rl), k ≤ n ∧ i = .int .i64 k ∧ Laid wr w.heap.size n k rs rs' ∧ Below w.heap.size w wr) (fun i _ => n - (intOf i).toNat)
  case atStart => exact ⟨0, [], Nat.zero_le _, rfl, laid_start hown, hb⟩
  case round =>
    clear hown hb
    obtain ⟨k, rs', hk, rfl, hL, hbr⟩ := hrel
    by_cases hlt : k < n
    · obtain ⟨ka, kl, kc, ks, dy, da, HE, c0, c1, c2, hS, hkl, hda, hd0, hd1, hnil⟩ := rule_at (w := wr) (fun j hj => (HC.out j hj).later hbr) (fun j hj => (HG.out j hj).later hbr) k hlt
      obtain ⟨hl', cur, hg, hcs, hold⟩ := hL
      have HOLD := (show Hid _ from hold)
      have hin : (0 : Int) ≤ (k : Int) := by omega
      have hin2 : (k : Int) < (n : Int) := by omega
      have hks : kl ≤ 1048576 := by have := HK.out k hlt; rw [HE.out] at this; exact this
      clear hold
      have hblt : b < w.heap.size := World.block_lt_of_cell? w ⟨b, o + k * 3, none⟩ (HC.out k hlt).c0
      have hne1 : ¬ b = w.heap.size := by omega
      have hne2 : ¬ w.heap.size = b := by omega
      have hSd : Strs wr.drew ka kl ks := hS.later (Below.refl _ _).drew
      obtain ⟨v0, hv0⟩ : ∃ v0, cur[k * 3]? = some v0 := ⟨_, Array.getElem?_eq_getElem (by omega)⟩
      obtain ⟨v1, hv1⟩ : ∃ v1, cur[k * 3 + 1]? = some v1 := ⟨_, Array.getElem?_eq_getElem (by omega)⟩
      obtain ⟨v2, hv2⟩ : ∃ v2, cur[k * 3 + 2]? = some v2 := ⟨_, Array.getElem?_eq_getElem (by omega)⟩
      have HG2 : Hid (∀ w2 : World, Below wr.drew.heap.size wr.drew w2 → w2.heap[w.heap.size]? = some (.cells cur 33 (0, 0))) := fun w2 hb2 => (hb2.block _ (show w.heap.size < wr.heap.size from (Array.getElem?_eq_some_iff.1 hg).1)).trans hg
      have HV : Hid (cur[k * 3]? = some v0 ∧ cur[k * 3 + 1]? = some v1 ∧ cur[k * 3 + 2]? = some v2) := ⟨hv0, hv1, hv2⟩
      have HHG : Hid (wr.heap[w.heap.size]? = some (.cells cur 33 (0, 0))) := hg
      have HHS : Hid (cur.size = n * 3) := hcs
      clear hv0 hv1 hv2 hS hg hcs
      go_wp2
      go_region_held3 (fun w' => w'.cell? ⟨b, o + k * 3, none⟩ = some (.slice ka kl kc) ∧ w'.cell? ⟨b, o + k * 3 + 1, none⟩ = some (.int .i64 dy) ∧ w'.cell? ⟨b, o + k * 3 + 2, none⟩ = some (.string da)) (go_keep) ((go_at_call 21; refine (kinds21 ka kl kc ks wr.drew hSd hks hnil).mono ?_; rintro e w2 ⟨ka', kc', rfl, hCp, hb2⟩; have x0 := (hb2.cell (World.block_lt_of_cell? wr _ c0)).trans c0; have x1 := (hb2.cell (World.block_lt_of_cell? wr _ c1)).trans c1; have x2 := (hb2.cell (World.block_lt_of_cell? wr _ c2)).trans c2; have y0 := (cell_of_row w2 w.heap.size (k * 3) cur 33 (0, 0) (HG2.out w2 hb2)).trans HV.out.1; have y1 := (cell_of_row w2 w.heap.size (k * 3 + 1) cur 33 (0, 0) (HG2.out w2 hb2)).trans HV.out.2.1; have y2 := (cell_of_row w2 w.heap.size (k * 3 + 2) cur 33 (0, 0) (HG2.out w2 hb2)).trans HV.out.2.2; have f0 := frozen_of_row w2 w.heap.size (k * 3) cur 33 (HG2.out w2 hb2); have f1 := frozen_of_row w2 w.heap.size (k * 3 + 1) cur 33 (HG2.out w2 hb2); have f2 := frozen_of_row w2 w.heap.size (k * 3 + 2) cur 33 (HG2.out w2 hb2)))
      all_goals go_wp2
      go_roundw
      case rel => exact ⟨k + 1, _, by omega, by go_num, Laid.step hl' cur HHG.out HHS.out HOLD.out hb2 hCp HE.out hlt, (((hbr.drew.trans (hb2.mono (by exact hbr.size))).setCell (by simp) _).setCell (by simp) _).setCell (by simp) _⟩
      case measure => simp [intOf]; omega
    · obtain rfl : n = k := by omega
      go_wp2
      go_ret
      exact ⟨rs', rfl, hL, hbr⟩

theorem rules20_nil (w : World) :
    Calls Try.prog 20 #[.slice none 0 0] w fun e w' => e = .returned (.slice none 0 0) ∧ w = w' := by
  have q23 : ∀ (w : World) (a : Option Addr) (n c n' c' : Nat), (binOp .eql 23 (.slice a n c) (.slice none n' c')).run Try.prog w = .ok (.bool a.isNone) w := fun w a n c n' c' => Lib.run_eql_slice_nil w _ _ a n c n' c' Try.underlying23
  go_enter Try.func20, Try.ntmps20
  go_wp2
  go_ret
  exact ⟨rfl, rfl⟩

theorem rules20_empty (ad : Addr) (c : Nat) (w : World) :
    Calls Try.prog 20 #[.slice (some ad) 0 c] w fun e w' => e = .returned (.slice (some ⟨w.heap.size, 0, none⟩) 0 0) ∧ Below w.heap.size w w' := by
  obtain ⟨i0, hi, hz0, hz1, hz2⟩ := info_parts info33
  have q23 : ∀ (w : World) (a : Option Addr) (n c n' c' : Nat), (binOp .eql 23 (.slice a n c) (.slice none n' c')).run Try.prog w = .ok (.bool a.isNone) w := fun w a n c n' c' => Lib.run_eql_slice_nil w _ _ a n c n' c' Try.underlying23
  go_enter Try.func20, Try.ntmps20
  go_wp2_with (at_make; refine wpList_make_full _ rfl (.tmp 8) (.tmp 8) 48 rfl w.heap.size 33 i0 (.agg #[.slice none 0 0, .int .i64 0, .string ByteArray.empty]) 3 Try.underlying48 hi hz0 hz1 .i64 .i64 _ _ 0 rfl rfl rfl rfl (by rw [hz2]; omega) (by unfold maxLen; omega) (Nat.le_refl _) ?_; intro w1 hown hgr; have hb := (Below.refl w.heap.size w).grown hgr (Nat.le_refl _) (by intro k hk; cases hk); clear hgr)
  refine wp_loop_rounds 1 ?_
  rw [rounds_succ]
  go_wp2
  go_ret
  exact ⟨rfl, hb⟩

/-- The rules' copy, whatever the slice. -/
theorem rules20 (a : Option Addr) (n c : Nat) (rs : List Rl) (w : World) (hR : Rules w a n rs) (hn : n ≤ 1048576) (hk : ∀ j, j < n → (rs.getD j Rl0).kl ≤ 1048576) (hnil : a = none → n = 0 ∧ c = 0) :
    Calls Try.prog 20 #[.slice a n c] w fun e w' => ∃ a' c', e = .returned (.slice a' n c') ∧ (0 < n → a' = some ⟨w.heap.size, 0, none⟩ ∧ ∃ rs', Laid w' w.heap.size n n rs rs') ∧ Below w.heap.size w w' := by
  rcases hR.form with h0 | ⟨h0, b, o, rfl, HC⟩
  · obtain rfl : n = 0 := by omega
    cases a with
    | none =>
      obtain ⟨_, rfl⟩ := hnil rfl
      refine (rules20_nil w).mono ?_
      rintro e w' ⟨rfl, rfl⟩
      exact ⟨_, _, rfl, (fun h => by omega), Below.refl _ _⟩
    | some ad =>
      refine (rules20_empty ad c w).mono ?_
      rintro e w' ⟨rfl, hb⟩
      exact ⟨_, _, rfl, (fun h => by omega), hb⟩
  · refine (rules20_some b o n c rs w h0 hn HC hR.good hk).mono ?_
    rintro e w' ⟨rs', rfl, hL, hb⟩
    exact ⟨_, _, rfl, (fun _ => ⟨rfl, rs', hL⟩), hb⟩

end Go.Proofs.Qxb6601836a
