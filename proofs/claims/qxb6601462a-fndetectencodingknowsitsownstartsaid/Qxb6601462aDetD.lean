import Derived.Test.Qxb6601462aDetC
namespace Go.Proofs.Qxb6601462a
open Go.RowKit
set_option linter.unusedVariables false

/-- What the walk is told of a slice of bytes that came in. -/
def IsRow (k : IntKind) (w : World) (a : Option Addr) (len cap : Nat) (zs : List Int) : Prop :=
  (a = none ∧ len = 0 ∧ cap = 0 ∧ zs = []) ∨
  ∃ x, a = some x ∧ len ≤ cap ∧ cap ≤ maxLen ∧ zs.length = cap ∧ (∀ i, i < zs.length → w.cell? (x.add i) = some (.int k (zs.getD i 0))) ∧ ∀ n ∈ zs, (Lit.int k n).wf = true

/-- The elements of such a slice, as the laws on append ask them. -/
structure Els (w : World) (a : Option Addr) (len cap : Nat) (es : List Int) : Prop where
  hlen : es.length = len
  fits : len ≤ maxLen
  hnone : a = none → len = 0 ∧ cap = 0
  cells : ∀ ad, a = some ad → ∀ j u, (es.map (Value.int .u8))[j]? = some u → w.cell? (ad.add j) = some u

theorem IsRow.els {w : World} {a : Option Addr} {len cap : Nat} {zs : List Int} (h : IsRow .u8 w a len cap zs) : Els w a len cap (zs.take len) := by
  rcases h with ⟨rfl, rfl, rfl, rfl⟩ | ⟨x, rfl, hl, hm, hz, hc, _⟩
  · exact ⟨rfl, Nat.zero_le _, fun _ => ⟨rfl, rfl⟩, fun _ h => by cases h⟩
  · refine ⟨by simp; omega, by omega, (fun h => by cases h), fun ad had j u hu => ?_⟩
    obtain rfl := Option.some.inj had
    have hj : j < len := by
      have := (List.getElem?_eq_some_iff.1 hu).1
      simp at this; omega
    have e : ((zs.take len).map (Value.int .u8))[j]? = some (.int .u8 (zs.getD j 0)) := by
      simp [List.getD, hj, show j < zs.length by omega]
    rw [e] at hu
    rw [← Option.some.inj hu]
    exact hc j (by omega)

theorem Els.later {w w' : World} {a : Option Addr} {len cap : Nat} {es : List Int} (h : Els w a len cap es) (hb : Below w.heap.size w w') : Els w' a len cap es :=
  ⟨h.hlen, h.fits, h.hnone, fun ad had j u hu => by
    have hc := h.cells ad had j u hu
    exact (hb.cell (World.block_lt_of_cell? w _ hc)).trans hc⟩

theorem own_len {w : World} {B g n cap : Nat} {zs : List Int} (h : w.ownsRow B 5 1 (.slice (some ⟨g, 0, none⟩) n cap) n (zs.map (Value.int .u8))) : zs.length = n := by
  have := h.1; simpa using this

theorem own_cells {w : World} {B g n cap : Nat} {zs : List Int} (h : w.ownsRow B 5 1 (.slice (some ⟨g, 0, none⟩) n cap) n (zs.map (Value.int .u8))) :
    ∀ j, j < n → w.cell? ((⟨g, 0, none⟩ : Addr).add j) = some (.int .u8 (zs.getD j 0)) := by
  intro j hj
  have hl := own_len h
  have := h.cellAt j (by omega)
  rw [Addr.add_lit, Nat.zero_add, this]
  simp [List.getD, show j < zs.length by omega]

/-- Function 12 at a row of the call's own. -/
theorem det12_own (w : World) (B g n cap : Nat) (zs : List Int) (h : w.ownsRow B 5 1 (.slice (some ⟨g, 0, none⟩) n cap) n (zs.map (Value.int .u8))) (hn : n ≤ 9223372036854775807) (ans : Int)
    (hd : Det n (zs.getD 0 0) (zs.getD 1 0) (zs.getD 2 0) (zs.getD 3 0) ans) :
    Calls Try.prog 12 #[.slice (some ⟨g, 0, none⟩) n cap] w fun e w' => e = .returned (.int .u8 ans) ∧ Below w.heap.size w w' :=
  det12 w ⟨g, 0, none⟩ n cap zs (own_len h) (by unfold maxLen; omega) (own_cells h) ans hd

/-- A row grown by an append: the world below the row has not turned. -/
theorem below_app {B g : Nat} {w w1 w2 : World} {o : Obj} (hb : Below B w w1) (hB : B ≤ w1.heap.size) (hg : (w1.alloc o).grownBy w2 (some g)) (hBg : B ≤ g) : Below B w w2 :=
  (hb.alloc hB o).grown hg (by simp; omega) (by intro k hk; cases hk; exact hBg)
theorem below_grown {B g : Nat} {w w1 w2 : World} (hb : Below B w w1) (hB : B ≤ w1.heap.size) (hg : w1.grownBy w2 (some g)) (hBg : B ≤ g) : Below B w w2 :=
  hb.grown hg hB (by intro k hk; cases hk; exact hBg)
theorem below_made {w w1 : World} (hg : w.grownBy w1 none) : Below w.heap.size w w1 := (Below.refl w.heap.size w).grown hg (Nat.le_refl _) (by intro k hk; cases hk)
theorem size_app {w1 w2 : World} {o : Obj} {r : Option Nat} (hg : (w1.alloc o).grownBy w2 r) {n : Nat} (h : n < w1.heap.size) : n < w2.heap.size := by
  have := hg.size; simp at this; omega

theorem le2 (n : Nat) (a0 a1 : Int) (es : List Int) (c1 : 1 ≤ a0) (c2 : a0 ≤ 127) (d1 : 1 ≤ a1) (d2 : a1 ≤ 65535) (hn : 4 ≤ n) :
    Det n (([a0, 0, a1 % 256, a1 / 256] ++ es).getD 0 0) (([a0, 0, a1 % 256, a1 / 256] ++ es).getD 1 0) (([a0, 0, a1 % 256, a1 / 256] ++ es).getD 2 0) (([a0, 0, a1 % 256, a1 / 256] ++ es).getD 3 0) 2 := by
  show Det n a0 0 (a1 % 256) (a1 / 256) 2
  by_cases h : a1 % 256 = 0
  · exact Or.inr (Or.inr (Or.inr (Or.inr (Or.inr (Or.inl ⟨rfl, hn, by omega, by omega, by omega, rfl, h, by omega⟩)))))
  · exact Or.inr (Or.inr (Or.inr (Or.inr (Or.inl ⟨rfl, hn, by omega, by omega, by omega, rfl, h⟩))))

set_option maxHeartbeats 1000000 in
theorem w4_0_t (a0 a1 : Int) (a4 : Option Addr) (len4 cap4 : Nat) (es : List Int) (w : World) (c1 : 1 ≤ a0) (c2 : a0 ≤ 127) (d1 : 1 ≤ a1) (d2 : a1 ≤ 65535) (hE : Els w a4 len4 cap4 es) (hl : len4 ≤ 1048576) :
    Calls Try.prog 4 #[.int .u8 a0, .int .u16 a1, .int .u8 0, .bool true, .slice a4 len4 cap4] w fun e w' => e = .returned (.bool true) ∧ Below w.heap.size w w' := by
  obtain ⟨i0, hi, hz0, hz1, hz2⟩ := info_parts Try.info5
  have hlm := hE.fits
  have q0 : (a0 == 0) = false := by simp; omega
  have q1 : decide (127 < a0) = false := by simp; omega
  have q2 : (a1 == 0) = false := by simp; omega
  go_enter Try.func4, Try.ntmps4
  go_wp2_with (first
    | (go_at_call 9; refine (zb9 _ _ _ _ _ _ _ _ hlm true (by simp; omega)).mono ?_; rintro e w0 ⟨rfl, hw⟩; have hw' := hw.symm; clear hw; subst hw')
    | (go_at_call 10; refine (enc10_yes _ _ (by omega) (by omega)).mono ?_; rintro e w0 ⟨rfl, hw⟩; have hw' := hw.symm; clear hw; subst hw')
    | (at_make; refine wpList_make_own _ rfl (.const (.int .i64 0)) (.tmp 37) 22 rfl w.heap.size 5 i0 (.int .u8 0) 1 Try.underlying22 hi hz0 hz1 .i64 .i64 _ (16 + len4) rfl rfl (by omega) (by rw [hz2]; omega) (by unfold maxLen; omega) (Nat.le_refl _) ?_; intro w1 hown hgr; have hb := below_made hgr; clear hgr)
    | (at_builtin; refine wpList_append_fits _ rfl (.tmp 43) (.tmp 44) 22 rfl w.heap.size 5 i0 1 Try.underlying22 hi hz1 w.heap.size 0 (16 + len4) ([].map (Value.int .u8)) rfl (hown.alloc _) ⟨_, 0, none⟩ 3 3 ([239,187,191].map (Value.int .u8)) rfl (by rfl) (World.news_of_block (heap_alloc_new _ _)) (ints_oneCell .u8 [239,187,191]) (by omega) ?_; intro w2 hown2 hgr2; have hb2 := below_app hb (by have := hb.size; omega) hgr2 (Nat.le_refl _); clear hb; have hb := hb2; clear hb2; have hown : w2.ownsRow w.heap.size 5 1 (.slice (some ⟨w.heap.size, 0, none⟩) 3 (16 + len4)) 3 ([239,187,191].map (Value.int .u8)) := hown2; clear hown2 hgr2)
    | (at_builtin; refine wpList_append_fits _ rfl (.tmp 46) (.tmp 48) 22 rfl w.heap.size 5 i0 1 Try.underlying22 hi hz1 w.heap.size 3 (16 + len4) ([239,187,191].map (Value.int .u8)) rfl (hown.alloc _) ⟨_, 0, none⟩ 1 1 ([a0].map (Value.int .u8)) rfl (by rfl) (World.news_of_block (heap_alloc_new _ _)) (ints_oneCell .u8 [a0]) (by omega) ?_; intro w2 hown2 hgr2; have hb2 := below_app hb (by have := hb.size; omega) hgr2 (Nat.le_refl _); clear hb; have hb := hb2; clear hb2; have hown : w2.ownsRow w.heap.size 5 1 (.slice (some ⟨w.heap.size, 0, none⟩) 4 (16 + len4)) 4 ([239,187,191,a0].map (Value.int .u8)) := hown2; clear hown2 hgr2)
    | (go_at_call 11; refine (utf11 a1 d1 d2 w.heap.size 4 (16 + len4) _ w2 w.heap.size hown (by omega) (by unfold maxLen; omega)).mono ?_; rintro e w5 ⟨z, zs, n, hz3, hz4, hn1, hn2, rfl, hown2, hgr2⟩; have hb2 := below_grown hb (by have := hb.size; omega) hgr2 (Nat.le_refl _); clear hb; have hb := hb2; clear hb2; have hown : w5.ownsRow w.heap.size 5 1 (.slice (some ⟨w.heap.size, 0, none⟩) n (16 + len4)) n (([239,187,191,a0] ++ z :: zs).map (Value.int .u8)) := (by rw [List.map_append]; exact hown2); clear hown2 hgr2)
    | (at_builtin; refine wpList_append_fits_any _ rfl (.tmp 113) (.tmp 114) 22 rfl w.heap.size 5 i0 1 Try.underlying22 hi hz1 w.heap.size n (16 + len4) _ rfl hown a4 len4 cap4 (es.map (Value.int .u8)) rfl (by rw [List.length_map, hE.hlen]; omega) hE.hnone (hE.later hb).cells (ints_oneCell _ _) (by omega) ?_; intro w3 hown3 hgr3; have hb3 := below_grown hb (by have := hb.size; omega) hgr3 (Nat.le_refl _); clear hb; have hown4 : w3.ownsRow w.heap.size 5 1 (.slice (some ⟨w.heap.size, 0, none⟩) (n + len4) (16 + len4)) (n + len4) ((([239,187,191,a0] ++ z :: zs) ++ es).map (Value.int .u8)) := (by rw [List.map_append]; exact hown3); clear hown3 hgr3)
    | (go_at_call 12; refine (det12_own _ w.heap.size w.heap.size (n + len4) (16 + len4) (([239,187,191,a0] ++ z :: zs) ++ es) hown4 (by omega) 0 (Or.inl ⟨rfl, by omega, (by show (239 : Int) ≠ 0; omega), (by show (239 : Int) ≠ 254; omega), (by show (239 : Int) ≠ 255; omega), (by show (187 : Int) ≠ 0; omega)⟩)).mono ?_; rintro e w4 ⟨rfl, hb4⟩; have hb5 := hb3.trans (hb4.mono hb3.size))
    )
  go_ret
  exact ⟨rfl, hb5⟩

set_option maxHeartbeats 1000000 in
theorem w4_0_f (a0 a1 : Int) (a4 : Option Addr) (len4 cap4 : Nat) (es : List Int) (w : World) (c1 : 1 ≤ a0) (c2 : a0 ≤ 127) (d1 : 1 ≤ a1) (d2 : a1 ≤ 65535) (hE : Els w a4 len4 cap4 es) (hl : len4 ≤ 1048576) :
    Calls Try.prog 4 #[.int .u8 a0, .int .u16 a1, .int .u8 0, .bool false, .slice a4 len4 cap4] w fun e w' => e = .returned (.bool true) ∧ Below w.heap.size w w' := by
  obtain ⟨i0, hi, hz0, hz1, hz2⟩ := info_parts Try.info5
  have hlm := hE.fits
  have q0 : (a0 == 0) = false := by simp; omega
  have q1 : decide (127 < a0) = false := by simp; omega
  have q2 : (a1 == 0) = false := by simp; omega
  go_enter Try.func4, Try.ntmps4
  go_wp2_with (first
    | (go_at_call 9; refine (zb9 _ _ _ _ _ _ _ _ hlm true (by simp; omega)).mono ?_; rintro e w0 ⟨rfl, hw⟩; have hw' := hw.symm; clear hw; subst hw')
    | (go_at_call 10; refine (enc10_yes _ _ (by omega) (by omega)).mono ?_; rintro e w0 ⟨rfl, hw⟩; have hw' := hw.symm; clear hw; subst hw')
    | (at_make; refine wpList_make_own _ rfl (.const (.int .i64 0)) (.tmp 37) 22 rfl w.heap.size 5 i0 (.int .u8 0) 1 Try.underlying22 hi hz0 hz1 .i64 .i64 _ (16 + len4) rfl rfl (by omega) (by rw [hz2]; omega) (by unfold maxLen; omega) (Nat.le_refl _) ?_; intro w1 hown hgr; have hb := below_made hgr; clear hgr)
    | (at_builtin; refine wpList_append_fits _ rfl (.tmp 46) (.tmp 48) 22 rfl w.heap.size 5 i0 1 Try.underlying22 hi hz1 w.heap.size 0 (16 + len4) ([].map (Value.int .u8)) rfl (hown.alloc _) ⟨_, 0, none⟩ 1 1 ([a0].map (Value.int .u8)) rfl (by rfl) (World.news_of_block (heap_alloc_new _ _)) (ints_oneCell .u8 [a0]) (by omega) ?_; intro w2 hown2 hgr2; have hb2 := below_app hb (by have := hb.size; omega) hgr2 (Nat.le_refl _); clear hb; have hb := hb2; clear hb2; have hown : w2.ownsRow w.heap.size 5 1 (.slice (some ⟨w.heap.size, 0, none⟩) 1 (16 + len4)) 1 ([a0].map (Value.int .u8)) := hown2; clear hown2 hgr2)
    | (go_at_call 11; refine (utf11 a1 d1 d2 w.heap.size 1 (16 + len4) _ w2 w.heap.size hown (by omega) (by unfold maxLen; omega)).mono ?_; rintro e w5 ⟨z, zs, n, hz3, hz4, hn1, hn2, rfl, hown2, hgr2⟩; have hb2 := below_grown hb (by have := hb.size; omega) hgr2 (Nat.le_refl _); clear hb; have hb := hb2; clear hb2; have hown : w5.ownsRow w.heap.size 5 1 (.slice (some ⟨w.heap.size, 0, none⟩) n (16 + len4)) n (([a0] ++ z :: zs).map (Value.int .u8)) := (by rw [List.map_append]; exact hown2); clear hown2 hgr2)
    | (at_builtin; refine wpList_append_fits_any _ rfl (.tmp 113) (.tmp 114) 22 rfl w.heap.size 5 i0 1 Try.underlying22 hi hz1 w.heap.size n (16 + len4) _ rfl hown a4 len4 cap4 (es.map (Value.int .u8)) rfl (by rw [List.length_map, hE.hlen]; omega) hE.hnone (hE.later hb).cells (ints_oneCell _ _) (by omega) ?_; intro w3 hown3 hgr3; have hb3 := below_grown hb (by have := hb.size; omega) hgr3 (Nat.le_refl _); clear hb; have hown4 : w3.ownsRow w.heap.size 5 1 (.slice (some ⟨w.heap.size, 0, none⟩) (n + len4) (16 + len4)) (n + len4) ((([a0] ++ z :: zs) ++ es).map (Value.int .u8)) := (by rw [List.map_append]; exact hown3); clear hown3 hgr3)
    | (go_at_call 12; refine (det12_own _ w.heap.size w.heap.size (n + len4) (16 + len4) (([a0] ++ z :: zs) ++ es) hown4 (by omega) 0 (Or.inl ⟨rfl, by omega, (by show a0 ≠ 0; omega), (by show a0 ≠ 254; omega), (by show a0 ≠ 255; omega), (by show z ≠ 0; omega)⟩)).mono ?_; rintro e w4 ⟨rfl, hb4⟩; have hb5 := hb3.trans (hb4.mono hb3.size))
    )
  go_ret
  exact ⟨rfl, hb5⟩

set_option maxHeartbeats 1000000 in
theorem w4_1_t (a0 a1 : Int) (a4 : Option Addr) (len4 cap4 : Nat) (es : List Int) (w : World) (c1 : 1 ≤ a0) (c2 : a0 ≤ 127) (d1 : 1 ≤ a1) (d2 : a1 ≤ 65535) (hE : Els w a4 len4 cap4 es) (hl : len4 ≤ 1048576) :
    Calls Try.prog 4 #[.int .u8 a0, .int .u16 a1, .int .u8 1, .bool true, .slice a4 len4 cap4] w fun e w' => e = .returned (.bool true) ∧ Below w.heap.size w w' := by
  obtain ⟨i0, hi, hz0, hz1, hz2⟩ := info_parts Try.info5
  have hlm := hE.fits
  have q0 : (a0 == 0) = false := by simp; omega
  have q1 : decide (127 < a0) = false := by simp; omega
  have q2 : (a1 == 0) = false := by simp; omega
  go_enter Try.func4, Try.ntmps4
  go_wp2_with (first
    | (go_at_call 9; refine (zb9 _ _ _ _ _ _ _ _ hlm true (by simp; omega)).mono ?_; rintro e w0 ⟨rfl, hw⟩; have hw' := hw.symm; clear hw; subst hw')
    | (go_at_call 10; refine (enc10_yes _ _ (by omega) (by omega)).mono ?_; rintro e w0 ⟨rfl, hw⟩; have hw' := hw.symm; clear hw; subst hw')
    | (at_make; refine wpList_make_own _ rfl (.const (.int .i64 0)) (.tmp 37) 22 rfl w.heap.size 5 i0 (.int .u8 0) 1 Try.underlying22 hi hz0 hz1 .i64 .i64 _ (16 + len4) rfl rfl (by omega) (by rw [hz2]; omega) (by unfold maxLen; omega) (Nat.le_refl _) ?_; intro w1 hown hgr; have hb := below_made hgr; clear hgr)
    | (at_builtin; refine wpList_append_fits _ rfl (.tmp 56) (.tmp 57) 22 rfl w.heap.size 5 i0 1 Try.underlying22 hi hz1 w.heap.size 0 (16 + len4) ([].map (Value.int .u8)) rfl (hown.alloc _) ⟨_, 0, none⟩ 2 2 ([254,255].map (Value.int .u8)) rfl (by rfl) (World.news_of_block (heap_alloc_new _ _)) (ints_oneCell .u8 [254,255]) (by omega) ?_; intro w2 hown2 hgr2; have hb2 := below_app hb (by have := hb.size; omega) hgr2 (Nat.le_refl _); clear hb; have hb := hb2; clear hb2; have hown : w2.ownsRow w.heap.size 5 1 (.slice (some ⟨w.heap.size, 0, none⟩) 2 (16 + len4)) 2 ([254,255].map (Value.int .u8)) := hown2; clear hown2 hgr2)
    | (at_builtin; refine wpList_append_fits _ rfl (.tmp 59) (.tmp 66) 22 rfl w.heap.size 5 i0 1 Try.underlying22 hi hz1 w.heap.size 2 (16 + len4) ([254,255].map (Value.int .u8)) rfl (hown.alloc _) ⟨_, 0, none⟩ 4 4 ([0,a0,(a1 / 256),(a1 % 256)].map (Value.int .u8)) rfl (by rfl) (World.news_of_block (heap_alloc_new _ _)) (ints_oneCell .u8 [0,a0,(a1 / 256),(a1 % 256)]) (by omega) ?_; intro w2 hown2 hgr2; have hb2 := below_app hb (by have := hb.size; omega) hgr2 (Nat.le_refl _); clear hb; have hb := hb2; clear hb2; have hown : w2.ownsRow w.heap.size 5 1 (.slice (some ⟨w.heap.size, 0, none⟩) 6 (16 + len4)) 6 ([254,255,0,a0,(a1 / 256),(a1 % 256)].map (Value.int .u8)) := hown2; clear hown2 hgr2)
    | (at_builtin; refine wpList_append_fits_any _ rfl (.tmp 113) (.tmp 114) 22 rfl w.heap.size 5 i0 1 Try.underlying22 hi hz1 w.heap.size 6 (16 + len4) _ rfl hown a4 len4 cap4 (es.map (Value.int .u8)) rfl (by rw [List.length_map, hE.hlen]; omega) hE.hnone (hE.later hb).cells (ints_oneCell _ _) (by omega) ?_; intro w3 hown3 hgr3; have hb3 := below_grown hb (by have := hb.size; omega) hgr3 (Nat.le_refl _); clear hb; have hown4 : w3.ownsRow w.heap.size 5 1 (.slice (some ⟨w.heap.size, 0, none⟩) (6 + len4) (16 + len4)) (6 + len4) (([254,255,0,a0,(a1 / 256),(a1 % 256)] ++ es).map (Value.int .u8)) := (by rw [List.map_append]; exact hown3); clear hown3 hgr3)
    | (go_at_call 12; refine (det12_own _ w.heap.size w.heap.size (6 + len4) (16 + len4) ([254,255,0,a0,(a1 / 256),(a1 % 256)] ++ es) hown4 (by omega) 1 (Or.inr (Or.inl ⟨rfl, by omega, rfl, rfl⟩))).mono ?_; rintro e w4 ⟨rfl, hb4⟩; have hb5 := hb3.trans (hb4.mono hb3.size))
    )
  go_ret
  exact ⟨rfl, hb5⟩

set_option maxHeartbeats 1000000 in
theorem w4_1_f (a0 a1 : Int) (a4 : Option Addr) (len4 cap4 : Nat) (es : List Int) (w : World) (c1 : 1 ≤ a0) (c2 : a0 ≤ 127) (d1 : 1 ≤ a1) (d2 : a1 ≤ 65535) (hE : Els w a4 len4 cap4 es) (hl : len4 ≤ 1048576) :
    Calls Try.prog 4 #[.int .u8 a0, .int .u16 a1, .int .u8 1, .bool false, .slice a4 len4 cap4] w fun e w' => e = .returned (.bool true) ∧ Below w.heap.size w w' := by
  obtain ⟨i0, hi, hz0, hz1, hz2⟩ := info_parts Try.info5
  have hlm := hE.fits
  have q0 : (a0 == 0) = false := by simp; omega
  have q1 : decide (127 < a0) = false := by simp; omega
  have q2 : (a1 == 0) = false := by simp; omega
  go_enter Try.func4, Try.ntmps4
  go_wp2_with (first
    | (go_at_call 9; refine (zb9 _ _ _ _ _ _ _ _ hlm true (by simp; omega)).mono ?_; rintro e w0 ⟨rfl, hw⟩; have hw' := hw.symm; clear hw; subst hw')
    | (go_at_call 10; refine (enc10_yes _ _ (by omega) (by omega)).mono ?_; rintro e w0 ⟨rfl, hw⟩; have hw' := hw.symm; clear hw; subst hw')
    | (at_make; refine wpList_make_own _ rfl (.const (.int .i64 0)) (.tmp 37) 22 rfl w.heap.size 5 i0 (.int .u8 0) 1 Try.underlying22 hi hz0 hz1 .i64 .i64 _ (16 + len4) rfl rfl (by omega) (by rw [hz2]; omega) (by unfold maxLen; omega) (Nat.le_refl _) ?_; intro w1 hown hgr; have hb := below_made hgr; clear hgr)
    | (at_builtin; refine wpList_append_fits _ rfl (.tmp 59) (.tmp 66) 22 rfl w.heap.size 5 i0 1 Try.underlying22 hi hz1 w.heap.size 0 (16 + len4) ([].map (Value.int .u8)) rfl (hown.alloc _) ⟨_, 0, none⟩ 4 4 ([0,a0,(a1 / 256),(a1 % 256)].map (Value.int .u8)) rfl (by rfl) (World.news_of_block (heap_alloc_new _ _)) (ints_oneCell .u8 [0,a0,(a1 / 256),(a1 % 256)]) (by omega) ?_; intro w2 hown2 hgr2; have hb2 := below_app hb (by have := hb.size; omega) hgr2 (Nat.le_refl _); clear hb; have hb := hb2; clear hb2; have hown : w2.ownsRow w.heap.size 5 1 (.slice (some ⟨w.heap.size, 0, none⟩) 4 (16 + len4)) 4 ([0,a0,(a1 / 256),(a1 % 256)].map (Value.int .u8)) := hown2; clear hown2 hgr2)
    | (at_builtin; refine wpList_append_fits_any _ rfl (.tmp 113) (.tmp 114) 22 rfl w.heap.size 5 i0 1 Try.underlying22 hi hz1 w.heap.size 4 (16 + len4) _ rfl hown a4 len4 cap4 (es.map (Value.int .u8)) rfl (by rw [List.length_map, hE.hlen]; omega) hE.hnone (hE.later hb).cells (ints_oneCell _ _) (by omega) ?_; intro w3 hown3 hgr3; have hb3 := below_grown hb (by have := hb.size; omega) hgr3 (Nat.le_refl _); clear hb; have hown4 : w3.ownsRow w.heap.size 5 1 (.slice (some ⟨w.heap.size, 0, none⟩) (4 + len4) (16 + len4)) (4 + len4) (([0,a0,(a1 / 256),(a1 % 256)] ++ es).map (Value.int .u8)) := (by rw [List.map_append]; exact hown3); clear hown3 hgr3)
    | (go_at_call 12; refine (det12_own _ w.heap.size w.heap.size (4 + len4) (16 + len4) ([0,a0,(a1 / 256),(a1 % 256)] ++ es) hown4 (by omega) 1 (Or.inr (Or.inr (Or.inl ⟨rfl, by omega, rfl, (by show a0 ≠ 0; omega)⟩)))).mono ?_; rintro e w4 ⟨rfl, hb4⟩; have hb5 := hb3.trans (hb4.mono hb3.size))
    )
  go_ret
  exact ⟨rfl, hb5⟩

set_option maxHeartbeats 1000000 in
theorem w4_2_t (a0 a1 : Int) (a4 : Option Addr) (len4 cap4 : Nat) (es : List Int) (w : World) (c1 : 1 ≤ a0) (c2 : a0 ≤ 127) (d1 : 1 ≤ a1) (d2 : a1 ≤ 65535) (hE : Els w a4 len4 cap4 es) (hl : len4 ≤ 1048576) :
    Calls Try.prog 4 #[.int .u8 a0, .int .u16 a1, .int .u8 2, .bool true, .slice a4 len4 cap4] w fun e w' => e = .returned (.bool true) ∧ Below w.heap.size w w' := by
  obtain ⟨i0, hi, hz0, hz1, hz2⟩ := info_parts Try.info5
  have hlm := hE.fits
  have q0 : (a0 == 0) = false := by simp; omega
  have q1 : decide (127 < a0) = false := by simp; omega
  have q2 : (a1 == 0) = false := by simp; omega
  go_enter Try.func4, Try.ntmps4
  go_wp2_with (first
    | (go_at_call 9; refine (zb9 _ _ _ _ _ _ _ _ hlm true (by simp; omega)).mono ?_; rintro e w0 ⟨rfl, hw⟩; have hw' := hw.symm; clear hw; subst hw')
    | (go_at_call 10; refine (enc10_yes _ _ (by omega) (by omega)).mono ?_; rintro e w0 ⟨rfl, hw⟩; have hw' := hw.symm; clear hw; subst hw')
    | (at_make; refine wpList_make_own _ rfl (.const (.int .i64 0)) (.tmp 37) 22 rfl w.heap.size 5 i0 (.int .u8 0) 1 Try.underlying22 hi hz0 hz1 .i64 .i64 _ (16 + len4) rfl rfl (by omega) (by rw [hz2]; omega) (by unfold maxLen; omega) (Nat.le_refl _) ?_; intro w1 hown hgr; have hb := below_made hgr; clear hgr)
    | (at_builtin; refine wpList_append_fits _ rfl (.tmp 71) (.tmp 72) 22 rfl w.heap.size 5 i0 1 Try.underlying22 hi hz1 w.heap.size 0 (16 + len4) ([].map (Value.int .u8)) rfl (hown.alloc _) ⟨_, 0, none⟩ 2 2 ([255,254].map (Value.int .u8)) rfl (by rfl) (World.news_of_block (heap_alloc_new _ _)) (ints_oneCell .u8 [255,254]) (by omega) ?_; intro w2 hown2 hgr2; have hb2 := below_app hb (by have := hb.size; omega) hgr2 (Nat.le_refl _); clear hb; have hb := hb2; clear hb2; have hown : w2.ownsRow w.heap.size 5 1 (.slice (some ⟨w.heap.size, 0, none⟩) 2 (16 + len4)) 2 ([255,254].map (Value.int .u8)) := hown2; clear hown2 hgr2)
    | (at_builtin; refine wpList_append_fits _ rfl (.tmp 74) (.tmp 81) 22 rfl w.heap.size 5 i0 1 Try.underlying22 hi hz1 w.heap.size 2 (16 + len4) ([255,254].map (Value.int .u8)) rfl (hown.alloc _) ⟨_, 0, none⟩ 4 4 ([a0,0,(a1 % 256),(a1 / 256)].map (Value.int .u8)) rfl (by rfl) (World.news_of_block (heap_alloc_new _ _)) (ints_oneCell .u8 [a0,0,(a1 % 256),(a1 / 256)]) (by omega) ?_; intro w2 hown2 hgr2; have hb2 := below_app hb (by have := hb.size; omega) hgr2 (Nat.le_refl _); clear hb; have hb := hb2; clear hb2; have hown : w2.ownsRow w.heap.size 5 1 (.slice (some ⟨w.heap.size, 0, none⟩) 6 (16 + len4)) 6 ([255,254,a0,0,(a1 % 256),(a1 / 256)].map (Value.int .u8)) := hown2; clear hown2 hgr2)
    | (at_builtin; refine wpList_append_fits_any _ rfl (.tmp 113) (.tmp 114) 22 rfl w.heap.size 5 i0 1 Try.underlying22 hi hz1 w.heap.size 6 (16 + len4) _ rfl hown a4 len4 cap4 (es.map (Value.int .u8)) rfl (by rw [List.length_map, hE.hlen]; omega) hE.hnone (hE.later hb).cells (ints_oneCell _ _) (by omega) ?_; intro w3 hown3 hgr3; have hb3 := below_grown hb (by have := hb.size; omega) hgr3 (Nat.le_refl _); clear hb; have hown4 : w3.ownsRow w.heap.size 5 1 (.slice (some ⟨w.heap.size, 0, none⟩) (6 + len4) (16 + len4)) (6 + len4) (([255,254,a0,0,(a1 % 256),(a1 / 256)] ++ es).map (Value.int .u8)) := (by rw [List.map_append]; exact hown3); clear hown3 hgr3)
    | (go_at_call 12; refine (det12_own _ w.heap.size w.heap.size (6 + len4) (16 + len4) ([255,254,a0,0,(a1 % 256),(a1 / 256)] ++ es) hown4 (by omega) 2 (Or.inr (Or.inr (Or.inr (Or.inl ⟨rfl, by omega, rfl, rfl, (by show a0 ≠ 0; omega)⟩))))).mono ?_; rintro e w4 ⟨rfl, hb4⟩; have hb5 := hb3.trans (hb4.mono hb3.size))
    )
  go_ret
  exact ⟨rfl, hb5⟩

set_option maxHeartbeats 1000000 in
theorem w4_2_f (a0 a1 : Int) (a4 : Option Addr) (len4 cap4 : Nat) (es : List Int) (w : World) (c1 : 1 ≤ a0) (c2 : a0 ≤ 127) (d1 : 1 ≤ a1) (d2 : a1 ≤ 65535) (hE : Els w a4 len4 cap4 es) (hl : len4 ≤ 1048576) :
    Calls Try.prog 4 #[.int .u8 a0, .int .u16 a1, .int .u8 2, .bool false, .slice a4 len4 cap4] w fun e w' => e = .returned (.bool true) ∧ Below w.heap.size w w' := by
  obtain ⟨i0, hi, hz0, hz1, hz2⟩ := info_parts Try.info5
  have hlm := hE.fits
  have q0 : (a0 == 0) = false := by simp; omega
  have q1 : decide (127 < a0) = false := by simp; omega
  have q2 : (a1 == 0) = false := by simp; omega
  go_enter Try.func4, Try.ntmps4
  go_wp2_with (first
    | (go_at_call 9; refine (zb9 _ _ _ _ _ _ _ _ hlm true (by simp; omega)).mono ?_; rintro e w0 ⟨rfl, hw⟩; have hw' := hw.symm; clear hw; subst hw')
    | (go_at_call 10; refine (enc10_yes _ _ (by omega) (by omega)).mono ?_; rintro e w0 ⟨rfl, hw⟩; have hw' := hw.symm; clear hw; subst hw')
    | (at_make; refine wpList_make_own _ rfl (.const (.int .i64 0)) (.tmp 37) 22 rfl w.heap.size 5 i0 (.int .u8 0) 1 Try.underlying22 hi hz0 hz1 .i64 .i64 _ (16 + len4) rfl rfl (by omega) (by rw [hz2]; omega) (by unfold maxLen; omega) (Nat.le_refl _) ?_; intro w1 hown hgr; have hb := below_made hgr; clear hgr)
    | (at_builtin; refine wpList_append_fits _ rfl (.tmp 74) (.tmp 81) 22 rfl w.heap.size 5 i0 1 Try.underlying22 hi hz1 w.heap.size 0 (16 + len4) ([].map (Value.int .u8)) rfl (hown.alloc _) ⟨_, 0, none⟩ 4 4 ([a0,0,(a1 % 256),(a1 / 256)].map (Value.int .u8)) rfl (by rfl) (World.news_of_block (heap_alloc_new _ _)) (ints_oneCell .u8 [a0,0,(a1 % 256),(a1 / 256)]) (by omega) ?_; intro w2 hown2 hgr2; have hb2 := below_app hb (by have := hb.size; omega) hgr2 (Nat.le_refl _); clear hb; have hb := hb2; clear hb2; have hown : w2.ownsRow w.heap.size 5 1 (.slice (some ⟨w.heap.size, 0, none⟩) 4 (16 + len4)) 4 ([a0,0,(a1 % 256),(a1 / 256)].map (Value.int .u8)) := hown2; clear hown2 hgr2)
    | (at_builtin; refine wpList_append_fits_any _ rfl (.tmp 113) (.tmp 114) 22 rfl w.heap.size 5 i0 1 Try.underlying22 hi hz1 w.heap.size 4 (16 + len4) _ rfl hown a4 len4 cap4 (es.map (Value.int .u8)) rfl (by rw [List.length_map, hE.hlen]; omega) hE.hnone (hE.later hb).cells (ints_oneCell _ _) (by omega) ?_; intro w3 hown3 hgr3; have hb3 := below_grown hb (by have := hb.size; omega) hgr3 (Nat.le_refl _); clear hb; have hown4 : w3.ownsRow w.heap.size 5 1 (.slice (some ⟨w.heap.size, 0, none⟩) (4 + len4) (16 + len4)) (4 + len4) (([a0,0,(a1 % 256),(a1 / 256)] ++ es).map (Value.int .u8)) := (by rw [List.map_append]; exact hown3); clear hown3 hgr3)
    | (go_at_call 12; refine (det12_own _ w.heap.size w.heap.size (4 + len4) (16 + len4) ([a0,0,(a1 % 256),(a1 / 256)] ++ es) hown4 (by omega) 2 (le2 _ a0 a1 es c1 c2 d1 d2 (by omega))).mono ?_; rintro e w4 ⟨rfl, hb4⟩; have hb5 := hb3.trans (hb4.mono hb3.size))
    )
  go_ret
  exact ⟨rfl, hb5⟩

set_option maxHeartbeats 1000000 in
theorem w4_3_t (a0 a1 : Int) (a4 : Option Addr) (len4 cap4 : Nat) (es : List Int) (w : World) (c1 : 1 ≤ a0) (c2 : a0 ≤ 127) (d1 : 1 ≤ a1) (d2 : a1 ≤ 65535) (hE : Els w a4 len4 cap4 es) (hl : len4 ≤ 1048576) :
    Calls Try.prog 4 #[.int .u8 a0, .int .u16 a1, .int .u8 3, .bool true, .slice a4 len4 cap4] w fun e w' => e = .returned (.bool true) ∧ Below w.heap.size w w' := by
  obtain ⟨i0, hi, hz0, hz1, hz2⟩ := info_parts Try.info5
  have hlm := hE.fits
  have q0 : (a0 == 0) = false := by simp; omega
  have q1 : decide (127 < a0) = false := by simp; omega
  have q2 : (a1 == 0) = false := by simp; omega
  go_enter Try.func4, Try.ntmps4
  go_wp2_with (first
    | (go_at_call 9; refine (zb9 _ _ _ _ _ _ _ _ hlm true (by simp; omega)).mono ?_; rintro e w0 ⟨rfl, hw⟩; have hw' := hw.symm; clear hw; subst hw')
    | (go_at_call 10; refine (enc10_yes _ _ (by omega) (by omega)).mono ?_; rintro e w0 ⟨rfl, hw⟩; have hw' := hw.symm; clear hw; subst hw')
    | (at_make; refine wpList_make_own _ rfl (.const (.int .i64 0)) (.tmp 37) 22 rfl w.heap.size 5 i0 (.int .u8 0) 1 Try.underlying22 hi hz0 hz1 .i64 .i64 _ (16 + len4) rfl rfl (by omega) (by rw [hz2]; omega) (by unfold maxLen; omega) (Nat.le_refl _) ?_; intro w1 hown hgr; have hb := below_made hgr; clear hgr)
    | (at_builtin; refine wpList_append_fits _ rfl (.tmp 86) (.tmp 87) 22 rfl w.heap.size 5 i0 1 Try.underlying22 hi hz1 w.heap.size 0 (16 + len4) ([].map (Value.int .u8)) rfl (hown.alloc _) ⟨_, 0, none⟩ 4 4 ([0,0,254,255].map (Value.int .u8)) rfl (by rfl) (World.news_of_block (heap_alloc_new _ _)) (ints_oneCell .u8 [0,0,254,255]) (by omega) ?_; intro w2 hown2 hgr2; have hb2 := below_app hb (by have := hb.size; omega) hgr2 (Nat.le_refl _); clear hb; have hb := hb2; clear hb2; have hown : w2.ownsRow w.heap.size 5 1 (.slice (some ⟨w.heap.size, 0, none⟩) 4 (16 + len4)) 4 ([0,0,254,255].map (Value.int .u8)) := hown2; clear hown2 hgr2)
    | (at_builtin; refine wpList_append_fits _ rfl (.tmp 89) (.tmp 96) 22 rfl w.heap.size 5 i0 1 Try.underlying22 hi hz1 w.heap.size 4 (16 + len4) ([0,0,254,255].map (Value.int .u8)) rfl (hown.alloc _) ⟨_, 0, none⟩ 8 8 ([0,0,0,a0,0,0,(a1 / 256),(a1 % 256)].map (Value.int .u8)) rfl (by rfl) (World.news_of_block (heap_alloc_new _ _)) (ints_oneCell .u8 [0,0,0,a0,0,0,(a1 / 256),(a1 % 256)]) (by omega) ?_; intro w2 hown2 hgr2; have hb2 := below_app hb (by have := hb.size; omega) hgr2 (Nat.le_refl _); clear hb; have hb := hb2; clear hb2; have hown : w2.ownsRow w.heap.size 5 1 (.slice (some ⟨w.heap.size, 0, none⟩) 12 (16 + len4)) 12 ([0,0,254,255,0,0,0,a0,0,0,(a1 / 256),(a1 % 256)].map (Value.int .u8)) := hown2; clear hown2 hgr2)
    | (at_builtin; refine wpList_append_fits_any _ rfl (.tmp 113) (.tmp 114) 22 rfl w.heap.size 5 i0 1 Try.underlying22 hi hz1 w.heap.size 12 (16 + len4) _ rfl hown a4 len4 cap4 (es.map (Value.int .u8)) rfl (by rw [List.length_map, hE.hlen]; omega) hE.hnone (hE.later hb).cells (ints_oneCell _ _) (by omega) ?_; intro w3 hown3 hgr3; have hb3 := below_grown hb (by have := hb.size; omega) hgr3 (Nat.le_refl _); clear hb; have hown4 : w3.ownsRow w.heap.size 5 1 (.slice (some ⟨w.heap.size, 0, none⟩) (12 + len4) (16 + len4)) (12 + len4) (([0,0,254,255,0,0,0,a0,0,0,(a1 / 256),(a1 % 256)] ++ es).map (Value.int .u8)) := (by rw [List.map_append]; exact hown3); clear hown3 hgr3)
    | (go_at_call 12; refine (det12_own _ w.heap.size w.heap.size (12 + len4) (16 + len4) ([0,0,254,255,0,0,0,a0,0,0,(a1 / 256),(a1 % 256)] ++ es) hown4 (by omega) 3 (Or.inr (Or.inr (Or.inr (Or.inr (Or.inr (Or.inr (Or.inl ⟨rfl, by omega, rfl, rfl, rfl, rfl⟩)))))))).mono ?_; rintro e w4 ⟨rfl, hb4⟩; have hb5 := hb3.trans (hb4.mono hb3.size))
    )
  go_ret
  exact ⟨rfl, hb5⟩

set_option maxHeartbeats 1000000 in
theorem w4_3_f (a0 a1 : Int) (a4 : Option Addr) (len4 cap4 : Nat) (es : List Int) (w : World) (c1 : 1 ≤ a0) (c2 : a0 ≤ 127) (d1 : 1 ≤ a1) (d2 : a1 ≤ 65535) (hE : Els w a4 len4 cap4 es) (hl : len4 ≤ 1048576) :
    Calls Try.prog 4 #[.int .u8 a0, .int .u16 a1, .int .u8 3, .bool false, .slice a4 len4 cap4] w fun e w' => e = .returned (.bool true) ∧ Below w.heap.size w w' := by
  obtain ⟨i0, hi, hz0, hz1, hz2⟩ := info_parts Try.info5
  have hlm := hE.fits
  have q0 : (a0 == 0) = false := by simp; omega
  have q1 : decide (127 < a0) = false := by simp; omega
  have q2 : (a1 == 0) = false := by simp; omega
  go_enter Try.func4, Try.ntmps4
  go_wp2_with (first
    | (go_at_call 9; refine (zb9 _ _ _ _ _ _ _ _ hlm true (by simp; omega)).mono ?_; rintro e w0 ⟨rfl, hw⟩; have hw' := hw.symm; clear hw; subst hw')
    | (go_at_call 10; refine (enc10_yes _ _ (by omega) (by omega)).mono ?_; rintro e w0 ⟨rfl, hw⟩; have hw' := hw.symm; clear hw; subst hw')
    | (at_make; refine wpList_make_own _ rfl (.const (.int .i64 0)) (.tmp 37) 22 rfl w.heap.size 5 i0 (.int .u8 0) 1 Try.underlying22 hi hz0 hz1 .i64 .i64 _ (16 + len4) rfl rfl (by omega) (by rw [hz2]; omega) (by unfold maxLen; omega) (Nat.le_refl _) ?_; intro w1 hown hgr; have hb := below_made hgr; clear hgr)
    | (at_builtin; refine wpList_append_fits _ rfl (.tmp 89) (.tmp 96) 22 rfl w.heap.size 5 i0 1 Try.underlying22 hi hz1 w.heap.size 0 (16 + len4) ([].map (Value.int .u8)) rfl (hown.alloc _) ⟨_, 0, none⟩ 8 8 ([0,0,0,a0,0,0,(a1 / 256),(a1 % 256)].map (Value.int .u8)) rfl (by rfl) (World.news_of_block (heap_alloc_new _ _)) (ints_oneCell .u8 [0,0,0,a0,0,0,(a1 / 256),(a1 % 256)]) (by omega) ?_; intro w2 hown2 hgr2; have hb2 := below_app hb (by have := hb.size; omega) hgr2 (Nat.le_refl _); clear hb; have hb := hb2; clear hb2; have hown : w2.ownsRow w.heap.size 5 1 (.slice (some ⟨w.heap.size, 0, none⟩) 8 (16 + len4)) 8 ([0,0,0,a0,0,0,(a1 / 256),(a1 % 256)].map (Value.int .u8)) := hown2; clear hown2 hgr2)
    | (at_builtin; refine wpList_append_fits_any _ rfl (.tmp 113) (.tmp 114) 22 rfl w.heap.size 5 i0 1 Try.underlying22 hi hz1 w.heap.size 8 (16 + len4) _ rfl hown a4 len4 cap4 (es.map (Value.int .u8)) rfl (by rw [List.length_map, hE.hlen]; omega) hE.hnone (hE.later hb).cells (ints_oneCell _ _) (by omega) ?_; intro w3 hown3 hgr3; have hb3 := below_grown hb (by have := hb.size; omega) hgr3 (Nat.le_refl _); clear hb; have hown4 : w3.ownsRow w.heap.size 5 1 (.slice (some ⟨w.heap.size, 0, none⟩) (8 + len4) (16 + len4)) (8 + len4) (([0,0,0,a0,0,0,(a1 / 256),(a1 % 256)] ++ es).map (Value.int .u8)) := (by rw [List.map_append]; exact hown3); clear hown3 hgr3)
    | (go_at_call 12; refine (det12_own _ w.heap.size w.heap.size (8 + len4) (16 + len4) ([0,0,0,a0,0,0,(a1 / 256),(a1 % 256)] ++ es) hown4 (by omega) 3 (Or.inr (Or.inr (Or.inr (Or.inr (Or.inr (Or.inr (Or.inr (Or.inl ⟨rfl, by omega, rfl, rfl, rfl⟩))))))))).mono ?_; rintro e w4 ⟨rfl, hb4⟩; have hb5 := hb3.trans (hb4.mono hb3.size))
    )
  go_ret
  exact ⟨rfl, hb5⟩

set_option maxHeartbeats 1000000 in
theorem w4_4_t (a0 a1 : Int) (a4 : Option Addr) (len4 cap4 : Nat) (es : List Int) (w : World) (c1 : 1 ≤ a0) (c2 : a0 ≤ 127) (d1 : 1 ≤ a1) (d2 : a1 ≤ 65535) (hE : Els w a4 len4 cap4 es) (hl : len4 ≤ 1048576) :
    Calls Try.prog 4 #[.int .u8 a0, .int .u16 a1, .int .u8 4, .bool true, .slice a4 len4 cap4] w fun e w' => e = .returned (.bool true) ∧ Below w.heap.size w w' := by
  obtain ⟨i0, hi, hz0, hz1, hz2⟩ := info_parts Try.info5
  have hlm := hE.fits
  have q0 : (a0 == 0) = false := by simp; omega
  have q1 : decide (127 < a0) = false := by simp; omega
  have q2 : (a1 == 0) = false := by simp; omega
  go_enter Try.func4, Try.ntmps4
  go_wp2_with (first
    | (go_at_call 9; refine (zb9 _ _ _ _ _ _ _ _ hlm true (by simp; omega)).mono ?_; rintro e w0 ⟨rfl, hw⟩; have hw' := hw.symm; clear hw; subst hw')
    | (go_at_call 10; refine (enc10_yes _ _ (by omega) (by omega)).mono ?_; rintro e w0 ⟨rfl, hw⟩; have hw' := hw.symm; clear hw; subst hw')
    | (at_make; refine wpList_make_own _ rfl (.const (.int .i64 0)) (.tmp 37) 22 rfl w.heap.size 5 i0 (.int .u8 0) 1 Try.underlying22 hi hz0 hz1 .i64 .i64 _ (16 + len4) rfl rfl (by omega) (by rw [hz2]; omega) (by unfold maxLen; omega) (Nat.le_refl _) ?_; intro w1 hown hgr; have hb := below_made hgr; clear hgr)
    | (at_builtin; refine wpList_append_fits _ rfl (.tmp 101) (.tmp 102) 22 rfl w.heap.size 5 i0 1 Try.underlying22 hi hz1 w.heap.size 0 (16 + len4) ([].map (Value.int .u8)) rfl (hown.alloc _) ⟨_, 0, none⟩ 4 4 ([255,254,0,0].map (Value.int .u8)) rfl (by rfl) (World.news_of_block (heap_alloc_new _ _)) (ints_oneCell .u8 [255,254,0,0]) (by omega) ?_; intro w2 hown2 hgr2; have hb2 := below_app hb (by have := hb.size; omega) hgr2 (Nat.le_refl _); clear hb; have hb := hb2; clear hb2; have hown : w2.ownsRow w.heap.size 5 1 (.slice (some ⟨w.heap.size, 0, none⟩) 4 (16 + len4)) 4 ([255,254,0,0].map (Value.int .u8)) := hown2; clear hown2 hgr2)
    | (at_builtin; refine wpList_append_fits _ rfl (.tmp 104) (.tmp 111) 22 rfl w.heap.size 5 i0 1 Try.underlying22 hi hz1 w.heap.size 4 (16 + len4) ([255,254,0,0].map (Value.int .u8)) rfl (hown.alloc _) ⟨_, 0, none⟩ 8 8 ([a0,0,0,0,(a1 % 256),(a1 / 256),0,0].map (Value.int .u8)) rfl (by rfl) (World.news_of_block (heap_alloc_new _ _)) (ints_oneCell .u8 [a0,0,0,0,(a1 % 256),(a1 / 256),0,0]) (by omega) ?_; intro w2 hown2 hgr2; have hb2 := below_app hb (by have := hb.size; omega) hgr2 (Nat.le_refl _); clear hb; have hb := hb2; clear hb2; have hown : w2.ownsRow w.heap.size 5 1 (.slice (some ⟨w.heap.size, 0, none⟩) 12 (16 + len4)) 12 ([255,254,0,0,a0,0,0,0,(a1 % 256),(a1 / 256),0,0].map (Value.int .u8)) := hown2; clear hown2 hgr2)
    | (at_builtin; refine wpList_append_fits_any _ rfl (.tmp 113) (.tmp 114) 22 rfl w.heap.size 5 i0 1 Try.underlying22 hi hz1 w.heap.size 12 (16 + len4) _ rfl hown a4 len4 cap4 (es.map (Value.int .u8)) rfl (by rw [List.length_map, hE.hlen]; omega) hE.hnone (hE.later hb).cells (ints_oneCell _ _) (by omega) ?_; intro w3 hown3 hgr3; have hb3 := below_grown hb (by have := hb.size; omega) hgr3 (Nat.le_refl _); clear hb; have hown4 : w3.ownsRow w.heap.size 5 1 (.slice (some ⟨w.heap.size, 0, none⟩) (12 + len4) (16 + len4)) (12 + len4) (([255,254,0,0,a0,0,0,0,(a1 % 256),(a1 / 256),0,0] ++ es).map (Value.int .u8)) := (by rw [List.map_append]; exact hown3); clear hown3 hgr3)
    | (go_at_call 12; refine (det12_own _ w.heap.size w.heap.size (12 + len4) (16 + len4) ([255,254,0,0,a0,0,0,0,(a1 % 256),(a1 / 256),0,0] ++ es) hown4 (by omega) 4 (Or.inr (Or.inr (Or.inr (Or.inr (Or.inr (Or.inr (Or.inr (Or.inr (Or.inl ⟨rfl, by omega, rfl, rfl, rfl, rfl⟩)))))))))).mono ?_; rintro e w4 ⟨rfl, hb4⟩; have hb5 := hb3.trans (hb4.mono hb3.size))
    )
  go_ret
  exact ⟨rfl, hb5⟩

set_option maxHeartbeats 1000000 in
theorem w4_4_f (a0 a1 : Int) (a4 : Option Addr) (len4 cap4 : Nat) (es : List Int) (w : World) (c1 : 1 ≤ a0) (c2 : a0 ≤ 127) (d1 : 1 ≤ a1) (d2 : a1 ≤ 65535) (hE : Els w a4 len4 cap4 es) (hl : len4 ≤ 1048576) :
    Calls Try.prog 4 #[.int .u8 a0, .int .u16 a1, .int .u8 4, .bool false, .slice a4 len4 cap4] w fun e w' => e = .returned (.bool true) ∧ Below w.heap.size w w' := by
  obtain ⟨i0, hi, hz0, hz1, hz2⟩ := info_parts Try.info5
  have hlm := hE.fits
  have q0 : (a0 == 0) = false := by simp; omega
  have q1 : decide (127 < a0) = false := by simp; omega
  have q2 : (a1 == 0) = false := by simp; omega
  go_enter Try.func4, Try.ntmps4
  go_wp2_with (first
    | (go_at_call 9; refine (zb9 _ _ _ _ _ _ _ _ hlm true (by simp; omega)).mono ?_; rintro e w0 ⟨rfl, hw⟩; have hw' := hw.symm; clear hw; subst hw')
    | (go_at_call 10; refine (enc10_yes _ _ (by omega) (by omega)).mono ?_; rintro e w0 ⟨rfl, hw⟩; have hw' := hw.symm; clear hw; subst hw')
    | (at_make; refine wpList_make_own _ rfl (.const (.int .i64 0)) (.tmp 37) 22 rfl w.heap.size 5 i0 (.int .u8 0) 1 Try.underlying22 hi hz0 hz1 .i64 .i64 _ (16 + len4) rfl rfl (by omega) (by rw [hz2]; omega) (by unfold maxLen; omega) (Nat.le_refl _) ?_; intro w1 hown hgr; have hb := below_made hgr; clear hgr)
    | (at_builtin; refine wpList_append_fits _ rfl (.tmp 104) (.tmp 111) 22 rfl w.heap.size 5 i0 1 Try.underlying22 hi hz1 w.heap.size 0 (16 + len4) ([].map (Value.int .u8)) rfl (hown.alloc _) ⟨_, 0, none⟩ 8 8 ([a0,0,0,0,(a1 % 256),(a1 / 256),0,0].map (Value.int .u8)) rfl (by rfl) (World.news_of_block (heap_alloc_new _ _)) (ints_oneCell .u8 [a0,0,0,0,(a1 % 256),(a1 / 256),0,0]) (by omega) ?_; intro w2 hown2 hgr2; have hb2 := below_app hb (by have := hb.size; omega) hgr2 (Nat.le_refl _); clear hb; have hb := hb2; clear hb2; have hown : w2.ownsRow w.heap.size 5 1 (.slice (some ⟨w.heap.size, 0, none⟩) 8 (16 + len4)) 8 ([a0,0,0,0,(a1 % 256),(a1 / 256),0,0].map (Value.int .u8)) := hown2; clear hown2 hgr2)
    | (at_builtin; refine wpList_append_fits_any _ rfl (.tmp 113) (.tmp 114) 22 rfl w.heap.size 5 i0 1 Try.underlying22 hi hz1 w.heap.size 8 (16 + len4) _ rfl hown a4 len4 cap4 (es.map (Value.int .u8)) rfl (by rw [List.length_map, hE.hlen]; omega) hE.hnone (hE.later hb).cells (ints_oneCell _ _) (by omega) ?_; intro w3 hown3 hgr3; have hb3 := below_grown hb (by have := hb.size; omega) hgr3 (Nat.le_refl _); clear hb; have hown4 : w3.ownsRow w.heap.size 5 1 (.slice (some ⟨w.heap.size, 0, none⟩) (8 + len4) (16 + len4)) (8 + len4) (([a0,0,0,0,(a1 % 256),(a1 / 256),0,0] ++ es).map (Value.int .u8)) := (by rw [List.map_append]; exact hown3); clear hown3 hgr3)
    | (go_at_call 12; refine (det12_own _ w.heap.size w.heap.size (8 + len4) (16 + len4) ([a0,0,0,0,(a1 % 256),(a1 / 256),0,0] ++ es) hown4 (by omega) 4 (Or.inr (Or.inr (Or.inr (Or.inr (Or.inr (Or.inr (Or.inr (Or.inr (Or.inr (⟨rfl, by omega, (by show a0 ≠ 0; omega), (by show a0 ≠ 255; omega), rfl, rfl, rfl⟩))))))))))).mono ?_; rintro e w4 ⟨rfl, hb4⟩; have hb5 := hb3.trans (hb4.mono hb3.size))
    )
  go_ret
  exact ⟨rfl, hb5⟩

end Go.Proofs.Qxb6601462a
