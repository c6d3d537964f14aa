import Derived.Test.Qxb6601769aDoorDec
namespace Go.Proofs.Qxb6601769aDoor
open Go.RowKit
set_option linter.unusedVariables false
set_option linter.unusedSimpArgs false

/-- The decimal writer at every magnitude. -/
theorem dec19_any (u : Nat) (hu64 : u < 18446744073709551616) (w : World) (n : Nat) (hn : Fx.nd u = n) (hn20 : n ≤ 20) :
    Calls Tryd.prog 19 #[.int .u64 u] w fun e w' => ∃ H, e = .returned (.slice (some ⟨H, 0, none⟩) n n) ∧ w.heap.size ≤ H ∧ w'.ownsRow w.heap.size 5 1 (.slice (some ⟨H, 0, none⟩) n n) n ((Fx.W n u).map (Value.int .u8)) ∧ Below w.heap.size w w' := by
  by_cases h : 1 ≤ u
  · exact dec19 u h hu64 w n hn hn20
  · obtain rfl : u = 0 := by omega
    have h1 : n = 1 := by rw [← hn]; exact Lib.nDigits_small (by omega)
    subst h1
    refine (dec19_zero w).mono ?_
    rintro e w' ⟨rfl, ho, hb⟩
    exact ⟨_, rfl, Nat.le_refl _, ho, hb⟩

theorem fits_row {w : World} {B g p n m : Nat} {old news : List Int} (h : w.ownsRow B 5 1 (.slice (some ⟨g, 0, none⟩) (p + m) n) (p + m) (old.map (Value.int .u8) ++ news.map (Value.int .u8))) (all : List Int) (ha : all = old ++ news) : w.ownsRow B 5 1 (.slice (some ⟨g, 0, none⟩) (p + m) n) (p + m) (all.map (Value.int .u8)) := by
  rw [ha, List.map_append]; exact h

/-- A slice of a row, as the law on append asks it. -/
theorem row_cells {w : World} {g off : Nat} {L all : List Int} {n : Nat} (hc : ∀ j, j < n → w.cell? ⟨g, j, none⟩ = some (.int .u8 (all.getD j 0))) (hl : off + L.length ≤ n) (he : ∀ j, j < L.length → L.getD j 0 = all.getD (off + j) 0) :
    ∀ j v, (L.map (Value.int .u8))[j]? = some v → w.cell? ((⟨g, off, none⟩ : Addr).add j) = some v := by
  intro j v hv
  have hj : j < L.length := by
    have := (List.getElem?_eq_some_iff.1 hv).1
    simpa using this
  have e : (L.map (Value.int .u8))[j]? = some (.int .u8 (L.getD j 0)) := by simp [List.getD, hj]
  rw [e] at hv
  rw [Addr.add_lit, hc (off + j) (by omega), ← he j hj]
  exact hv

theorem own_conv {w : World} {B n : Nat} {v : Value} {L : List Int} (hl : L.length = n) (h0 : 0 < n) (h : w.ownsRow B 5 1 v n (L.map (Value.int .u8))) :
    (convert 26 9 v).run Tryd.prog w = .ok (.string (strOfNums L)) w := by
  obtain ⟨g, cap, rfl⟩ : ∃ g cap, v = .slice (some ⟨g, 0, none⟩) n cap := by
    rcases h.2 with ⟨_, h⟩ | ⟨g, cap, cur, h, _⟩
    · omega
    · exact ⟨g, cap, h⟩
  refine run_convert_bytes_arg (P := Tryd.prog) w 26 5 Tryd.underlying26 Tryd.underlying5 g 0 n cap L hl ?_ 9 Tryd.underlying9
  intro i hi
  rw [Nat.zero_add]
  exact own_cells h i hi

theorem own_below1 {B : Nat} {w w1 w2 : World} {v : Value} {n : Nat} {xs : List Value} (hb : Below B w w1) (hB : B ≤ w1.heap.size) (hown : w1.ownsRow B 5 1 v n xs) (hg : w1.grownBy w2 v.ownBlock) : Below B w w2 :=
  hb.grown hg hB (fun k hk => (hown.lt k hk).1)

theorem pad_cells {w w' : World} {G L N B3 : Nat} {all : List Int} (hown : w.ownsRow B3 5 1 (.slice (some ⟨G, 0, none⟩) L N) L (all.map (Value.int .u8))) {B4 : Nat} (hG : G < B4) (hb : Below B4 w w') : ∀ j, j < L → w'.cell? ⟨G, j, none⟩ = some (.int .u8 (all.getD j 0)) :=
  fun j hj => (hb.cell (p := ⟨G, j, none⟩) hG).trans (own_cells hown j hj)
theorem getD_l (A B : List Int) (j : Nat) (h : j < A.length) : A.getD j 0 = (A ++ B).getD (0 + j) 0 := by
  rw [Nat.zero_add]; simp [List.getD, List.getElem?_append_left h]
theorem getD_r (A B : List Int) (j : Nat) : B.getD j 0 = (A ++ B).getD (A.length + j) 0 := by
  simp [List.getD, List.getElem?_append_right]

theorem row_eq {w : World} {B n : Nat} {v : Value} {xs ys : List Value} (h : w.ownsRow B 5 1 v n xs) (e : xs = ys) : w.ownsRow B 5 1 v n ys := e ▸ h

/-- The padded numeral, its whole part, its last p digits. -/
structure Pad (p u n k0 : Nat) (A B : List Int) : Prop where
  eq : List.replicate k0 48 ++ Fx.W n u = A ++ B
  la : A.length + p = k0 + n
  lb : B.length = p

theorem pad_of (p u : Nat) : Pad p u (Fx.nd u) (p + 1 - Fx.nd u) (Fx.W (Fx.nd (u / 10 ^ p)) (u / 10 ^ p)) (Fx.W p u) := by
  have h := Fx.padded p u
  refine ⟨h, ?_, Fx.W_len _ _⟩
  have := congrArg List.length h
  simp only [List.length_append, List.length_replicate, Fx.W_len] at this ⊢
  omega

set_option maxRecDepth 100000 in
set_option maxHeartbeats 2000000 in
theorem model12_pos (M p : Nat) (w : World) (hM : M ≤ 9223372036854775807) (hp : p ≤ 19) :
    Calls Tryd.prog 12 #[.int .i64 M, .int .i64 p] w fun e w' => e = .returned (.string (strOfNums (Fx.text false p M))) ∧ Below w.heap.size w w' := by
  obtain ⟨i0, hi, hz0, hz1, hz2⟩ := info_parts info5
  obtain ⟨n, k0, A, B, T, hn, hn1, hn20, hk0, HPad, HT1, HT2⟩ : ∃ (n k0 : Nat) (A B T : List Int), Hid (Fx.nd M = n) ∧ 1 ≤ n ∧ n ≤ 20 ∧ (k0 + n ≤ max n (p + 1) ∧ n ≤ k0 + n ∧ p + 1 ≤ k0 + n ∧ (p + 1 ≤ n → k0 = 0)) ∧ Pad p M n k0 A B ∧ Hid (([] : List Int) ++ A ++ [46] ++ B = T) ∧ Hid (T = Fx.text false p M) :=
    ⟨Fx.nd M, p + 1 - Fx.nd M, _, _, Fx.text false p M, rfl, Fx.nd_pos M, by have := Fx.nd_le M 19 (by simp; omega) (by omega); omega, by omega, pad_of p M, by show _ = _; simp [Fx.text, Fx.body], rfl⟩
  have hkn : k0 + n ≤ 40 := by omega
  have hkp : p + 1 ≤ k0 + n := hk0.2.2.1
  have hkN : k0 + n ≤ p + n := by omega
  have hla1 : A.length ≤ k0 + n - p := by have := HPad.la; omega
  have hla2 : k0 + n - p ≤ A.length := by have := HPad.la; omega
  have hlb1 : B.length ≤ p := by have := HPad.lb; omega
  have hlb2 : p ≤ B.length := by have := HPad.lb; omega
  have hkt : ∀ c, c < k0 ↔ n + c < p + 1 := by omega
  have HKT : Hid (∀ c, c < k0 ↔ n + c < p + 1) := hkt
  clear hk0 hkt
  go_enter Tryd.func12, Tryd.ntmps12
  go_wp2_with (first
    | (go_at_call 18; refine (mag18_pos M _ hM).mono ?_; rintro e w0 ⟨rfl, hw⟩; subst hw)
    | (go_at_call 19; refine (dec19_any M (by omega) w n hn.out hn20).mono ?_; rintro e w1 ⟨Hd, rfl, hHd, hown1, hb1⟩; have hsz1 := hb1.size)
    | (at_make; refine wpList_make_own _ rfl (.const (.int .i64 0)) (.tmp 17) 26 rfl w.heap.size 5 i0 (.int .u8 0) 1 Tryd.underlying26 hi hz0 hz1 .i64 .i64 _ (p + 1 + n) rfl rfl (by omega) (by rw [hz2]; omega) (by unfold maxLen; omega) (by omega) ?_; intro w2 hown2 hgr2; have hb2 := (Below.refl w1.heap.size w1).grown hgr2 (Nat.le_refl _) (by intro k hk; cases hk); clear hgr2))
  go_loopw [6, 7] (fun v i wr => ∃ c : Nat, c ≤ k0 ∧ i = .int .i64 (↑(n + c)) ∧ v = .slice (some ⟨w1.heap.size, 0, none⟩) c (p + 1 + n) ∧ wr.ownsRow w.heap.size 5 1 (.slice (some ⟨w1.heap.size, 0, none⟩) c (p + 1 + n)) c ((List.replicate c (48 : Int)).map (Value.int .u8)) ∧ Below w1.heap.size w1 wr ∧ w1.heap.size < wr.heap.size) (fun _ i _ => p + 1 - (intOf i).toNat)
  case atStart => exact ⟨0, Nat.zero_le _, rfl, rfl, hown2, hb2, (hown2.lt _ rfl).2⟩
  case round =>
    clear hown2 hb2
    obtain ⟨c, hc, rfl, rfl, hownr, hbr, hszr⟩ := hrel
    by_cases hlt : c < k0
    · have hlt2 := (HKT.out c).1 hlt
      go_wp2_with (at_builtin; refine wpList_append_fits _ rfl (.tmp 27) (.tmp 28) 26 rfl w.heap.size 5 i0 1 Tryd.underlying26 hi hz1 w1.heap.size c (p + 1 + n) _ rfl (hownr.alloc _) ⟨_, 0, none⟩ 1 1 ([48].map (Value.int .u8)) rfl rfl (World.news_of_block (heap_alloc_new _ _)) (ints_oneCell .u8 [48]) (by omega) ?_; intro w3 hown3 hgr3)
      go_roundw
      case rel => exact ⟨c + 1, by omega, by go_num, rfl, fits_row hown3 _ (by rw [List.replicate_succ']), arr_below hbr (by omega) hgr3 (Nat.le_refl _), by have := hgr3.size; simp at this; omega⟩
      case measure => simp [intOf]; omega
    · obtain rfl : k0 = c := by omega
      have hge : ¬ n + k0 < p + 1 := fun h => hlt ((HKT.out k0).2 h)
      have hdc : ∀ j u, ((Fx.W n M).map (Value.int .u8))[j]? = some u → wr.cell? ((⟨Hd, 0, none⟩ : Addr).add j) = some u := by
        have h1 := own_cells hown1
        have h2 : Hd < w1.heap.size := (hown1.lt _ rfl).2
        exact row_cells (n := n) (all := Fx.W n M) (fun j hj => (hbr.cell (p := ⟨Hd, j, none⟩) h2).trans (h1 j hj)) (by rw [Fx.W_len]; omega) (fun j _ => by rw [Nat.zero_add])
      have HDC : Hid (∀ j u, ((Fx.W n M).map (Value.int .u8))[j]? = some u → wr.cell? ((⟨Hd, 0, none⟩ : Addr).add j) = some u) := hdc
      have HDL : Hid (((Fx.W n M).map (Value.int .u8)).length = n * 1) := by show _ = _; rw [List.length_map, Fx.W_len]; omega
      clear hlt hc hdc hown1
      have tokA : True := trivial
      have tok2 : True := trivial
      have tok3 : True := trivial
      have tok4 : True := trivial
      go_wp2_with (first
          | (at_builtin; have _t := tokA; refine wpList_append_fits _ rfl (.tmp 30) (.tmp 31) 26 rfl w.heap.size 5 i0 1 Tryd.underlying26 hi hz1 w1.heap.size k0 (p + 1 + n) _ rfl hownr ⟨Hd, 0, none⟩ n n ((Fx.W n M).map (Value.int .u8)) rfl HDL.out HDC.out (ints_oneCell _ _) (by omega) ?_; intro w3 hown3 hgr3; have hown3' := fits_row hown3 _ HPad.eq.symm; have hb3 := arr_below1 hbr (by omega) hgr3 (Nat.le_refl _); have hsz3 := hgr3.size; have hG : w1.heap.size < w3.heap.size := (by omega); clear hown3 hgr3 tokA)
          | (at_builtin; have _t := tok2; refine wpList_append_own _ rfl (.tmp 42) (.tmp 45) 26 rfl w3.heap.size 5 i0 (.int .u8 0) 1 1 Tryd.underlying26 hi hz0 hz1 hz2 rfl (by decide) (.slice none 0 0) 0 [] rfl (World.ownsRow_nil _ _ _ _) ⟨w1.heap.size, 0, none⟩ (k0 + n - p) (p + 1 + n) (A.map (Value.int .u8)) rfl (by rw [List.length_map]; omega) (row_cells (n := k0 + n) (pad_cells hown3' hG (Below.refl w3.heap.size w3)) (by omega) (fun j hj => getD_l A B j hj)) (ints_oneCell _ _) (by unfold maxLen; omega) (by omega) (Nat.le_refl w3.heap.size) ?_; intro v2 w5 hown5 hgr5 _; have hb5 := own_below1 (Below.refl w3.heap.size w3) (Nat.le_refl w3.heap.size) (World.ownsRow_nil w3 w3.heap.size 5 1) hgr5; have hsz5 := hb5.size; simp only [Nat.zero_add, List.nil_append] at hown5; clear hgr5 tok2)
          | (at_builtin; have _t := tok3; refine wpList_append_own _ rfl (.tmp 47) (.tmp 48) 26 rfl w3.heap.size 5 i0 (.int .u8 0) 1 1 Tryd.underlying26 hi hz0 hz1 hz2 rfl (by decide) v2 _ _ rfl (hown5.alloc _) ⟨_, 0, none⟩ 1 1 ([46].map (Value.int .u8)) rfl rfl (World.news_of_block (heap_alloc_new _ _)) (ints_oneCell .u8 [46]) (by unfold maxLen; omega) (by omega) (by simp; omega) ?_; intro v3 w6 hown6 hgr6 _; have hb6 := own_below hb5 hsz5 hown5 hgr6; have hsz6 := hb6.size; clear hgr6 tok3)
          | (at_builtin; have _t := tok4; refine wpList_append_own _ rfl (.tmp 50) (.tmp 53) 26 rfl w3.heap.size 5 i0 (.int .u8 0) 1 1 Tryd.underlying26 hi hz0 hz1 hz2 rfl (by decide) v3 _ _ rfl hown6 ⟨w1.heap.size, k0 + n - p, none⟩ (k0 + n - (k0 + n - p)) (p + 1 + n - (k0 + n - p)) (B.map (Value.int .u8)) rfl (by rw [List.length_map]; omega) (row_cells (n := k0 + n) (pad_cells hown3' hG hb6) (by omega) (fun j hj => by rw [show k0 + n - p = A.length by omega]; exact getD_r A B j)) (ints_oneCell _ _) (by unfold maxLen; omega) (by omega) hsz6 ?_; intro v4 w7 hown7 hgr7 _; have hb7 := own_below1 hb6 hsz6 hown6 hgr7; have hcv := own_conv (n := k0 + n - p + 1 + (k0 + n - (k0 + n - p))) (L := T) (by rw [← HT1.out]; simp; omega) (by omega) (row_eq hown7 (by rw [← HT1.out]; simp)); clear hgr7 tok4 hown7))
      go_ret
      rw [← HT2.out]
      exact ⟨rfl, (hb1.trans (hb3.mono hsz1)).trans (hb7.mono (by omega))⟩

set_option maxRecDepth 100000 in
set_option maxHeartbeats 2000000 in
theorem model12_neg (M p : Nat) (w : World) (hM1 : 1 ≤ M) (hM : M ≤ 9223372036854775808) (hp : p ≤ 19) :
    Calls Tryd.prog 12 #[.int .i64 (-(M : Int)), .int .i64 p] w fun e w' => e = .returned (.string (strOfNums (Fx.text true p M))) ∧ Below w.heap.size w w' := by
  obtain ⟨i0, hi, hz0, hz1, hz2⟩ := info_parts info5
  obtain ⟨n, k0, A, B, T, hn, hn1, hn20, hk0, HPad, HT1, HT2⟩ : ∃ (n k0 : Nat) (A B T : List Int), Hid (Fx.nd M = n) ∧ 1 ≤ n ∧ n ≤ 20 ∧ (k0 + n ≤ max n (p + 1) ∧ n ≤ k0 + n ∧ p + 1 ≤ k0 + n ∧ (p + 1 ≤ n → k0 = 0)) ∧ Pad p M n k0 A B ∧ Hid ([45] ++ A ++ [46] ++ B = T) ∧ Hid (T = Fx.text true p M) :=
    ⟨Fx.nd M, p + 1 - Fx.nd M, _, _, Fx.text true p M, rfl, Fx.nd_pos M, by have := Fx.nd_le M 19 (by simp; omega) (by omega); omega, by omega, pad_of p M, by show _ = _; simp [Fx.text, Fx.body], rfl⟩
  have hkn : k0 + n ≤ 40 := by omega
  have hkp : p + 1 ≤ k0 + n := hk0.2.2.1
  have hkN : k0 + n ≤ p + n := by omega
  have hla1 : A.length ≤ k0 + n - p := by have := HPad.la; omega
  have hla2 : k0 + n - p ≤ A.length := by have := HPad.la; omega
  have hlb1 : B.length ≤ p := by have := HPad.lb; omega
  have hlb2 : p ≤ B.length := by have := HPad.lb; omega
  have hkt : ∀ c, c < k0 ↔ n + c < p + 1 := by omega
  have HKT : Hid (∀ c, c < k0 ↔ n + c < p + 1) := hkt
  clear hk0 hkt
  go_enter Tryd.func12, Tryd.ntmps12
  go_wp2_with (first
    | (go_at_call 18; refine (mag18_neg M _ hM1 hM).mono ?_; rintro e w0 ⟨rfl, hw⟩; subst hw)
    | (go_at_call 19; refine (dec19_any M (by omega) w n hn.out hn20).mono ?_; rintro e w1 ⟨Hd, rfl, hHd, hown1, hb1⟩; have hsz1 := hb1.size)
    | (at_make; refine wpList_make_own _ rfl (.const (.int .i64 0)) (.tmp 17) 26 rfl w.heap.size 5 i0 (.int .u8 0) 1 Tryd.underlying26 hi hz0 hz1 .i64 .i64 _ (p + 1 + n) rfl rfl (by omega) (by rw [hz2]; omega) (by unfold maxLen; omega) (by omega) ?_; intro w2 hown2 hgr2; have hb2 := (Below.refl w1.heap.size w1).grown hgr2 (Nat.le_refl _) (by intro k hk; cases hk); clear hgr2))
  go_loopw [6, 7] (fun v i wr => ∃ c : Nat, c ≤ k0 ∧ i = .int .i64 (↑(n + c)) ∧ v = .slice (some ⟨w1.heap.size, 0, none⟩) c (p + 1 + n) ∧ wr.ownsRow w.heap.size 5 1 (.slice (some ⟨w1.heap.size, 0, none⟩) c (p + 1 + n)) c ((List.replicate c (48 : Int)).map (Value.int .u8)) ∧ Below w1.heap.size w1 wr ∧ w1.heap.size < wr.heap.size) (fun _ i _ => p + 1 - (intOf i).toNat)
  case atStart => exact ⟨0, Nat.zero_le _, rfl, rfl, hown2, hb2, (hown2.lt _ rfl).2⟩
  case round =>
    clear hown2 hb2
    obtain ⟨c, hc, rfl, rfl, hownr, hbr, hszr⟩ := hrel
    by_cases hlt : c < k0
    · have hlt2 := (HKT.out c).1 hlt
      go_wp2_with (at_builtin; refine wpList_append_fits _ rfl (.tmp 27) (.tmp 28) 26 rfl w.heap.size 5 i0 1 Tryd.underlying26 hi hz1 w1.heap.size c (p + 1 + n) _ rfl (hownr.alloc _) ⟨_, 0, none⟩ 1 1 ([48].map (Value.int .u8)) rfl rfl (World.news_of_block (heap_alloc_new _ _)) (ints_oneCell .u8 [48]) (by omega) ?_; intro w3 hown3 hgr3)
      go_roundw
      case rel => exact ⟨c + 1, by omega, by go_num, rfl, fits_row hown3 _ (by rw [List.replicate_succ']), arr_below hbr (by omega) hgr3 (Nat.le_refl _), by have := hgr3.size; simp at this; omega⟩
      case measure => simp [intOf]; omega
    · obtain rfl : k0 = c := by omega
      have hge : ¬ n + k0 < p + 1 := fun h => hlt ((HKT.out k0).2 h)
      have hdc : ∀ j u, ((Fx.W n M).map (Value.int .u8))[j]? = some u → wr.cell? ((⟨Hd, 0, none⟩ : Addr).add j) = some u := by
        have h1 := own_cells hown1
        have h2 : Hd < w1.heap.size := (hown1.lt _ rfl).2
        exact row_cells (n := n) (all := Fx.W n M) (fun j hj => (hbr.cell (p := ⟨Hd, j, none⟩) h2).trans (h1 j hj)) (by rw [Fx.W_len]; omega) (fun j _ => by rw [Nat.zero_add])
      have HDC : Hid (∀ j u, ((Fx.W n M).map (Value.int .u8))[j]? = some u → wr.cell? ((⟨Hd, 0, none⟩ : Addr).add j) = some u) := hdc
      have HDL : Hid (((Fx.W n M).map (Value.int .u8)).length = n * 1) := by show _ = _; rw [List.length_map, Fx.W_len]; omega
      clear hlt hc hdc hown1
      have tokA : True := trivial
      have tok1 : True := trivial
      have tok2 : True := trivial
      have tok3 : True := trivial
      have tok4 : True := trivial
      go_wp2_with (first
          | (at_builtin; have _t := tokA; refine wpList_append_fits _ rfl (.tmp 30) (.tmp 31) 26 rfl w.heap.size 5 i0 1 Tryd.underlying26 hi hz1 w1.heap.size k0 (p + 1 + n) _ rfl hownr ⟨Hd, 0, none⟩ n n ((Fx.W n M).map (Value.int .u8)) rfl HDL.out HDC.out (ints_oneCell _ _) (by omega) ?_; intro w3 hown3 hgr3; have hown3' := fits_row hown3 _ HPad.eq.symm; have hb3 := arr_below1 hbr (by omega) hgr3 (Nat.le_refl _); have hsz3 := hgr3.size; have hG : w1.heap.size < w3.heap.size := (by omega); clear hown3 hgr3 tokA)
          | (at_builtin; have _t := tok1; refine wpList_append_own _ rfl (.tmp 39) (.tmp 40) 26 rfl w3.heap.size 5 i0 (.int .u8 0) 1 1 Tryd.underlying26 hi hz0 hz1 hz2 rfl (by decide) (.slice none 0 0) 0 [] rfl (World.ownsRow_nil _ _ _ _) ⟨_, 0, none⟩ 1 1 ([45].map (Value.int .u8)) rfl rfl (World.news_of_block (heap_alloc_new _ _)) (ints_oneCell .u8 [45]) (by unfold maxLen; omega) (by omega) (by simp) ?_; intro v1 w4 hown4 hgr4 _; have hb4 := own_below (Below.refl w3.heap.size w3) (Nat.le_refl _) (World.ownsRow_nil w3 w3.heap.size 5 1) hgr4; have hsz4 := hb4.size; simp only [Nat.zero_add, List.nil_append] at hown4; clear hgr4 tok1)
          | (at_builtin; have _t := tok2; refine wpList_append_own _ rfl (.tmp 42) (.tmp 45) 26 rfl w3.heap.size 5 i0 (.int .u8 0) 1 1 Tryd.underlying26 hi hz0 hz1 hz2 rfl (by decide) v1 1 ([45].map (Value.int .u8)) rfl hown4 ⟨w1.heap.size, 0, none⟩ (k0 + n - p) (p + 1 + n) (A.map (Value.int .u8)) rfl (by rw [List.length_map]; omega) (row_cells (n := k0 + n) (pad_cells hown3' hG hb4) (by omega) (fun j hj => getD_l A B j hj)) (ints_oneCell _ _) (by unfold maxLen; omega) (by omega) hsz4 ?_; intro v2 w5 hown5 hgr5 _; have hb5 := own_below1 hb4 hsz4 hown4 hgr5; have hsz5 := hb5.size; clear hgr5 tok2)
          | (at_builtin; have _t := tok3; refine wpList_append_own _ rfl (.tmp 47) (.tmp 48) 26 rfl w3.heap.size 5 i0 (.int .u8 0) 1 1 Tryd.underlying26 hi hz0 hz1 hz2 rfl (by decide) v2 _ _ rfl (hown5.alloc _) ⟨_, 0, none⟩ 1 1 ([46].map (Value.int .u8)) rfl rfl (World.news_of_block (heap_alloc_new _ _)) (ints_oneCell .u8 [46]) (by unfold maxLen; omega) (by omega) (by simp; omega) ?_; intro v3 w6 hown6 hgr6 _; have hb6 := own_below hb5 hsz5 hown5 hgr6; have hsz6 := hb6.size; clear hgr6 tok3)
          | (at_builtin; have _t := tok4; refine wpList_append_own _ rfl (.tmp 50) (.tmp 53) 26 rfl w3.heap.size 5 i0 (.int .u8 0) 1 1 Tryd.underlying26 hi hz0 hz1 hz2 rfl (by decide) v3 _ _ rfl hown6 ⟨w1.heap.size, k0 + n - p, none⟩ (k0 + n - (k0 + n - p)) (p + 1 + n - (k0 + n - p)) (B.map (Value.int .u8)) rfl (by rw [List.length_map]; omega) (row_cells (n := k0 + n) (pad_cells hown3' hG hb6) (by omega) (fun j hj => by rw [show k0 + n - p = A.length by omega]; exact getD_r A B j)) (ints_oneCell _ _) (by unfold maxLen; omega) (by omega) hsz6 ?_; intro v4 w7 hown7 hgr7 _; have hb7 := own_below1 hb6 hsz6 hown6 hgr7; have hcv := own_conv (n := 1 + (k0 + n - p) + 1 + (k0 + n - (k0 + n - p))) (L := T) (by rw [← HT1.out]; simp; omega) (by omega) (row_eq hown7 (by rw [← HT1.out]; simp)); clear hgr7 tok4 hown7))
      go_ret
      rw [← HT2.out]
      exact ⟨rfl, (hb1.trans (hb3.mono hsz1)).trans (hb7.mono (by omega))⟩

end Go.Proofs.Qxb6601769aDoor
