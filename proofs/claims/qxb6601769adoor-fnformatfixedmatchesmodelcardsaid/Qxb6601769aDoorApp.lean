import Derived.Test.Qxb6601769aDoorArr
namespace Go.Proofs.Qxb6601769aDoor
open Go.RowKit Go.Sort
set_option linter.unusedVariables false
set_option linter.unusedSimpArgs false

theorem info5 : (Tryd.prog.info? 5).map (fun i => (i.zero, i.size, i.bytes)) = some (some (.int .u8 0), 1, 1) := by kernel_rfl

/-- A numeral's bytes as cells. -/
abbrev decCells (u : Nat) : List Value := (Fx.W (Fx.nd u) u).map (Value.int .u8)

theorem decCells_eq (u : Nat) : Lib.byteCells (Lib.decDigits u) = decCells u := by
  unfold decCells
  rw [← Fx.W_dec, List.map_map]
  rfl

theorem strCells_dec (u : Nat) : Lib.strCells ⟨(Lib.decDigits u).toArray⟩ = decCells u := by
  rw [← decCells_eq]; rfl

theorem below_grownBy {w w' : World} (hb : Below w.heap.size w w') (r : Option Nat) : w.grownBy w' r := ⟨hb.os, hb.tape, hb.output, hb.size, fun i hi _ => hb.block i hi⟩

set_option maxHeartbeats 1000000 in
theorem app29_small (u : Nat) (hu : u < 100) (g lab N k : Nat) (xs : List Value) (w : World) (hA : Arr w g lab N k xs) (hroom : k + Fx.nd u ≤ N) (hN : N ≤ 1000) :
    Calls Tryd.prog 29 #[.slice (some ⟨g, 0, none⟩) k N, .int .u64 u, .int .i64 10] w fun e w' => e = .returned (.slice (some ⟨g, 0, none⟩) (k + Fx.nd u) N) ∧ Arr w' g lab N (k + Fx.nd u) (xs ++ decCells u) ∧ w.grownBy w' (some g) := by
  obtain ⟨i0, hi, hz0, hz1, hz2⟩ := info_parts info5
  have hsz : (⟨(Lib.decDigits u).toArray⟩ : ByteArray).size = Fx.nd u := by show (Lib.decDigits u).toArray.size = _; rw [List.size_toArray, Lib.decDigits_length]
  obtain ⟨st, hst⟩ : ∃ st : ByteArray, st = ⟨(Lib.decDigits u).toArray⟩ := ⟨_, rfl⟩
  have HST : Hid (st = ⟨(Lib.decDigits u).toArray⟩) := hst
  rw [← hst] at hsz
  have HSZ : Hid (st.size = Fx.nd u) := hsz
  have hle : k + st.size ≤ N := by omega
  have HC : Hid (∀ w, Calls Tryd.prog 34 #[.int .i64 u] w fun e w' => e = .returned (.string st) ∧ w = w') := fun w => by
    rw [hst]; exact (Tryd.internal_strconv_small u hu w).mono fun e w' h => ⟨h.1, h.2.symm⟩
  clear hst hsz hroom
  go_enter Tryd.func29, Tryd.ntmps29
  go_wp2_with (first
    | (go_at_call 34; refine (HC.out _).mono ?_; rintro e w1 ⟨rfl, hw⟩; subst hw)
    | (at_builtin; refine wpList_append_arr_string _ rfl (.tmp 13) (.tmp 16) 26 9 rfl 5 i0 Tryd.underlying26 Tryd.underlying9 hi hz1 g lab N k xs rfl hA st rfl hle ?_; intro w1 hA1 hgr))
  go_ret
  rw [← HSZ.out, ← strCells_dec, ← HST.out]
  exact ⟨rfl, hA1, hgr⟩

theorem tab_alloc {w : World} (h : Lib.TabIs Tryd.prog w Tryd.powName .u64 Lib.pow10Tab) (o : Obj) : Lib.TabIs Tryd.prog (w.alloc o) Tryd.powName .u64 Lib.pow10Tab := Lib.tabIs_alloc h o

/-- formatBase10 over the new array of the call's own. -/
theorem fmt36 (u : Nat) (hu64 : u < 18446744073709551616) (w : World) (hnd : Fx.nd u ≤ 20) :
    Calls Tryd.prog 36 #[.slice (some ⟨w.heap.size, 0, none⟩) (Fx.nd u) 24, .int .u64 u] (w.alloc (.cells Lib.zeros24 57)) fun e w' => e = .returned (.tuple #[]) ∧ Below w.heap.size w w' ∧ w.heap.size < w'.heap.size ∧
      (∀ j v, (decCells u)[j]? = some v → w'.cell? ((⟨w.heap.size, 0, none⟩ : Addr).add j) = some v) := by
  have hH0 := Lib.holds_zero0 w 57 (Lib.nDigits u) (by simp only [Fx.nd] at hnd; omega)
  have hfmt := Tryd.internal_strconv_formatBase10 w.heap.size 0 24 u (Array.replicate (Lib.nDigits u) 0) (w.alloc (.cells Lib.zeros24 57)) hH0 (by rw [Array.size_replicate]; exact Lib.lt_pow_nDigits u) hu64 (by rw [Array.size_replicate]; simp only [Fx.nd] at hnd; omega)
  rw [Array.size_replicate] at hfmt
  refine hfmt.mono ?_
  rintro e w' ⟨rfl, k, v', dk, rfl, hF⟩
  obtain ⟨os, eo⟩ := Lib.fin_at w (.cells Lib.zeros24 57) dk k 0
  have hb : Below w.heap.size w ((putRow (fun (b : UInt8) => Value.int .u8 (b.toNat : Int)) (w.alloc (.cells Lib.zeros24 57)) w.heap.size 0 dk).drewN k) := by rw [eo]; exact Lib.below_grow _ w (Nat.le_refl _) k os
  have hcells : ∀ j v, (decCells u)[j]? = some v → ((putRow (fun (b : UInt8) => Value.int .u8 (b.toNat : Int)) (w.alloc (.cells Lib.zeros24 57)) w.heap.size 0 dk).drewN k).cell? ((⟨w.heap.size, 0, none⟩ : Addr).add j) = some v := by
    rw [← decCells_eq]
    intro j u' hj
    have hjl : j < (Lib.decDigits u).length := by
      have h5 := (List.getElem?_eq_some_iff.1 hj).1
      rwa [Lib.byteCells_length] at h5
    have e5 : (Lib.byteCells (Lib.decDigits u))[j]? = some (Value.int .u8 ((Lib.decDigits u)[j].toNat : Int)) := by simp [Lib.byteCells, hjl]
    rw [e5] at hj
    cases hj
    rw [Lib.row_is_numeral hF j hjl, Lib.add_plain, World.cell?_drewN]
    exact cell?_putRow (fun (b : UInt8) => Value.int .u8 (b.toNat : Int)) _ w.heap.size 0 _ dk hH0 (by rw [hF.size, Array.size_replicate]) j (by rw [hF.size]; rw [Lib.decDigits_length] at hjl; exact hjl)
  refine ⟨rfl, hb, ?_, hcells⟩
  have hpos := Fx.nd_pos u
  obtain ⟨v, hv⟩ : ∃ v, (decCells u)[0]? = some v := by
    have hl : 0 < (decCells u).length := by unfold decCells; rw [List.length_map, Fx.W_len]; omega
    exact ⟨_, List.getElem?_eq_getElem hl⟩
  have := World.block_lt_of_cell? _ _ (hcells 0 v hv)
  rw [Lib.add_plain] at this
  exact this

theorem decCells_len (u : Nat) : (decCells u).length = Fx.nd u := by unfold decCells; rw [List.length_map, Fx.W_len]

set_option maxRecDepth 100000 in
set_option maxHeartbeats 2000000 in
theorem app29_big (u : Nat) (hu : 100 ≤ u) (hu64 : u < 18446744073709551616) (g lab N k : Nat) (xs : List Value) (w : World) (hA : Arr w g lab N k xs) (nu : Nat) (hnu : Fx.nd u = nu) (hroom : k + nu ≤ N) (hN : N ≤ 1000) (hnd : nu ≤ 20)
    (htab : Lib.TabIs Tryd.prog w Tryd.powName .u64 Lib.pow10Tab) :
    Calls Tryd.prog 29 #[.slice (some ⟨g, 0, none⟩) k N, .int .u64 u, .int .i64 10] w fun e w' => e = .returned (.slice (some ⟨g, 0, none⟩) (k + nu) N) ∧ Arr w' g lab N (k + nu) (xs ++ decCells u) ∧ w.grownBy w' (some g) := by
  obtain ⟨i0, hi, hz0, hz1, hz2⟩ := info_parts info5
  have HN : Hid (∀ w, Lib.TabIs Tryd.prog w Tryd.powName .u64 Lib.pow10Tab → Calls Tryd.prog 35 #[.int .u64 u] w fun e w' => e = .returned (.int .i64 (nu : Int)) ∧ w = w') := fun w h => by
    rw [← hnu]; exact (Tryd.internal_strconv_numDigits u (by omega) hu64 w h).mono fun e w' h => ⟨h.1, h.2.symm⟩
  have HF := fmt36 u hu64 w (by omega)
  rw [hnu] at HF
  have HFF : Hid (Calls Tryd.prog 36 #[.slice (some ⟨w.heap.size, 0, none⟩) nu 24, .int .u64 u] (w.alloc (.cells Lib.zeros24 57)) fun e w' => e = .returned (.tuple #[]) ∧ Below w.heap.size w w' ∧ w.heap.size < w'.heap.size ∧
      (∀ j v, (decCells u)[j]? = some v → w'.cell? ((⟨w.heap.size, 0, none⟩ : Addr).add j) = some v)) := HF
  have HL : Hid ((decCells u).length = nu) := by show _ = _; rw [decCells_len, hnu]
  have HT : Hid (∀ o, Lib.TabIs Tryd.prog (w.alloc o) Tryd.powName .u64 Lib.pow10Tab) := fun o => tab_alloc htab o
  have iu : (100 : Int) ≤ (u : Int) := by omega
  have hal : Tryd.prog.arrayLen 57 = 24 := by simp [Program.arrayLen, Tryd.underlying57]
  have hsl : ∀ W, (Instr.sliceAt 57 (.pointer (some ⟨w.heap.size, 0, none⟩)) none (some (.int .i64 (nu : Int))) none).run Tryd.prog W = .ok (.slice (some ⟨w.heap.size, 0, none⟩) nu 24) W := fun W => by
    rw [run_sliceAt_array_h W 57 ⟨w.heap.size, 0, none⟩ (by simp [Program.arrayLen, Program.elem, Tryd.underlying57]) .i64 (nu : Int) (by omega) (by rw [hal]; omega)]
    go_simp
  clear HF hnu htab hal
  go_enter Tryd.func29, Tryd.ntmps29
  go_wp2_with (first
    | (go_at_call 35; refine (HN.out _ (HT.out _)).mono ?_; rintro e w1 ⟨rfl, hw⟩; subst hw)
    | (go_at_call 36; refine HFF.out.mono ?_; rintro e w1 ⟨rfl, hb1, hsz1, hcells⟩; have hA1 := hA.below hb1; have hgr1 := below_grownBy hb1 (some g); clear hA hb1)
    | (at_builtin; refine wpList_append_arr _ rfl (.tmp 24) (.tmp 26) 26 rfl 5 i0 Tryd.underlying26 hi hz1 g lab N k xs rfl hA1 ⟨w.heap.size, 0, none⟩ nu 24 (decCells u) rfl HL.out hcells (ints_oneCell _ _) hroom ?_; intro w2 hA2 hgr2))
  go_ret
  exact ⟨rfl, hA2, hgr1.trans hgr2⟩

/-- internal/strconv.AppendUint at base 10, onto a slice with room. -/
theorem app29 (u : Nat) (hu64 : u < 18446744073709551616) (g lab N k : Nat) (xs : List Value) (w : World) (hA : Arr w g lab N k xs) (hroom : k + Fx.nd u ≤ N) (hN : N ≤ 1000) (hnd : Fx.nd u ≤ 20)
    (htab : Lib.TabIs Tryd.prog w Tryd.powName .u64 Lib.pow10Tab) :
    Calls Tryd.prog 29 #[.slice (some ⟨g, 0, none⟩) k N, .int .u64 u, .int .i64 10] w fun e w' => e = .returned (.slice (some ⟨g, 0, none⟩) (k + Fx.nd u) N) ∧ Arr w' g lab N (k + Fx.nd u) (xs ++ decCells u) ∧ w.grownBy w' (some g) := by
  by_cases h : u < 100
  · exact app29_small u h g lab N k xs w hA hroom hN
  · exact app29_big u (by omega) hu64 g lab N k xs w hA (Fx.nd u) rfl hroom hN hnd htab

/-- strconv.AppendUint at base 10, onto a slice with room. -/
theorem app25 (z : Int) (u : Nat) (hz : z = (u : Int)) (hu64 : u < 18446744073709551616) (g lab N k : Nat) (xs : List Value) (w : World) (hA : Arr w g lab N k xs) (nu : Nat) (hnu : Fx.nd u = nu) (hroom : k + nu ≤ N) (hN : N ≤ 1000) (hnd : nu ≤ 20)
    (htab : Lib.TabIs Tryd.prog w Tryd.powName .u64 Lib.pow10Tab) :
    Calls Tryd.prog 25 #[.slice (some ⟨g, 0, none⟩) k N, .int .u64 z, .int .i64 10] w fun e w' => e = .returned (.slice (some ⟨g, 0, none⟩) (k + nu) N) ∧ Arr w' g lab N (k + nu) (xs ++ decCells u) ∧ w.grownBy w' (some g) := by
  subst hz
  have H : Hid (Calls Tryd.prog 29 #[.slice (some ⟨g, 0, none⟩) k N, .int .u64 u, .int .i64 10] w fun e w' => e = .returned (.slice (some ⟨g, 0, none⟩) (k + nu) N) ∧ Arr w' g lab N (k + nu) (xs ++ decCells u) ∧ w.grownBy w' (some g)) := by
    rw [← hnu]; exact app29 u hu64 g lab N k xs w hA (by omega) hN (by omega) htab
  clear htab hA hnu
  go_enter Tryd.func25, Tryd.ntmps25
  go_wp2_with (go_at_call 29; refine H.out.mono ?_; rintro e w1 ⟨rfl, hA1, hgr1⟩)
  go_ret
  exact ⟨rfl, hA1, hgr1⟩
end Go.Proofs.Qxb6601769aDoor
