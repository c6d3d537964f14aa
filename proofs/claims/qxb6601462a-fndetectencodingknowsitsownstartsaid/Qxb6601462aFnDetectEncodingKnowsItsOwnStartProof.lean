/-
  The proof of 'Rows.FnDetectEncodingKnowsItsOwnStartSaid': the frame is the shell that the guide's tool wrote for this function; the walks lie in Qxb6601462aDetA to DetD.
-/
import Derived.Test.Qxb6601462aRows
import Derived.WalkKit
import Derived.ProofKit
import Derived.OpenShut
import Derived.ShutString
import Derived.ChangeOld
import Derived.Below
import Derived.Test.Qxb6601462aDetD
namespace Go.Proofs.Qxb6601462a.fnDetectEncodingKnowsItsOwnStart
open Go.ChangeShapes Go.WideShapes Go.ChangeAt Go.RowKit
open Go.ChangeMaps (open_string shut_string)
set_option linter.unusedVariables false

theorem own : ownKnob Try.prog.godebug = none := by kernel_rfl
theorem laidOut : laidOutB Try.prog = true := by kernel_rfl

theorem trivial_c (a0 a1 a2 : Int) (a3 : Bool) (a4 : Option Addr) (len4 cap4 : Nat) (w : World) (hlm : len4 ≤ maxLen) (hl : len4 ≤ 1048576) (h : (a0 == 0) = true) :
    Calls Try.prog 4 #[.int .u8 a0, .int .u16 a1, .int .u8 a2, .bool a3, .slice a4 len4 cap4] w fun e w' => e = .returned (.bool true) ∧ Below w.heap.size w w' := by
  go_enter Try.func4, Try.ntmps4
  go_wp2_with (go_at_call 9; refine (zb9 _ _ _ _ _ _ _ _ hlm true (by simp; omega)).mono ?_; rintro e w0 ⟨rfl, hw⟩; have hw' := hw.symm; clear hw; subst hw')
  go_ret
  exact ⟨rfl, Below.refl _ _⟩

theorem trivial_c2 (a0 a1 a2 : Int) (a3 : Bool) (a4 : Option Addr) (len4 cap4 : Nat) (w : World) (hlm : len4 ≤ maxLen) (hl : len4 ≤ 1048576) (h : (a0 == 0) = false) (h2 : decide (127 < a0) = true) :
    Calls Try.prog 4 #[.int .u8 a0, .int .u16 a1, .int .u8 a2, .bool a3, .slice a4 len4 cap4] w fun e w' => e = .returned (.bool true) ∧ Below w.heap.size w w' := by
  go_enter Try.func4, Try.ntmps4
  go_wp2_with (go_at_call 9; refine (zb9 _ _ _ _ _ _ _ _ hlm true (by simp; omega)).mono ?_; rintro e w0 ⟨rfl, hw⟩; have hw' := hw.symm; clear hw; subst hw')
  go_ret
  exact ⟨rfl, Below.refl _ _⟩

theorem trivial_d (a0 a1 a2 : Int) (a3 : Bool) (a4 : Option Addr) (len4 cap4 : Nat) (w : World) (hlm : len4 ≤ maxLen) (hl : len4 ≤ 1048576) (h : (a0 == 0) = false) (h2 : decide (127 < a0) = false) (h3 : (a1 == 0) = true) :
    Calls Try.prog 4 #[.int .u8 a0, .int .u16 a1, .int .u8 a2, .bool a3, .slice a4 len4 cap4] w fun e w' => e = .returned (.bool true) ∧ Below w.heap.size w w' := by
  go_enter Try.func4, Try.ntmps4
  go_wp2_with (go_at_call 9; refine (zb9 _ _ _ _ _ _ _ _ hlm true (by simp; omega)).mono ?_; rintro e w0 ⟨rfl, hw⟩; have hw' := hw.symm; clear hw; subst hw')
  go_ret
  exact ⟨rfl, Below.refl _ _⟩

theorem trivial_e (a0 a1 a2 : Int) (a3 : Bool) (a4 : Option Addr) (len4 cap4 : Nat) (w : World) (hlm : len4 ≤ maxLen) (hl : len4 ≤ 1048576) (h : (a0 == 0) = false) (h2 : decide (127 < a0) = false) (h3 : (a1 == 0) = false) (h4 : 4 < a2) :
    Calls Try.prog 4 #[.int .u8 a0, .int .u16 a1, .int .u8 a2, .bool a3, .slice a4 len4 cap4] w fun e w' => e = .returned (.bool true) ∧ Below w.heap.size w w' := by
  go_enter Try.func4, Try.ntmps4
  go_wp2_with (first
    | (go_at_call 9; refine (zb9 _ _ _ _ _ _ _ _ hlm true (by simp; omega)).mono ?_; rintro e w0 ⟨rfl, hw⟩; have hw' := hw.symm; clear hw; subst hw')
    | (go_at_call 10; refine (enc10_no _ _ h4).mono ?_; rintro e w0 ⟨rfl, hw⟩; have hw' := hw.symm; clear hw; subst hw'))
  go_ret
  exact ⟨rfl, Below.refl _ _⟩

theorem trivial_l (a0 a1 a2 : Int) (a3 : Bool) (a4 : Option Addr) (len4 cap4 : Nat) (w : World) (hlm : len4 ≤ maxLen) (hl : ¬ len4 ≤ 1048576) :
    Calls Try.prog 4 #[.int .u8 a0, .int .u16 a1, .int .u8 a2, .bool a3, .slice a4 len4 cap4] w fun e w' => e = .returned (.bool true) ∧ Below w.heap.size w w' := by
  go_enter Try.func4, Try.ntmps4
  go_wp2_with (go_at_call 9; refine (zb9 _ _ _ _ _ _ _ _ hlm false (by simp; omega)).mono ?_; rintro e w0 ⟨rfl, hw⟩; have hw' := hw.symm; clear hw; subst hw')
  go_ret
  exact ⟨rfl, Below.refl _ _⟩

/-! ### STEP 1: THE WALK: the Go text returns true, AND WRITES NOTHING THAT WAS THERE: 'Below w.heap.size w w'' (Derived/Below.lean: '.refl', '.alloc', '.drew', '.setCell' at a new block, '.trans'). -/
theorem walk (a0 : Int) (a1 : Int) (a2 : Int) (a3 : Bool) (a4 : Option Addr) (len4 cap4 : Nat) (z4 : List Int) (w : World) (w0 : (Lit.int .u8 a0).wf = true) (w1 : (Lit.int .u16 a1).wf = true) (w2 : (Lit.int .u8 a2).wf = true) (w4 : IsRow .u8 w a4 len4 cap4 z4) :
    Calls Try.prog 4 #[.int .u8 a0, .int .u16 a1, .int .u8 a2, .bool a3, .slice a4 len4 cap4] w fun e w' => e = .returned (.bool true) ∧ Below w.heap.size w w' := by
  have hE := w4.els
  have hlm := hE.fits
  have b0 := bounds_u8 w0
  have b1 := bounds_u16 w1
  have b2 := bounds_u8 w2
  by_cases hl : len4 ≤ 1048576
  · by_cases h0 : a0 = 0
    · exact trivial_c _ _ _ _ _ _ _ _ hlm hl (by simpa using h0)
    · have q0 : (a0 == 0) = false := by simpa using h0
      by_cases h1 : 127 < a0
      · exact trivial_c2 _ _ _ _ _ _ _ _ hlm hl q0 (by simpa using h1)
      · have q1 : decide (127 < a0) = false := by simpa using h1
        by_cases h2 : a1 = 0
        · exact trivial_d _ _ _ _ _ _ _ _ hlm hl q0 q1 (by simpa using h2)
        · have q2 : (a1 == 0) = false := by simpa using h2
          by_cases h3 : 4 < a2
          · exact trivial_e _ _ _ _ _ _ _ _ hlm hl q0 q1 q2 h3
          · have c1 : 1 ≤ a0 := by omega
            have c2 : a0 ≤ 127 := by omega
            have d1 : 1 ≤ a1 := by omega
            have d2 : a1 ≤ 65535 := by omega
            rcases (show a2 = 0 ∨ a2 = 1 ∨ a2 = 2 ∨ a2 = 3 ∨ a2 = 4 by omega) with rfl | rfl | rfl | rfl | rfl
            · cases a3
              · exact w4_0_f a0 a1 a4 len4 cap4 _ w c1 c2 d1 d2 hE hl
              · exact w4_0_t a0 a1 a4 len4 cap4 _ w c1 c2 d1 d2 hE hl
            · cases a3
              · exact w4_1_f a0 a1 a4 len4 cap4 _ w c1 c2 d1 d2 hE hl
              · exact w4_1_t a0 a1 a4 len4 cap4 _ w c1 c2 d1 d2 hE hl
            · cases a3
              · exact w4_2_f a0 a1 a4 len4 cap4 _ w c1 c2 d1 d2 hE hl
              · exact w4_2_t a0 a1 a4 len4 cap4 _ w c1 c2 d1 d2 hE hl
            · cases a3
              · exact w4_3_f a0 a1 a4 len4 cap4 _ w c1 c2 d1 d2 hE hl
              · exact w4_3_t a0 a1 a4 len4 cap4 _ w c1 c2 d1 d2 hE hl
            · cases a3
              · exact w4_4_f a0 a1 a4 len4 cap4 _ w c1 c2 d1 d2 hE hl
              · exact w4_4_t a0 a1 a4 len4 cap4 _ w c1 c2 d1 d2 hE hl
  · exact trivial_l _ _ _ _ _ _ _ _ hlm hl

/-! ### THE ROW's STEP: WRITTEN OUT: LEAVE IT -/
set_option maxRecDepth 100000 in
theorem lifted (os : Os) (started : os.Started) (H : Type) (enc : TypeId × Value → H) :
    ReturnsInHanded {} Try.checked os 4 .any (Rows.fnDetectEncodingKnowsItsOwnStartSpec.pre6 enc Try.prog Try.f4 Rows.fnDetectEncodingKnowsItsOwnStartRow.domain false) (Rows.fnDetectEncodingKnowsItsOwnStartSpec.post enc Try.prog Try.f4 false true false false) := by
  refine returnsInHanded_of_change (C := Try.checked) own started (by kernel_rfl) Try.func4
    (ChangeSpec.witness6 (enc := enc) (C := Try.checked) false ⟨#[], #[.int .u8 0, .int .u16 0, .int .u8 0, .bool false, .slice none 0 0], []⟩ 8 (by kernel_rfl) (by kernel_rfl) (by kernel_rfl) (by kernel_rfl)) ?_
  intro W base args ds gs before hval0 hW hcnd _
  have hval : ∀ (j : Nat) t v, Try.f4.params[j]? = some t → args[j]? = some v → Value.okWide Try.prog W .any base t v := hval0
  have hW' := hW
  obtain ⟨p, q, hA0, hV, rfl, hfz, hnd⟩ := hW
  have hA : DataW.TrodAll enc Try.prog W 0 (fun _ => true) true Try.f4.params.toList args.toList ds p := hA0
  rw [Try.params4] at hA hval
  obtain ⟨v0, vs0, d0, ds0, p0, q0, hargs, rfl, rfl, h0, r0⟩ := trodAll_cons hA
  obtain ⟨v1, vs1, d1, ds1, p1, q1, rfl, rfl, rfl, h1, r1⟩ := trodAll_cons r0
  obtain ⟨v2, vs2, d2, ds2, p2, q2, rfl, rfl, rfl, h2, r2⟩ := trodAll_cons r1
  obtain ⟨v3, vs3, d3, ds3, p3, q3, rfl, rfl, rfl, h3, r3⟩ := trodAll_cons r2
  obtain ⟨v4, vs4, d4, ds4, p4, q4, rfl, rfl, rfl, h4, r4⟩ := trodAll_cons r3
  obtain ⟨rfl, rfl, rfl⟩ := trodAll_nil r4
  obtain rfl : args = #[v0, v1, v2, v3, v4] := by cases args; simp_all
  obtain ⟨rfl, rfl⟩ := trodVars_none hV
  obtain ⟨a0, rfl, rfl, rfl, w0⟩ := open_int Try.underlying5 (hval 0 5 v0 rfl rfl) h0
  obtain ⟨a1, rfl, rfl, rfl, w1⟩ := open_int Try.underlying28 (hval 1 28 v1 rfl rfl) h1
  obtain ⟨a2, rfl, rfl, rfl, w2⟩ := open_int Try.underlying5 (hval 2 5 v2 rfl rfl) h2
  obtain ⟨a3, rfl, rfl, rfl⟩ := open_bool Try.underlying4 (hval 3 4 v3 rfl rfl) h3
  obtain ⟨a4, len4, cap4, rfl⟩ := okWide_slice Try.underlying22 (hval 4 22 v4 rfl rfl)
  have k4 := h4
  have lt4 : ∀ x ∈ p4, x.block < W.heap.size := by obtain ⟨m, hm⟩ := k4; exact DataW.trod_lt m _ _ _ hm
  obtain ⟨z4, w4⟩ : ∃ zs, IsRow .u8 W a4 len4 cap4 zs := by
    obtain ⟨fuel, hf⟩ := h4
    rcases open_ints Try.underlying22 Try.underlying5 (by kernel_rfl) hf with ⟨hcs, _⟩ | ⟨x, l, c, zs, hcs, _, hl, hm, hz, _, hcell, hwz⟩
    · simp [Value.cells] at hcs
      obtain ⟨rfl, rfl, rfl⟩ := hcs
      exact ⟨[], .inl ⟨rfl, rfl, rfl, rfl⟩⟩
    · simp [Value.cells] at hcs
      obtain ⟨rfl, rfl, rfl⟩ := hcs
      exact ⟨zs, .inr ⟨_, rfl, hl, hm, by simpa using hz, hcell, hwz⟩⟩
  clear hA0 hval0
  refine (walk a0 a1 a2 a3 a4 len4 cap4 z4 W w0 w1 w2 w4).mono fun e W' ⟨he, bel⟩ => ?_
  subst he
  exact ⟨_, rfl, _, _, _, [], _, [], hW', trodAll_mk1 (shut_bool Try.underlying4 _), (trodAll_cons_mk (shut_int Try.underlying5 w0) (trodAll_cons_mk (shut_int Try.underlying28 w1) (trodAll_cons_mk (shut_int Try.underlying5 w2) (trodAll_cons_mk (shut_bool Try.underlying4 _) (trodAll_cons_mk (Below.trod laidOut (by kernel_rfl) (of_decide_eq_true (by kernel_rfl)) k4 bel lt4) trodAll_mk0))))), rfl, bel.frame _, fun h => by cases h⟩

theorem over : Rows.fnDetectEncodingKnowsItsOwnStartRow.holds Try.pinned (OpenSpec.ofChange Rows.fnDetectEncodingKnowsItsOwnStartSpec) :=
  OpenClaim.holds_of_wide 4 Try.f4 rfl rfl rfl rfl rfl rfl rfl ⟨rfl, rfl, rfl, rfl, rfl⟩ rfl rfl rfl rfl rfl (by kernel_rfl) Try.func4 (by kernel_rfl)
    (of_decide_eq_true (by kernel_rfl)) (by unfold Func.isWrapper; first | (rw [if_pos (by decide +kernel)]; kernel_rfl) | (rw [if_neg (by decide +kernel)]; exact ⟨rfl, rfl⟩))
    (fun os started H enc _ => lifted os started H enc)

/-- ████ THE STATEMENT ████ -/
theorem proved : Rows.FnDetectEncodingKnowsItsOwnStartSaid := over
end Go.Proofs.Qxb6601462a.fnDetectEncodingKnowsItsOwnStart
