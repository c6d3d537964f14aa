import Derived.Test.Qxb6601462aDetA
import Derived.Deep.AppendLies
import Derived.Maps.AppendAt
import Derived.Laws.BitsAllLaws
namespace Go.Proofs.Qxb6601462a
open Go.RowKit
set_option linter.unusedVariables false

theorem Try.info5 : (Try.prog.info? 5).map (fun i => (i.zero, i.size, i.bytes)) = some (some (.int .u8 0), 1, 1) := by kernel_rfl

theorem lo192 : ∀ n < 32, 1 ≤ (192 ||| n) % 256 := by decide
theorem lo224 : ∀ n < 16, 1 ≤ (224 ||| n) % 256 := by decide

theorem or192 (x : Int) (h0 : 0 ≤ x) (h1 : x < 32) : 1 ≤ bits BinOp.or IntKind.u16 192 x % 256 := by
  rw [u16_or 192 x (by omega) (by omega) h0 (by omega)]
  have := lo192 x.toNat (by omega)
  have e : (192 : Int).toNat = 192 := rfl
  rw [e]; omega
theorem or224 (x : Int) (h0 : 0 ≤ x) (h1 : x < 16) : 1 ≤ bits BinOp.or IntKind.u16 224 x % 256 := by
  rw [u16_or 224 x (by omega) (by omega) h0 (by omega)]
  have := lo224 x.toNat (by omega)
  have e : (224 : Int).toNat = 224 := rfl
  rw [e]; omega

/-- What the walk of function 11 leaves: the row is longer by one to three bytes, the first of which is not nought. -/
def Utf (w : World) (B g k cap : Nat) (xs : List Value) (e : Ending) (w' : World) : Prop :=
  ∃ (z : Int) (zs : List Int) (n : Nat), 1 ≤ z ∧ z ≤ 255 ∧ k + 1 ≤ n ∧ n ≤ k + 3 ∧
      e = .returned (.slice (some ⟨g, 0, none⟩) n cap) ∧
      w'.ownsRow B 5 1 (.slice (some ⟨g, 0, none⟩) n cap) n (xs ++ (z :: zs).map (Value.int .u8)) ∧ w.grownBy w' (some g)

theorem Utf.mk {w : World} {B g k cap : Nat} {xs : List Value} {w' : World} (z : Int) (zs : List Int) (h1 : 1 ≤ z) (h2 : z ≤ 255) (h3 : zs.length ≤ 2) (n : Nat) (hn : n = k + (zs.length + 1))
    (h : w'.ownsRow B 5 1 (.slice (some ⟨g, 0, none⟩) n cap) n (xs ++ (z :: zs).map (Value.int .u8))) (hg : w.grownBy w' (some g)) :
    Utf w B g k cap xs (.returned (.slice (some ⟨g, 0, none⟩) n cap)) w' := by
  exact ⟨z, zs, n, h1, h2, by omega, by omega, rfl, h, hg⟩

set_option maxHeartbeats 400000 in
theorem utf11 (d : Int) (hd1 : 1 ≤ d) (hd2 : d ≤ 65535) (g k cap : Nat) (xs : List Value) (w : World) (B : Nat)
    (hown : w.ownsRow B 5 1 (.slice (some ⟨g, 0, none⟩) k cap) k xs) (hcap : k + 3 ≤ cap) (hcm : cap ≤ maxLen) :
    Calls Try.prog 11 #[.slice (some ⟨g, 0, none⟩) k cap, .int .u16 d] w fun e w' => Utf w B g k cap xs e w' := by
  obtain ⟨i0, hi, hz0, hz1, hz2⟩ := info_parts Try.info5
  unfold maxLen at hcm
  by_cases h1 : d < 128
  · go_enter Try.func11, Try.ntmps11
    go_wp2_with (at_builtin; refine wpList_append_fits _ rfl (.tmp 8) (.tmp 11) 22 rfl B 5 i0 1 Try.underlying22 hi hz1 g k cap xs rfl (hown.alloc _) ⟨w.heap.size, 0, none⟩ 1 1 _ rfl (by rfl) (World.news_of_block (heap_alloc_new w _)) (by intro u hu; simp at hu; rcases hu with rfl; rfl) (by omega) ?_; intro w1 hown1 hgrow1)
    go_ret
    exact Utf.mk d [] hd1 (by omega) (by simp) (k + 1) (by simp) hown1 ((World.grownBy_alloc _ _ _).trans hgrow1)
  · by_cases h2 : d < 2048
    · go_enter Try.func11, Try.ntmps11
      go_wp2_with (at_builtin; refine wpList_append_fits _ rfl (.tmp 16) (.tmp 25) 22 rfl B 5 i0 1 Try.underlying22 hi hz1 g k cap xs rfl (hown.alloc _) ⟨w.heap.size, 0, none⟩ 2 2 _ rfl (by rfl) (World.news_of_block (heap_alloc_new w _)) (by intro u hu; simp at hu; rcases hu with rfl | rfl <;> rfl) (by omega) ?_; intro w1 hown1 hgrow1)
      go_ret
      exact Utf.mk (bits BinOp.or IntKind.u16 192 (d / 64) % 256) [bits BinOp.or IntKind.u16 128 (bits BinOp.and IntKind.u16 d 63) % 256] (or192 _ (by omega) (by omega)) (by omega) (by simp) (k + 2) (by simp) hown1 ((World.grownBy_alloc _ _ _).trans hgrow1)
    · go_enter Try.func11, Try.ntmps11
      go_wp2_with (at_builtin; refine wpList_append_fits _ rfl (.tmp 27) (.tmp 41) 22 rfl B 5 i0 1 Try.underlying22 hi hz1 g k cap xs rfl (hown.alloc _) ⟨w.heap.size, 0, none⟩ 3 3 _ rfl (by rfl) (World.news_of_block (heap_alloc_new w _)) (by intro u hu; simp at hu; rcases hu with rfl | rfl | rfl <;> rfl) (by omega) ?_; intro w1 hown1 hgrow1)
      go_ret
      exact Utf.mk (bits BinOp.or IntKind.u16 224 (d / 4096) % 256) [bits BinOp.or IntKind.u16 128 (bits BinOp.and IntKind.u16 (d / 64) 63) % 256, bits BinOp.or IntKind.u16 128 (bits BinOp.and IntKind.u16 d 63) % 256] (or224 _ (by omega) (by omega)) (by omega) (by simp) (k + 3) (by simp) hown1 ((World.grownBy_alloc _ _ _).trans hgrow1)
end Go.Proofs.Qxb6601462a
