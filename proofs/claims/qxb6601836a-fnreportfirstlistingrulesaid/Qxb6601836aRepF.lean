import Derived.Test.Qxb6601836aRepD
import Derived.Test.Qxb6601836aRepE
namespace Go.Proofs.Qxb6601836a
open Go.RowKit
set_option linter.unusedVariables false
set_option linter.unusedSimpArgs false

theorem CopyOf.later {w w' : World} {B : Nat} {r r' : Rl} (h : CopyOf w B r r') (hb : Below w.heap.size w w') : CopyOf w' B r r' :=
  ⟨h.kl, h.ks, h.dy, h.da, h.nil1, h.nil2, h.strs.later hb, fun ad e => ⟨(h.fresh ad e).1, Nat.lt_of_lt_of_le (h.fresh ad e).2 hb.size⟩⟩
theorem Laid.later {w w' : World} {H n k : Nat} {rs rs' : List Rl} (h : Laid w H n k rs rs') (hb : Below w.heap.size w w') : Laid w' H n k rs rs' := by
  obtain ⟨h1, cur, hg, hs, ho⟩ := h
  exact ⟨h1, cur, (hb.block H (Array.getElem?_eq_some_iff.1 hg).1).trans hg, hs, fun j hj => ⟨(ho j hj).1, (ho j hj).2.later hb⟩⟩

/-- What the Blackout that zzBuild makes holds. -/
structure Built (w : World) (P : Nat) (n : Nat) (rs : List Rl) (a' : Option Addr) (c' : Nat) : Prop where
  cell : w.cell? ⟨P, 1, none⟩ = some (.slice a' n c')
  laid : 0 < n → ∃ H rs', a' = some ⟨H, 0, none⟩ ∧ Laid w H n n rs rs'

set_option maxRecDepth 100000 in
set_option maxHeartbeats 1000000 in
theorem build10 (a0 a1 : Option Addr) (n0 c0 n1 c1 : Nat) (ss : List ByteArray) (rs : List Rl) (sa : Int) (w : World) (hB : Strs w a0 n0 ss) (hR : Rules w a1 n1 rs) (hSm : Small n0 n1 rs) (hnil0 : a0 = none → n0 = 0 ∧ c0 = 0) (hnil1 : a1 = none → n1 = 0 ∧ c1 = 0) :
    Calls Try.prog 10 #[.slice a0 n0 c0, .slice a1 n1 c1, .int .i64 sa] w fun e w' => ∃ P a' c', e = .returned (.pointer (some ⟨P, 0, none⟩)) ∧ Built w' P n1 rs a' c' ∧ Below w.heap.size w w' := by
  go_enter Try.func10, Try.ntmps10
  go_wp2_with (first
    | (go_at_call 19; refine (binds19 a0 n0 c0 ss w hB hSm.1 hnil0).mono ?_; rintro e w1 ⟨ab, cb, rfl, hcp, hb1⟩; clear hcp)
    | (go_at_call 20; refine (rules20 a1 n1 c1 rs w1 (hR.later hb1) hSm.2.1 hSm.2.2 hnil1).mono ?_; rintro e w2 ⟨ar, cr, rfl, hl2, hb2⟩))
  go_ret
  have hbx : Below w2.heap.size w2 (w2.alloc (.cells #[.slice ab n0 cb, .slice ar n1 cr, .int .i64 sa] 51)) := (Below.refl _ _).alloc (Nat.le_refl _) _
  refine ⟨w2.heap.size, ar, cr, rfl, ⟨?_, fun h0 => ?_⟩, ?_⟩
  · simp
  · obtain ⟨h1, rs', h2⟩ := hl2 h0
    exact ⟨_, rs', h1, h2.later hbx⟩
  · exact (hb1.trans (hb2.mono hb1.size)).trans (hbx.mono (Nat.le_trans hb1.size hb2.size))

end Go.Proofs.Qxb6601836a
