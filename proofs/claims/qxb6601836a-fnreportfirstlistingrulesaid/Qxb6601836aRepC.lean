import Derived.Test.Qxb6601836aRepB
namespace Go.Proofs.Qxb6601836a
open Go.RowKit
set_option linter.unusedVariables false
set_option linter.unusedSimpArgs false

/-- A rule as it lies in memory: where its kinds lie, the kinds, its days, its announcement day. -/
structure Rl where
  ka : Option Addr
  kl : Nat
  kc : Nat
  ks : List ByteArray
  dy : Int
  da : ByteArray
def Rl0 : Rl := ⟨none, 0, 0, [], 0, ByteArray.empty⟩

structure RuleAt (w : World) (b o : Nat) (r : Rl) : Prop where
  c0 : w.cell? ⟨b, o, none⟩ = some (.slice r.ka r.kl r.kc)
  c1 : w.cell? ⟨b, o + 1, none⟩ = some (.int .i64 r.dy)
  c2 : w.cell? ⟨b, o + 2, none⟩ = some (.string r.da)

structure Good (w : World) (r : Rl) : Prop where
  strs : Strs w r.ka r.kl r.ks
  klen : r.kl ≤ maxLen
  dlen : r.da.size ≤ maxLen
  dy0 : -9223372036854775808 ≤ r.dy
  dy1 : r.dy ≤ 9223372036854775807
  hnil : r.ka = none → r.kl = 0 ∧ r.kc = 0

/-- A slice of rules. -/
structure Rules (w : World) (a : Option Addr) (n : Nat) (rs : List Rl) : Prop where
  hlen : rs.length = n
  good : ∀ j, j < n → Good w (rs.getD j Rl0)
  lies : 0 < n → ∃ b o, a = some ⟨b, o, none⟩ ∧ ∀ j, j < n → RuleAt w b (o + j * 3) (rs.getD j Rl0)

theorem RuleAt.later {w w' : World} {b o : Nat} {r : Rl} (h : RuleAt w b o r) (hb : Below w.heap.size w w') : RuleAt w' b o r :=
  ⟨(hb.cell (World.block_lt_of_cell? w _ h.c0)).trans h.c0, (hb.cell (World.block_lt_of_cell? w _ h.c1)).trans h.c1, (hb.cell (World.block_lt_of_cell? w _ h.c2)).trans h.c2⟩
theorem Good.later {w w' : World} {r : Rl} (h : Good w r) (hb : Below w.heap.size w w') : Good w' r :=
  ⟨h.strs.later hb, h.klen, h.dlen, h.dy0, h.dy1, h.hnil⟩
theorem Rules.later {w w' : World} {a : Option Addr} {n : Nat} {rs : List Rl} (h : Rules w a n rs) (hb : Below w.heap.size w w') : Rules w' a n rs :=
  ⟨h.hlen, fun j hj => (h.good j hj).later hb, fun h0 => by
    obtain ⟨b, o, ha, hc⟩ := h.lies h0
    exact ⟨b, o, ha, fun j hj => (hc j hj).later hb⟩⟩

theorem Rules.form {w : World} {a : Option Addr} {n : Nat} {rs : List Rl} (h : Rules w a n rs) : n ≤ 0 ∨ (0 < n ∧ ∃ b o, a = some ⟨b, o, none⟩ ∧ Hid (∀ j, j < n → RuleAt w b (o + j * 3) (rs.getD j Rl0))) := by
  by_cases h0 : 0 < n
  · exact Or.inr ⟨h0, h.lies h0⟩
  · exact Or.inl (by omega)

/-- One rule, taken apart. -/
theorem rule_at {w : World} {b o n : Nat} {rs : List Rl} (h : ∀ j, j < n → RuleAt w b (o + j * 3) (rs.getD j Rl0)) (g : ∀ j, j < n → Good w (rs.getD j Rl0)) (k : Nat) (hk : k < n) :
    ∃ (ka : Option Addr) (kl kc : Nat) (ks : List ByteArray) (dy : Int) (da : ByteArray), Hid (rs.getD k Rl0 = ⟨ka, kl, kc, ks, dy, da⟩) ∧ w.cell? ⟨b, o + k * 3, none⟩ = some (.slice ka kl kc) ∧ w.cell? ⟨b, o + k * 3 + 1, none⟩ = some (.int .i64 dy) ∧ w.cell? ⟨b, o + k * 3 + 2, none⟩ = some (.string da) ∧
      Strs w ka kl ks ∧ kl ≤ 9223372036854775807 ∧ da.size ≤ 9223372036854775807 ∧ -9223372036854775808 ≤ dy ∧ dy ≤ 9223372036854775807 ∧ (ka = none → kl = 0 ∧ kc = 0) := by
  have h1 := h k hk
  have g1 := g k hk
  generalize hr : rs.getD k Rl0 = r at h1 g1
  obtain ⟨ka, kl, kc, ks, dy, da⟩ := r
  have a := g1.klen
  have b := g1.dlen
  unfold maxLen at a b
  exact ⟨ka, kl, kc, ks, dy, da, rfl, h1.c0, h1.c1, h1.c2, g1.strs, a, b, g1.dy0, g1.dy1, g1.hnil⟩

set_option maxRecDepth 100000 in
set_option maxHeartbeats 1000000 in
theorem rules7 (t : Int) (a : Option Addr) (n c : Nat) (rs : List Rl) (w : World) (hR : Rules w a n rs) (ht0 : 0 ≤ t) (ht1 : t ≤ 1048577) (hn : n ≤ 1048576) (hk : ∀ j, j < n → (rs.getD j Rl0).kl ≤ 1048576) :
    Calls Try.prog 7 #[.int .i64 t, .slice a n c] w fun e w' => ∃ z, e = .returned (.int .i64 z) ∧ 0 ≤ z ∧ z ≤ 1048577 ∧ w = w' := by
  have HG : Hid (∀ j, j < n → Good w (rs.getD j Rl0)) := hR.good
  have HK : Hid (∀ j, j < n → (rs.getD j Rl0).kl ≤ 1048576) := hk
  clear hk
  rcases hR.form with h0 | ⟨h0, b, o, rfl, HC⟩
  all_goals
    clear hR
    go_enter Try.func7, Try.ntmps7
    go_wp2_with (go_at_call 18; refine (times18 _ _ _ _ ht0 ht1 hn (Or.inr rfl)).mono ?_; rintro e w1 ⟨z, rfl, hz0, hz1, hw⟩; subst hw)
    go_loop [0, 5] (fun u i => ∃ (k : Nat) (z : Int), k ≤ n ∧ i = .int .i64 k ∧ u = .int .i64 z ∧ 0 ≤ z ∧ z ≤ 1048577) (fun _ i => n - (intOf i).toNat)
    case atStart => exact ⟨0, z, Nat.zero_le _, rfl, rfl, hz0, hz1⟩
    case round =>
      clear hz0 hz1
      obtain ⟨k, z2, hk, rfl, rfl, hz0, hz1⟩ := hrel
      by_cases hlt : k < n
      · first
          | (exfalso; omega)
          | (by_cases hz : z2 ≤ 1048576
             · obtain ⟨ka, kl, kc, ks, dy, da, HE, c0, c1, c2, hS, hkl, hda, _, _, _⟩ := rule_at HC.out HG.out k hlt
               have hks : kl ≤ 1048576 := by have := HK.out k hlt; rw [HE.out] at this; exact this
               go_wp2_with (first
                 | (go_at_call 8; refine (strings8 _ _ _ _ _ _ hS hz0 hz1 hks).mono ?_; rintro e w1 ⟨z3, rfl, hz2, hz3, hw⟩; subst hw)
                 | (go_at_call 9; refine (add9 _ _ _ hz2 hz3 (by omega) (by omega)).mono ?_; rintro e w1 ⟨z4, rfl, hz4, hz5, hw⟩; subst hw))
               go_round
               case rel => exact ⟨k + 1, z4, by omega, by go_num, rfl, hz4, hz5⟩
               case measure => simp [intOf]; omega
             · go_wp2
               go_ret
               exact ⟨_, rfl, hz0, hz1, rfl⟩)
      · go_wp2
        go_ret
        exact ⟨_, rfl, hz0, hz1, rfl⟩

end Go.Proofs.Qxb6601836a
