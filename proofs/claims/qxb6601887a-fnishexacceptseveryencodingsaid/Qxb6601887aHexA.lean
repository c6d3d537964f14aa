import Derived.Test.Qxb6601887aRows
import Derived.WalkKit
import Derived.ProofKit
import Derived.Below
import Derived.OpenShut
import Derived.Lib.SliceRun
import Derived.WalkSpells
import Derived.WalkSmall
import Derived.Deep.AppendLies
namespace Go.Proofs.Qxb6601887a
open Go.RowKit
set_option linter.unusedVariables false
set_option linter.unusedSimpArgs false

/-- The size test of function 6. -/
theorem zb6 (a : Option Addr) (n c : Nat) (w : World) (b : Bool) (hb : b = decide (n ≤ 1048576)) (hn : n ≤ maxLen) :
    Calls Try.prog 6 #[.slice a n c] w fun e w' => e = .returned (.bool b) ∧ w = w' := by
  unfold maxLen at hn
  by_cases h : n ≤ 1048576
  · obtain rfl : b = true := by rw [hb]; simpa using h
    clear hb
    go_enter Try.func6, Try.ntmps6
    go_wp2
    go_ret
    exact ⟨rfl, rfl⟩
  · obtain rfl : b = false := by rw [hb]; simpa using h
    clear hb
    go_enter Try.func6, Try.ntmps6
    go_wp2
    go_ret
    exact ⟨rfl, rfl⟩

/-- The size test of function 11. -/
theorem zb11 (a : Option Addr) (n c : Nat) (u : Bool) (w : World) (b : Bool) (hb : b = decide (n ≤ 1048576)) (hn : n ≤ maxLen) :
    Calls Try.prog 11 #[.slice a n c, .bool u] w fun e w' => e = .returned (.bool b) ∧ w = w' := by
  unfold maxLen at hn
  by_cases h : n ≤ 1048576
  · obtain rfl : b = true := by rw [hb]; simpa using h
    clear hb
    go_enter Try.func11, Try.ntmps11
    go_wp2
    go_ret
    exact ⟨rfl, rfl⟩
  · obtain rfl : b = false := by rw [hb]; simpa using h
    clear hb
    go_enter Try.func11, Try.ntmps11
    go_wp2
    go_ret
    exact ⟨rfl, rfl⟩

/-- A hexadecimal digit. -/
def Hx (c : Int) : Prop := (48 ≤ c ∧ c ≤ 57) ∨ (97 ≤ c ∧ c ≤ 102) ∨ (65 ≤ c ∧ c ≤ 70)

/-- A slice of bytes that can be read. -/
structure Bs (w : World) (a : Option Addr) (n : Nat) (zs : List Int) : Prop where
  hlen : zs.length = n
  bytes : ∀ j, 0 ≤ zs.getD j 0 ∧ zs.getD j 0 ≤ 255
  lies : 0 < n → ∃ b o, a = some ⟨b, o, none⟩ ∧ ∀ j, j < n → w.cell? ⟨b, o + j, none⟩ = some (.int .u8 (zs.getD j 0))

theorem Bs.later {w w' : World} {a : Option Addr} {n : Nat} {zs : List Int} (h : Bs w a n zs) (hb : Below w.heap.size w w') : Bs w' a n zs :=
  ⟨h.hlen, h.bytes, fun h0 => by
    obtain ⟨b, o, ha, hc⟩ := h.lies h0
    exact ⟨b, o, ha, fun j hj => (hb.cell (World.block_lt_of_cell? w _ (hc j hj))).trans (hc j hj)⟩⟩

theorem Bs.form {w : World} {a : Option Addr} {n : Nat} {zs : List Int} (h : Bs w a n zs) : n = 0 ∨ (0 < n ∧ ∃ b o, a = some ⟨b, o, none⟩ ∧ Hid (∀ j, j < n → w.cell? ⟨b, o + j, none⟩ = some (.int .u8 (zs.getD j 0)))) := by
  rcases Nat.eq_zero_or_pos n with h0 | h0
  · exact .inl h0
  · exact .inr ⟨h0, h.lies h0⟩

set_option maxHeartbeats 1000000 in
theorem hex12_yes (a : Option Addr) (n c : Nat) (zs : List Int) (w : World) (hS : Bs w a n zs) (hn : n ≤ 1048576) (hall : ∀ j, j < n → Hx (zs.getD j 0)) :
    Calls Try.prog 12 #[.slice a n c] w fun e w' => e = .returned (.bool true) ∧ w = w' := by
  have HA : Hid (∀ j, j < n → Hx (zs.getD j 0)) := hall
  clear hall
  rcases hS.form with h0 | ⟨h0, b, o, rfl, HC⟩
  all_goals
    clear hS
    go_enter Try.func12, Try.ntmps12
    go_wp2
    go_loop [7] (fun i => ∃ k : Nat, k ≤ n ∧ i = .int .i64 k) (fun i => n - (intOf i).toNat)
    case atStart => exact ⟨0, Nat.zero_le _, rfl⟩
    case round =>
      obtain ⟨k, hk, rfl⟩ := hrel
      by_cases hlt : k < n
      · first
          | (exfalso; omega)
          | (have c1 := HC.out k hlt
             have hx := HA.out k hlt
             generalize zs.getD k 0 = z at c1 hx
             rcases hx with ⟨x1, x2⟩ | ⟨x1, x2⟩ | ⟨x1, x2⟩
             all_goals
               go_wp2
               go_round
               case rel => exact ⟨k + 1, by omega, by go_num⟩
               case measure => simp [intOf]; omega)
      · go_wp2
        go_ret
        exact ⟨rfl, rfl⟩

theorem not_hx {z : Int} (h : ¬ Hx z) : z < 48 ∨ (57 < z ∧ z < 65) ∨ (70 < z ∧ z < 97) ∨ 102 < z := by
  unfold Hx at h; omega

set_option maxHeartbeats 1000000 in
theorem hex12_no (a : Option Addr) (n c : Nat) (zs : List Int) (w : World) (hS : Bs w a n zs) (hn : n ≤ 1048576) (j0 : Nat) (hj0 : j0 < n) (hno : ¬ Hx (zs.getD j0 0)) :
    Calls Try.prog 12 #[.slice a n c] w fun e w' => e = .returned (.bool false) ∧ w = w' := by
  have HA : Hid (¬ Hx (zs.getD j0 0)) := hno
  have HB : Hid (∀ j, 0 ≤ zs.getD j 0 ∧ zs.getD j 0 ≤ 255) := hS.bytes
  clear hno
  rcases hS.form with h0 | ⟨h0, b, o, rfl, HC⟩
  · exfalso; omega
  · clear hS
    go_enter Try.func12, Try.ntmps12
    go_wp2
    go_loop [7] (fun i => ∃ k : Nat, k ≤ j0 ∧ i = .int .i64 k) (fun i => n - (intOf i).toNat)
    case atStart => exact ⟨0, Nat.zero_le _, rfl⟩
    case round =>
      obtain ⟨k, hk, rfl⟩ := hrel
      have hlt : k < n := by omega
      have c1 := HC.out k hlt
      have hb := HB.out k
      have HM : Hid (Hx (zs.getD k 0) → k ≠ j0) := fun h e => HA.out (by rw [← e]; exact h)
      generalize zs.getD k 0 = z at c1 hb HM
      by_cases hx : Hx z
      · have hne := HM.out hx
        clear HM
        rcases hx with ⟨x1, x2⟩ | ⟨x1, x2⟩ | ⟨x1, x2⟩
        all_goals
          go_wp2
          go_round
          case rel => exact ⟨k + 1, by omega, by go_num⟩
          case measure => simp [intOf]; omega
      · clear HM
        rcases not_hx hx with x1 | ⟨x1, x2⟩ | ⟨x1, x2⟩ | x1
        all_goals
          clear hx
          go_wp2
          all_goals first
            | (go_ret; exact ⟨rfl, rfl⟩)
            | (exfalso; rename_i hq; simp at hq; omega)

theorem hex9_yes (a : Option Addr) (n c : Nat) (zs : List Int) (w : World) (hS : Bs w a n zs) (hn : n ≤ 1048576) (hall : ∀ j, j < n → Hx (zs.getD j 0)) :
    Calls Try.prog 9 #[.slice a n c] w fun e w' => e = .returned (.bool true) ∧ w = w' := by
  go_enter Try.func9, Try.ntmps9
  go_wp2_with (go_at_call 12; refine (hex12_yes _ _ _ _ _ hS hn hall).mono ?_; rintro e w1 ⟨rfl, hw⟩; subst hw)
  go_ret
  exact ⟨rfl, rfl⟩
theorem hex9_no (a : Option Addr) (n c : Nat) (zs : List Int) (w : World) (hS : Bs w a n zs) (hn : n ≤ 1048576) (j0 : Nat) (hj0 : j0 < n) (hno : ¬ Hx (zs.getD j0 0)) :
    Calls Try.prog 9 #[.slice a n c] w fun e w' => e = .returned (.bool false) ∧ w = w' := by
  go_enter Try.func9, Try.ntmps9
  go_wp2_with (go_at_call 12; refine (hex12_no _ _ _ _ _ hS hn j0 hj0 hno).mono ?_; rintro e w1 ⟨rfl, hw⟩; subst hw)
  go_ret
  exact ⟨rfl, rfl⟩

theorem info5 : (Try.prog.info? 5).map (fun i => (i.zero, i.size, i.bytes)) = some (some (.int .u8 0), 1, 1) := by kernel_rfl

/-- The copy as it stands when its first j bytes are laid. -/
def part (ss : List Int) (n j : Nat) : List Int := ss.take j ++ List.replicate (n - j) 0
theorem part_zero (ss : List Int) (n : Nat) : part ss n 0 = List.replicate n 0 := by simp [part]
theorem part_all (ss : List Int) (n : Nat) (h : ss.length = n) : part ss n n = ss := by subst h; simp [part]
theorem part_set (ss : List Int) (n j : Nat) (hl : ss.length = n) (h : j < n) : (part ss n j).set j (ss.getD j 0) = part ss n (j + 1) := by
  have hj : j < ss.length := by omega
  unfold part
  rw [List.take_succ_eq_append_getElem hj, List.set_append_right _ _ (by simp; omega)]
  have e2 : j - (ss.take j).length = 0 := by simp; omega
  have e3 : ss.getD j 0 = ss[j] := by simp [List.getD, hj]
  rw [e2, e3, show n - j = (n - (j + 1)) + 1 by omega, List.replicate_succ, List.set_cons_zero, List.append_assoc]
  rfl
theorem made_zero (n : Nat) : (madeCells (Value.int .u8 0).cells (n * 1)).toList = (List.replicate n (0 : Int)).map (Value.int .u8) := by
  rw [Nat.mul_one, List.map_replicate]
  exact toList_madeCells_one _ _
theorem own_cells {w : World} {B g n cap : Nat} {zs : List Int} (h : w.ownsRow B 5 1 (.slice (some ⟨g, 0, none⟩) n cap) n (zs.map (Value.int .u8))) :
    ∀ j, j < n → w.cell? ⟨g, j, none⟩ = some (.int .u8 (zs.getD j 0)) := by
  intro j hj
  have hl : zs.length = n := by have := h.1; simpa using this
  have := h.cellAt j (by omega)
  rw [this]
  simp [List.getD, show j < zs.length by omega]

set_option maxRecDepth 100000 in
set_option maxHeartbeats 1000000 in
theorem clone7 (a : Option Addr) (n c : Nat) (zs : List Int) (w : World) (hS : Bs w a n zs) (hn : n ≤ 1048576) (hnil : a = none → n = 0 ∧ c = 0) :
    Calls Try.prog 7 #[.slice a n c] w fun e w' => ∃ a' c', e = .returned (.slice a' n c') ∧ Bs w' a' n zs ∧ Below w.heap.size w w' := by
  obtain ⟨i0, hi, hz0, hz1, hz2⟩ := info_parts info5
  have q22 : ∀ (w : World) (a : Option Addr) (n c n' c' : Nat), (binOp .eql 22 (.slice a n c) (.slice none n' c')).run Try.prog w = .ok (.bool a.isNone) w := fun w a n c n' c' => Lib.run_eql_slice_nil w _ _ a n c n' c' Try.underlying22
  have HL : Hid (zs.length = n) := hS.hlen
  have HB : Hid (∀ j, 0 ≤ zs.getD j 0 ∧ zs.getD j 0 ≤ 255) := hS.bytes
  cases a with
  | none =>
    obtain ⟨rfl, rfl⟩ := hnil rfl
    clear hnil
    go_enter Try.func7, Try.ntmps7
    go_wp2
    go_ret
    exact ⟨_, _, rfl, hS, Below.refl _ _⟩
  | some ad =>
    clear hnil
    have hform := hS.form
    clear hS
    go_enter Try.func7, Try.ntmps7
    go_wp2_with (at_make; refine wpList_make_full _ rfl (.tmp 8) (.tmp 8) 22 rfl w.heap.size 5 i0 (.int .u8 0) 1 Try.underlying22 hi hz0 hz1 .i64 .i64 _ _ n rfl rfl rfl rfl (by rw [hz2]; omega) (by unfold maxLen; omega) (Nat.le_refl _) ?_; intro w1 hown hgr; have hb := (Below.refl w.heap.size w).grown hgr (Nat.le_refl _) (by intro k hk; cases hk); rw [made_zero, ← part_zero zs n] at hown; clear hgr)
    go_loopw [4] (fun i wr => ∃ j : Nat, j ≤ n ∧ i = .int .i64 j ∧ wr.ownsRow w.heap.size 5 1 (.slice (some ⟨w.heap.size, 0, none⟩) n n) n ((part zs n j).map (Value.int .u8)) ∧ Below w.heap.size w wr) (fun i _ => n - (intOf i).toNat)
    case atStart => exact ⟨0, Nat.zero_le _, rfl, hown, hb⟩
    case round =>
      clear hown hb
      obtain ⟨j, hj, rfl, hownr, hbr⟩ := hrel
      by_cases hlt : j < n
      · rcases hform with h0 | ⟨h0, b, o, had, HC⟩
        · exfalso; omega
        · obtain rfl := Option.some.inj had
          have c1 : wr.cell? ⟨b, o + j, none⟩ = some (.int .u8 (zs.getD j 0)) := (hbr.cell (World.block_lt_of_cell? w _ (HC.out j hlt))).trans (HC.out j hlt)
          have c2 := own_cells hownr j hlt
          have c3 := hownr.frozenAt j
          have hst := (hownr.stored j (.int .u8 (zs.getD j 0))).1
          have hrow : ((part zs n j).map (Value.int .u8)).set j (.int .u8 (zs.getD j 0)) = (part zs n (j + 1)).map (Value.int .u8) := by
            rw [← List.map_set, part_set zs n j HL.out hlt]
          rw [hrow] at hst
          have HST : Hid ((wr.setCell ⟨w.heap.size, j, none⟩ (.int .u8 (zs.getD j 0))).ownsRow w.heap.size 5 1 (.slice (some ⟨w.heap.size, 0, none⟩) n n) n ((part zs n (j + 1)).map (Value.int .u8))) := hst
          clear hrow hst
          generalize zs.getD j 0 = s at c1 HST
          generalize (part zs n j).getD j 0 = old at c2
          go_wp2
          go_roundw
          case rel => exact ⟨j + 1, by omega, by go_num, HST.out, hbr.setCell (Nat.le_refl _) _⟩
          case measure => simp [intOf]; omega
      · obtain rfl : n = j := by omega
        rw [part_all zs n HL.out] at hownr
        go_wp2
        go_ret
        exact ⟨_, _, rfl, ⟨HL.out, HB.out, fun _ => ⟨w.heap.size, 0, rfl, fun j hj => by rw [Nat.zero_add]; exact own_cells hownr j hj⟩⟩, hbr⟩

/-- What the walk is told of a slice of bytes that came in. -/
def IsRow (k : IntKind) (w : World) (a : Option Addr) (len cap : Nat) (zs : List Int) : Prop :=
  (a = none ∧ len = 0 ∧ cap = 0 ∧ zs = []) ∨
  ∃ x, a = some x ∧ len ≤ cap ∧ cap ≤ maxLen ∧ zs.length = cap ∧ (∀ i, i < zs.length → w.cell? (x.add i) = some (.int k (zs.getD i 0))) ∧ ∀ n ∈ zs, (Lit.int k n).wf = true

theorem take_getD (zs : List Int) (n j : Nat) : (zs.take n).getD j 0 = if j < n then zs.getD j 0 else 0 := by
  simp only [List.getD, List.getElem?_take]
  split <;> rfl

theorem IsRow.bs {w : World} {a : Option Addr} {len cap : Nat} {zs : List Int} (h : IsRow .u8 w a len cap zs) : Bs w a len (zs.take len) ∧ len ≤ maxLen ∧ (a = none → len = 0 ∧ cap = 0) := by
  rcases h with ⟨rfl, rfl, rfl, rfl⟩ | ⟨x, rfl, hl, hm, hz, hc, hf⟩
  · exact ⟨⟨rfl, fun j => by simp, fun h => absurd h (Nat.lt_irrefl 0)⟩, Nat.zero_le _, fun _ => ⟨rfl, rfl⟩⟩
  · refine ⟨⟨by simp; omega, fun j => ?_, fun h0 => ?_⟩, by omega, (fun h => by cases h)⟩
    · rw [take_getD]
      split
      · rename_i hj
        have hjl : j < zs.length := by omega
        have hmem : zs.getD j 0 ∈ zs := by
          simp only [List.getD, List.getElem?_eq_getElem hjl, Option.getD_some]
          exact List.getElem_mem hjl
        exact Go.bounds_u8 (hf _ hmem)
      · omega
    · obtain ⟨bb, off, spot⟩ := x
      have hc0 := hc 0 (by omega)
      obtain rfl : spot = none := World.cell?_spot hc0
      refine ⟨bb, off, rfl, fun j hj => ?_⟩
      rw [take_getD, if_pos hj]
      have := hc j (by omega)
      rwa [Addr.add_lit] at this
end Go.Proofs.Qxb6601887a
