import Derived.Test.Qxb6601836aRepC
import Derived.SliceStrings
import Derived.OpenShut
import Derived.Deep.Strs
import Derived.Deep.Slices
namespace Go.Proofs.Qxb6601836a
open Go.RowKit Go.ChangeShapes
set_option linter.unusedVariables false
set_option linter.unusedSimpArgs false

section
variable {H : Type} {enc : TypeId × Value → H} {W : World} {base : Nat} {sp : Nat → Bool} {held : Bool}

theorem cells9 : Try.prog.cellsOf 9 = 1 := by kernel_rfl
theorem cells22 : Try.prog.cellsOf 22 = 1 := by kernel_rfl
theorem cells3 : Try.prog.cellsOf 3 = 1 := by kernel_rfl
theorem cells39 : Try.prog.cellsOf 39 = 3 := by kernel_rfl

/-- A slice of strings that reads as data. -/
theorem strs_of {fuel : Nat} {cs : List Value} {x : DataW H × List MemPlace} (h : DataW.trod enc Try.prog W base sp held fuel 22 cs = some x) :
    ∃ (a : Option Addr) (n c : Nat) (ss : List ByteArray), cs = [.slice a n c] ∧ Strs W a n ss ∧ n ≤ maxLen ∧ (a = none → n = 0 ∧ c = 0) := by
  rcases open_strings Try.underlying22 Try.underlying9 cells9 h with ⟨rfl, _⟩ | ⟨a, len, cap, ss, rfl, _, hl, hm, hlen, _, hcell, hsz⟩
  · refine ⟨none, 0, 0, [], rfl, ⟨rfl, fun j => ?_, fun h => absurd h (Nat.lt_irrefl 0)⟩, Nat.zero_le _, fun _ => ⟨rfl, rfl⟩⟩
    show ByteArray.size ByteArray.empty ≤ maxLen
    exact Nat.zero_le _
  · have hle : len ≤ ss.length := by rw [hlen]; split <;> omega
    have ht : ∀ j, j < len → (ss.take len).getD j ByteArray.empty = ss.getD j ByteArray.empty := fun j hj => by
      simp only [List.getD, List.getElem?_take, if_pos hj]
    refine ⟨some a, len, cap, ss.take len, rfl, ⟨by simp; omega, fun j => ?_, fun h0 => ?_⟩, by omega, fun h => by cases h⟩
    · by_cases hj : j < len
      · rw [ht j hj]
        have hjl : j < ss.length := by omega
        have : ss.getD j ByteArray.empty ∈ ss := by
          simp only [List.getD, List.getElem?_eq_getElem hjl, Option.getD_some]
          exact List.getElem_mem hjl
        exact hsz _ this
      · have : (ss.take len).getD j ByteArray.empty = ByteArray.empty := by
          simp only [List.getD, List.getElem?_take, if_neg hj, Option.getD_none]
        rw [this]
        exact Nat.zero_le _
    · obtain ⟨b, o, spot⟩ := a
      have hc0 := hcell 0 (by omega)
      obtain rfl : spot = none := World.cell?_spot hc0
      refine ⟨b, o, rfl, fun j hj => ?_⟩
      rw [ht j hj]
      have := hcell j (by omega)
      rwa [Addr.add_lit] at this

/-- One rule that reads as data. -/
theorem rule_of {fuel : Nat} {cs : List Value} {x : DataW H × List MemPlace} {ad : Addr} (hc : W.cells? base ad 3 = some cs) (h : DataW.trod enc Try.prog W base sp held fuel 39 cs = some x) :
    ∃ r : Rl, W.cell? (ad.add 0) = some (.slice r.ka r.kl r.kc) ∧ W.cell? (ad.add 1) = some (.int .i64 r.dy) ∧ W.cell? (ad.add 2) = some (.string r.da) ∧ Good W r := by
  obtain ⟨_, hl, hcell⟩ := World.cells?_some hc
  obtain ⟨u0, u1, u2, rfl⟩ : ∃ u0 u1 u2, cs = [u0, u1, u2] := by
    match cs, hl with
    | [u0, u1, u2], _ => exact ⟨u0, u1, u2, rfl⟩
  obtain ⟨y0, y1, y2, n, _, _, t0, t1, t2⟩ := Deep.trod_struct3 Try.underlying39 h
  have t0' : DataW.trod enc Try.prog W base sp held n 22 [u0] = some y0 := by
    have := t0; simp only [cells22] at this; exact this
  have t1' : DataW.trod enc Try.prog W base sp held n 3 [u1] = some y1 := by
    have := t1; simp only [cells3] at this; exact this
  have t2' : DataW.trod enc Try.prog W base sp held n 9 [u2] = some y2 := by
    have := t2; simp only [cells9] at this; exact this
  obtain ⟨a, kl, kc, ks, e0, hS, hk, hn⟩ := strs_of t0'
  obtain ⟨dy, e1, _, hdy⟩ := DataW.trod_int Try.underlying3 t1'
  obtain ⟨da, e2, _, hda⟩ := DataW.trod_string Try.underlying9 t2'
  cases e0; cases e1; cases e2
  have hb := Go.bounds_i64 hdy
  exact ⟨⟨a, kl, kc, ks, dy, da⟩, hcell 0 (by omega), hcell 1 (by omega), hcell 2 (by omega), ⟨hS, hk, hda, hb.1, hb.2, hn⟩⟩

/-- A slice of rules that reads as data. -/
theorem rules_of {fuel : Nat} {cs : List Value} {x : DataW H × List MemPlace} (h : DataW.trod enc Try.prog W base sp held fuel 23 cs = some x) :
    ∃ (a : Option Addr) (n c : Nat) (rs : List Rl), cs = [.slice a n c] ∧ Rules W a n rs ∧ n ≤ maxLen ∧ (a = none → n = 0 ∧ c = 0) := by
  rcases Deep.open_slice Try.underlying23 h with ⟨rfl, _⟩ | ⟨a, len, cap, m, n, D, Pl, rfl, _, hl, hm, hmm, _, hx⟩
  · exact ⟨none, 0, 0, [], rfl, ⟨rfl, fun j hj => absurd hj (Nat.not_lt_zero _), fun h => absurd h (Nat.lt_irrefl 0)⟩, Nat.zero_le _, fun _ => ⟨rfl, rfl⟩⟩
  · have hle : len ≤ m := by rw [hmm]; split <;> omega
    rw [cells39] at hx
    have : Inhabited Rl := ⟨Rl0⟩
    obtain ⟨R, hR⟩ := Deep.choose_lt (α := Rl) (n := m) (p := fun i r => W.cell? ((a.add (i * 3)).add 0) = some (.slice r.ka r.kl r.kc) ∧ W.cell? ((a.add (i * 3)).add 1) = some (.int .i64 r.dy) ∧ W.cell? ((a.add (i * 3)).add 2) = some (.string r.da) ∧ Good W r) (fun i hi => by
      obtain ⟨cs', h1, h2⟩ := hx i hi
      exact rule_of h1 h2)
    have hg : ∀ j, j < len → ((List.range len).map R).getD j Rl0 = R j := fun j hj => by
      simp [List.getD, hj]
    refine ⟨some a, len, cap, (List.range len).map R, rfl, ⟨by simp, fun j hj => ?_, fun h0 => ?_⟩, by omega, fun h => by cases h⟩
    · rw [hg j hj]; exact (hR j (by omega)).2.2.2
    · obtain ⟨b, o, spot⟩ := a
      have hc0 := (hR 0 (by omega)).1
      obtain rfl : spot = none := World.cell?_spot hc0
      refine ⟨b, o, rfl, fun j hj => ?_⟩
      rw [hg j hj]
      obtain ⟨q0, q1, q2, _⟩ := hR j (by omega)
      rw [Addr.add_lit, Addr.add_lit] at q0 q1 q2
      exact ⟨q0, q1, q2⟩
end
end Go.Proofs.Qxb6601836a
