/-
  Plain mathematics of appendFlowLines and of its strict reader: lists of numbers alone, no Go.
-/
import Derived.Below
namespace Go.Proofs.Qxb6601462a.Flow

def sp (ind : Nat) : List Int := List.replicate ind 32
def one (q c : Int) : List Int := if q ≠ 0 ∧ c = q then [q, q] else [c]
def wr (q : Int) (ind : Nat) : Bool → List Int → List Int
  | false, [] => []
  | true, [] => sp ind
  | false, c :: t => if c = 10 then 10 :: 10 :: wr q ind true t else one q c ++ wr q ind false t
  | true, c :: t => if c = 10 then 10 :: wr q ind true t else sp ind ++ (one q c ++ wr q ind false t)

theorem drop_cons (v : List Int) (i : Nat) (h : i < v.length) : v.drop i = v.getD i 0 :: v.drop (i + 1) := by
  rw [List.drop_eq_getElem_cons h]
  simp [List.getD, h]

theorem wr_lf (q : Int) (ind : Nat) (v : List Int) (i : Nat) (h : i < v.length) (hc : v.getD i 0 = 10) :
    wr q ind false (v.drop i) = 10 :: wr q ind true (v.drop i) := by
  rw [drop_cons v i h, hc]; simp [wr]

theorem wr_true_lf (q : Int) (ind : Nat) (v : List Int) (i : Nat) (h : i < v.length) (hc : v.getD i 0 = 10) :
    wr q ind true (v.drop i) = 10 :: wr q ind true (v.drop (i + 1)) := by
  rw [drop_cons v i h, hc]; simp [wr]

theorem wr_true_stop (q : Int) (ind : Nat) (v : List Int) (i : Nat) (h : i < v.length → v.getD i 0 ≠ 10) :
    wr q ind true (v.drop i) = sp ind ++ wr q ind false (v.drop i) := by
  by_cases hi : i < v.length
  · have hh := h hi
    rw [drop_cons v i hi]
    generalize v.getD i 0 = c at *
    simp only [wr, if_neg hh]
  · rw [List.drop_eq_nil_of_le (by omega)]; simp [wr]

theorem wr_quote (q : Int) (ind : Nat) (v : List Int) (i : Nat) (h : i < v.length) (hc : v.getD i 0 ≠ 10) (hq : q ≠ 0) (he : v.getD i 0 = q) :
    wr q ind false (v.drop i) = [q, q] ++ wr q ind false (v.drop (i + 1)) := by
  rw [drop_cons v i h, he]; rw [he] at hc; simp [wr, one, hq, hc]

theorem wr_plain (q : Int) (ind : Nat) (v : List Int) (i : Nat) (h : i < v.length) (hc : v.getD i 0 ≠ 10) (he : ¬ (q ≠ 0 ∧ v.getD i 0 = q)) :
    wr q ind false (v.drop i) = [v.getD i 0] ++ wr q ind false (v.drop (i + 1)) := by
  rw [drop_cons v i h]; simp only [wr, one, if_neg hc, if_neg he]

/-- How long the text is. -/
theorem wr_len (q : Int) (ind : Nat) (v : List Int) : (wr q ind false v).length ≤ (ind + 2) * v.length ∧ (wr q ind true v).length ≤ (ind + 2) * v.length + ind := by
  induction v with
  | nil => simp [wr, sp]
  | cons c t ih =>
    obtain ⟨h1, h2⟩ := ih
    have e : (ind + 2) * (c :: t).length = (ind + 2) * t.length + (ind + 2) := by rw [List.length_cons, Nat.mul_succ]
    rw [e]
    have h3 : (one q c).length ≤ 2 := by unfold one; split <;> simp
    by_cases hc : c = 10
    · simp only [wr, if_pos hc, List.length_cons]; omega
    · simp only [wr, if_neg hc, List.length_append, sp, List.length_replicate]; omega

/-- A text's first run of line feeds. -/
theorem run_of (l : List Int) : ∃ (r : Nat) (rest : List Int), l = List.replicate r 10 ++ rest ∧ (0 < rest.length → rest.getD 0 0 ≠ 10) := by
  induction l with
  | nil => exact ⟨0, [], by simp, by simp⟩
  | cons c t ih =>
    by_cases hc : c = 10
    · obtain ⟨r, rest, h1, h2⟩ := ih
      exact ⟨r + 1, rest, by rw [List.replicate_succ, List.cons_append, ← h1, hc], h2⟩
    · exact ⟨0, c :: t, by simp, fun _ => by simpa using hc⟩

theorem wr_true_run (q : Int) (ind r : Nat) (rest : List Int) : wr q ind true (List.replicate r 10 ++ rest) = List.replicate r 10 ++ wr q ind true rest := by
  induction r with
  | zero => simp
  | succ n ih => rw [List.replicate_succ, List.cons_append, List.cons_append, ← ih]; simp [wr]

theorem wr_stop (q : Int) (ind : Nat) (rest : List Int) (h : 0 < rest.length → rest.getD 0 0 ≠ 10) : wr q ind true rest = sp ind ++ wr q ind false rest := by
  have := wr_true_stop q ind rest 0 h
  simpa using this

theorem wr_run (q : Int) (ind r : Nat) (rest : List Int) (hr : 1 ≤ r) (h : 0 < rest.length → rest.getD 0 0 ≠ 10) :
    wr q ind false (List.replicate r 10 ++ rest) = List.replicate (r + 1) 10 ++ (sp ind ++ wr q ind false rest) := by
  obtain ⟨n, rfl⟩ : ∃ n, r = n + 1 := ⟨r - 1, by omega⟩
  have e : wr q ind false (List.replicate (n + 1) 10 ++ rest) = 10 :: wr q ind true (List.replicate (n + 1) 10 ++ rest) := by
    rw [List.replicate_succ, List.cons_append]; simp [wr]
  rw [e, wr_true_run, wr_stop q ind rest h, List.replicate_succ (n := n + 1), List.cons_append]

theorem wr_head (q : Int) (ind : Nat) (rest : List Int) (h : 0 < rest.length → rest.getD 0 0 ≠ 10) : 0 < (wr q ind false rest).length → (wr q ind false rest).getD 0 0 ≠ 10 := by
  intro _
  match rest, h with
  | [], _ => simp [wr]
  | c :: t, h =>
    have hc : c ≠ 10 := by simpa using h (by simp)
    simp only [wr, if_neg hc, one]
    by_cases hq : q ≠ 0 ∧ c = q
    · rw [if_pos hq]; simp; rw [← hq.2]; exact hc
    · rw [if_neg hq]; simpa using hc

theorem wr_nil (q : Int) (ind : Nat) (l : List Int) (h : wr q ind false l = []) : l = [] := by
  match l, h with
  | [], _ => rfl
  | c :: t, h =>
    exfalso
    by_cases hc : c = 10
    · simp [wr, if_pos hc] at h
    · simp only [wr, if_neg hc, one] at h
      by_cases hq : q ≠ 0 ∧ c = q
      · rw [if_pos hq] at h; simp at h
      · rw [if_neg hq] at h; simp at h

/-- THE READER's STATE at the head of a round: the text from i on is what is written for the value from p on. -/
structure At (q : Int) (ind : Nat) (t v : List Int) (i p : Nat) : Prop where
  le : i ≤ t.length
  lp : p ≤ v.length
  pi : p ≤ i
  eq : t.drop i = wr q ind false (v.drop p)

theorem At.start (q : Int) (ind : Nat) (v : List Int) : At q ind (wr q ind false v) v 0 0 := ⟨Nat.zero_le _, Nat.zero_le _, Nat.le_refl _, by simp⟩

theorem At.stop {q : Int} {ind : Nat} {t v : List Int} {i p : Nat} (h : At q ind t v i p) (hi : t.length ≤ i) : p = v.length := by
  have e := h.eq
  rw [List.drop_eq_nil_of_le hi] at e
  have := wr_nil q ind _ e.symm
  have := List.drop_eq_nil_iff.1 this
  have := h.lp
  omega

theorem At.more {q : Int} {ind : Nat} {t v : List Int} {i p : Nat} (h : At q ind t v i p) (hi : i < t.length) : p < v.length := by
  apply Classical.byContradiction
  intro hp
  have e := h.eq
  rw [List.drop_eq_nil_of_le (show v.length ≤ p by omega)] at e
  have := List.drop_eq_nil_iff.1 (show t.drop i = [] by rw [e]; rfl)
  omega

theorem getD_drop (t : List Int) (i j : Nat) : t.getD (i + j) 0 = (t.drop i).getD j 0 := by simp [List.getD]

theorem At.plain {q : Int} {ind : Nat} {t v : List Int} {i p : Nat} (h : At q ind t v i p) (hi : i < t.length) (hc : v.getD p 0 ≠ 10) (hq : ¬ (q ≠ 0 ∧ v.getD p 0 = q)) :
    t.getD i 0 = v.getD p 0 ∧ At q ind t v (i + 1) (p + 1) := by
  have hp := h.more hi
  have e := h.eq
  rw [wr_plain q ind v p hp hc hq] at e
  refine ⟨?_, by omega, by omega, by have := h.pi; omega, ?_⟩
  · have := getD_drop t i 0
    rw [e] at this
    simpa using this
  · rw [← List.drop_drop, e]; simp

theorem At.quote {q : Int} {ind : Nat} {t v : List Int} {i p : Nat} (h : At q ind t v i p) (hi : i < t.length) (hc : v.getD p 0 ≠ 10) (hq : q ≠ 0) (hv : v.getD p 0 = q) :
    t.getD i 0 = q ∧ i + 1 < t.length ∧ t.getD (i + 1) 0 = q ∧ At q ind t v (i + 2) (p + 1) := by
  have hp := h.more hi
  have e := h.eq
  rw [wr_quote q ind v p hp hc hq hv] at e
  have hl : t.length - i = ([q, q] ++ wr q ind false (v.drop (p + 1))).length := by rw [← e]; simp
  simp at hl
  refine ⟨?_, by omega, ?_, by omega, by omega, by have := h.pi; omega, ?_⟩
  · have := getD_drop t i 0
    rw [e] at this
    simpa using this
  · have := getD_drop t i 1
    rw [e] at this
    simpa using this
  · rw [← List.drop_drop, e]; simp

theorem take_more (v : List Int) (p r : Nat) (rest : List Int) (h : v.drop p = List.replicate r 10 ++ rest) (hp : p ≤ v.length) : v.take (p + r) = v.take p ++ List.replicate r 10 := by
  have e : v = v.take p ++ (List.replicate r 10 ++ rest) := by rw [← h, List.take_append_drop]
  have hl : (v.take p).length = p := by simp; omega
  calc v.take (p + r) = (v.take p ++ (List.replicate r 10 ++ rest)).take (p + r) := by rw [← e]
    _ = v.take p ++ List.replicate r 10 := by
      rw [← List.append_assoc, List.take_append_of_le_length (by simp [hl])]
      exact List.take_of_length_le (by simp [hl])

/-- A RUN of r line feeds of the value, seen from the text. -/
theorem At.run {q : Int} {ind : Nat} {t v : List Int} {i p : Nat} (h : At q ind t v i p) (hi : i < t.length) (hc : v.getD p 0 = 10) :
    ∃ r : Nat, 1 ≤ r ∧ i + (r + 1) + ind ≤ t.length ∧ p + r ≤ v.length ∧ (∀ j, j < r + 1 → t.getD (i + j) 0 = 10) ∧ (i + (r + 1) < t.length → t.getD (i + (r + 1)) 0 ≠ 10) ∧
      (∀ j, j < ind → t.getD (i + (r + 1) + j) 0 = 32) ∧ (i + (r + 1) + ind < t.length → t.getD (i + (r + 1) + ind) 0 ≠ 10) ∧
      v.take (p + r) = v.take p ++ List.replicate r 10 ∧ At q ind t v (i + (r + 1) + ind) (p + r) := by
  have hp := h.more hi
  obtain ⟨r, rest, h1, h2⟩ := run_of (v.drop p)
  have hr : 1 ≤ r := by
    apply Classical.byContradiction
    intro hr
    obtain rfl : r = 0 := by omega
    have e0 : rest = v.drop p := by rw [h1]; simp
    have hh := h2 (by rw [e0]; simp; omega)
    rw [e0, ← getD_drop] at hh
    exact hh hc
  have hvl : v.length - p = r + rest.length := by
    have := congrArg List.length h1
    simpa using this
  have e := h.eq
  rw [h1, wr_run q ind r rest hr h2] at e
  have hl : t.length - i = (r + 1) + (ind + (wr q ind false rest).length) := by
    have := congrArg List.length e
    simpa [sp] using this
  have hle := h.le
  have hY := wr_head q ind rest h2
  generalize hYd : wr q ind false rest = Y at *
  have hdr : ∀ j, t.getD (i + j) 0 = (List.replicate (r + 1) 10 ++ (sp ind ++ Y)).getD j 0 := fun j => by rw [getD_drop, e]
  have hsp : ∀ j, j < ind → t.getD (i + (r + 1) + j) 0 = 32 := by
    intro j hj
    rw [Nat.add_assoc, hdr]
    simp only [List.getD, sp]
    rw [List.getElem?_append_right (by simp), List.getElem?_append_left (by simp; omega)]
    simp [hj]
  have hYg : ∀ j, t.getD (i + (r + 1) + ind + j) 0 = Y.getD j 0 := by
    intro j
    rw [show i + (r + 1) + ind + j = i + (r + 1 + ind + j) by omega, hdr]
    simp only [List.getD, sp]
    rw [List.getElem?_append_right (by simp; omega), List.getElem?_append_right (by simp; omega)]
    simp only [List.length_replicate]
    rw [show r + 1 + ind + j - (r + 1) - ind = j by omega]
  have hdrop : v.drop (p + r) = rest := by rw [← List.drop_drop, h1]; simp
  refine ⟨r, hr, by omega, by omega, ?_, ?_, hsp, ?_, take_more v p r rest h1 (by omega), by omega, by omega, by have := h.pi; omega, ?_⟩
  · intro j hj
    rw [hdr]
    simp [List.getD, List.getElem?_append, hj]
  · intro hlt
    by_cases hind : 0 < ind
    · have := hsp 0 hind
      rw [Nat.add_zero] at this
      rw [this]; decide
    · obtain rfl : ind = 0 := by omega
      have := hYg 0
      simp only [Nat.add_zero] at this
      rw [this]
      exact hY (by omega)
  · intro hlt
    have := hYg 0
    rw [Nat.add_zero] at this
    rw [this]
    exact hY (by omega)
  · rw [hdrop, hYd, Nat.add_assoc, ← List.drop_drop, e, ← List.append_assoc]
    rw [List.drop_append, List.drop_eq_nil_of_le (by simp [sp])]
    simp [sp]

end Go.Proofs.Qxb6601462a.Flow
