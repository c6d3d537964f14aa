/-
  Plain mathematics of formatFixed: digits of a number in a given width. No Go.
-/
import Derived.Lib.ItoaNum
namespace Go.Proofs.Qxb6601769aDoor.Fx
set_option linter.unusedVariables false

/-- The last L decimal digits of m, the most significant first, as bytes. -/
def W : Nat → Nat → List Int
  | 0, _ => []
  | L + 1, m => W L (m / 10) ++ [48 + ((m % 10 : Nat) : Int)]

theorem W_len (L m : Nat) : (W L m).length = L := by
  induction L generalizing m with
  | zero => rfl
  | succ L ih => simp [W, ih]

theorem W_add (a b m : Nat) : W (a + b) m = W a (m / 10 ^ b) ++ W b m := by
  induction b generalizing m with
  | zero => simp [W]
  | succ b ih =>
    rw [show a + (b + 1) = (a + b) + 1 by omega]
    simp only [W]
    rw [ih, Nat.div_div_eq_div_mul, ← Nat.pow_succ', List.append_assoc]

/-- One digit more at the front. -/
theorem W_front (L m : Nat) : W (L + 1) m = (48 + ((m / 10 ^ L % 10 : Nat) : Int)) :: W L m := by
  rw [show L + 1 = 1 + L by omega, W_add]
  simp [W]

theorem W_zeros (a b m : Nat) (h : m < 10 ^ b) : W (a + b) m = List.replicate a 48 ++ W b m := by
  rw [W_add, Nat.div_eq_of_lt h]
  congr 1
  induction a with
  | zero => rfl
  | succ a ih => simp only [W, Nat.zero_div, ih]; rw [List.replicate_succ']; rfl

/-- How many digits a number has (1 for 0). -/
abbrev nd (m : Nat) : Nat := Lib.nDigits m

theorem nd_pos (m : Nat) : 1 ≤ nd m := Lib.nDigits_pos m
theorem lt_nd (m : Nat) : m < 10 ^ nd m := Lib.lt_pow_nDigits m

theorem le_nd (m : Nat) (h : 1 ≤ m) : 10 ^ (nd m - 1) ≤ m := by
  induction m using Nat.strongRecOn with
  | ind m ih =>
    by_cases h10 : m < 10
    · rw [nd, Lib.nDigits_small h10]; simpa using h
    · rw [nd, Lib.nDigits_big h10]
      have hi := ih (m / 10) (by omega) (by omega)
      have hp := nd_pos (m / 10)
      rw [show Lib.nDigits (m / 10) + 1 - 1 = (nd (m / 10) - 1) + 1 by simp only [nd] at hp ⊢; omega, Nat.pow_succ]
      omega

/-- A number of at least two digits does not begin with a nought. -/
theorem nd_lead (m : Nat) (h : 1 < nd m) : 1 ≤ m / 10 ^ (nd m - 1) % 10 := by
  have h1 : 1 ≤ m := by
    apply Classical.byContradiction
    intro h0
    have : m < 10 := by omega
    rw [nd, Lib.nDigits_small this] at h
    omega
  have hlo := le_nd m h1
  have hhi := lt_nd m
  have hpos : 0 < 10 ^ (nd m - 1) := Nat.pow_pos (by omega)
  have e : 10 ^ nd m = 10 ^ (nd m - 1) * 10 := by rw [← Nat.pow_succ]; congr 1; omega
  have hlt : m / 10 ^ (nd m - 1) < 10 := by rw [Nat.div_lt_iff_lt_mul hpos, Nat.mul_comm, ← e]; exact hhi
  have hge : 1 ≤ m / 10 ^ (nd m - 1) := by rw [Nat.le_div_iff_mul_le hpos]; omega
  omega

/-- The shelf's numeral is this one. -/
theorem W_dec (u : Nat) : (Lib.decDigits u).map (fun b => (b.toNat : Int)) = W (nd u) u := by
  induction u using Nat.strongRecOn with
  | ind u ih =>
    by_cases h10 : u < 10
    · rw [Lib.decDigits_one h10, nd, Lib.nDigits_small h10]
      simp only [W, List.map_cons, List.map_nil, List.nil_append, UInt8.toNat_ofNat']
      congr 1
      omega
    · rw [Lib.decDigits, dif_neg h10, nd, Lib.nDigits_big h10]
      simp only [W, List.map_append, List.map_cons, List.map_nil, UInt8.toNat_ofNat']
      rw [ih (u / 10) (by omega)]
      congr 1
      have : ((48 + u % 10) % 2 ^ 8 : Nat) = 48 + u % 10 := Nat.mod_eq_of_lt (by omega)
      rw [this]
      simp

/-- What is written of the magnitude m at p places: the whole part, a dot, p digits. -/
def body (p m : Nat) : List Int := W (nd (m / 10 ^ p)) (m / 10 ^ p) ++ 46 :: W p m
/-- The whole text. -/
def text (neg : Bool) (p m : Nat) : List Int := (if neg then [45] else []) ++ body p m

theorem nd_div (p m : Nat) (h : p + 1 ≤ nd m) : nd (m / 10 ^ p) + p = nd m := by
  induction p with
  | zero => simp
  | succ p ih =>
    have hi := ih (by omega)
    have hx : ¬ m / 10 ^ p < 10 := by
      intro hlt
      simp only [nd] at hi h
      rw [Lib.nDigits_small hlt] at hi
      omega
    have e : m / 10 ^ (p + 1) = m / 10 ^ p / 10 := by rw [Nat.div_div_eq_div_mul, Nat.pow_succ]
    rw [e]
    simp only [nd] at hi ⊢
    rw [Lib.nDigits_big hx] at hi
    omega

theorem nd_zero (p m : Nat) (h : nd m ≤ p) : m / 10 ^ p = 0 := by
  have h1 := lt_nd m
  have h2 : 10 ^ nd m ≤ 10 ^ p := Nat.pow_le_pow_right (by omega) h
  exact Nat.div_eq_of_lt (by omega)

/-- m's numeral, padded to at least p + 1 digits, cut ahead of its last p. -/
theorem padded (p m : Nat) : List.replicate (p + 1 - nd m) 48 ++ W (nd m) m = W (nd (m / 10 ^ p)) (m / 10 ^ p) ++ W p m := by
  rw [← W_zeros _ _ _ (lt_nd m), ← W_add]
  congr 1
  by_cases h : p + 1 ≤ nd m
  · have := nd_div p m h
    omega
  · have h0 := nd_zero p m (by omega)
    have : nd (m / 10 ^ p) = 1 := by rw [h0]; exact Lib.nDigits_small (by omega)
    omega

/-- How long the text is: short enough for 32 bytes. -/
theorem nd_le (m k : Nat) (h : m < 10 ^ k) (hk : 1 ≤ k) : nd m ≤ k := by
  apply Classical.byContradiction
  intro hn
  have h1 : 1 ≤ m := by
    apply Classical.byContradiction
    intro h0
    have : nd m = 1 := Lib.nDigits_small (by omega)
    omega
  have h2 := le_nd m h1
  have h3 : 10 ^ k ≤ 10 ^ (nd m - 1) := Nat.pow_le_pow_right (by omega) (by omega)
  omega

theorem whole_le (p m : Nat) (hp : p ≤ 19) (hm : m ≤ 9223372036854775808) : nd (m / 10 ^ p) + p ≤ 20 := by
  have h19 : nd m ≤ 19 := nd_le m 19 (by simp; omega) (by omega)
  by_cases h : p + 1 ≤ nd m
  · have := nd_div p m h; omega
  · have h0 := nd_zero p m (by omega)
    have : nd (m / 10 ^ p) = 1 := by rw [h0]; exact Lib.nDigits_small (by omega)
    omega

theorem body_len (p m : Nat) : (body p m).length = nd (m / 10 ^ p) + 1 + p := by
  unfold body
  rw [List.length_append, W_len, List.length_cons, W_len]; omega

/-- Each byte of a numeral is a digit. -/
theorem W_getD (L m j : Nat) (h : j < L) : (W L m).getD j 0 = 48 + ((m / 10 ^ (L - 1 - j) % 10 : Nat) : Int) := by
  induction L generalizing m with
  | zero => omega
  | succ L ih =>
    simp only [W]
    by_cases hj : j < L
    · have hl : j < (W L (m / 10)).length := by rw [W_len]; exact hj
      have e : (W L (m / 10) ++ [48 + ((m % 10 : Nat) : Int)]).getD j 0 = (W L (m / 10)).getD j 0 := by
        simp only [List.getD, List.getElem?_append_left hl]
      rw [e, ih (m / 10) hj, Nat.div_div_eq_div_mul, ← Nat.pow_succ', show (L - 1 - j).succ = L + 1 - 1 - j by omega]
    · obtain rfl : j = L := by omega
      have e : (W j (m / 10) ++ [48 + ((m % 10 : Nat) : Int)]).getD j 0 = 48 + ((m % 10 : Nat) : Int) := by
        simp only [List.getD]
        rw [List.getElem?_append_right (by rw [W_len]; exact Nat.le_refl _), W_len]
        simp
      rw [e]
      simp

end Go.Proofs.Qxb6601769aDoor.Fx
