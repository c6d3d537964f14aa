import Derived.Test.Qxb6601462aDetB
namespace Go.Proofs.Qxb6601462a
open Go.RowKit
set_option linter.unusedVariables false

/-- The four bytes at the start, and what they tell. -/
def Det (n : Nat) (f0 f1 f2 f3 ans : Int) : Prop :=
  (ans = 0 ∧ 2 ≤ n ∧ f0 ≠ 0 ∧ f0 ≠ 254 ∧ f0 ≠ 255 ∧ f1 ≠ 0) ∨
  (ans = 1 ∧ 4 ≤ n ∧ f0 = 254 ∧ f1 = 255) ∨
  (ans = 1 ∧ 4 ≤ n ∧ f0 = 0 ∧ f1 ≠ 0 ) ∨
  (ans = 2 ∧ 4 ≤ n ∧ f0 = 255 ∧ f1 = 254 ∧ f2 ≠ 0) ∨
  (ans = 2 ∧ 4 ≤ n ∧ f0 ≠ 0 ∧ f0 ≠ 254 ∧ f0 ≠ 255 ∧ f1 = 0 ∧ f2 ≠ 0) ∨
  (ans = 2 ∧ 4 ≤ n ∧ f0 ≠ 0 ∧ f0 ≠ 254 ∧ f0 ≠ 255 ∧ f1 = 0 ∧ f2 = 0 ∧ f3 ≠ 0) ∨
  (ans = 3 ∧ 4 ≤ n ∧ f0 = 0 ∧ f1 = 0 ∧ f2 = 254 ∧ f3 = 255) ∨
  (ans = 3 ∧ 4 ≤ n ∧ f0 = 0 ∧ f1 = 0 ∧ f2 = 0) ∨
  (ans = 4 ∧ 4 ≤ n ∧ f0 = 255 ∧ f1 = 254 ∧ f2 = 0 ∧ f3 = 0) ∨
  (ans = 4 ∧ 4 ≤ n ∧ f0 ≠ 0 ∧ f0 ≠ 255 ∧ f1 = 0 ∧ f2 = 0 ∧ f3 = 0)

theorem four_cells (zs : List Int) (j : Nat) (hj : j < 4) :
    (splice [Value.int .u8 0, .int .u8 0, .int .u8 0, .int .u8 0] 0 ((zs.take 4).map (Value.int .u8)))[j]? = some (.int .u8 (zs.getD j 0)) := by
  match j, hj with
  | 0, _ => match zs with
    | [] => rfl
    | a :: l => simp [splice]
  | 1, _ => match zs with
    | [] => rfl
    | [a] => rfl
    | a :: b :: l => simp [splice]
  | 2, _ => match zs with
    | [] => rfl
    | [a] => rfl
    | [a, b] => rfl
    | a :: b :: c :: l => simp [splice]
  | 3, _ => match zs with
    | [] => rfl
    | [a] => rfl
    | [a, b] => rfl
    | [a, b, c] => rfl
    | a :: b :: c :: d :: l => simp [splice]

theorem min_len (zs : List Int) (n : Nat) (hz : zs.length = n) : ((zs.take 4).map (Value.int .u8)).length = Nat.min n 4 := by
  rw [List.length_map, List.length_take, hz]; exact Nat.min_comm 4 n

theorem src_cells (w : World) (ad : Addr) (n : Nat) (zs : List Int) (hz : zs.length = n) (hcell : ∀ j, j < n → w.cell? (ad.add j) = some (.int .u8 (zs.getD j 0))) (o : Obj) :
    0 < ((zs.take 4).map (Value.int .u8)).length → (some (⟨w.heap.size, 0, none⟩ : Addr)) = some ⟨w.heap.size, 0, none⟩ ∧ ∃ ad', some ad = some ad' ∧ ∀ j v, ((zs.take 4).map (Value.int .u8))[j]? = some v → (w.alloc o).cell? (ad'.add j) = some v := by
  intro _
  refine ⟨rfl, ad, rfl, fun j v hv => ?_⟩
  have hj : j < 4 ∧ j < n := by
    have := (List.getElem?_eq_some_iff.1 hv).1
    simp at this; omega
  have e : ((zs.take 4).map (Value.int .u8))[j]? = some (.int .u8 (zs.getD j 0)) := by
    simp [List.getD, hj.1, show j < zs.length by omega]
  rw [e] at hv
  rw [← Option.some.inj hv]
  exact World.grownBy.cell (World.grownBy_alloc w o none) (hcell j hj.2) (by simp)

theorem four_of (w : World) (zs : List Int) (w' : World) (cs : List Value) (hcs : cs = (zs.take 4).map (Value.int .u8))
    (hw : w'.heap[w.heap.size]? = some (.cells (splice [Value.int .u8 0, .int .u8 0, .int .u8 0, .int .u8 0] 0 cs).toArray 37 (0, 0))) (f0 f1 f2 f3 : Int)
    (h0 : f0 = zs.getD 0 0) (h1 : f1 = zs.getD 1 0) (h2 : f2 = zs.getD 2 0) (h3 : f3 = zs.getD 3 0) :
     w'.cell? ⟨w.heap.size, 0, none⟩ = some (.int .u8 f0) ∧ w'.cell? ⟨w.heap.size, 1, none⟩ = some (.int .u8 f1) ∧ w'.cell? ⟨w.heap.size, 2, none⟩ = some (.int .u8 f2) ∧ w'.cell? ⟨w.heap.size, 3, none⟩ = some (.int .u8 f3) := by
  subst hcs
  have hh : ∀ j, j < 4 → w'.cell? ⟨w.heap.size, j, none⟩ = some (.int .u8 (zs.getD j 0)) := by
    intro j hj
    rw [cell_of_row w' w.heap.size j _ 37 (0, 0) hw]
    have := four_cells zs j hj
    simpa using this
  rw [h0, h1, h2, h3]
  exact ⟨hh 0 (by omega), hh 1 (by omega), hh 2 (by omega), hh 3 (by omega)⟩

/-- What the copy leaves, as the walk asks it. -/
def Cop (w : World) (n : Nat) (ad : Addr) (f0 f1 f2 f3 : Int) (cs : List Value) : Prop :=
  cs.length = Nat.min n 4 ∧ 0 + cs.length ≤ 4 ∧ (∀ v ∈ cs, v.oneCell' = true) ∧
  (∀ o, 0 < cs.length → (some (⟨w.heap.size, 0, none⟩ : Addr)) = some ⟨w.heap.size, 0, none⟩ ∧ ∃ ad', some ad = some ad' ∧ ∀ j v, cs[j]? = some v → (w.alloc o).cell? (ad'.add j) = some v) ∧
  (∀ w' : World, w'.heap[w.heap.size]? = some (.cells (splice [Value.int .u8 0, .int .u8 0, .int .u8 0, .int .u8 0] 0 cs).toArray 37 (0, 0)) →
    w'.cell? ⟨w.heap.size, 0, none⟩ = some (.int .u8 f0) ∧ w'.cell? ⟨w.heap.size, 1, none⟩ = some (.int .u8 f1) ∧ w'.cell? ⟨w.heap.size, 2, none⟩ = some (.int .u8 f2) ∧ w'.cell? ⟨w.heap.size, 3, none⟩ = some (.int .u8 f3))

theorem Cop.len {w : World} {n : Nat} {ad : Addr} {f0 f1 f2 f3 : Int} {cs : List Value} (h : Cop w n ad f0 f1 f2 f3 cs) : cs.length = Nat.min n 4 := h.1
theorem Cop.fit {w : World} {n : Nat} {ad : Addr} {f0 f1 f2 f3 : Int} {cs : List Value} (h : Cop w n ad f0 f1 f2 f3 cs) : 0 + cs.length ≤ [Value.int .u8 0, .int .u8 0, .int .u8 0, .int .u8 0].length := h.2.1
theorem Cop.ones {w : World} {n : Nat} {ad : Addr} {f0 f1 f2 f3 : Int} {cs : List Value} (h : Cop w n ad f0 f1 f2 f3 cs) : ∀ v ∈ cs, v.oneCell' = true := h.2.2.1
theorem Cop.src {w : World} {n : Nat} {ad : Addr} {f0 f1 f2 f3 : Int} {cs : List Value} (h : Cop w n ad f0 f1 f2 f3 cs) (o : Obj) : 0 < cs.length → (some (⟨w.heap.size, 0, none⟩ : Addr)) = some ⟨w.heap.size, 0, none⟩ ∧ ∃ ad', some ad = some ad' ∧ ∀ j v, cs[j]? = some v → (w.alloc o).cell? (ad'.add j) = some v := h.2.2.2.1 o
theorem Cop.cells {w : World} {n : Nat} {ad : Addr} {f0 f1 f2 f3 : Int} {cs : List Value} (h : Cop w n ad f0 f1 f2 f3 cs) (w' : World) (hw : w'.heap[w.heap.size]? = some (.cells (splice [Value.int .u8 0, .int .u8 0, .int .u8 0, .int .u8 0] 0 cs).toArray 37 (0, 0))) :
    w'.cell? ⟨w.heap.size, 0, none⟩ = some (.int .u8 f0) ∧ w'.cell? ⟨w.heap.size, 1, none⟩ = some (.int .u8 f1) ∧ w'.cell? ⟨w.heap.size, 2, none⟩ = some (.int .u8 f2) ∧ w'.cell? ⟨w.heap.size, 3, none⟩ = some (.int .u8 f3) := h.2.2.2.2 w' hw

set_option maxHeartbeats 1000000 in
theorem det14_core (w : World) (ad : Addr) (n cap : Nat) (hn : n ≤ maxLen) (f0 f1 f2 f3 ans : Int) (cs : List Value) (HC : Cop w n ad f0 f1 f2 f3 cs) (hd : Det n f0 f1 f2 f3 ans) :
    Calls Try.prog 14 #[.slice (some ad) n cap] w fun e w' => e = .returned (.int .u8 ans) ∧ Below w.heap.size w w' := by
  unfold maxLen at hn
  have hd' : (n < 4 ∧ Det n f0 f1 f2 f3 ans) ∨ (4 ≤ n ∧ Det n f0 f1 f2 f3 ans) := by by_cases h : n < 4 <;> simp [h, hd]; omega
  clear hd
  rcases hd' with ⟨hs, hd⟩ | ⟨hs, hd⟩
  all_goals
    unfold Det at hd
    rcases hd with ⟨rfl, h2, ha, hb, hc, he⟩ | ⟨rfl, h4, rfl, rfl⟩ | ⟨rfl, h4, rfl, ha⟩ | ⟨rfl, h4, rfl, rfl, ha⟩ | ⟨rfl, h4, ha, hb, hc, rfl, he⟩ | ⟨rfl, h4, ha, hb, hc, rfl, rfl, he⟩ | ⟨rfl, h4, rfl, rfl, rfl, rfl⟩ | ⟨rfl, h4, rfl, rfl, rfl⟩ | ⟨rfl, h4, rfl, rfl, rfl, rfl⟩ | ⟨rfl, h4, ha, hb, rfl, rfl, rfl⟩
    all_goals first | (exfalso; omega) | skip
    all_goals
      have tok : True := trivial
      go_enter Try.func14, Try.ntmps14
      go_wp2_with (have _t := tok; refine wpList_copy_splice rfl (.tmp 4) (.tmp 5) 22 22 rfl 5 Try.underlying22 (by kernel_rfl) (some ⟨w.heap.size, 0, none⟩) (some ad) 4 4 n cap rfl rfl w.heap.size 0 [Value.int .u8 0, .int .u8 0, .int .u8 0, .int .u8 0] 37 (heap_alloc_new w _) cs HC.len (HC.src _) HC.fit HC.ones w.heap.size w ((Below.refl _ _).alloc (Nat.le_refl _) _) (Nat.le_refl _) ?_; intro w2 hg2 hb2; obtain ⟨c0, c1, c2, c3⟩ := HC.cells w2 hg2.out; clear tok HC hg2)
      go_ret
      exact ⟨rfl, hb2⟩

theorem det14 (w : World) (ad : Addr) (n cap : Nat) (zs : List Int) (hz : zs.length = n) (hn : n ≤ maxLen)
    (hcell : ∀ j, j < n → w.cell? (ad.add j) = some (.int .u8 (zs.getD j 0))) (ans : Int) (hd : Det n (zs.getD 0 0) (zs.getD 1 0) (zs.getD 2 0) (zs.getD 3 0) ans) :
    Calls Try.prog 14 #[.slice (some ad) n cap] w fun e w' => e = .returned (.int .u8 ans) ∧ Below w.heap.size w w' :=
  det14_core w ad n cap hn _ _ _ _ ans ((zs.take 4).map (Value.int .u8))
    ⟨min_len zs n hz, by rw [min_len zs n hz]; exact (Nat.zero_add _).symm ▸ Nat.min_le_right n 4, ints_oneCell _ _, src_cells w ad n zs hz hcell, fun w' hw => four_of w zs w' _ rfl hw _ _ _ _ rfl rfl rfl rfl⟩ hd

set_option maxHeartbeats 400000 in
theorem det12 (w : World) (ad : Addr) (n cap : Nat) (zs : List Int) (hz : zs.length = n) (hn : n ≤ maxLen)
    (hcell : ∀ j, j < n → w.cell? (ad.add j) = some (.int .u8 (zs.getD j 0))) (ans : Int) (hd : Det n (zs.getD 0 0) (zs.getD 1 0) (zs.getD 2 0) (zs.getD 3 0) ans) :
    Calls Try.prog 12 #[.slice (some ad) n cap] w fun e w' => e = .returned (.int .u8 ans) ∧ Below w.heap.size w w' := by
  go_enter Try.func12, Try.ntmps12
  go_wp2_with (go_at_call 14; refine (det14 w ad n cap zs hz hn hcell ans hd).mono ?_; rintro e w1 ⟨rfl, hb1⟩)
  go_ret
  exact ⟨rfl, hb1⟩
end Go.Proofs.Qxb6601462a
