import Derived.Test.Qxb6601462aRows
import Derived.Test.Qxb6601462aFlowPlain
import Derived.WalkKit
import Derived.ProofKit
import Derived.Below
import Derived.Laws.CopyOwn
import Derived.Lib.SliceRun
import Derived.WalkSpells
import Derived.Deep.AppendLies
import Derived.Maps.AppendAt
namespace Go.Proofs.Qxb6601462a.Flow
open Go.RowKit
set_option linter.unusedVariables false
set_option linter.unusedSimpArgs false

theorem info5 : (Try.prog.info? 5).map (fun i => (i.zero, i.size, i.bytes)) = some (some (.int .u8 0), 1, 1) := by kernel_rfl

theorem z5_yes (a0 : Option Addr) (len cap : Nat) (s : ByteArray) (q ind : Int) (w : World) (h : (len : Int) + s.size ≤ 1048576) :
    Calls Try.prog 5 #[.slice a0 len cap, .string s, .int .u8 q, .int .i64 ind] w fun e w' => e = .returned (.bool true) ∧ w = w' := by
  go_enter Try.func5, Try.ntmps5
  go_wp2
  go_ret
  exact ⟨rfl, rfl⟩

theorem z5_no (a0 : Option Addr) (len cap : Nat) (s : ByteArray) (q ind : Int) (w : World) (hl : len ≤ maxLen) (hs : s.size ≤ maxLen) (h : ¬ (len : Int) + s.size ≤ 1048576) :
    Calls Try.prog 5 #[.slice a0 len cap, .string s, .int .u8 q, .int .i64 ind] w fun e w' => e = .returned (.bool false) ∧ w = w' := by
  unfold maxLen at hl hs
  by_cases h1 : (len : Int) ≤ 1048576
  · by_cases h2 : (s.size : Int) ≤ 1048576
    · go_enter Try.func5, Try.ntmps5
      go_wp2
      go_ret
      exact ⟨rfl, rfl⟩
    · go_enter Try.func5, Try.ntmps5
      go_wp2
      go_ret
      exact ⟨rfl, rfl⟩
  · go_enter Try.func5, Try.ntmps5
    go_wp2
    go_ret
    exact ⟨rfl, rfl⟩

/-- What the walk is told of a slice of bytes that came in. -/
def IsRow (k : IntKind) (w : World) (a : Option Addr) (len cap : Nat) (zs : List Int) : Prop :=
  (a = none ∧ len = 0 ∧ cap = 0 ∧ zs = []) ∨
  ∃ x, a = some x ∧ len ≤ cap ∧ cap ≤ maxLen ∧ zs.length = cap ∧ (∀ i, i < zs.length → w.cell? (x.add i) = some (.int k (zs.getD i 0))) ∧ ∀ n ∈ zs, (Lit.int k n).wf = true

/-- The elements of such a slice. -/
structure Els (w : World) (a : Option Addr) (len cap : Nat) (es : List Int) : Prop where
  hlen : es.length = len
  fits : len ≤ maxLen
  hnone : a = none → len = 0 ∧ cap = 0
  cells : ∀ ad, a = some ad → ∀ j u, (es.map (Value.int .u8))[j]? = some u → w.cell? (ad.add j) = some u

theorem IsRow.els {w : World} {a : Option Addr} {len cap : Nat} {zs : List Int} (h : IsRow .u8 w a len cap zs) : Els w a len cap (zs.take len) := by
  rcases h with ⟨rfl, rfl, rfl, rfl⟩ | ⟨x, rfl, hl, hm, hz, hc, _⟩
  · exact ⟨rfl, Nat.zero_le _, fun _ => ⟨rfl, rfl⟩, fun _ h => by cases h⟩
  · refine ⟨by simp; omega, by omega, (fun h => by cases h), fun ad had j u hu => ?_⟩
    obtain rfl := Option.some.inj had
    have hj : j < len := by
      have := (List.getElem?_eq_some_iff.1 hu).1
      simp at this; omega
    have e : ((zs.take len).map (Value.int .u8))[j]? = some (.int .u8 (zs.getD j 0)) := by
      simp [List.getD, hj, show j < zs.length by omega]
    rw [e] at hu
    rw [← Option.some.inj hu]
    exact hc j (by omega)

theorem Els.later {w w' : World} {a : Option Addr} {len cap : Nat} {es : List Int} (h : Els w a len cap es) (hb : Below w.heap.size w w') : Els w' a len cap es :=
  ⟨h.hlen, h.fits, h.hnone, fun ad had j u hu => by
    have hc := h.cells ad had j u hu
    exact (hb.cell (World.block_lt_of_cell? w _ hc)).trans hc⟩

theorem below_made {w w1 : World} (hg : w.grownBy w1 none) : Below w.heap.size w w1 := (Below.refl w.heap.size w).grown hg (Nat.le_refl _) (by intro k hk; cases hk)

theorem splice_all (cs : List Value) (n : Nat) (z : Value) (h : cs.length = n) : splice (List.replicate n z) 0 cs = cs := by
  unfold splice
  simp [h]

theorem own_whole {w : World} {B g n : Nat} {xs : List Value} (h : w.ownsRow B 5 1 (.slice (some ⟨g, 0, none⟩) n n) n xs) : w.heap[g]? = some (.cells xs.toArray 5 (0, 0)) := by
  rcases h.2 with ⟨h', _⟩ | ⟨g', cap, cur, h', hb, hg, hnc, hcm, hcs, htake⟩
  · simp at h'
  · simp only [Value.slice.injEq, Option.some.injEq, Addr.mk.injEq, and_true, true_and] at h'
    obtain ⟨rfl, rfl⟩ := h'
    rw [hg]
    have : cur.toList = xs := by rw [← htake]; exact (List.take_of_length_le (by rw [Array.length_toList, hcs]; exact Nat.le_refl _)).symm
    rw [← this]

theorem own_of_heap {w : World} {B g n : Nat} {xs : List Value} (hg : w.heap[g]? = some (.cells xs.toArray 5 (0, 0))) (hl : xs.length = n) (hB : B ≤ g) (hm : n ≤ maxLen) : w.ownsRow B 5 1 (.slice (some ⟨g, 0, none⟩) n n) n xs :=
  ⟨by omega, .inr ⟨g, n, xs.toArray, rfl, hB, hg, Nat.le_refl _, hm, by simp; omega, List.take_of_length_le (by simp; omega)⟩⟩

theorem made_zero (len : Nat) : (madeCells (Value.int .u8 0).cells (len * 1)).toList = List.replicate len (.int .u8 0) := by
  rw [Nat.mul_one]
  exact toList_madeCells_one _ _

theorem copy_src {w w1 : World} {ad : Addr} {len cap : Nat} {es : List Int} (hE : Els w (some ad) len cap es) (hb : Below w.heap.size w w1) (cs : List Value) (hcs : cs = es.map (Value.int .u8)) :
    0 < cs.length → (some (⟨w.heap.size, 0, none⟩ : Addr)) = some ⟨w.heap.size, 0, none⟩ ∧ ∃ ad', some ad = some ad' ∧ ∀ j v, cs[j]? = some v → w1.cell? (ad'.add j) = some v := by
  intro _
  refine ⟨rfl, ad, rfl, fun j v hv => ?_⟩
  rw [hcs] at hv
  exact (hE.later hb).cells ad rfl j v hv

set_option maxHeartbeats 400000 in
theorem copy7 (a : Option Addr) (len cap : Nat) (es : List Int) (w : World) (hE : Els w a len cap es) (hb : len ≤ 1048576) :
    Calls Try.prog 7 #[.slice a len cap] w fun e w' => ∃ v, e = .returned v ∧ w'.ownsRow w.heap.size 5 1 v len (es.map (Value.int .u8)) ∧ Below w.heap.size w w' := by
  obtain ⟨i0, hi, hz0, hz1, hz2⟩ := info_parts info5
  have q22 : ∀ (w : World) (a : Option Addr) (n c n' c' : Nat), (binOp .eql 22 (.slice a n c) (.slice none n' c')).run Try.prog w = .ok (.bool a.isNone) w := fun w a n c n' c' => Lib.run_eql_slice_nil w _ _ a n c n' c' Try.underlying22
  cases a with
  | none =>
    obtain ⟨rfl, rfl⟩ := hE.hnone rfl
    have he : es = [] := List.eq_nil_of_length_eq_zero hE.hlen
    subst he
    go_enter Try.func7, Try.ntmps7
    go_wp2
    go_ret
    exact ⟨_, rfl, World.ownsRow_nil _ _ _ _, Below.refl _ _⟩
  | some ad =>
    have tok : True := trivial
    obtain ⟨cs, hcs⟩ : ∃ cs, cs = es.map (Value.int .u8) := ⟨_, rfl⟩
    have HCS : Hid (cs = es.map (Value.int .u8)) := hcs
    have hlen : cs.length = len := by rw [hcs, List.length_map, hE.hlen]
    have HL : Hid (cs.length = len.min len) := by show _ = _; rw [hlen]; exact (Nat.min_self len).symm
    have HF : Hid (0 + cs.length ≤ (List.replicate len (Value.int .u8 0)).length) := by show _ ≤ _; simp; omega
    have HO : Hid (∀ v ∈ cs, v.oneCell' = true) := by rw [hcs]; exact ints_oneCell _ _
    have HLL : Hid (cs.length = len) := hlen
    clear hcs hlen
    go_enter Try.func7, Try.ntmps7
    go_wp2_with (first
      | (at_make; refine wpList_make_full _ rfl (.tmp 7) (.tmp 7) 22 rfl w.heap.size 5 i0 (.int .u8 0) 1 Try.underlying22 hi hz0 hz1 .i64 .i64 _ _ len rfl rfl rfl rfl (by rw [hz2]; omega) (by unfold maxLen; omega) (Nat.le_refl _) ?_; intro w1 hown hgr; have hb1 := below_made hgr; clear hgr; rw [made_zero] at hown; have HG : Hid (w1.heap[w.heap.size]? = some (.cells (List.replicate len (Value.int .u8 0)).toArray 5 (0, 0))) := own_whole hown; clear hown)
      | (have _t := tok; refine wpList_copy_splice rfl (.tmp 9) (.tmp 10) 22 22 rfl 5 Try.underlying22 (by kernel_rfl) (some ⟨w.heap.size, 0, none⟩) (some ad) len len len cap rfl rfl w.heap.size 0 (List.replicate len (.int .u8 0)) 5 HG.out cs HL.out (copy_src hE hb1 cs HCS.out) HF.out HO.out w.heap.size w hb1 (Nat.le_refl _) ?_; intro w2 hg2 hb2; clear tok))
    go_ret
    have hg3 := hg2.out
    rw [splice_all cs len _ HLL.out] at hg3
    rw [← HCS.out]
    exact ⟨_, rfl, own_of_heap hg3 HLL.out (Nat.le_refl _) (by unfold maxLen; omega), hb2⟩

/-- An append of one byte to a row of the call's own: what is kept. -/
theorem app_kept {B : Nat} {w w1 w2 : World} {v : Value} {n : Nat} {xs : List Value} {o : Obj} (hb : Below B w w1) (hB : B ≤ w1.heap.size) (hown : w1.ownsRow B 5 1 v n xs) (hg : (w1.alloc o).grownBy w2 v.ownBlock) : Below B w w2 :=
  (hb.alloc hB o).grown hg (by simp; omega) (fun k hk => (hown.lt k hk).1)

set_option maxHeartbeats 400000 in
theorem spaces15 (v : Value) (n : Nat) (xs : List Value) (ind : Int) (w : World) (B : Nat) (hB : B ≤ w.heap.size) (hown : w.ownsRow B 5 1 v n xs) (hi0 : -9223372036854775808 ≤ ind) (hi1 : ind ≤ 65536) (hn : n ≤ 1000000000) :
    Calls Try.prog 15 #[v, .int .i64 ind] w fun e w' => ∃ v', e = .returned v' ∧ w'.ownsRow B 5 1 v' (n + ind.toNat) (xs ++ List.replicate ind.toNat (.int .u8 32)) ∧ Below B w w' := by
  obtain ⟨i0, hi, hz0, hz1, hz2⟩ := info_parts info5
  go_enter Try.func15, Try.ntmps15
  go_wp2
  go_loopw [0, 6] (fun u i wr => ∃ k : Nat, k ≤ ind.toNat ∧ i = .int .i64 k ∧ wr.ownsRow B 5 1 u (n + k) (xs ++ List.replicate k (.int .u8 32)) ∧ Below B w wr)
    (fun _ i _ => ind.toNat - (intOf i).toNat)
  case atStart => exact ⟨0, Nat.zero_le _, rfl, by simpa using hown, Below.refl _ _⟩
  case round =>
    obtain ⟨k, hk, rfl, hownr, hbr⟩ := hrel
    have hs := hbr.size
    by_cases hlt : (k : Int) < ind
    · go_wp2_with (at_builtin; refine wpList_append_own _ rfl (.tmp 8) (.tmp 9) 22 rfl B 5 i0 (.int .u8 0) 1 1 Try.underlying22 hi hz0 hz1 hz2 rfl (by decide) u0 _ _ rfl (hownr.alloc _) ⟨_, 0, none⟩ 1 1 [.int .u8 32] rfl rfl (World.news_of_block (heap_alloc_new _ _)) (ints_oneCell .u8 [32]) (by unfold maxLen; omega) (by omega) (by simp; omega) ?_; intro v' w1 hown1 hgr1 _)
      go_roundw
      case rel =>
        refine ⟨k + 1, by omega, by go_num, ?_, app_kept hbr (by omega) hownr hgr1⟩
        rw [List.replicate_succ', ← List.append_assoc]
        exact hown1
      case measure => simp [intOf]; omega
    · go_wp2
      go_ret
      obtain rfl : k = ind.toNat := by omega
      exact ⟨_, rfl, hownr, hbr⟩
end Go.Proofs.Qxb6601462a.Flow
