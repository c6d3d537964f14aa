/-
  A slice over a local array of bytes, with room: what append does to it.
-/
import Derived.Test.Qxb6601769aDoorShelf
import Derived.Test.Qxb6601769aDoorPlain
import Derived.Lib.AppendIntMem
import Derived.Lib.BufferKept
import Derived.Lib.AppendStr
import Derived.Lib.Hide
import Derived.Laws.BytesArg
import Derived.OwnWalk
import Derived.WalkKit
import Derived.ProofKit
import Derived.Below
import Derived.Deep.AppendLies
import Derived.Maps.AppendAt
import Derived.WalkSpells
namespace Go.Proofs.Qxb6601769aDoor
open Go.RowKit
set_option linter.unusedVariables false
set_option linter.unusedSimpArgs false

/-- The block g (of whatever label) has N cells, none frozen; its first n are xs. -/
def Arr (w : World) (g lab N n : Nat) (xs : List Value) : Prop :=
  xs.length = n ∧ n ≤ N ∧ ∃ cur : Array Value, w.heap[g]? = some (.cells cur lab (0, 0)) ∧ cur.size = N ∧ cur.toList.take n = xs

theorem Arr.lt {w : World} {g lab N n : Nat} {xs : List Value} (h : Arr w g lab N n xs) : g < w.heap.size := by
  obtain ⟨_, _, cur, hg, _⟩ := h
  exact (Array.getElem?_eq_some_iff.1 hg).1

theorem Arr.of_block {w w' : World} {g lab N n : Nat} {xs : List Value} (h : Arr w g lab N n xs) (hb : w'.heap[g]? = w.heap[g]?) : Arr w' g lab N n xs := by
  obtain ⟨h1, h2, cur, hg, r⟩ := h
  exact ⟨h1, h2, cur, hb.trans hg, r⟩

theorem Arr.alloc {w : World} {g lab N n : Nat} {xs : List Value} (h : Arr w g lab N n xs) (o : Obj) : Arr (w.alloc o) g lab N n xs :=
  h.of_block (Below.heap_alloc w o g h.lt)

theorem Arr.below {w w' : World} {g lab N n : Nat} {xs : List Value} (h : Arr w g lab N n xs) (hb : Below w.heap.size w w') : Arr w' g lab N n xs :=
  h.of_block (hb.block g h.lt)

theorem Arr.cell {w : World} {g lab N n : Nat} {xs : List Value} (h : Arr w g lab N n xs) (j : Nat) (hj : j < n) : w.cell? ⟨g, j, none⟩ = xs[j]? := by
  obtain ⟨h1, h2, cur, hg, hs, ht⟩ := h
  rw [cell_of_row w g j cur lab (0, 0) hg, ← ht, List.getElem?_take, if_pos hj]
  simp

section
variable {P : Program} (w : World)

theorem run_append_arr (t ty e lab : TypeId) (i : TypeInfo) (ht : P.underlying t = some (.slice e)) (hi : P.info? e = some i) (hsize : i.size = 1)
    (g sLen sCap : Nat) (cur : Array Value) (hg : w.heap[g]? = some (.cells cur lab (0, 0)))
    (a : Addr) (m c : Nat) (news : List Value) (hl : news.length = m) (hnews : ∀ j u, news[j]? = some u → w.cell? (a.add j) = some u) (h1 : ∀ u ∈ news, u.oneCell' = true)
    (hroom : sLen + m ≤ sCap) (hfit : sLen + news.length ≤ cur.size) :
    (Builtin.append_ #[t, t] ty #[.slice (some ⟨g, 0, none⟩) sLen sCap, .slice (some a) m c]).run P w =
      .ok (.slice (some ⟨g, 0, none⟩) (sLen + m) sCap) (w.setRow g (cur.toList.take sLen ++ news ++ cur.toList.drop (sLen + news.length)).toArray) := by
  have hf := run_firstCells_some (P := P) w i.size m a m c news (by rw [hsize]; omega) hnews
  have hst := run_storeCells_at P g sLen lab news 0 cur w hg (by simpa using hfit) h1
  simp only [Nat.add_zero] at hst
  rw [hsize] at hf
  simp [Builtin.append_, run_underlying ht, sizeOf, typeInfo, hi, hsize, Builtin.lenOf, hroom, hf, Addr.add_lit, hst]

theorem run_append_arr_string (t u ty e lab : TypeId) (i : TypeInfo) (ht : P.underlying t = some (.slice e)) (hu : P.underlying u = some .string) (hi : P.info? e = some i) (hs1 : i.size = 1)
    (g sLen sCap : Nat) (cur : Array Value) (hg : w.heap[g]? = some (.cells cur lab (0, 0))) (s : ByteArray)
    (hroom : sLen + s.size ≤ sCap) (hfit : sLen + s.size ≤ cur.size) :
    (Builtin.append_ #[t, u] ty #[.slice (some ⟨g, 0, none⟩) sLen sCap, .string s]).run P w =
      .ok (.slice (some ⟨g, 0, none⟩) (sLen + s.size) sCap) (w.setRow g (cur.toList.take sLen ++ Lib.strCells s ++ cur.toList.drop (sLen + s.size)).toArray) := by
  have hf := Lib.run_firstCells_string (P := P) w 1 s
  have hst := run_storeCells_at P g sLen lab (Lib.strCells s) 0 cur w hg (by simpa [Lib.strCells_length] using hfit) (Lib.strCells_oneCell s)
  simp only [Nat.add_zero, Lib.strCells_length] at hst
  simp [Builtin.append_, run_underlying ht, run_underlying hu, sizeOf, typeInfo, hi, hs1, Builtin.lenOf, hroom, hf, Addr.add_lit, hst]

theorem arr_after {w : World} {g lab N n : Nat} {xs news : List Value} {cur : Array Value} (hg : w.heap[g]? = some (.cells cur lab (0, 0))) (hs : cur.size = N) (ht : cur.toList.take n = xs) (hx : xs.length = n) (hfit : n + news.length ≤ N) :
    Arr (w.setRow g (cur.toList.take n ++ news ++ cur.toList.drop (n + news.length)).toArray) g lab N (n + news.length) (xs ++ news) ∧ w.grownBy (w.setRow g (cur.toList.take n ++ news ++ cur.toList.drop (n + news.length)).toArray) (some g) := by
  refine ⟨⟨by simp [hx], hfit, _, setRow_heap w g cur _ lab _ hg, ?_, ?_⟩, ⟨rfl, rfl, rfl, by simp [World.setRow], fun k _ hk => setRow_other w g k _ (fun e => hk (by simp [e]))⟩⟩
  · simp only [List.size_toArray, List.length_append, List.length_take, List.length_drop, Array.length_toList]
    omega
  · have e : (n + news.length) = (xs ++ news).length := by rw [List.length_append, hx]
    rw [ht, e]
    exact List.take_left

theorem wpList_append_arr {ops : Array Oper} {rest : List Oper} {o : Oper} {a : Act} {Q : Exit → Act → World → Prop}
    (hgd : o.guard = none) (s x : Operand) (t : TypeId) (hop : o.op = Op.call { callee := Callee.builtin Builtin.append, args := #[s, x], argTypes := #[t, t] })
    (e : TypeId) (i : TypeInfo) (h1 : P.underlying t = some (.slice e)) (h2 : P.info? e = some i) (h4 : i.size = 1)
    (g lab N k : Nat) (xs : List Value) (hs : a.eval s = .slice (some ⟨g, 0, none⟩) k N) (hA : Arr w g lab N k xs) (ad : Addr) (m c : Nat) (news : List Value) (hx : a.eval x = .slice (some ad) m c) (hn : news.length = m)
    (hc : ∀ j u, news[j]? = some u → w.cell? (ad.add j) = some u) (h1c : ∀ u ∈ news, u.oneCell' = true) (b1 : k + m ≤ N)
    (hK : ∀ w', Arr w' g lab N (k + m) (xs ++ news) → w.grownBy w' (some g) → wpList P ops Q rest (a.put o.dst (.slice (some ⟨g, 0, none⟩) (k + m) N)) w') :
    wpList P ops Q (o :: rest) a w := by
  refine wpList_plain hgd fun K hK' => ?_
  obtain ⟨hl, hle, cur, hg, hsz, ht⟩ := hA
  subst hn
  have hrun := run_append_arr (P := P) w t o.type e lab i h1 h2 h4 g k N cur hg ad news.length c news rfl hc h1c b1 (by omega)
  have hw := arr_after (news := news) hg hsz ht hl (by omega)
  unfold Oper.wp
  simp [execOp, hop, resolve, invoke, builtin, hs, hx, hrun, Result.andThen]
  refine hK' _ _ ?_
  have := hK _ hw.1 hw.2
  simpa using this

theorem wpList_append_arr_string {ops : Array Oper} {rest : List Oper} {o : Oper} {a : Act} {Q : Exit → Act → World → Prop}
    (hgd : o.guard = none) (s x : Operand) (t u : TypeId) (hop : o.op = Op.call { callee := Callee.builtin Builtin.append, args := #[s, x], argTypes := #[t, u] })
    (e : TypeId) (i : TypeInfo) (h1 : P.underlying t = some (.slice e)) (hu : P.underlying u = some .string) (h2 : P.info? e = some i) (h4 : i.size = 1)
    (g lab N k : Nat) (xs : List Value) (hs : a.eval s = .slice (some ⟨g, 0, none⟩) k N) (hA : Arr w g lab N k xs) (st : ByteArray) (hx : a.eval x = .string st) (b1 : k + st.size ≤ N)
    (hK : ∀ w', Arr w' g lab N (k + st.size) (xs ++ Lib.strCells st) → w.grownBy w' (some g) → wpList P ops Q rest (a.put o.dst (.slice (some ⟨g, 0, none⟩) (k + st.size) N)) w') :
    wpList P ops Q (o :: rest) a w := by
  refine wpList_plain hgd fun K hK' => ?_
  obtain ⟨hl, hle, cur, hg, hsz, ht⟩ := hA
  have hrun := run_append_arr_string (P := P) w t u o.type e lab i h1 hu h2 h4 g k N cur hg st b1 (by omega)
  have hw := arr_after (news := Lib.strCells st) hg hsz ht hl (by rw [Lib.strCells_length]; omega)
  rw [Lib.strCells_length] at hw
  unfold Oper.wp
  simp [execOp, hop, resolve, invoke, builtin, hs, hx, hrun, Result.andThen]
  refine hK' _ _ ?_
  have := hK _ hw.1 hw.2
  simpa using this
end

end Go.Proofs.Qxb6601769aDoor
