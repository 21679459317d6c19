import Derived.Test.Qxb6000062aDoorMath
import Derived.Lib.AppendStr
import Derived.OwnWalk
import Derived.Laws.CopyRow
/-! 'append' within the capacity onto a row of whatever block ('digits[:0]' of an array variable: the block bears the array's type): the laws for the walk. -/
namespace Go.Proofs.Qxb6000062aDoor.pm
open Go Go.RowKit Go.Lib

/-- block g is a row of cap cells, tag T, none frozen, whose first n cells are xs -/
def Arr (w : World) (g : Nat) (T : TypeId) (cap n : Nat) (xs : List Value) : Prop :=
  ∃ cur : Array Value, w.heap[g]? = some (.cells cur T (0, 0)) ∧ cur.size = cap ∧ n ≤ cap ∧ cur.toList.take n = xs

theorem Arr.length {w : World} {g : Nat} {T : TypeId} {cap n : Nat} {xs : List Value} (h : Arr w g T cap n xs) : xs.length = n := by
  obtain ⟨cur, _, h1, h2, h3⟩ := h
  rw [← h3]; simp; omega

theorem Arr.lt {w : World} {g : Nat} {T : TypeId} {cap n : Nat} {xs : List Value} (h : Arr w g T cap n xs) : g < w.heap.size := by
  obtain ⟨cur, h0, _⟩ := h
  rcases Nat.lt_or_ge g w.heap.size with h1 | h1
  · exact h1
  · rw [Array.getElem?_eq_none h1] at h0; cases h0

theorem Arr.of_block {w w' : World} {g : Nat} {T : TypeId} {cap n : Nat} {xs : List Value} (h : Arr w g T cap n xs) (hb : w'.heap[g]? = w.heap[g]?) : Arr w' g T cap n xs := by
  obtain ⟨cur, h0, h1⟩ := h
  exact ⟨cur, hb.trans h0, h1⟩

theorem Arr.cell {w : World} {g : Nat} {T : TypeId} {cap n : Nat} {xs : List Value} (h : Arr w g T cap n xs) (j : Nat) (hj : j < n) : w.cell? ⟨g, j, none⟩ = xs[j]? := by
  obtain ⟨cur, h0, h1, h2, h3⟩ := h
  rw [cell_of_row w g j cur T (0, 0) h0, ← h3, List.getElem?_take, if_pos hj]
  simp

theorem setRow_grown {w : World} {g : Nat} {T : TypeId} {cap n : Nat} {xs news : List Value} (h : Arr w g T cap n xs) (hroom : n + news.length ≤ cap) :
    ∃ cur : Array Value, w.heap[g]? = some (.cells cur T (0, 0)) ∧ cur.size = cap ∧
      Arr (w.setRow g (cur.toList.take n ++ news ++ cur.toList.drop (n + news.length)).toArray) g T cap (n + news.length) (xs ++ news) ∧
      w.grownBy (w.setRow g (cur.toList.take n ++ news ++ cur.toList.drop (n + news.length)).toArray) (some g) := by
  obtain ⟨cur, h0, h1, h2, h3⟩ := h
  refine ⟨cur, h0, h1, ⟨_, setRow_heap w g cur _ T (0, 0) h0, ?_, hroom, ?_⟩, ⟨rfl, rfl, rfl, by simp, fun k _ hk => setRow_other w g k _ (fun e => hk (by rw [e]))⟩⟩
  · simp; omega
  · have hl : (cur.toList.take n ++ news).length = n + news.length := by simp; omega
    rw [List.take_append_of_le_length (by omega), ← hl, List.take_length, h3]

section
variable {P : Program}

theorem wpList_room_slice (w : World) {ops : Array Oper} {rest : List Oper} {o : Oper} {a : Act} {Q : Exit → Act → World → Prop}
    (hg : o.guard = none) (s x : Operand) (t : TypeId) (hop : o.op = Op.call { callee := Callee.builtin Builtin.append, args := #[s, x], argTypes := #[t, t] })
    (e : TypeId) (i : TypeInfo) (h1 : P.underlying t = some (.slice e)) (h2 : P.info? e = some i) (h4 : i.size = 1)
    (g : Nat) (T : TypeId) (cap n : Nat) (xs : List Value) (hs : a.eval s = .slice (some ⟨g, 0, none⟩) n cap) (harr : Arr w g T cap n xs)
    (ad : Addr) (m c : Nat) (news : List Value) (hx : a.eval x = .slice (some ad) m c) (hn : news.length = m) (hc : ∀ j u, news[j]? = some u → w.cell? (ad.add j) = some u) (h1c : ∀ u ∈ news, u.oneCell' = true)
    (b1 : n + m ≤ cap)
    (hK : ∀ w', Arr w' g T cap (n + m) (xs ++ news) → w.grownBy w' (some g) → wpList P ops Q rest (a.put o.dst (.slice (some ⟨g, 0, none⟩) (n + m) cap)) w') :
    wpList P ops Q (o :: rest) a w := by
  refine wpList_plain hg fun K hK' => ?_
  subst hn
  obtain ⟨cur, r0, r1, r2, r3⟩ := setRow_grown harr (news := news) b1
  have hf := run_firstCells_some (P := P) w i.size news.length ad news.length c news (by rw [h4, Nat.mul_one]) hc
  have hst := run_storeCells_at P g n T news 0 cur w r0 (by rw [r1]; simpa using b1) h1c
  simp only [Nat.add_zero] at hst
  have hrun : (Builtin.append_ #[t, t] o.type #[.slice (some ⟨g, 0, none⟩) n cap, .slice (some ad) news.length c]).run P w = .ok (.slice (some ⟨g, 0, none⟩) (n + news.length) cap) (w.setRow g (cur.toList.take n ++ news ++ cur.toList.drop (n + news.length)).toArray) := by
    rw [h4] at hf
    simp [Builtin.append_, run_underlying h1, sizeOf, typeInfo, h2, h4, Builtin.lenOf, b1, hf, Addr.add_lit, hst]
  unfold Oper.wp
  simp [execOp, hop, resolve, invoke, builtin, hs, hx, hrun, Result.andThen]
  rw [List.append_assoc] at r2 r3
  exact hK' _ _ (hK _ r2 r3)

theorem wpList_room_string (w : World) {ops : Array Oper} {rest : List Oper} {o : Oper} {a : Act} {Q : Exit → Act → World → Prop}
    (hg : o.guard = none) (sl x : Operand) (t u : TypeId) (hop : o.op = Op.call { callee := Callee.builtin Builtin.append, args := #[sl, x], argTypes := #[t, u] })
    (e : TypeId) (i : TypeInfo) (h1 : P.underlying t = some (.slice e)) (hu : P.underlying u = some .string) (h2 : P.info? e = some i) (h4 : i.size = 1)
    (g : Nat) (T : TypeId) (cap n : Nat) (xs : List Value) (hs : a.eval sl = .slice (some ⟨g, 0, none⟩) n cap) (harr : Arr w g T cap n xs)
    (s : ByteArray) (hx : a.eval x = .string s) (b1 : n + s.size ≤ cap)
    (hK : ∀ w', Arr w' g T cap (n + s.size) (xs ++ strCells s) → w.grownBy w' (some g) → wpList P ops Q rest (a.put o.dst (.slice (some ⟨g, 0, none⟩) (n + s.size) cap)) w') :
    wpList P ops Q (o :: rest) a w := by
  refine wpList_plain hg fun K hK' => ?_
  obtain ⟨cur, r0, r1, r2, r3⟩ := setRow_grown harr (news := strCells s) (by rw [strCells_length]; exact b1)
  have hf := run_firstCells_string (P := P) w 1 s
  have hst := run_storeCells_at P g n T (strCells s) 0 cur w r0 (by rw [r1, strCells_length]; simpa using b1) (strCells_oneCell s)
  simp only [Nat.add_zero, strCells_length] at hst r2 r3
  have hrun : (Builtin.append_ #[t, u] o.type #[.slice (some ⟨g, 0, none⟩) n cap, .string s]).run P w = .ok (.slice (some ⟨g, 0, none⟩) (n + s.size) cap) (w.setRow g (cur.toList.take n ++ strCells s ++ cur.toList.drop (n + s.size)).toArray) := by
    simp [Builtin.append_, run_underlying h1, run_underlying hu, sizeOf, typeInfo, h2, h4, Builtin.lenOf, b1, hf, Addr.add_lit, hst]
  unfold Oper.wp
  simp [execOp, hop, resolve, invoke, builtin, hs, hx, hrun, Result.andThen]
  rw [List.append_assoc] at r2 r3
  exact hK' _ _ (hK _ r2 r3)
end
end Go.Proofs.Qxb6000062aDoor.pm
