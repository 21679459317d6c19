import Derived.Test.Qxb6000062aDoorAppendInt
import Derived.ArgAppend
import Derived.Lib.OwnKind
import Derived.Lib.OthersKept
/-! append onto a slice that is the call's own, or full (cap = len, below B): the laws for the walk. -/
namespace Go.Proofs.Qxb6000062aDoor.pm
open Go Go.RowKit Go.Lib Go.Sort

/-- nil, or a row of n cells below B with no room behind them -/
def Full (w : World) (B : Nat) (a : Option Addr) (n : Nat) (xs : List Value) : Prop :=
  (a = none → n = 0) ∧ xs.length = n ∧ ∀ b, a = some b → b.block < B ∧ ∀ j u, xs[j]? = some u → w.cell? (b.add j) = some u

def Ok (w : World) (B : Nat) (v : Value) (n : Nat) (xs : List Value) : Prop :=
  w.ownsRow B 5 1 v n xs ∨ ∃ a, v = .slice a n n ∧ Full w B a n xs

theorem Full.below {w w' : World} {B : Nat} {a : Option Addr} {n : Nat} {xs : List Value} (h : Full w B a n xs) (hb : Below B w w') : Full w' B a n xs :=
  And.intro h.1 (And.intro h.2.1 (fun b hb' => And.intro (h.2.2 b hb').1 (fun j u hj => by
    have h1 := (h.2.2 b hb').2 j u hj
    have h2 : (b.add j).block = b.block := by unfold Addr.add; split <;> rfl
    rw [hb.cell (by rw [h2]; exact (h.2.2 b hb').1)]
    exact h1)))

/-- every block that is no row of bytes, and every block below B, reads as it did -/
def Kept (B : Nat) (w w' : World) : Prop := Below B w w' ∧ OthersKept 5 none w w'

theorem Kept.refl (B : Nat) (w : World) : Kept B w w := ⟨Below.refl _ _, OthersKept.refl _ _ _⟩
theorem Kept.trans {B : Nat} {w w1 w2 : World} (h : Kept B w w1) (k : Kept B w1 w2) : Kept B w w2 := ⟨h.1.trans k.1, h.2.trans k.2⟩
theorem Kept.alloc {B : Nat} {w w1 : World} (h : Kept B w w1) (hB : B ≤ w1.heap.size) (o : Obj) : Kept B w (w1.alloc o) := ⟨h.1.alloc hB o, h.2.alloc o⟩
theorem Kept.grown {B : Nat} {w w1 : World} {v : Value} {n : Nat} {xs : List Value} (hown : w.ownsRow B 5 1 v n xs) (hB : B ≤ w.heap.size) (hg : w.grownBy w1 v.ownBlock) : Kept B w w1 :=
  ⟨(Below.refl B w).grown hg hB (fun k hk => (hown.lt k hk).1), (OthersKept.refl _ _ w).grown hg (ownsRow_kind hown)⟩
theorem Kept.grown_none {B : Nat} {w w1 : World} (hB : B ≤ w.heap.size) (hg : w.grownBy w1 none) : Kept B w w1 :=
  ⟨(Below.refl B w).grown hg hB (fun k hk => by cases hk), (OthersKept.refl _ _ w).grown hg (fun g hg => by cases hg)⟩

theorem Arr.kept {B : Nat} {w w' : World} {g : Nat} {T : TypeId} {cap n : Nat} {xs : List Value} (h : Arr w g T cap n xs) (hT : T ≠ 5) (hk : Kept B w w') : Arr w' g T cap n xs := by
  obtain ⟨cur, h0, h1⟩ := h
  refine ⟨cur, hk.2 g _ h0 (by simp) (fun c fz e => ?_), h1⟩
  simp only [Obj.cells.injEq] at e
  exact hT e.2.1

/-- 'dst = append(dst, c)' -/
theorem wpList_append_ok (w : World) {ops : Array Oper} {rest : List Oper} {o : Oper} {a : Act} {Q : Exit → Act → World → Prop}
    (hg : o.guard = none) (s x : Operand) (hop : o.op = Op.call { callee := Callee.builtin Builtin.append, args := #[s, x], argTypes := #[22, 22] })
    (B : Nat) (v : Value) (n : Nat) (xs : List Value) (hs : a.eval s = v) (hok : Ok w B v n xs)
    (ad : Addr) (m c : Nat) (news : List Value) (hx : a.eval x = .slice (some ad) m c) (hn : news.length = m) (hc : ∀ j u, news[j]? = some u → w.cell? (ad.add j) = some u) (h1c : ∀ u ∈ news, u.oneCell' = true)
    (hm : 1 ≤ m) (b2 : n + m ≤ 140737488355328) (hB : B ≤ w.heap.size)
    (hK : ∀ v' w', w'.ownsRow B 5 1 v' (n + m) (xs ++ news) → Kept B w w' → wpList Tryd.prog ops Q rest (a.put o.dst v') w') :
    wpList Tryd.prog ops Q (o :: rest) a w := by
  obtain ⟨i0, hi, hz0, hz1, hz2⟩ := info_parts info5
  rcases hok with hown | ⟨ao, rfl, hf⟩
  · exact wpList_append_own w hg s x 22 hop B 5 i0 (.int .u8 0) 1 1 Tryd.underlying22 hi hz0 hz1 hz2 rfl (by decide) v n xs hs hown ad m c news hx (by omega) hc h1c (by unfold maxLen; omega) (by omega) hB
      (fun v' w' r1 r2 _ => hK v' w' r1 (Kept.grown hown hB r2))
  · exact wpList_append_grows w hg s x 22 hop 5 i0 (.int .u8 0) 1 1 Tryd.underlying22 hi hz0 hz1 hz2 rfl (by decide) ao n n xs hs (fun h => ⟨hf.1 h, hf.1 h⟩) (by rw [hf.2.1]; omega) (fun b hb => (hf.2.2 b hb).2) ad m c news hx (by omega) hc h1c (by omega) (by unfold maxLen; omega) (by omega)
      (fun v' w' r1 r2 => hK v' w' (ownsRow_mono r1 hB) (Kept.grown_none hB r2))

/-- 'dst = append(dst, s...)' -/
theorem wpList_append_ok_string (w : World) {ops : Array Oper} {rest : List Oper} {o : Oper} {a : Act} {Q : Exit → Act → World → Prop}
    (hg : o.guard = none) (sl x : Operand) (hop : o.op = Op.call { callee := Callee.builtin Builtin.append, args := #[sl, x], argTypes := #[22, 9] })
    (B : Nat) (v : Value) (n : Nat) (xs : List Value) (hs : a.eval sl = v) (hok : Ok w B v n xs)
    (s : ByteArray) (hx : a.eval x = .string s) (hm : 1 ≤ s.size ∨ w.ownsRow B 5 1 v n xs) (b2 : n + s.size ≤ 140737488355328) (hB : B ≤ w.heap.size)
    (hK : ∀ v' w', w'.ownsRow B 5 1 v' (n + s.size) (xs ++ strCells s) → Kept B w w' → wpList Tryd.prog ops Q rest (a.put o.dst v') w') :
    wpList Tryd.prog ops Q (o :: rest) a w := by
  obtain ⟨i0, hi, hz0, hz1, hz2⟩ := info_parts info5
  have own : w.ownsRow B 5 1 v n xs → wpList Tryd.prog ops Q (o :: rest) a w := fun hown =>
    wpList_append_own_string w hg sl x 22 9 hop B 5 i0 Tryd.underlying22 Tryd.underlying9 hi hz0 hz1 hz2 v n xs hs hown s hx (by unfold maxLen; omega) b2 hB
      (fun v' w' r1 r2 _ => hK v' w' r1 (Kept.grown hown hB r2))
  rcases hok with hown | ⟨ao, rfl, hf⟩
  · exact own hown
  rcases hm.symm with hown | hm
  · exact own hown
  cases ao with
  | none =>
    have h0 := hf.1 rfl
    subst h0
    have hx0 : xs = [] := List.eq_nil_of_length_eq_zero hf.2.1
    subst hx0
    exact own (World.ownsRow_nil w B 5 1)
  | some b =>
    refine wpList_plain hg fun K hK' => ?_
    have hr := run_append_grow_string (P := Tryd.prog) w 22 9 o.type 5 i0 (.int .u8 0) Tryd.underlying22 Tryd.underlying9 hi hz0 b n n xs (by rw [hz1, hf.2.1]; omega) (hf.2.2 b rfl).2 s (by omega) (by omega) (by rw [hz2]; exact growslice_fits (by omega) (by omega))
    have hge := grownCap_ge w (n + s.size) n 5
    have hcm : grownCap w (n + s.size) n 5 ≤ maxLen := grownCap_le_maxLen w (n + s.size) n 5 (by unfold maxLen; omega)
    have hlen : (xs ++ strCells s).length = (n + s.size) * 1 := by rw [List.length_append, hf.2.1, strCells_length, Nat.mul_one]
    unfold Oper.wp execOp
    simp only [hop, resolve, invoke, builtin, Sem.run_bind, Sem.run_pure, Result.andThen_ok, List.map_toArray, List.map_cons, List.map_nil, hs, hx, hr]
    refine hK' _ _ (hK _ _ ⟨hlen, .inr ⟨w.heap.size, _, _, rfl, hB, heap_alloc_new w.drew _, hge, hcm, ?_, ?_⟩⟩ (Kept.grown_none hB ⟨rfl, rfl, rfl, by simp, fun k hk _ => Below.heap_alloc w.drew _ k hk⟩))
    · have hz1 : (Value.int IntKind.u8 0).cells.size = 1 := rfl
      simp only [Array.size_append, List.size_toArray, size_zeroCells, hz1, hf.2.1, strCells_length]
      omega
    · simp only [Array.toList_append, List.append_assoc]
      rw [← List.append_assoc, ← hlen]
      exact List.take_left
end Go.Proofs.Qxb6000062aDoor.pm
