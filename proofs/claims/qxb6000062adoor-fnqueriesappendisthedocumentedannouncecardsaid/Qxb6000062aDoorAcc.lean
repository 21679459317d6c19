import Derived.Test.Qxb6000062aDoorPadded
import Derived.Deep.RegionHeldLaw
/-! A buffer that grows by append: 'Acc': what was there, then the bytes L. The laws for the walk of queries.append. -/
namespace Go.Proofs.Qxb6000062aDoor.pm
open Go Go.RowKit Go.Lib Go.Sort
set_option linter.unusedVariables false

/-- v owns xs and, behind them, the bytes L -/
def Acc (w : World) (B : Nat) (v : Value) (n : Nat) (xs : List Value) (L : List UInt8) : Prop := w.ownsRow B 5 1 v (n + L.length) (xs ++ byteCells L)

theorem Acc.ok {w : World} {B : Nat} {v : Value} {n : Nat} {xs : List Value} {L : List UInt8} (h : Acc w B v n xs L) : Ok w B v (n + L.length) (xs ++ byteCells L) := .inl h

theorem acc_bytes {w : World} {B : Nat} {v : Value} {n m : Nat} {xs ys : List Value} {L M : List UInt8} (h : w.ownsRow B 5 1 v m ys) (hm : m = n + (L ++ M).length) (hy : ys = xs ++ byteCells (L ++ M)) : Acc w B v n xs (L ++ M) := by
  subst hm hy; exact h

theorem strCells_bytes (s : ByteArray) : strCells s = byteCells s.data.toList := rfl
theorem data_length (s : ByteArray) : s.data.toList.length = s.size := Array.length_toList

/-- the first: 'dst = append(dst, s...)', dst the call's own or full -/
theorem wpList_acc_first (w : World) {ops : Array Oper} {rest : List Oper} {o : Oper} {a : Act} {Q : Exit → Act → World → Prop}
    (hg : o.guard = none) (sl x : Operand) (hop : o.op = Op.call { callee := Callee.builtin Builtin.append, args := #[sl, x], argTypes := #[22, 9] })
    (B : Nat) (v : Value) (n : Nat) (xs : List Value) (hs : a.eval sl = v) (hok : Ok w B v n xs)
    (s : ByteArray) (hx : a.eval x = .string s) (hm : 1 ≤ s.size) (b2 : n + s.size ≤ 140737488355328) (hB : B ≤ w.heap.size)
    (hK : ∀ v' w' L', Hid (L' = s.data.toList) → L'.length ≤ s.size → Acc w' B v' n xs L' → Kept B w w' → B ≤ w'.heap.size → wpList Tryd.prog ops Q rest (a.put o.dst v') w') :
    wpList Tryd.prog ops Q (o :: rest) a w :=
  wpList_append_ok_string w hg sl x hop B v n xs hs hok s hx (.inl hm) b2 hB
    (fun v' w' r1 r2 => hK v' w' s.data.toList (show _ = _ from rfl) (Nat.le_of_eq (data_length s)) (by unfold Acc; rw [data_length]; exact r1) r2 (Nat.le_trans hB r2.1.size))

/-- the next -/
theorem wpList_acc_next (w : World) {ops : Array Oper} {rest : List Oper} {o : Oper} {a : Act} {Q : Exit → Act → World → Prop}
    (hg : o.guard = none) (sl x : Operand) (hop : o.op = Op.call { callee := Callee.builtin Builtin.append, args := #[sl, x], argTypes := #[22, 9] })
    (B : Nat) (v : Value) (n : Nat) (xs : List Value) (L : List UInt8) (hs : a.eval sl = v) (hacc : Acc w B v n xs L)
    (s : ByteArray) (hx : a.eval x = .string s) (b2 : n + L.length + s.size ≤ 140737488355328) (hB : B ≤ w.heap.size)
    (hK : ∀ v' w' L', Hid (L' = L ++ s.data.toList) → L'.length ≤ L.length + s.size → Acc w' B v' n xs L' → Kept B w w' → B ≤ w'.heap.size → wpList Tryd.prog ops Q rest (a.put o.dst v') w') :
    wpList Tryd.prog ops Q (o :: rest) a w :=
  wpList_append_ok_string w hg sl x hop B v (n + L.length) (xs ++ byteCells L) hs hacc.ok s hx (.inr hacc) b2 hB
    (fun v' w' r1 r2 => hK v' w' (L ++ s.data.toList) (show _ = _ from rfl) (by rw [List.length_append, data_length]; exact Nat.le_refl _)
      (acc_bytes r1 (by rw [List.length_append, data_length]; omega) (by rw [strCells_bytes]; simp [byteCells])) r2 (Nat.le_trans hB r2.1.size))

/-- the same as one step of a region that draws its order -/
theorem step_acc_next {ops : Array Oper} {o : Oper} {a : Act} {w : World} {K : Act → World → Prop} {Q : Exit → Act → World → Prop} {E : Prop}
    (hg : o.guard = none) (sl x : Operand) (hop : o.op = Op.call { callee := Callee.builtin Builtin.append, args := #[sl, x], argTypes := #[22, 9] })
    (B : Nat) (v : Value) (n : Nat) (xs : List Value) (L : List UInt8) (hs : a.eval sl = v) (hacc : Acc w B v n xs L)
    (s : ByteArray) (hx : a.eval x = .string s) (b2 : n + L.length + s.size ≤ 140737488355328) (hB : B ≤ w.heap.size)
    (hK : ∀ v' w' L', Hid (L' = L ++ s.data.toList) → L'.length ≤ L.length + s.size → Acc w' B v' n xs L' → Kept B w w' → B ≤ w'.heap.size → K (a.put o.dst v') w') :
    if Region.wanted o (yielded ops a.tmps) = true then Oper.wp Tryd.prog o a w K Q else E := by
  have hw : Region.wanted o (yielded ops a.tmps) = true := by simp [Region.wanted, hg]
  rw [if_pos hw]
  obtain ⟨i0, hi, hz0, hz1, hz2⟩ := info_parts info5
  obtain ⟨v', w', hrun, r1, r2, _⟩ := run_append_own_string (P := Tryd.prog) w B 22 9 o.type 5 i0 Tryd.underlying22 Tryd.underlying9 hi hz0 hz1 hz2 v (n + L.length) (xs ++ byteCells L) hacc s (by unfold maxLen; omega) b2 hB
  have r3 := Kept.grown hacc hB r2
  have := hK v' w' (L ++ s.data.toList) (show _ = _ from rfl) (by rw [List.length_append, data_length]; exact Nat.le_refl _)
      (acc_bytes r1 (by rw [List.length_append, data_length]; omega) (by rw [strCells_bytes]; simp [byteCells])) r3 (Nat.le_trans hB r3.1.size)
  unfold Oper.wp
  simp [execOp, hop, resolve, invoke, builtin, hs, hx, hrun, Result.andThen]
  exact this

theorem appendInt_acc (B : Nat) (v : Value) (n : Nat) (xs : List Value) (L : List UInt8) (i : Int) (h0 : -9223372036854775808 ≤ i) (h1 : i ≤ 9223372036854775807) (w : World) (hacc : Acc w B v n xs L) (hB : B ≤ w.heap.size)
    (hlim : n + L.length ≤ 4194304) (htab : TabBelow Tryd.prog B w tabName .u64 pow10Tab) :
    Calls Tryd.prog 29 #[v, .int .i64 i, .int .i64 10] w fun e w' => ∃ v' L', e = .returned v' ∧ Hid (L' = L ++ itoa i) ∧ L'.length ≤ L.length + 20 ∧ Acc w' B v' n xs L' ∧ Kept B w w' ∧ B ≤ w'.heap.size := by
  refine (appendInt_own B (n + L.length) i h0 h1 v _ w hacc hB (by omega) htab).mono ?_
  rintro e w' ⟨v', rfl, ho, hb, hk⟩
  exact ⟨v', L ++ itoa i, rfl, show _ = _ from rfl, by have := (itoa_len i h0 h1).2; rw [List.length_append]; omega, acc_bytes ho (by rw [List.length_append]; omega) (by simp [byteCells]), ⟨hb, hk⟩, Nat.le_trans hB hb.size⟩

theorem appendPadded_acc (B : Nat) (v : Value) (n : Nat) (xs : List Value) (L : List UInt8) (i : Int) (h0 : -9223372036854775808 ≤ i) (h1 : i ≤ 9223372036854775807) (w : World) (hacc : Acc w B v n xs L) (hB : B ≤ w.heap.size)
    (hlim : n + L.length ≤ 4194304) (htab : TabBelow Tryd.prog B w tabName .u64 pow10Tab) :
    Calls Tryd.prog 26 #[v, .int .i64 i, .int .i64 12] w fun e w' => ∃ v' L', e = .returned v' ∧ Hid (L' = L ++ (List.replicate (12 - (itoa i).length) 48 ++ itoa i)) ∧ L'.length ≤ L.length + 32 ∧ Acc w' B v' n xs L' ∧ Kept B w w' ∧ B ≤ w'.heap.size := by
  refine (appendPadded_any B v (n + L.length) _ i 12 h0 h1 (by decide) (by decide) w hacc.ok hB hlim htab).mono ?_
  rintro e w' ⟨v', rfl, hk, ho⟩
  have e1 : padN 12 (itoa i).length = 12 - (itoa i).length := by unfold padN; omega
  rw [e1] at ho
  exact ⟨v', L ++ (List.replicate (12 - (itoa i).length) 48 ++ itoa i), rfl, show _ = _ from rfl, by have := (itoa_len i h0 h1).2; simp; omega, acc_bytes ho (by simp; omega) (by simp [byteCells]), hk, Nat.le_trans hB hk.1.size⟩
end Go.Proofs.Qxb6000062aDoor.pm
