import Derived.Test.Qxb6000062aDoorPadded
import Derived.Laws.IdiomStrings
/-! zzItoa: the contract. -/
namespace Go.Proofs.Qxb6000062aDoor.pm
open Go Go.RowKit Go.Lib Go.Sort
set_option linter.unusedVariables false

/-- the buffer's text from pos on is l -/
def ItFin (cur : Array Value) (pos : Nat) (l : List UInt8) : Prop := cur.size = 24 ∧ pos < 24 ∧ cur.toList.drop pos = byteCells l

theorem ItFin.len {cur : Array Value} {pos : Nat} {l : List UInt8} (h : ItFin cur pos l) : l.length = 24 - pos := by
  obtain ⟨h1, h2, h3⟩ := h
  have := congrArg List.length h3
  simp [byteCells, h1] at this
  omega

theorem ItInv.fin {u0 pos : Nat} {cur : Array Value} (h : ItInv u0 0 pos cur) : ItFin cur pos (decDigits u0) := by
  obtain ⟨h1, h2, ds, h3, ⟨_, h4⟩ | ⟨h4, _⟩⟩ := h
  · subst h4
    have := congrArg List.length h3
    rw [byteCells_length, decDigits_length] at this
    have hp := nDigits_pos u0
    simp [h1] at this
    exact ⟨h1, by omega, h3⟩
  · exact absurd rfl h4

theorem ItFin.put {cur : Array Value} {pos : Nat} {l : List UInt8} (h : ItFin cur (pos + 1) l) (b : UInt8) : ItFin (cur.setIfInBounds pos (.int .u8 (b.toNat : Int))) pos (b :: l) := by
  obtain ⟨h1, h2, h3⟩ := h
  refine ⟨by simpa using h1, by omega, ?_⟩
  have hlt : pos < (cur.setIfInBounds pos (.int .u8 (b.toNat : Int))).toList.length := by simp; omega
  rw [List.drop_eq_getElem_cons hlt]
  have e1 : (cur.setIfInBounds pos (.int .u8 (b.toNat : Int))).toList.drop (pos + 1) = cur.toList.drop (pos + 1) := by
    rw [Array.toList_setIfInBounds, List.drop_set_of_lt (by omega)]
  rw [e1, h3]
  simp [byteCells]

theorem arr48 : Tryd.prog.arrayLen 48 = 24 := by simp [Program.arrayLen, Tryd.underlying48]

theorem fin_slice (g pos : Nat) (l : List UInt8) (hl : l.length = 24 - pos) (hp : pos < 24) (W : World) :
    (Instr.sliceAt 48 (.pointer (some ⟨g, 0, none⟩)) (some (.int .i64 (pos : Int))) none none).run Tryd.prog W = .ok (.slice (some ⟨g, pos, none⟩) l.length (24 - pos)) W := by
  rw [run_sliceAt_array_l W 48 ⟨g, 0, none⟩ (by simp [Program.arrayLen, Program.elem, Tryd.underlying48]) .i64 (pos : Int) (by omega) (by rw [arr48]; omega)]
  have e : ¬ 24 = pos := by omega
  have e5 : (sizeOf (Tryd.prog.elem 48)).run Tryd.prog W = .ok 1 W := by kernel_rfl
  rw [e5]
  simp [Result.andThen, slicedAt, arr48, e, hl, add_plain]

theorem fin_conv (w : World) (cur : Array Value) (pos : Nat) (l : List UInt8) (h : ItFin cur pos l) :
    (convert 22 9 (.slice (some ⟨w.heap.size, pos, none⟩) l.length (24 - pos))).run Tryd.prog (w.alloc (.cells cur 48)) = .ok (.string ⟨l.toArray⟩) (w.alloc (.cells cur 48)) := by
  refine run_convert_bytes_back (P := Tryd.prog) _ 22 9 5 ⟨w.heap.size, pos, none⟩ _ l Tryd.underlying22 Tryd.underlying5 Tryd.underlying9 (fun j hj => ?_)
  rw [add_plain, World.cell?_alloc_new]
  have h3 := congrArg (·[j]?) h.2.2
  simp only [List.getElem?_drop, Array.getElem?_toList] at h3
  rw [h3]
  simp [byteCells, hj]

set_option maxHeartbeats 3200000 in
set_option maxRecDepth 100000 in
theorem zzItoa_pos (u0 : Nat) (h0 : 1 ≤ u0) (h1 : (u0 : Int) ≤ 9223372036854775807) (w : World) :
    Calls Tryd.prog 11 #[.int .i64 u0] w fun e w' => e = .returned (.string ⟨(itoa u0).toArray⟩) ∧ Below w.heap.size w w' := by
  have hwr : IntKind.u64.wrap (u0 : Int) = (u0 : Int) := by rw [IntKind.wrap_u64]; omega
  rw [itoa_nonneg]
  go_enter Tryd.func11, Tryd.ntmps11
  go_wp2
  go_loopw [5, 7] (fun u p wr => ∃ (a pos : Nat) (cur : Array Value), u = .int .u64 a ∧ p = .int .i64 pos ∧ wr = w.alloc (.cells cur 48) ∧ ItInv u0 a pos cur ∧ (a : Int) ≤ 9223372036854775807)
    (fun u _ _ => (RowKit.intOf u).toNat)
  case atStart => exact ⟨u0, 24, zeros24, rfl, rfl, rfl, ItInv.start u0 (by omega) _ rfl, h1⟩
  case round =>
    obtain ⟨a, pos, cur, rfl, rfl, rfl, hI, hA⟩ := hrel
    by_cases ha : 1 ≤ a
    · obtain ⟨q, rfl⟩ : ∃ q, pos = q + 1 := ⟨pos - 1, by have := (hI.len (by omega)).2 (by omega); omega⟩
      have hst := hI.step (by omega) (by omega)
      have hq : q < 24 := by have := hI.2.1; omega
      obtain ⟨c0, hc0⟩ : ∃ c0, cur[q]? = some c0 := ⟨cur[q]'(by rw [hI.1]; exact hq), by simp⟩
      have HS := Lib.hid hst
      clear hst
      go_wp2
      go_roundw
      case rel => exact ⟨a / 10, q, _, by go_num, by go_num, rfl, HS.out, by omega⟩
      case measure => simp [RowKit.intOf]; omega
    · have e0 : a = 0 := by omega
      subst e0
      have hF := hI.fin
      have hsl := fin_slice w.heap.size pos _ hF.len hF.2.1
      have hcv := fin_conv w cur pos _ hF
      go_wp2
      go_ret
      exact ⟨rfl, (Below.refl _ _).alloc (Nat.le_refl _) _⟩

set_option maxHeartbeats 3200000 in
set_option maxRecDepth 100000 in
theorem zzItoa_zero (w : World) :
    Calls Tryd.prog 11 #[.int .i64 0] w fun e w' => e = .returned (.string ⟨(itoa 0).toArray⟩) ∧ Below w.heap.size w w' := by
  have hF : ItFin (zeros24.setIfInBounds 23 (.int .u8 48)) 23 [48] := ⟨rfl, by decide, rfl⟩
  have hsl : ∀ W, (Instr.sliceAt 48 (.pointer (some ⟨w.heap.size, 0, none⟩)) (some (.int .i64 23)) none none).run Tryd.prog W = .ok (.slice (some ⟨w.heap.size, 23, none⟩) 1 1) W := fin_slice w.heap.size 23 [48] rfl (by decide)
  have hcv : (convert 22 9 (.slice (some ⟨w.heap.size, 23, none⟩) 1 1)).run Tryd.prog (w.alloc (.cells #[Value.int .u8 0, Value.int .u8 0, Value.int .u8 0, Value.int .u8 0, Value.int .u8 0, Value.int .u8 0, Value.int .u8 0, Value.int .u8 0, Value.int .u8 0, Value.int .u8 0, Value.int .u8 0, Value.int .u8 0, Value.int .u8 0, Value.int .u8 0, Value.int .u8 0, Value.int .u8 0, Value.int .u8 0, Value.int .u8 0, Value.int .u8 0, Value.int .u8 0, Value.int .u8 0, Value.int .u8 0, Value.int .u8 0, Value.int .u8 48] 48)) = .ok (.string ⟨#[48]⟩) (w.alloc (.cells #[Value.int .u8 0, Value.int .u8 0, Value.int .u8 0, Value.int .u8 0, Value.int .u8 0, Value.int .u8 0, Value.int .u8 0, Value.int .u8 0, Value.int .u8 0, Value.int .u8 0, Value.int .u8 0, Value.int .u8 0, Value.int .u8 0, Value.int .u8 0, Value.int .u8 0, Value.int .u8 0, Value.int .u8 0, Value.int .u8 0, Value.int .u8 0, Value.int .u8 0, Value.int .u8 0, Value.int .u8 0, Value.int .u8 0, Value.int .u8 48] 48)) := fin_conv w _ 23 [48] hF
  have e0 : itoa 0 = [48] := by unfold itoa; rw [if_neg (by decide), decDigits_one (by decide)]; rfl
  rw [e0]
  clear hF e0
  go_enter Tryd.func11, Tryd.ntmps11
  go_wp2
  refine wp_loop_rounds 1 ?_
  rw [rounds_succ]
  go_wp2
  go_ret
  exact ⟨rfl, (Below.refl _ _).alloc (Nat.le_refl _) _⟩

set_option maxHeartbeats 3200000 in
set_option maxRecDepth 100000 in
theorem zzItoa_neg (u0 : Nat) (h0 : 1 ≤ u0) (h1 : (u0 : Int) ≤ 9223372036854775808) (w : World) :
    Calls Tryd.prog 11 #[.int .i64 (-(u0 : Int))] w fun e w' => e = .returned (.string ⟨(itoa (-(u0 : Int))).toArray⟩) ∧ Below w.heap.size w w' := by
  rw [itoa_neg u0 h0]
  go_enter Tryd.func11, Tryd.ntmps11
  go_wp2
  go_loopw [5, 7] (fun u p wr => ∃ (a pos : Nat) (cur : Array Value), u = .int .u64 a ∧ p = .int .i64 pos ∧ wr = w.alloc (.cells cur 48) ∧ ItInv u0 a pos cur ∧ (a : Int) ≤ 9223372036854775808)
    (fun u _ _ => (RowKit.intOf u).toNat)
  case atStart => exact ⟨u0, 24, zeros24, by go_num, rfl, rfl, ItInv.start u0 (by omega) _ rfl, h1⟩
  case round =>
    obtain ⟨a, pos, cur, rfl, rfl, rfl, hI, hA⟩ := hrel
    obtain ⟨q, rfl⟩ : ∃ q, pos = q + 1 := ⟨pos - 1, by have := (hI.len (by omega)).1; omega⟩
    have hq : q < 24 := by have := hI.2.1; omega
    obtain ⟨c0, hc0⟩ : ∃ c0, cur[q]? = some c0 := ⟨cur[q]'(by rw [hI.1]; exact hq), by simp⟩
    by_cases ha : 1 ≤ a
    · have hst := hI.step (by omega) (by omega)
      have HS := Lib.hid hst
      clear hst
      go_wp2
      go_roundw
      case rel => exact ⟨a / 10, q, _, by go_num, by go_num, rfl, HS.out, by omega⟩
      case measure => simp [RowKit.intOf]; omega
    · have e0 : a = 0 := by omega
      subst e0
      have hF := hI.fin.put 45
      have hsl : ∀ W, (Instr.sliceAt 48 (.pointer (some ⟨w.heap.size, 0, none⟩)) (some (.int .i64 (q : Int))) none none).run Tryd.prog W = .ok (.slice (some ⟨w.heap.size, q, none⟩) ((decDigits u0).length + 1) (24 - q)) W := fin_slice w.heap.size q (45 :: decDigits u0) hF.len hF.2.1
      have hcv : (convert 22 9 (.slice (some ⟨w.heap.size, q, none⟩) ((decDigits u0).length + 1) (24 - q))).run Tryd.prog (w.alloc (.cells (cur.setIfInBounds q (.int .u8 45)) 48)) = .ok (.string ⟨(45 :: decDigits u0).toArray⟩) (w.alloc (.cells (cur.setIfInBounds q (.int .u8 45)) 48)) := fin_conv w _ q _ hF
      clear hF
      go_wp2
      go_ret
      exact ⟨rfl, (Below.refl _ _).alloc (Nat.le_refl _) _⟩

/-- zzItoa is strconv.Itoa -/
theorem zzItoa_any (n : Int) (h0 : -9223372036854775808 ≤ n) (h1 : n ≤ 9223372036854775807) (w : World) :
    Calls Tryd.prog 11 #[.int .i64 n] w fun e w' => e = .returned (.string ⟨(itoa n).toArray⟩) ∧ Below w.heap.size w w' := by
  by_cases hneg : n < 0
  · obtain ⟨u, rfl⟩ : ∃ u : Nat, n = -(u : Int) := ⟨n.natAbs, by omega⟩
    exact zzItoa_neg u (by omega) (by omega) w
  · obtain ⟨u, rfl⟩ : ∃ u : Nat, n = u := ⟨n.toNat, by omega⟩
    by_cases hz : u = 0
    · subst hz; exact zzItoa_zero w
    · exact zzItoa_pos u (by omega) h1 w
end Go.Proofs.Qxb6000062aDoor.pm
