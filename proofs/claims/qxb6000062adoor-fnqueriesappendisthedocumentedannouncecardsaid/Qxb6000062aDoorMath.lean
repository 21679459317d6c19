import Derived.Lib.ItoaLen
import Derived.Lib.AppendIntMem
import Derived.Below
import Derived.WalkKit
/-! Plain facts: decimal numerals, what zzItoa's buffer holds. No walk. -/
namespace Go.Proofs.Qxb6000062aDoor.pm
open Go Go.RowKit Go.Lib

theorem ownsRow_mono {w : World} {B B' : Nat} {e : TypeId} {size : Nat} {v : Value} {n : Nat} {xs : List Value} (h : w.ownsRow B e size v n xs) (hB : B' ≤ B) : w.ownsRow B' e size v n xs := by
  obtain ⟨h1, h2 | ⟨g, cap, cur, hv, hb, r⟩⟩ := h
  · exact ⟨h1, .inl h2⟩
  · exact ⟨h1, .inr ⟨g, cap, cur, hv, Nat.le_trans hB hb, r⟩⟩
theorem cellLater {w wx : World} {a : Addr} {v : Value} (hb : Below w.heap.size w wx) (h : w.cell? a = some v) : wx.cell? a = some v := (hb.cell (World.block_lt_of_cell? _ _ h)).trans h

theorem ret_val {a b : Value} (h : a = b) : Ending.returned a = .returned b := by rw [h]
theorem boolT {b : Bool} (h : b = true) : Value.bool b = .bool true := by rw [h]

theorem nDigits_le (k u : Nat) (hk : 1 ≤ k) (h : u < 10 ^ k) : nDigits u ≤ k := by
  induction k generalizing u with
  | zero => omega
  | succ k ih =>
    by_cases h10 : u < 10
    · rw [nDigits_small h10]; omega
    · have hk1 : 1 ≤ k := by
        rcases Nat.eq_zero_or_pos k with rfl | h'
        · simp at h; omega
        · exact h'
      rw [nDigits_big h10]
      have := ih (u / 10) hk1 (by rw [Nat.pow_succ] at h; omega)
      omega

theorem itoa_len (n : Int) (h0 : -9223372036854775808 ≤ n) (h1 : n ≤ 9223372036854775807) : 1 ≤ (itoa n).length ∧ (itoa n).length ≤ 20 := by
  by_cases hneg : n < 0
  · obtain ⟨u, rfl⟩ : ∃ u : Nat, n = -(u : Int) := ⟨n.natAbs, by omega⟩
    rw [itoa_neg u (by omega), List.length_cons, decDigits_length]
    have := nDigits_le 19 u (by decide) (by omega)
    omega
  · obtain ⟨u, rfl⟩ : ∃ u : Nat, n = u := ⟨n.toNat, by omega⟩
    rw [itoa_nonneg, decDigits_length]
    have := nDigits_le 19 u (by decide) (by omega)
    have := nDigits_pos u
    omega

/-- what zzItoa's buffer holds from pos on: the digits so far; u is what is left of u0 -/
def ItInv (u0 u pos : Nat) (cur : Array Value) : Prop :=
  cur.size = 24 ∧ pos ≤ 24 ∧ ∃ ds : List UInt8, cur.toList.drop pos = byteCells ds ∧ ((u = 0 ∧ decDigits u0 = ds) ∨ (u ≠ 0 ∧ decDigits u0 = decDigits u ++ ds))

theorem ItInv.start (u0 : Nat) (h : u0 ≠ 0) (cur : Array Value) (hs : cur.size = 24) : ItInv u0 u0 24 cur :=
  ⟨hs, Nat.le_refl _, [], by simp [byteCells, hs], .inr ⟨h, by simp⟩⟩

theorem ItInv.len {u0 u pos : Nat} {cur : Array Value} (h : ItInv u0 u pos cur) (hu : u0 < 18446744073709551616) : 4 ≤ pos ∧ (u ≠ 0 → 5 ≤ pos) := by
  obtain ⟨hs, hp, ds, hd, hc⟩ := h
  have hl : ds.length = 24 - pos := by
    have := congrArg List.length hd
    simp [byteCells, hs] at this
    omega
  have h20 := nDigits_le20 u0 hu
  rcases hc with ⟨rfl, e⟩ | ⟨h0, e⟩
  · have := congrArg List.length e
    rw [decDigits_length] at this
    exact ⟨by omega, fun h => absurd rfl h⟩
  · have := congrArg List.length e
    rw [decDigits_length, List.length_append, decDigits_length] at this
    have := nDigits_pos u
    exact ⟨by omega, fun _ => by omega⟩

theorem ItInv.step {u0 u pos : Nat} {cur : Array Value} (h : ItInv u0 u pos cur) (hu : u ≠ 0) (hp : 1 ≤ pos) : ItInv u0 (u / 10) (pos - 1) (cur.setIfInBounds (pos - 1) (.int .u8 (48 + (u : Int) % 10))) := by
  obtain ⟨hs, hp24, ds, hd, ⟨h0, _⟩ | ⟨_, e⟩⟩ := h
  · exact absurd h0 hu
  have hx : (Value.int .u8 (48 + (u : Int) % 10)) = .int .u8 (((UInt8.ofNat (48 + u % 10)).toNat : Nat) : Int) := by
    congr 1
    simp
    omega
  refine ⟨by simpa using hs, by omega, UInt8.ofNat (48 + u % 10) :: ds, ?_, ?_⟩
  · have hlt : pos - 1 < (cur.setIfInBounds (pos - 1) (.int .u8 (48 + (u : Int) % 10))).toList.length := by simp; omega
    rw [List.drop_eq_getElem_cons hlt, show pos - 1 + 1 = pos by omega]
    have e1 : (cur.setIfInBounds (pos - 1) (.int .u8 (48 + (u : Int) % 10))).toList.drop pos = cur.toList.drop pos := by
      rw [Array.toList_setIfInBounds, List.drop_set_of_lt (by omega)]
    rw [e1, hd]
    simp [byteCells, hx]
  · by_cases h10 : u < 10
    · left
      refine ⟨by omega, ?_⟩
      rw [e, decDigits_one h10, show u % 10 = u by omega]
      rfl
    · right
      refine ⟨by omega, ?_⟩
      rw [e, decDigits, dif_neg h10, List.append_assoc]
      rfl
end Go.Proofs.Qxb6000062aDoor.pm
