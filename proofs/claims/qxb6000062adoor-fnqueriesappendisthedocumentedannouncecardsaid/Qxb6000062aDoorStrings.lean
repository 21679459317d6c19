import Derived.Test.Qxb6000062aDoorClone
import Derived.Test.Qxb6000062aDoorQuery
/-! Slices of strings that came in: zzStringsBytes, the zzBytes guards, the clone as a list of hashes. -/
namespace Go.Proofs.Qxb6000062aDoor.pm
open Go Go.RowKit Go.Lib Go.Sort
set_option linter.unusedVariables false

/-- what the walk is told of a slice of strings that came in -/
def SRow (w : World) (a : Option Addr) (len cap : Nat) (ss : List ByteArray) : Prop :=
  (a = none ∧ len = 0 ∧ cap = 0 ∧ ss = []) ∨
  ∃ x, a = some x ∧ len ≤ cap ∧ ss.length = cap ∧ (∀ i, i < ss.length → w.cell? (x.add i) = some (.string (ss.getD i ByteArray.empty))) ∧ ∀ s ∈ ss, s.size ≤ maxLen

/-- it returned a bool -/
def IsBool (e : Ending) : Prop := ∃ r : Bool, e = .returned (.bool r)

theorem strs_at {w : World} {a : Addr} {ss : List ByteArray} (h : ∀ i, i < ss.length → w.cell? (a.add i) = some (.string (ss.getD i ByteArray.empty))) (hp : 0 < ss.length) :
    ∃ b off, a = ⟨b, off, none⟩ ∧ ∀ j, j < ss.length → w.cell? ⟨b, off + j, none⟩ = some (.string (ss.getD j ByteArray.empty)) := by
  obtain ⟨b, off, spot⟩ := a
  have hspot : spot = none := by simpa [Addr.add] using World.cell?_spot (h 0 hp)
  subst hspot
  exact ⟨b, off, rfl, fun j hj => by rw [← add_plain]; exact h j hj⟩

set_option maxHeartbeats 1600000 in
theorem zzStringsBytes_some (b off len cap : Nat) (ss : List ByteArray) (w : World) (hl : len ≤ ss.length) (hlen : len ≤ 65536)
    (hc : ∀ j, j < ss.length → w.cell? ⟨b, off + j, none⟩ = some (.string (ss.getD j ByteArray.empty))) (hm : ∀ j, j < ss.length → (ss.getD j ByteArray.empty).size ≤ 9223372036854775807) :
    Calls Tryd.prog 14 #[.slice (some ⟨b, off, none⟩) len cap] w fun e w' => ∃ r : Int, e = .returned (.int .i64 r) ∧ w = w' ∧ 0 ≤ r ∧ r ≤ 1048577 ∧ (r ≤ 1048576 → ∀ j, j < len → (ss.getD j ByteArray.empty).size ≤ 1048576) := by
  go_enter Tryd.func14, Tryd.ntmps14
  go_wp2
  go_loop [3, 4] (fun t i => ∃ (j : Nat) (T : Nat), j ≤ len ∧ i = .int .i64 j ∧ t = .int .i64 T ∧ T ≤ 1048576 ∧ ∀ l, l < j → (ss.getD l ByteArray.empty).size ≤ 1048576) (fun _ i => len - (RowKit.intOf i).toNat)
  case atStart => exact ⟨0, 16 * len, Nat.zero_le _, rfl, by go_num, by omega, fun l hl => by omega⟩
  case round =>
    obtain ⟨j, T, hj, rfl, rfl, hT, hA⟩ := hrel
    by_cases hlt : j < len
    · have hcx := hc j (by omega)
      have hmx := hm j (by omega)
      generalize hs : ss.getD j ByteArray.empty = s at hcx hmx
      have HS := Lib.hid hs
      clear hs hc hm
      by_cases hbig : (1048576 : Int) - T < s.size
      · go_wp2
        go_ret
        exact ⟨1048577, rfl, rfl, by decide, by decide, fun h => by omega⟩
      · go_wp2
        go_round
        case rel => exact ⟨j + 1, T + s.size, by omega, by go_num, by go_num, by omega, fun l hl => by
          by_cases e : l = j
          · subst e; rw [HS.out]; omega
          · exact hA l (by omega)⟩
        case measure => simp [RowKit.intOf]; omega
    · obtain rfl : j = len := by omega
      go_wp2
      go_ret
      exact ⟨T, rfl, rfl, by omega, by omega, fun _ => hA⟩

theorem zzStringsBytes_empty (a : Option Addr) (cap : Nat) (w : World) :
    Calls Tryd.prog 14 #[.slice a 0 cap] w fun e w' => e = .returned (.int .i64 0) ∧ w = w' := by
  go_enter Tryd.func14, Tryd.ntmps14
  go_wp2
  refine wp_loop_rounds 1 ?_
  rw [rounds_succ]
  go_wp2
  go_ret
  exact ⟨rfl, rfl⟩

set_option maxHeartbeats 1600000 in
theorem zzBytes23_some (b off len cap : Nat) (ss : List ByteArray) (x y z : Int) (w : World) (hl : len ≤ ss.length) (hlen : len ≤ 9223372036854775807)
    (hc : ∀ j, j < ss.length → w.cell? ⟨b, off + j, none⟩ = some (.string (ss.getD j ByteArray.empty))) (hm : ∀ j, j < ss.length → (ss.getD j ByteArray.empty).size ≤ 9223372036854775807) :
    Calls Tryd.prog 23 #[.int .i64 x, .int .i64 y, .slice (some ⟨b, off, none⟩) len cap, .int .i64 z] w fun e w' => IsBool e ∧ w = w' := by
  by_cases h1 : len ≤ 1048576
  · go_enter Tryd.func23, Tryd.ntmps23
    go_wp2
    go_loop [9, 10] (fun t i => ∃ (j : Nat) (T : Nat), j ≤ len ∧ i = .int .i64 j ∧ t = .int .i64 T ∧ T ≤ 1048576) (fun _ i => len - (RowKit.intOf i).toNat)
    case atStart => exact ⟨0, len, Nat.zero_le _, rfl, by go_num, by omega⟩
    case round =>
      obtain ⟨j, T, hj, rfl, rfl, hT⟩ := hrel
      by_cases hlt : j < len
      · have hcx := hc j (by omega)
        have hmx := hm j (by omega)
        generalize ss.getD j ByteArray.empty = s at hcx hmx
        clear hc hm
        by_cases hb1 : (1048576 : Int) < s.size
        · go_wp2
          go_ret
          exact ⟨⟨false, rfl⟩, rfl⟩
        · by_cases hb2 : (1048576 : Int) < (T : Int) + s.size
          · go_wp2
            go_ret
            exact ⟨⟨false, rfl⟩, rfl⟩
          · go_wp2
            go_round
            case rel => exact ⟨j + 1, T + s.size, by omega, by go_num, by go_num, by omega⟩
            case measure => simp [RowKit.intOf]; omega
      · go_wp2
        go_ret
        exact ⟨⟨true, rfl⟩, rfl⟩
  · go_enter Tryd.func23, Tryd.ntmps23
    go_wp2
    go_ret
    exact ⟨⟨false, rfl⟩, rfl⟩

theorem zzBytes23_empty (a : Option Addr) (cap : Nat) (x y z : Int) (w : World) :
    Calls Tryd.prog 23 #[.int .i64 x, .int .i64 y, .slice a 0 cap, .int .i64 z] w fun e w' => IsBool e ∧ w = w' := by
  go_enter Tryd.func23, Tryd.ntmps23
  go_wp2
  refine wp_loop_rounds 1 ?_
  rw [rounds_succ]
  go_wp2
  go_ret
  exact ⟨⟨true, rfl⟩, rfl⟩

/-- both guards at once, whatever the slice -/
theorem SRow.cases {w : World} {a : Option Addr} {len cap : Nat} {ss : List ByteArray} (h : SRow w a len cap ss) :
    len = 0 ∨ ∃ b off, a = some ⟨b, off, none⟩ ∧ len ≤ ss.length ∧ (∀ j, j < ss.length → w.cell? ⟨b, off + j, none⟩ = some (.string (ss.getD j ByteArray.empty))) ∧ ∀ j, j < ss.length → (ss.getD j ByteArray.empty).size ≤ 9223372036854775807 := by
  rcases h with ⟨_, h, _⟩ | ⟨x, rfl, h1, h2, h3, h4⟩
  · exact .inl h
  · by_cases h0 : len = 0
    · exact .inl h0
    · obtain ⟨b, off, rfl, h5⟩ := strs_at h3 (by omega)
      refine .inr ⟨b, off, rfl, by omega, h5, fun j hj => ?_⟩
      have := h4 (ss.getD j ByteArray.empty) (by simp [List.getD, hj])
      unfold maxLen at this; omega

theorem zzBytes23_any (a : Option Addr) (len cap : Nat) (ss : List ByteArray) (x y z : Int) (w : World) (h : SRow w a len cap ss) (hlen : len ≤ 9223372036854775807) :
    Calls Tryd.prog 23 #[.int .i64 x, .int .i64 y, .slice a len cap, .int .i64 z] w fun e w' => IsBool e ∧ w = w' := by
  rcases h.cases with rfl | ⟨b, off, rfl, h1, h2, h3⟩
  · exact zzBytes23_empty a cap x y z w
  · exact zzBytes23_some b off len cap ss x y z w h1 hlen h2 h3

theorem zzStringsBytes_any (a : Option Addr) (len cap : Nat) (ss : List ByteArray) (w : World) (h : SRow w a len cap ss) (hlen : len ≤ 65536) :
    Calls Tryd.prog 14 #[.slice a len cap] w fun e w' => ∃ r : Int, e = .returned (.int .i64 r) ∧ w = w' ∧ 0 ≤ r ∧ r ≤ 1048577 ∧ (r ≤ 1048576 → ∀ j, j < len → (ss.getD j ByteArray.empty).size ≤ 1048576) := by
  rcases h.cases with rfl | ⟨b, off, rfl, h1, h2, h3⟩
  · refine (zzStringsBytes_empty a cap w).mono ?_
    rintro e w' ⟨rfl, rfl⟩
    exact ⟨0, rfl, rfl, by decide, by decide, fun _ j hj => by omega⟩
  · exact zzStringsBytes_some b off len cap ss w h1 hlen h2 h3

/-- the clone of a list of strings, as queries.append is told of it -/
theorem cloneStrings_any (a : Option Addr) (len cap : Nat) (ss : List ByteArray) (w : World) (h : SRow w a len cap ss) (hp : 1 ≤ len) (hlen : len ≤ 1048576) :
    Calls Tryd.prog 16 #[.slice a len cap] w fun e w' => e = .returned (.slice (some ⟨w.heap.size, 0, none⟩) len len) ∧ Below w.heap.size w w' ∧ ∀ t, t < len → Hashes w' w.heap.size len t (ss.getD t ByteArray.empty) := by
  rcases h.cases with rfl | ⟨b, off, rfl, h1, h2, h3⟩
  · omega
  have hE : Elems w (some ⟨b, off, none⟩) len ((ss.take len).map .string) := by
    have hl : (ss.take len).length = len := by simp; omega
    refine And.intro (fun h => by cases h) (And.intro (by simpa using hl) (And.intro (fun y hy j u hj => ?_) (fun u hu => ?_)))
    · cases hy
      have hj1 : j < len := by
        have := (List.getElem?_eq_some_iff.1 hj).1
        simp at this; omega
      rw [add_plain, h2 j (by omega), ← hj]
      simp [hj1, List.getD, show j < ss.length by omega]
    · simp only [List.mem_map] at hu
      obtain ⟨s, _, rfl⟩ := hu
      rfl
  refine (cloneStrings_some ⟨b, off, none⟩ len cap _ w hE hlen).mono ?_
  rintro e w' ⟨rfl, hb, ho⟩
  refine ⟨rfl, hb, fun t ht => ?_⟩
  rcases ho.2 with ⟨hv, _⟩ | ⟨g', cap', cur, hv, _, hg, _, _, _, htk⟩
  · cases hv
  · cases hv
    refine ⟨cur, hg, ?_, ht⟩
    have h5 := congrArg (·[t]?) htk
    simp only [Nat.mul_one, List.getElem?_take, ht, if_true, Array.getElem?_toList] at h5
    rw [h5]
    simp [ht, List.getD, show t < ss.length by omega]
end Go.Proofs.Qxb6000062aDoor.pm
