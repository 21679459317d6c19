import Derived.Test.Qxb6000062aDoorItoa
import Derived.Test.Qxb6000062aDoorClone
import Derived.Deep.QuietTactic
import Derived.BigQuiet
/-! FnAppendPaddedIsZeroFilledDecimal returns true: the walk. -/
namespace Go.Proofs.Qxb6000062aDoor.pm
open Go Go.RowKit Go.Lib Go.Sort
set_option linter.unusedVariables false

theorem zzBytes8 (a : Option Addr) (len cap : Nat) (n width : Int) (w : World) (hl : len ≤ 9223372036854775807) :
    Calls Tryd.prog 8 #[.slice a len cap, .int .i64 n, .int .i64 width] w fun e w' => e = .returned (.bool (decide (len ≤ 1048576))) ∧ w = w' := by
  by_cases h : len ≤ 1048576
  · go_enter Tryd.func8, Tryd.ntmps8
    go_wp2
    go_ret
    exact ⟨by simp [h], rfl⟩
  · go_enter Tryd.func8, Tryd.ntmps8
    go_wp2
    go_ret
    exact ⟨by simp [h], rfl⟩

/-- the decimal text as a Go string -/
def textOf (n : Int) : ByteArray := ⟨(itoa n).toArray⟩
theorem textOf_size (n : Int) : (textOf n).size = (itoa n).length := by simp [textOf, ByteArray.size]
theorem strCells_textOf (n : Int) : strCells (textOf n) = byteCells (itoa n) := rfl

theorem got_cells {w : World} {B m p : Nat} {v : Value} {zs : List Int} {s : ByteArray} (hz : zs.length = m) (hs : 1 ≤ s.size)
    (h : w.ownsRow B 5 1 v (m + p + s.size) (zs.map (.int .u8) ++ List.replicate p (.int .u8 48) ++ strCells s)) :
    ∃ g c, v = .slice (some ⟨g, 0, none⟩) (m + p + s.size) c ∧ (∀ j, j < m → w.cell? ⟨g, j, none⟩ = some (.int .u8 (zs.getD j 0))) ∧ (∀ j, j < p → w.cell? ⟨g, m + j, none⟩ = some (.int .u8 48)) ∧
      ∀ j (hj : j < s.size), w.cell? ⟨g, m + p + j, none⟩ = some (.int .u8 (s[j].toNat : Int)) := by
  rcases h.2 with ⟨_, h2⟩ | ⟨g, cap, cur, rfl, _⟩
  · omega
  · refine ⟨g, cap, rfl, fun j hj => ?_, fun j hj => ?_, fun j hj => ?_⟩
    · rw [h.cellAt j (by omega), List.append_assoc, List.getElem?_append_left (by simp; omega)]
      simp [List.getD, show j < zs.length by omega]
    · rw [h.cellAt (m + j) (by omega), List.append_assoc, List.getElem?_append_right (by simp; omega), List.getElem?_append_left (by simp; omega), List.getElem?_replicate]
      simp; omega
    · rw [h.cellAt (m + p + j) (by omega), List.getElem?_append_right (by simp; omega)]
      have e : m + p + j - (List.map (Value.int IntKind.u8) zs ++ List.replicate p (Value.int IntKind.u8 48)).length = j := by simp; omega
      rw [e]
      have hj' : j < s.data.size := hj
      have e2 : (strCells s)[j]? = some (.int .u8 ((s.data[j]'hj').toNat : Int)) := by
        unfold strCells
        rw [List.getElem?_map, Array.getElem?_toList, Array.getElem?_eq_getElem hj']
        rfl
      exact e2

theorem full_cells {w : World} {B m g : Nat} {zs : List Int} (h : Full w B (some ⟨g, 0, none⟩) m (zs.map (.int .u8))) (hz : zs.length = m) : ∀ j, j < m → w.cell? ⟨g, j, none⟩ = some (.int .u8 (zs.getD j 0)) := fun j hj => by
  have := (h.2.2 _ rfl).2 j (.int .u8 (zs.getD j 0)) (by simp [List.getD, show j < zs.length by omega])
  rwa [add_plain, Nat.zero_add] at this

theorem elems_of_full {w : World} {B m : Nat} {a : Option Addr} {zs : List Int} (h : Full w B a m (zs.map (.int .u8))) : Elems w a m (zs.map (.int .u8)) :=
  And.intro h.1 (And.intro h.2.1 (And.intro (fun x hx => (h.2.2 x hx).2) (ints_oneCell _ _)))

theorem Full.later {w w' : World} {a : Option Addr} {n : Nat} {xs : List Value} (h : Full w w.heap.size a n xs) (hb : Below w.heap.size w w') : Full w' w'.heap.size a n xs :=
  And.intro h.1 (And.intro h.2.1 (fun b hb' => And.intro (Nat.lt_of_lt_of_le (h.2.2 b hb').1 hb.size) (fun j u hj => cellLater hb ((h.2.2 b hb').2 j u hj))))

set_option maxHeartbeats 6400000 in
theorem law3_core (a : Option Addr) (m cap : Nat) (zs : List Int) (n width : Int) (h0 : -9223372036854775808 ≤ n) (h1 : n ≤ 9223372036854775807) (hw0 : -65536 ≤ width) (hw1 : width ≤ 65536) (w : World)
    (hc : a = none → cap = 0) (hz : zs.length = m) (hE : Elems w a m (zs.map (.int .u8))) (hm : m ≤ 1048576) (htab : TabIs Tryd.prog w tabName .u64 pow10Tab) :
    Calls Tryd.prog 3 #[.slice a m cap, .int .i64 n, .int .i64 width] w fun e w' => e = .returned (.bool true) ∧ Below w.heap.size w w' := by
  have hT := tabBelow_of_tabIs htab
  have hsz := itoa_len n h0 h1
  rw [← textOf_size] at hsz
  obtain ⟨hs1, hs2⟩ := hsz
  have HPAD : Hid (∀ B v k xs w, Ok w B v k xs → B ≤ w.heap.size → k ≤ 4194304 → TabBelow Tryd.prog B w tabName .u64 pow10Tab → Calls Tryd.prog 10 #[v, .int .i64 n, .int .i64 width] w fun e w' => ∃ v', e = .returned v' ∧ Kept B w w' ∧
      w'.ownsRow B 5 1 v' (k + padN width (textOf n).size + (textOf n).size) (xs ++ List.replicate (padN width (textOf n).size) (.int .u8 48) ++ strCells (textOf n))) := by
    intro B v k xs w hok hB hk hT
    rw [textOf_size]
    exact zzAppendPadded_any B v k xs n width h0 h1 hw0 hw1 w hok hB hk hT
  have HIT : Hid (∀ w, Calls Tryd.prog 11 #[.int .i64 n] w fun e w' => e = .returned (.string (textOf n)) ∧ Below w.heap.size w w') := fun w => zzItoa_any n h0 h1 w
  generalize textOf n = s at hs1 hs2 HPAD HIT
  obtain ⟨p, hp⟩ : ∃ p, p = padN width s.size := ⟨_, rfl⟩
  rw [← hp] at HPAD
  have hp1 : p ≤ 65536 := by unfold padN at hp; omega
  have HP := Lib.hid hp
  clear hp htab
  go_enter Tryd.func3, Tryd.ntmps3
  go_wp2_with (first | (go_at_call 8; refine (zzBytes8 _ _ _ _ _ _ (by omega)).mono ?_; rintro e w' ⟨rfl, rfl⟩))
  go_at_call 9
  refine (cloneBytes_any a m cap _ w hc hE hm).mono ?_
  rintro e w1 ⟨hb1, a1, rfl, hf1, hi1, ho1⟩
  go_wp2_with fail
  go_at_call 9
  refine (cloneBytes_any a1 m m _ w1 (fun h => hf1.1 h) (elems_of_full hf1) hm).mono ?_
  rintro e w2 ⟨hb2, a2, rfl, hf2, hi2, ho2⟩
  have hb2' : Below w.heap.size w w2 := hb1.trans (hb2.mono hb1.size)
  have hok : Ok w2 w2.heap.size (.slice a1 m m) m (zs.map (.int .u8)) := .inr ⟨a1, rfl, hf1.later hb2⟩
  go_wp2_with fail
  go_at_call 10
  refine (HPAD.out _ _ _ _ _ hok (Nat.le_refl _) (by omega) (TabBelow.mono (hT.on hb2') hb2'.size)).mono ?_
  rintro e w3 ⟨v3, rfl, hk3, ho3⟩
  obtain ⟨g, c, rfl, hg1, hg2, hg3⟩ := got_cells hz hs1 ho3
  have hb3' : Below w.heap.size w w3 := hb2'.trans (hk3.1.mono hb2'.size)
  have hf3 := hf2.later hk3.1
  clear ho3 hok hf1 hf2 hE HPAD
  go_wp2_with fail
  go_at_call 11
  refine (HIT.out _).mono ?_
  rintro e w4 ⟨rfl, hb4⟩
  have hb4' : Below w.heap.size w w4 := hb3'.trans (hb4.mono hb3'.size)
  have hf4 := hf3.later hb4
  have hg1' := fun j hj => cellLater hb4 (hg1 j hj)
  have hg2' := fun j hj => cellLater hb4 (hg2 j hj)
  have hg3' := fun j hj => cellLater hb4 (hg3 j hj)
  have hcase : (a2 = none ∧ m ≤ 0) ∨ (a2 = some ⟨w1.heap.size, 0, none⟩ ∧ ∀ j, j < m → w4.cell? ⟨w1.heap.size, j, none⟩ = some (.int .u8 (zs.getD j 0))) := by
    rcases ho2 with rfl | rfl
    · exact .inl ⟨rfl, by have := hf4.1 rfl; omega⟩
    · exact .inr ⟨rfl, full_cells hf4 hz⟩
  clear hg1 hg2 hg3 hf3 hf4 HIT hi1 hi2 ho1 ho2
  generalize w1.heap.size = g1 at hcase
  by_cases hneg : width - (s.size : Int) < 0
  · have e0 : p = 0 := by have := HP.out; unfold padN at this; omega
    subst e0
    clear HP hp1 hg2'
    simp only [Nat.add_zero] at hg3'
    rcases hcase with ⟨rfl, hm0⟩ | ⟨rfl, ho⟩
    · have ho : True := trivial
      go_wp2
      all_goals
        go_loopw [11] (fun i wr => ∃ j : Nat, j ≤ m ∧ i = .int .i64 j ∧ Below w4.heap.size w4 wr) (fun i _ => m - (RowKit.intOf i).toNat)
        case atStart => exact ⟨0, Nat.zero_le _, rfl, Below.refl _ _⟩
        case round =>
          obtain ⟨j, hj, rfl, hbr⟩ := hrel
          by_cases hlt : j < m
          · first
            | (exfalso; omega)
            | (have hc1 := cellLater hbr (hg1' j hlt)
               have hc2 := cellLater hbr (ho j hlt)
               clear hg1' hg3' ho
               go_wp2_with fail
               go_quiet (fail)
               go_wp2
               go_roundw
               case rel => exact ⟨j + 1, by omega, by go_num, below_drewN hbr _⟩
               case measure => simp [RowKit.intOf]; omega)
          · go_wp2
            refine wp_loop_rounds 1 ?_
            rw [rounds_succ]
            go_wp2
            go_loopw [13] (fun i wx => ∃ l : Nat, l ≤ s.size ∧ i = .int .i64 l ∧ Below wr.heap.size wr wx) (fun i _ => s.size - (RowKit.intOf i).toNat)
            case atStart => exact ⟨0, Nat.zero_le _, rfl, Below.refl _ _⟩
            case round =>
              obtain ⟨l, hl, rfl, hbx⟩ := hrel
              by_cases hll : l < s.size
              · have hc1 := cellLater hbx (cellLater hbr (hg3' l hll))
                clear hg1' hg3' ho
                go_wp2_with fail
                go_quiet (fail)
                go_wp2
                go_roundw
                case rel => exact ⟨l + 1, by omega, by go_num, below_drewN hbx _⟩
                case measure => simp [RowKit.intOf]; omega
              · go_wp2
                go_ret
                exact ⟨rfl, hb4'.trans ((hbr.trans (hbx.mono hbr.size)).mono hb4'.size)⟩
    · go_wp2
      all_goals
        go_loopw [11] (fun i wr => ∃ j : Nat, j ≤ m ∧ i = .int .i64 j ∧ Below w4.heap.size w4 wr) (fun i _ => m - (RowKit.intOf i).toNat)
        case atStart => exact ⟨0, Nat.zero_le _, rfl, Below.refl _ _⟩
        case round =>
          obtain ⟨j, hj, rfl, hbr⟩ := hrel
          by_cases hlt : j < m
          · first
            | (exfalso; omega)
            | (have hc1 := cellLater hbr (hg1' j hlt)
               have hc2 := cellLater hbr (ho j hlt)
               clear hg1' hg3' ho
               go_wp2_with fail
               go_quiet (fail)
               go_wp2
               go_roundw
               case rel => exact ⟨j + 1, by omega, by go_num, below_drewN hbr _⟩
               case measure => simp [RowKit.intOf]; omega)
          · go_wp2
            refine wp_loop_rounds 1 ?_
            rw [rounds_succ]
            go_wp2
            go_loopw [13] (fun i wx => ∃ l : Nat, l ≤ s.size ∧ i = .int .i64 l ∧ Below wr.heap.size wr wx) (fun i _ => s.size - (RowKit.intOf i).toNat)
            case atStart => exact ⟨0, Nat.zero_le _, rfl, Below.refl _ _⟩
            case round =>
              obtain ⟨l, hl, rfl, hbx⟩ := hrel
              by_cases hll : l < s.size
              · have hc1 := cellLater hbx (cellLater hbr (hg3' l hll))
                clear hg1' hg3' ho
                go_wp2_with fail
                go_quiet (fail)
                go_wp2
                go_roundw
                case rel => exact ⟨l + 1, by omega, by go_num, below_drewN hbx _⟩
                case measure => simp [RowKit.intOf]; omega
              · go_wp2
                go_ret
                exact ⟨rfl, hb4'.trans ((hbr.trans (hbx.mono hbr.size)).mono hb4'.size)⟩
  · have hq1 : (p : Int) ≤ width - s.size := by have := HP.out; unfold padN at this; omega
    have hq2 : width - s.size ≤ (p : Int) := by have := HP.out; unfold padN at this; omega
    have hq3 := show width - (s.size : Int) = (p : Int) from by omega
    have HQ := Lib.hid hq3
    clear HP hq3
    rcases hcase with ⟨rfl, hm0⟩ | ⟨rfl, ho⟩
    · have ho : True := trivial
      go_wp2
      rw [HQ.out]
      clear HQ hq1 hq2 hneg
      all_goals
        go_loopw [11] (fun i wr => ∃ j : Nat, j ≤ m ∧ i = .int .i64 j ∧ Below w4.heap.size w4 wr) (fun i _ => m - (RowKit.intOf i).toNat)
        case atStart => exact ⟨0, Nat.zero_le _, rfl, Below.refl _ _⟩
        case round =>
          obtain ⟨j, hj, rfl, hbr⟩ := hrel
          by_cases hlt : j < m
          · first
            | (exfalso; omega)
            | (have hc1 := cellLater hbr (hg1' j hlt)
               have hc2 := cellLater hbr (ho j hlt)
               clear hg1' hg2' hg3' ho
               go_wp2_with fail
               go_quiet (fail)
               go_wp2
               go_roundw
               case rel => exact ⟨j + 1, by omega, by go_num, below_drewN hbr _⟩
               case measure => simp [RowKit.intOf]; omega)
          · go_wp2
            go_loop [12] (fun i => ∃ j : Nat, j ≤ p ∧ i = .int .i64 j) (fun i => p - (RowKit.intOf i).toNat)
            case atStart => exact ⟨0, Nat.zero_le _, rfl⟩
            case round =>
              obtain ⟨q, hq, rfl⟩ := hrel
              by_cases hlq : q < p
              · have hc1 := cellLater hbr (hg2' q hlq)
                clear hg1' hg2' hg3' ho
                go_wp2
                go_round
                case rel => exact ⟨q + 1, by omega, by go_num⟩
                case measure => simp [RowKit.intOf]; omega
              · go_wp2
                go_loopw [13] (fun i wx => ∃ l : Nat, l ≤ s.size ∧ i = .int .i64 l ∧ Below wr.heap.size wr wx) (fun i _ => s.size - (RowKit.intOf i).toNat)
                case atStart => exact ⟨0, Nat.zero_le _, rfl, Below.refl _ _⟩
                case round =>
                  obtain ⟨l, hl, rfl, hbx⟩ := hrel
                  by_cases hll : l < s.size
                  · have hc1 := cellLater hbx (cellLater hbr (hg3' l hll))
                    clear hg1' hg2' hg3' ho
                    go_wp2_with fail
                    go_quiet (fail)
                    go_wp2
                    go_roundw
                    case rel => exact ⟨l + 1, by omega, by go_num, below_drewN hbx _⟩
                    case measure => simp [RowKit.intOf]; omega
                  · go_wp2
                    go_ret
                    exact ⟨rfl, hb4'.trans ((hbr.trans (hbx.mono hbr.size)).mono hb4'.size)⟩
    · go_wp2
      rw [HQ.out]
      clear HQ hq1 hq2 hneg
      all_goals
        go_loopw [11] (fun i wr => ∃ j : Nat, j ≤ m ∧ i = .int .i64 j ∧ Below w4.heap.size w4 wr) (fun i _ => m - (RowKit.intOf i).toNat)
        case atStart => exact ⟨0, Nat.zero_le _, rfl, Below.refl _ _⟩
        case round =>
          obtain ⟨j, hj, rfl, hbr⟩ := hrel
          by_cases hlt : j < m
          · first
            | (exfalso; omega)
            | (have hc1 := cellLater hbr (hg1' j hlt)
               have hc2 := cellLater hbr (ho j hlt)
               clear hg1' hg2' hg3' ho
               go_wp2_with fail
               go_quiet (fail)
               go_wp2
               go_roundw
               case rel => exact ⟨j + 1, by omega, by go_num, below_drewN hbr _⟩
               case measure => simp [RowKit.intOf]; omega)
          · go_wp2
            go_loop [12] (fun i => ∃ j : Nat, j ≤ p ∧ i = .int .i64 j) (fun i => p - (RowKit.intOf i).toNat)
            case atStart => exact ⟨0, Nat.zero_le _, rfl⟩
            case round =>
              obtain ⟨q, hq, rfl⟩ := hrel
              by_cases hlq : q < p
              · have hc1 := cellLater hbr (hg2' q hlq)
                clear hg1' hg2' hg3' ho
                go_wp2
                go_round
                case rel => exact ⟨q + 1, by omega, by go_num⟩
                case measure => simp [RowKit.intOf]; omega
              · go_wp2
                go_loopw [13] (fun i wx => ∃ l : Nat, l ≤ s.size ∧ i = .int .i64 l ∧ Below wr.heap.size wr wx) (fun i _ => s.size - (RowKit.intOf i).toNat)
                case atStart => exact ⟨0, Nat.zero_le _, rfl, Below.refl _ _⟩
                case round =>
                  obtain ⟨l, hl, rfl, hbx⟩ := hrel
                  by_cases hll : l < s.size
                  · have hc1 := cellLater hbx (cellLater hbr (hg3' l hll))
                    clear hg1' hg2' hg3' ho
                    go_wp2_with fail
                    go_quiet (fail)
                    go_wp2
                    go_roundw
                    case rel => exact ⟨l + 1, by omega, by go_num, below_drewN hbx _⟩
                    case measure => simp [RowKit.intOf]; omega
                  · go_wp2
                    go_ret
                    exact ⟨rfl, hb4'.trans ((hbr.trans (hbx.mono hbr.size)).mono hb4'.size)⟩

/-- what the walk is told of a slice of bytes that came in -/
def Row (w : World) (a : Option Addr) (len cap : Nat) (zs : List Int) : Prop :=
  (a = none ∧ len = 0 ∧ cap = 0 ∧ zs = []) ∨
  ∃ x, a = some x ∧ len ≤ cap ∧ zs.length = cap ∧ (∀ i, i < zs.length → w.cell? (x.add i) = some (.int .u8 (zs.getD i 0)))

theorem Row.elems {w : World} {a : Option Addr} {len cap : Nat} {zs : List Int} (h : Row w a len cap zs) : (a = none → cap = 0) ∧ (zs.take len).length = len ∧ Elems w a len ((zs.take len).map (.int .u8)) := by
  rcases h with ⟨rfl, rfl, rfl, rfl⟩ | ⟨x, rfl, h1, h2, h3⟩
  · exact ⟨fun _ => rfl, rfl, And.intro (fun _ => rfl) (And.intro rfl (And.intro (fun x hx => by cases hx) (fun u hu => by simp at hu)))⟩
  · have hl : (zs.take len).length = len := by simp; omega
    refine ⟨fun h => by (cases h), hl, And.intro (fun h => by cases h) (And.intro (by simpa using hl) (And.intro (fun y hy j u hj => ?_) (ints_oneCell _ _)))⟩
    cases hy
    have hj1 : j < len := by
      have := (List.getElem?_eq_some_iff.1 hj).1
      simp at this; omega
    rw [h3 j (by omega), ← hj]
    simp [hj1, List.getD, show j < zs.length by omega]

theorem law3 (a : Option Addr) (len cap : Nat) (zs : List Int) (n width : Int) (w : World)
    (hR : Row w a len cap zs) (hL : len ≤ 9223372036854775807) (h0 : -9223372036854775808 ≤ n) (h1 : n ≤ 9223372036854775807) (_ : -9223372036854775808 ≤ width) (_ : width ≤ 9223372036854775807) (htab : TabIs Tryd.prog w tabName .u64 pow10Tab) :
    Calls Tryd.prog 3 #[.slice a len cap, .int .i64 n, .int .i64 width] w fun e w' => e = .returned (.bool true) ∧ Below w.heap.size w w' := by
  by_cases hl : len ≤ 1048576
  · by_cases hw0 : width < -65536
    · go_enter Tryd.func3, Tryd.ntmps3
      go_wp2_with (first | (go_at_call 8; refine (zzBytes8 _ _ _ _ _ _ hL).mono ?_; rintro e w' ⟨rfl, rfl⟩))
      go_ret
      exact ⟨rfl, Below.refl _ _⟩
    by_cases hw1 : 65536 < width
    · go_enter Tryd.func3, Tryd.ntmps3
      go_wp2_with (first | (go_at_call 8; refine (zzBytes8 _ _ _ _ _ _ hL).mono ?_; rintro e w' ⟨rfl, rfl⟩))
      go_ret
      exact ⟨rfl, Below.refl _ _⟩
    obtain ⟨e1, e2, e3⟩ := hR.elems
    exact law3_core a len cap (zs.take len) n width h0 h1 (by omega) (by omega) w e1 e2 e3 hl htab
  · go_enter Tryd.func3, Tryd.ntmps3
    go_wp2_with (first | (go_at_call 8; refine (zzBytes8 _ _ _ _ _ _ hL).mono ?_; rintro e w' ⟨rfl, rfl⟩))
    go_ret
    exact ⟨rfl, Below.refl _ _⟩
end Go.Proofs.Qxb6000062aDoor.pm
