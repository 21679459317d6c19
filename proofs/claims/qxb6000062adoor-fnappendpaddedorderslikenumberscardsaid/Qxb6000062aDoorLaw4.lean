import Derived.Test.Qxb6000062aDoorItoa
import Derived.Test.Qxb6000062aDoorOrder
import Derived.Deep.QuietTactic
import Derived.BigQuiet
/-! zzCompare; FnAppendPaddedOrdersLikeNumbers returns true: the walks. -/
namespace Go.Proofs.Qxb6000062aDoor.pm
open Go Go.RowKit Go.Lib Go.Sort
set_option linter.unusedVariables false

theorem int_eq {k : IntKind} {a b : Int} (h : b = a) : Value.int k a = .int k b := by rw [h]

set_option maxHeartbeats 3200000 in
theorem zzCompare_any (ga gb n ca cb : Nat) (A B : List UInt8) (hA : A.length = n) (hB : B.length = n) (hn : n ≤ 4194304) (w : World)
    (ha : ∀ j (hj : j < A.length), w.cell? ⟨ga, j, none⟩ = some (.int .u8 (A[j].toNat : Int))) (hb : ∀ j (hj : j < B.length), w.cell? ⟨gb, j, none⟩ = some (.int .u8 (B[j].toNat : Int))) :
    Calls Tryd.prog 12 #[.slice (some ⟨ga, 0, none⟩) n ca, .slice (some ⟨gb, 0, none⟩) n cb] w fun e w' => e = .returned (.int .i64 (cmpL A B)) ∧ Below w.heap.size w w' := by
  go_enter Tryd.func12, Tryd.ntmps12
  go_wp2
  go_loopw [6] (fun i wr => ∃ j : Nat, j ≤ n ∧ i = .int .i64 j ∧ Below w.heap.size w wr ∧ cmpL A B = cmpL (A.drop j) (B.drop j)) (fun i _ => n - (RowKit.intOf i).toNat)
  case atStart => exact ⟨0, Nat.zero_le _, rfl, Below.refl _ _, rfl⟩
  case round =>
    obtain ⟨j, hj, rfl, hbel, hc⟩ := hrel
    by_cases hlt : j < n
    · have h1 := cellLater hbel (ha j (by omega))
      have h2 := cellLater hbel (hb j (by omega))
      rw [cmpL_drop A B j (by omega) (by omega)] at hc
      have HC := Lib.hid hc
      clear hc ha hb
      go_wp2_with fail
      go_quiet (fail)
      go_wp2
      · have hlt1 : A[j].toNat < B[j].toNat := by assumption
        go_ret
        exact ⟨ret_val (int_eq (by rw [HC.out, if_pos hlt1])), below_drewN hbel _⟩
      · have hge1 : ¬ A[j].toNat < B[j].toNat := by assumption
        go_quiet (fail)
        go_wp2
        · have hlt2 : B[j].toNat < A[j].toNat := by assumption
          go_ret
          exact ⟨ret_val (int_eq (by rw [HC.out, if_neg hge1, if_pos hlt2])), below_drewN (below_drewN hbel _) _⟩
        · have hge2 : ¬ B[j].toNat < A[j].toNat := by assumption
          go_roundw
          case rel => exact ⟨j + 1, by omega, by go_num, by first | exact below_drewN hbel _ | exact below_drewN (below_drewN hbel _) _, by rw [HC.out, if_neg hge1, if_neg hge2]⟩
          case measure => simp [RowKit.intOf]; omega
    · obtain rfl : j = n := by omega
      go_wp2
      go_ret
      refine ⟨ret_val (int_eq ?_), hbel⟩
      rw [hc, List.drop_of_length_le (by omega), List.drop_of_length_le (by omega)]
      rfl

theorem cells_of_own {w : World} {B n : Nat} {v : Value} {l : List UInt8} (h1 : 1 ≤ n) (h : w.ownsRow B 5 1 v n (byteCells l)) :
    ∃ g c, v = .slice (some ⟨g, 0, none⟩) n c ∧ B ≤ g ∧ l.length = n ∧ ∀ j (hj : j < l.length), w.cell? ⟨g, j, none⟩ = some (.int .u8 (l[j].toNat : Int)) := by
  have hl : l.length = n := by have := h.1; rw [byteCells_length] at this; omega
  rcases h.2 with ⟨_, h2⟩ | ⟨g, cap, cur, rfl, hB, _⟩
  · omega
  · refine ⟨g, cap, rfl, hB, hl, fun j hj => ?_⟩
    rw [h.cellAt j (by omega)]
    simp [byteCells, hj]

theorem padded_cells (W : Nat) (u : Nat) : List.replicate (padN (W : Int) (itoa (u : Int)).length) (Value.int .u8 48) ++ byteCells (itoa (u : Int)) = byteCells (List.replicate (W - nDigits u) 48 ++ decDigits u) := by
  rw [itoa_nonneg, decDigits_length, show padN (W : Int) (nDigits u) = W - nDigits u by unfold padN; omega]
  simp [byteCells]

set_option maxHeartbeats 3200000 in
theorem law4 (n m width : Int) (hn0 : -9223372036854775808 ≤ n) (hn1 : n ≤ 9223372036854775807) (hm0 : -9223372036854775808 ≤ m) (hm1 : m ≤ 9223372036854775807) (hw0 : -9223372036854775808 ≤ width) (hw1 : width ≤ 9223372036854775807) (w : World)
    (htab : TabIs Tryd.prog w tabName .u64 pow10Tab) :
    Calls Tryd.prog 4 #[.int .i64 n, .int .i64 m, .int .i64 width] w fun e w' => e = .returned (.bool true) ∧ Below w.heap.size w w' := by
  by_cases h1 : 65536 < width
  · go_enter Tryd.func4, Tryd.ntmps4
    go_wp2
    go_ret
    exact ⟨rfl, Below.refl _ _⟩
  by_cases h2 : n < 0
  · go_enter Tryd.func4, Tryd.ntmps4
    go_wp2
    go_ret
    exact ⟨rfl, Below.refl _ _⟩
  by_cases h3 : m < 0
  · go_enter Tryd.func4, Tryd.ntmps4
    go_wp2
    go_ret
    exact ⟨rfl, Below.refl _ _⟩
  have hT := tabBelow_of_tabIs htab
  have ln := itoa_len n hn0 hn1
  have lm := itoa_len m hm0 hm1
  clear htab
  by_cases h4 : width < ((itoa n).length : Int)
  · go_enter Tryd.func4, Tryd.ntmps4
    go_wp2_with (first | (go_at_call 11; refine (zzItoa_any n hn0 hn1 _).mono ?_; rintro e w1 ⟨rfl, hb1⟩))
    go_ret
    exact ⟨rfl, hb1⟩
  by_cases h5 : width < ((itoa m).length : Int)
  · go_enter Tryd.func4, Tryd.ntmps4
    go_wp2_with fail
    go_at_call 11
    refine (zzItoa_any n hn0 hn1 _).mono ?_
    rintro e w1 ⟨rfl, hb1⟩
    go_wp2_with fail
    go_at_call 11
    refine (zzItoa_any m hm0 hm1 _).mono ?_
    rintro e w2 ⟨rfl, hb2⟩
    go_wp2
    go_ret
    exact ⟨rfl, hb1.trans (hb2.mono hb1.size)⟩
  obtain ⟨W, rfl⟩ : ∃ W : Nat, width = W := ⟨width.toNat, by omega⟩
  obtain ⟨u, rfl⟩ : ∃ u : Nat, n = u := ⟨n.toNat, by omega⟩
  obtain ⟨v, rfl⟩ : ∃ v : Nat, m = v := ⟨m.toNat, by omega⟩
  have hpu := padded_cells W u
  have hpv := padded_cells W v
  have hcmp := cmp_padded W u v (by rw [itoa_nonneg, decDigits_length] at h4; omega) (by rw [itoa_nonneg, decDigits_length] at h5; omega)
  have hlu : 0 + padN (W : Int) (itoa (u : Int)).length + (itoa (u : Int)).length = W := by unfold padN; omega
  have hlv : 0 + padN (W : Int) (itoa (v : Int)).length + (itoa (v : Int)).length = W := by unfold padN; omega
  have HU := Lib.hid (And.intro hpu hlu)
  have HV := Lib.hid (And.intro hpv hlv)
  have HC := Lib.hid hcmp
  clear hpu hpv hcmp hlu hlv
  go_enter Tryd.func4, Tryd.ntmps4
  go_wp2_with fail
  go_at_call 11
  refine (zzItoa_any u hn0 hn1 _).mono ?_
  rintro e w1 ⟨rfl, hb1⟩
  go_wp2_with fail
  go_at_call 11
  refine (zzItoa_any v hm0 hm1 _).mono ?_
  rintro e w2 ⟨rfl, hb2⟩
  have hb2' : Below w.heap.size w w2 := hb1.trans (hb2.mono hb1.size)
  go_wp2_with fail
  go_at_call 10
  refine (zzAppendPadded_any w2.heap.size (.slice none 0 0) 0 [] u W hn0 hn1 (by omega) (by omega) w2 (.inl (World.ownsRow_nil _ _ _ _)) (Nat.le_refl _) (by omega) (TabBelow.mono (hT.on hb2') hb2'.size)).mono ?_
  rintro e w3 ⟨v1, rfl, hk3, ho3⟩
  rw [HU.out.2, List.nil_append, HU.out.1] at ho3
  obtain ⟨g3, c3, rfl, hB3, hL3, hc3⟩ := cells_of_own (by omega) ho3
  have hb3' : Below w.heap.size w w3 := hb2'.trans (hk3.1.mono hb2'.size)
  clear ho3
  go_wp2_with fail
  go_at_call 10
  refine (zzAppendPadded_any w3.heap.size (.slice none 0 0) 0 [] v W hm0 hm1 (by omega) (by omega) w3 (.inl (World.ownsRow_nil _ _ _ _)) (Nat.le_refl _) (by omega) (TabBelow.mono (hT.on hb3') hb3'.size)).mono ?_
  rintro e w4 ⟨v2, rfl, hk4, ho4⟩
  rw [HV.out.2, List.nil_append, HV.out.1] at ho4
  obtain ⟨g4, c4, rfl, hB4, hL4, hc4⟩ := cells_of_own (by omega) ho4
  have hb4' : Below w.heap.size w w4 := hb3'.trans (hk4.1.mono hb3'.size)
  have hc3' := fun j hj => cellLater hk4.1 (hc3 j hj)
  clear ho4 hc3
  have HZ := Lib.hid (zzCompare_any g3 g4 W c3 c4 _ _ hL3 hL4 (by omega) w4 hc3' hc4)
  rw [HC.out] at HZ
  clear hc3' hc4 hL3 hL4 HC HU HV
  rcases Nat.lt_trichotomy u v with hlt | rfl | hgt
  · rw [if_pos hlt] at HZ
    go_wp2_with fail
    go_at_call 12
    refine HZ.out.mono ?_
    rintro e w5 ⟨rfl, hb5⟩
    go_wp2
    go_ret
    exact ⟨rfl, hb4'.trans (hb5.mono hb4'.size)⟩
  · rw [if_neg (by omega), if_neg (by omega)] at HZ
    go_wp2_with fail
    go_at_call 12
    refine HZ.out.mono ?_
    rintro e w5 ⟨rfl, hb5⟩
    go_wp2
    go_ret
    exact ⟨rfl, hb4'.trans (hb5.mono hb4'.size)⟩
  · rw [if_neg (by omega), if_pos hgt] at HZ
    go_wp2_with fail
    go_at_call 12
    refine HZ.out.mono ?_
    rintro e w5 ⟨rfl, hb5⟩
    go_wp2
    go_ret
    exact ⟨rfl, hb4'.trans (hb5.mono hb4'.size)⟩
end Go.Proofs.Qxb6000062aDoor.pm
