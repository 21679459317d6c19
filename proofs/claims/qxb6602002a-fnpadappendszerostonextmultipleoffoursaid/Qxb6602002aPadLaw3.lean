import Derived.Test.Qxb6602002aPadLaw4
import Derived.Deep.QuietTactic
import Derived.BigQuiet
/-! FnPadAppendsZerosToNextMultipleOfFour returns true: the walk. -/
namespace Go.Proofs.Qxb6602002a.padw
open Go.ChangeShapes Go.WideShapes Go.ChangeAt Go.RowKit padm
set_option linter.unusedVariables false

theorem zzbytes3 (a : Option Addr) (len cap : Nat) (n : Int) (w : World) (hl : len ≤ 9223372036854775807) :
    Calls Try.prog 7 #[.slice a len cap, .int .i64 n] w fun e w' => e = .returned (.bool (decide (len ≤ 1048576))) ∧ w = w' := by
  by_cases h : len ≤ 1048576
  · go_enter Try.func7, Try.ntmps7
    go_wp2
    go_ret
    exact ⟨by simp [h], rfl⟩
  · go_enter Try.func7, Try.ntmps7
    go_wp2
    go_ret
    exact ⟨by simp [h], rfl⟩

theorem test_on (n : Int) (j : Nat) (h : j < kOf n) : ((wrap64 (n + j)).tmod 4 != 0) = true := by
  have : ¬ (wrap64 (n + j)).tmod 4 = 0 := by
    intro h4
    have := Int.dvd_of_tmod_eq_zero h4
    unfold wrap64 at this; unfold kOf at h; omega
  simpa using this
theorem test_off (n : Int) (j : Nat) (h : j = kOf n) : ((wrap64 (n + j)).tmod 4 != 0) = false := by
  have : (wrap64 (n + j)).tmod 4 = 0 := by
    apply Int.tmod_eq_zero_of_dvd
    unfold wrap64; unfold kOf at h; omega
  simpa using this

/-- got, as the tail reads it -/
theorem got_of {w : World} {B n k : Nat} {v : Value} {zs : List Int} (hz : zs.length = n) (h1 : 1 ≤ n + k) (h : w.ownsRow B 5 1 v (n + k) (zs.map (.int .u8) ++ List.replicate k (.int .u8 0))) :
    ∃ g c, v = .slice (some ⟨g, 0, none⟩) (n + k) c ∧ (∀ i, i < n → w.cell? ⟨g, i, none⟩ = some (.int .u8 (zs.getD i 0))) ∧ ∀ i, n ≤ i → i < n + k → w.cell? ⟨g, i, none⟩ = some (.int .u8 0) := by
  rcases h.2 with ⟨_, h2⟩ | ⟨g, cap, cur, rfl, _⟩
  · omega
  · refine ⟨g, cap, rfl, fun i hi => ?_, fun i hi hi2 => ?_⟩
    · rw [h.cellAt i (by omega), List.getElem?_append_left (by simp; omega)]
      simp [List.getD, show i < zs.length by omega]
    · rw [h.cellAt i (by omega), List.getElem?_append_right (by simp; omega), List.getElem?_replicate]
      simp; omega

theorem own_cells {w : World} {B n g c : Nat} {ys : List Int} (hy : ys.length = n) (h : w.ownsRow B 5 1 (.slice (some ⟨g, 0, none⟩) n c) n (ys.map (.int .u8))) :
    ∀ i, i < n → w.cell? ⟨g, i, none⟩ = some (.int .u8 (ys.getD i 0)) := fun i hi => by
  rw [h.cellAt i (by omega)]
  simp [List.getD, show i < ys.length by omega]

theorem got_any {w1 w2 : World} {B n k g : Nat} {v : Value} {ys : List Int} (hy : ys.length = n) (hcl : ∀ i, i < n → w2.cell? ⟨g, i, none⟩ = some (.int .u8 (ys.getD i 0)))
    (hv : k = 0 ∧ v = .slice (some ⟨g, 0, none⟩) n n ∨ 1 ≤ k ∧ w2.ownsRow B 5 1 v (n + k) (ys.map (.int .u8) ++ List.replicate k (.int .u8 0))) :
    ∃ g c, v = .slice (some ⟨g, 0, none⟩) (n + k) c ∧ (∀ i, i < n → w2.cell? ⟨g, i, none⟩ = some (.int .u8 (ys.getD i 0))) ∧ ∀ i, n ≤ i → i < n + k → w2.cell? ⟨g, i, none⟩ = some (.int .u8 0) := by
  rcases hv with ⟨rfl, rfl⟩ | ⟨hk, ho2⟩
  · exact ⟨g, n, rfl, hcl, fun i h1 h2 => by omega⟩
  · exact got_of hy (by omega) ho2

set_option maxHeartbeats 3200000 in
theorem law3_nil (n : Int) (w : World) (hb0 : -9223372036854775808 ≤ n) (hb1 : n ≤ 9223372036854775807) :
    Calls Try.prog 3 #[.slice none 0 0, .int .i64 n] w fun e w' => e = .returned (.bool true) ∧ Below w.heap.size w w' := by
  have hnil := fun (w : World) (a : Option Addr) (n c : Nat) => Lib.run_eql_slice_nil (P := Try.prog) w 22 5 a n c 0 0 Try.underlying22
  have hk3 := kOf_le n
  go_enter Try.func3, Try.ntmps3
  go_wp2_with (first | (go_at_call 7; refine (zzbytes3 _ _ _ _ _ (by decide)).mono ?_; rintro e w' ⟨rfl, rfl⟩) | (go_at_call 8; refine (clone_nil _).mono ?_; rintro e w' ⟨rfl, rfl⟩))
  go_loop [5] (fun i => ∃ j : Nat, j ≤ kOf n ∧ i = .int .i64 j) (fun i => 3 - (intOf i).toNat)
  case atStart => exact ⟨0, Nat.zero_le _, rfl⟩
  case round =>
    obtain ⟨j, hj, rfl⟩ := hrel
    by_cases hlt : j < kOf n
    · have ht := test_on n j hlt
      go_wp2
      go_round
      case rel => exact ⟨j + 1, by omega, by go_num⟩
      case measure => simp [intOf]; omega
    · have ht := test_off n j (by omega)
      have HJ : Hid (j = kOf n) := by show j = kOf n; omega
      go_wp2_with fail
      all_goals
        clear ht hlt
        go_at_call 9
        refine (zzpad_any none 0 [] n w (full_nil w) (by omega)).mono ?_
        rw [← HJ.out]
        rintro e w2 ⟨v, rfl, hb2, ⟨rfl, rfl⟩ | ⟨hk, ho2⟩⟩
        · go_wp2
          refine wp_loop_rounds 1 ?_
          rw [rounds_succ]
          go_wp2
          refine wp_loop_rounds 1 ?_
          rw [rounds_succ]
          go_wp2
          go_ret
          exact ⟨rfl, hb2⟩
        · obtain ⟨g, c, rfl, -, hz⟩ := got_of (n := 0) (zs := []) rfl (by omega) ho2
          clear ho2
          go_wp2
          refine wp_loop_rounds 1 ?_
          rw [rounds_succ]
          go_wp2
          go_loop [8] (fun i => ∃ l : Nat, l ≤ j ∧ i = .int .i64 l) (fun i => j - (intOf i).toNat)
          case atStart => exact ⟨0, Nat.zero_le _, rfl⟩
          case round =>
            obtain ⟨l, hl, rfl⟩ := hrel
            by_cases hlj : l < j
            · have hcx := hz l (by omega) (by omega)
              clear hz
              go_wp2
              go_round
              case rel => exact ⟨l + 1, by omega, by go_num⟩
              case measure => simp [intOf]; omega
            · go_wp2
              go_ret
              exact ⟨ret_val (boolT (b := !((j : Int) == 0)) (by simp; omega)), hb2⟩

set_option maxHeartbeats 6400000 in
theorem law3_some (x : Addr) (len cap : Nat) (zs : List Int) (n : Int) (w : World) (hR : Row w (some x) len cap zs) (hlen : len ≤ 1048576) (hb0 : -9223372036854775808 ≤ n) (hb1 : n ≤ 9223372036854775807) :
    Calls Try.prog 3 #[.slice (some x) len cap, .int .i64 n] w fun e w' => e = .returned (.bool true) ∧ Below w.heap.size w w' := by
  have hnil := fun (w : World) (a : Option Addr) (n c : Nat) => Lib.run_eql_slice_nil (P := Try.prog) w 22 5 a n c 0 0 Try.underlying22
  have hk3 := kOf_le n
  have hzl : (zs.take len).length = len := by
    rcases hR with ⟨h, _⟩ | ⟨y, _, h1, h2, _⟩
    · cases h
    · simp; omega
  go_enter Try.func3, Try.ntmps3
  go_wp2_with (first | (go_at_call 7; refine (zzbytes3 _ _ _ _ _ (by omega)).mono ?_; rintro e w' ⟨rfl, rfl⟩))
  go_at_call 8
  refine (clone_any (some x) len cap zs w hR hlen).mono ?_
  rintro e w1 ⟨hbw, ⟨h, _⟩ | ⟨rfl, ho⟩⟩
  · cases h
  clear hR
  generalize zs.take len = ys at ho hzl
  clear zs
  go_wp2
  go_loop [5] (fun i => ∃ j : Nat, j ≤ kOf n ∧ i = .int .i64 j) (fun i => 3 - (intOf i).toNat)
  case atStart => exact ⟨0, Nat.zero_le _, rfl⟩
  case round =>
    obtain ⟨j, hj, rfl⟩ := hrel
    by_cases hlt : j < kOf n
    · have ht := test_on n j hlt
      go_wp2
      go_round
      case rel => exact ⟨j + 1, by omega, by go_num⟩
      case measure => simp [intOf]; omega
    · have ht := test_off n j (by omega)
      have HJ : Hid (j = kOf n) := by show j = kOf n; omega
      go_wp2_with fail
      all_goals
        clear ht hlt
        go_at_call 9
        refine (zzpad_any _ len _ n w1 (full_of ho) (by omega)).mono ?_
        rw [← HJ.out]
        rintro e w2 ⟨v, rfl, hb2, hv⟩
        have hbb : Below w.heap.size w w2 := hbw.trans (hb2.mono hbw.size)
        have hcl : ∀ i, i < len → w2.cell? ⟨w.heap.size, i, none⟩ = some (.int .u8 (ys.getD i 0)) := fun i hi => cellLater hb2 (own_cells hzl ho i hi)
        obtain ⟨g, c, rfl, hg1, hg2⟩ := got_any (w1 := w1) hzl hcl hv
        clear hv ho hbw hb2
        go_wp2
        go_loopw [7] (fun i wr => ∃ l : Nat, l ≤ len ∧ i = .int .i64 l ∧ Below w2.heap.size w2 wr) (fun i _ => len - (intOf i).toNat)
        case atStart => exact ⟨0, Nat.zero_le _, rfl, Below.refl _ _⟩
        case round =>
          obtain ⟨l, hl, rfl, hbr⟩ := hrel
          by_cases hll : l < len
          · have hc1 := cellLater hbr (hcl l hll)
            have hc2 := cellLater hbr (hg1 l hll)
            clear hcl hg1 hg2
            go_wp2_with fail
            go_quiet (fail)
            go_wp2
            go_roundw
            case rel => exact ⟨l + 1, by omega, by go_num, below_drewN hbr _⟩
            case measure => simp [intOf]; omega
          · go_wp2
            go_loop [8] (fun i => ∃ m : Nat, len ≤ m ∧ m ≤ len + j ∧ i = .int .i64 m) (fun i => len + j - (intOf i).toNat)
            case atStart => exact ⟨len, Nat.le_refl _, by omega, rfl⟩
            case round =>
              obtain ⟨m, hm1, hm2, rfl⟩ := hrel
              by_cases hmj : m < len + j
              · have hcx := cellLater hbr (hg2 m hm1 hmj)
                clear hcl hg1 hg2
                go_wp2
                go_round
                case rel => exact ⟨m + 1, by omega, by omega, by go_num⟩
                case measure => simp [intOf]; omega
              · go_wp2
                go_ret
                exact ⟨rfl, hbb.trans (hbr.mono hbb.size)⟩

theorem law3 (a : Option Addr) (len cap : Nat) (zs : List Int) (n : Int) (w : World) (hR : Row w a len cap zs) (hL : len ≤ 9223372036854775807) (hb0 : -9223372036854775808 ≤ n) (hb1 : n ≤ 9223372036854775807) :
    Calls Try.prog 3 #[.slice a len cap, .int .i64 n] w fun e w' => e = .returned (.bool true) ∧ Below w.heap.size w w' := by
  by_cases hl : len ≤ 1048576
  · cases a with
    | none =>
      rcases hR with ⟨_, rfl, rfl, rfl⟩ | ⟨y, h, _⟩
      · exact law3_nil n w hb0 hb1
      · cases h
    | some x => exact law3_some x len cap zs n w hR hl hb0 hb1
  · go_enter Try.func3, Try.ntmps3
    go_wp2_with (first | (go_at_call 7; refine (zzbytes3 _ _ _ _ _ hL).mono ?_; rintro e w' ⟨rfl, rfl⟩))
    go_ret
    exact ⟨rfl, Below.refl _ _⟩
end Go.Proofs.Qxb6602002a.padw
