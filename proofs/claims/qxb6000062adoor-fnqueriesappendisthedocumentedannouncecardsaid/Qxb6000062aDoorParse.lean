import Derived.Test.Qxb6000062aDoorDigits
import Derived.Test.Qxb6000062aDoorStrings
import Derived.Deep.QuietTactic
import Derived.BigQuiet
/-! zzHasAmp, zzParseDigits, zzIsCanon, zzIsPeerID, the zzBytes guard of the announce law: the contracts. -/
namespace Go.Proofs.Qxb6000062aDoor.pm
open Go Go.RowKit Go.Lib Go.Sort
set_option linter.unusedVariables false

/-- zzHasAmp said yes, or it said no and there is no '&' -/
def AmpEnd (s : ByteArray) (e : Ending) : Prop := e = .returned (.bool true) ∨ (e = .returned (.bool false) ∧ ∀ j (hj : j < s.size), s[j] ≠ 38)

set_option maxHeartbeats 1600000 in
theorem zzHasAmp_any (s : ByteArray) (w : World) (hs : s.size ≤ 1048576) :
    Calls Tryd.prog 15 #[.string s] w fun e w' => AmpEnd s e ∧ w = w' := by
  go_enter Tryd.func15, Tryd.ntmps15
  go_wp2
  go_loop [3] (fun i => ∃ j : Nat, j ≤ s.size ∧ i = .int .i64 j ∧ ∀ l (hl : l < s.size), l < j → s[l] ≠ 38) (fun i => s.size - (RowKit.intOf i).toNat)
  case atStart => exact ⟨0, Nat.zero_le _, rfl, fun l hl h => by omega⟩
  case round =>
    obtain ⟨j, hj, rfl, hA⟩ := hrel
    have HA := Lib.hid hA
    clear hA
    by_cases hlt : j < s.size
    · by_cases hamp : s[j] = 38
      · have ht : ((s[j].toNat : Int) == 38) = true := by rw [hamp]; rfl
        go_wp2
        go_ret
        exact ⟨.inl rfl, rfl⟩
      · have ht : ((s[j].toNat : Int) == 38) = false := by
          rw [beq_eq_false_iff_ne]
          intro h
          apply hamp
          apply UInt8.toNat_inj.1
          have : s[j].toNat = 38 := by omega
          rw [this]; rfl
        go_wp2
        go_round
        case rel => exact ⟨j + 1, by omega, by go_num, fun l hl h => by
          by_cases e : l = j
          · subst e; exact hamp
          · exact HA.out l hl (by omega)⟩
        case measure => simp [RowKit.intOf]; omega
    · go_wp2
      go_ret
      exact ⟨.inr ⟨rfl, fun l hl => HA.out l hl (by omega)⟩, rfl⟩

theorem u64_eq {a b : Int} (h : b = a) : Value.int .u64 a = .int .u64 b := by rw [h]

set_option maxHeartbeats 3200000 in
theorem zzParse_any (g o c : Nat) (V : List UInt8) (w : World) (hv : ValAt w g o c V) (h1 : 1 ≤ V.length) (hd : ∀ b ∈ V, 48 ≤ b.toNat ∧ b.toNat ≤ 57) (hm : dval V ≤ 9223372036854775807) :
    Calls Tryd.prog 28 #[.slice (some ⟨g, o, none⟩) V.length c] w fun e w' => e = .returned (.tuple #[.int .u64 (dval V : Nat), .bool true]) ∧ w = w' := by
  obtain ⟨hv1, hv2, hv3, hvc⟩ := hv
  have hc0 : ((V.length : Int) == 0) = false := by rw [beq_eq_false_iff_ne]; omega
  go_enter Tryd.func28, Tryd.ntmps28
  go_wp2
  go_loop [4, 5] (fun x i => ∃ j : Nat, j ≤ V.length ∧ i = .int .i64 j ∧ x = .int .u64 (dval (V.take j) : Nat)) (fun _ i => V.length - (RowKit.intOf i).toNat)
  case atStart => exact ⟨0, Nat.zero_le _, rfl, rfl⟩
  case round =>
    obtain ⟨j, hj, rfl, rfl⟩ := hrel
    by_cases hlt : j < V.length
    · have hcx := hvc j hlt
      obtain ⟨hd1, hd2⟩ := hd V[j] (List.getElem_mem hlt)
      have hstep := dval_take_succ V j hlt
      have hle := dval_take_le V (j + 1) (by omega)
      have HST := Lib.hid hstep
      have hb1 : (48 : Int) ≤ (V[j].toNat : Int) := by omega
      have hb2 : (V[j].toNat : Int) ≤ 57 := by omega
      have hb3 : dval (V.take j) * 10 + (V[j].toNat - 48) ≤ 9223372036854775807 := by omega
      clear hstep hle hvc hd hm hd1 hd2
      go_wp2
      go_round
      case rel => exact ⟨j + 1, by omega, by go_num, u64_eq (by rw [HST.out]; omega)⟩
      case measure => simp [RowKit.intOf]; omega
    · obtain rfl : j = V.length := by omega
      rw [List.take_length]
      go_wp2
      go_ret2
      exact ⟨rfl, rfl⟩

set_option maxHeartbeats 3200000 in
theorem zzIsCanon_any (g o c u : Nat) (w : World) (hv : ValAt w g o c (decDigits u)) (hu : u ≤ 9223372036854775807) :
    Calls Tryd.prog 22 #[.slice (some ⟨g, o, none⟩) (decDigits u).length c, .int .u64 u] w fun e w' => e = .returned (.bool true) ∧ w = w' := by
  have hpos : 1 ≤ (decDigits u).length := by rw [decDigits_length]; exact nDigits_pos u
  have hP := zzParse_any g o c (decDigits u) w hv hpos (digit_range u) (by rw [dval_dec]; exact hu)
  rw [dval_dec] at hP
  have HP := Lib.hid hP
  have hc0 := hv.2.2.2 0 hpos
  have hcan := dec_canon u
  rw [Nat.add_zero] at hc0
  obtain ⟨hv1, hv2, hv3, _⟩ := hv
  clear hP
  by_cases hl1 : (decDigits u).length = 1
  · rw [hl1] at HP ⊢
    clear hc0 hv1 hv3 hcan hl1 hpos
    go_enter Tryd.func22, Tryd.ntmps22
    go_wp2_with (go_at_call 28; refine HP.out.mono ?_; rintro e w' ⟨rfl, rfl⟩)
    go_ret
    exact ⟨rfl, rfl⟩
  · have hne : (((decDigits u)[0].toNat : Int) != 48) = true := by
      rcases hcan with h | h
      · exact absurd h hl1
      · have := h (decDigits u)[0] (by simp [List.getElem?_eq_getElem hpos])
        simp; omega
    have hl2 : (((decDigits u).length : Int) == 1) = false := by rw [beq_eq_false_iff_ne]; omega
    obtain ⟨b, hb⟩ : ∃ b : Nat, b = (decDigits u)[0].toNat := ⟨_, rfl⟩
    rw [← hb] at hc0 hne
    clear hb
    obtain ⟨m, hm⟩ : ∃ m : Nat, m = (decDigits u).length := ⟨_, rfl⟩
    rw [← hm] at HP hl2 hv1 hv3 hpos ⊢
    clear hm hcan hl1
    go_enter Tryd.func22, Tryd.ntmps22
    go_wp2_with (go_at_call 28; refine HP.out.mono ?_; rintro e w' ⟨rfl, rfl⟩)
    go_ret
    exact ⟨rfl, rfl⟩

set_option maxHeartbeats 3200000 in
theorem zzIsPeerID_any (g o c p : Nat) (w : World) (hv : ValAt w g o c (sTL ++ peerText p)) (hp : p ≤ 9223372036854775807) :
    Calls Tryd.prog 21 #[.slice (some ⟨g, o, none⟩) (sTL ++ peerText p).length c, .int .u64 p] w fun e w' => e = .returned (.bool true) ∧ Below w.heap.size w w' := by
  have hl : (sTL ++ peerText p).length = 8 + (peerText p).length := by rw [List.length_append]; rfl
  obtain ⟨h12, hcan⟩ := peer_canon p
  obtain ⟨hv1, hv2, hv3, hvc⟩ := hv
  have hvR : ∀ w', Below w.heap.size w w' → ValAt w' g (o + 8) (c - 8) (peerText p) := by
    intro w' hb
    refine ⟨by omega, by omega, by omega, fun j hj => ?_⟩
    have := cellLater hb (hvc (8 + j) (by omega))
    rw [List.getElem_append_right (by show 8 ≤ 8 + j; omega)] at this
    simp only [show 8 + j - sTL.length = j from by show 8 + j - 8 = j; omega] at this
    rw [Nat.add_assoc]
    exact this
  have hP : ∀ w', Below w.heap.size w w' → Calls Tryd.prog 28 #[.slice (some ⟨g, o + 8, none⟩) (peerText p).length (c - 8)] w' fun e w'' => e = .returned (.tuple #[.int .u64 p, .bool true]) ∧ w' = w'' := by
    intro w' hb
    have := zzParse_any g (o + 8) (c - 8) (peerText p) w' (hvR w' hb) (by omega) (peer_range p) (by rw [peer_dval]; exact hp)
    rwa [peer_dval] at this
  have hpre : ∀ j (hj : j < 8), w.cell? ⟨g, o + j, none⟩ = some (.int .u8 (((⟨#[45, 84, 76, 48, 48, 48, 49, 45]⟩ : ByteArray)[j]'hj).toNat : Int)) := by
    intro j hj
    have := hvc j (by omega)
    rw [List.getElem_append_left (show j < sTL.length from hj)] at this
    exact this
  have hc0 : w.cell? ⟨g, o + 8, none⟩ = some (.int .u8 ((peerText p)[0].toNat : Int)) := (hvR w (Below.refl _ _)).2.2.2 0 (by omega)
  have HP := Lib.hid hP
  rw [hl] at hv1 hv3 ⊢
  have hn0 : (peerText p).length = 12 ∨ (((peerText p)[0].toNat : Int) != 48) = true := by
    rcases hcan with h | h
    · exact .inl h
    · right
      have := h (peerText p)[0] (by simp)
      simp; omega
  clear hvc hvR hP hcan
  obtain ⟨b, hb⟩ : ∃ b : Nat, b = (peerText p)[0].toNat := ⟨_, rfl⟩
  rw [← hb] at hc0 hn0
  clear hb
  obtain ⟨m, hm⟩ : ∃ m : Nat, m = (peerText p).length := ⟨_, rfl⟩
  rw [← hm] at HP hv1 hv3 h12 hn0 ⊢
  clear hm hl
  go_enter Tryd.func21, Tryd.ntmps21
  go_wp2
  go_loopw [6] (fun i wr => ∃ j : Nat, j ≤ 8 ∧ i = .int .i64 j ∧ Below w.heap.size w wr) (fun i _ => 8 - (RowKit.intOf i).toNat)
  case atStart => exact ⟨0, Nat.zero_le _, rfl, Below.refl _ _⟩
  case round =>
    obtain ⟨j, hj, rfl, hb⟩ := hrel
    by_cases hlt : j < 8
    · have hcx := cellLater hb (hpre j hlt)
      clear hpre hc0 hn0
      go_wp2_with fail
      go_quiet (fail)
      go_wp2
      go_roundw
      case rel => exact ⟨j + 1, by omega, by go_num, below_drewN hb _⟩
      case measure => simp [RowKit.intOf]; omega
    · have hc1 := cellLater hb hc0
      clear hpre hc0
      go_wp2_with fail
      go_at_call 28
      refine (HP.out wr hb).mono ?_
      rintro e w' ⟨rfl, rfl⟩
      rcases hn0 with h | h
      · have hm1 : ((m : Int) == 12) = true := by rw [beq_iff_eq]; omega
        go_wp2
        go_ret
        exact ⟨rfl, hb⟩
      · by_cases h2 : m = 12
        · have hm1 : ((m : Int) == 12) = true := by rw [beq_iff_eq]; omega
          go_wp2
          go_ret
          exact ⟨rfl, hb⟩
        · have hm1 : ((m : Int) == 12) = false := by rw [beq_eq_false_iff_ne]; omega
          go_wp2
          go_ret
          exact ⟨rfl, hb⟩
end Go.Proofs.Qxb6000062aDoor.pm
