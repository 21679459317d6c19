import Derived.Test.Qxb6602002aPadWalks
/-! FnPadAlignsAnAlignedItem returns true: the walk. -/
namespace Go.Proofs.Qxb6602002a.padw
open Go.ChangeShapes Go.WideShapes Go.ChangeAt Go.RowKit padm
set_option linter.unusedVariables false

theorem zzbytes4 (a : Option Addr) (len cap : Nat) (n : Int) (w : World) (hl : len ≤ 9223372036854775807) :
    Calls Try.prog 10 #[.slice a len cap, .int .i64 n] w fun e w' => e = .returned (.bool (decide (len ≤ 1048576))) ∧ w = w' := by
  by_cases h : len ≤ 1048576
  · go_enter Try.func10, Try.ntmps10
    go_wp2
    go_ret
    exact ⟨by simp [h], rfl⟩
  · go_enter Try.func10, Try.ntmps10
    go_wp2
    go_ret
    exact ⟨by simp [h], rfl⟩

theorem boolT {b : Bool} (h : b = true) : Value.bool b = .bool true := by rw [h]

/-- The clone as pad is told of it. -/
theorem full_of {w : World} {B g n : Nat} {xs : List Value} (h : w.ownsRow B 5 1 (.slice (some ⟨g, 0, none⟩) n n) n xs) : Full w (some ⟨g, 0, none⟩) n xs :=
  And.intro (fun h => by cases h) (And.intro (by simpa using h.1) (fun b hb j u hj => by cases hb; exact h.cells (g := g) rfl j u hj))
theorem full_nil (w : World) : Full w none 0 [] := And.intro (fun _ => rfl) (And.intro rfl (fun b hb => by cases hb))

theorem slice_of {w : World} {B n : Nat} {v : Value} {xs : List Value} (h : w.ownsRow B 5 1 v n xs) : ∃ a c, v = .slice a n c := by
  rcases h.2 with ⟨h1, h2⟩ | ⟨g, cap, cur, h1, _⟩
  · exact ⟨none, 0, by rw [h1, h2]⟩
  · exact ⟨_, _, h1⟩

theorem kOf_fits (n : Int) (len : Nat) (h0 : 0 ≤ n) (h1 : n ≤ len) (h : ((len : Int) - n) % 4 = 0) : ((len + kOf n : Nat) : Int) % 4 = 0 := by
  unfold kOf; omega

set_option maxHeartbeats 1600000 in
theorem law4 (a : Option Addr) (len cap : Nat) (zs : List Int) (n : Int) (w : World) (hR : Row w a len cap zs) (hL : len ≤ 9223372036854775807) (hb0 : -9223372036854775808 ≤ n) (hb1 : n ≤ 9223372036854775807) :
    Calls Try.prog 4 #[.slice a len cap, .int .i64 n] w fun e w' => e = .returned (.bool true) ∧ Below w.heap.size w w' := by
  by_cases hl : len ≤ 1048576
  · by_cases h1 : n < 0
    · go_enter Try.func4, Try.ntmps4
      go_wp2_with (first | (go_at_call 10; refine (zzbytes4 _ _ _ _ _ hL).mono ?_; rintro e w' ⟨rfl, rfl⟩))
      go_ret
      exact ⟨rfl, Below.refl _ _⟩
    by_cases h2 : (len : Int) < n
    · go_enter Try.func4, Try.ntmps4
      go_wp2_with (first | (go_at_call 10; refine (zzbytes4 _ _ _ _ _ hL).mono ?_; rintro e w' ⟨rfl, rfl⟩))
      go_ret
      exact ⟨rfl, Below.refl _ _⟩
    by_cases h3 : ((len : Int) - n) % 4 = 0
    · have hd : (((len : Int) - n) % 4 != 0) = false := by simp [h3]
      have HF := Lib.hid (kOf_fits n len (by omega) (by omega) h3)
      have hk3 := kOf_le n
      clear h3
      go_enter Try.func4, Try.ntmps4
      go_wp2_with (first | (go_at_call 10; refine (zzbytes4 _ _ _ _ _ hL).mono ?_; rintro e w' ⟨rfl, rfl⟩))
      go_at_call 8
      refine (clone_any a len cap zs w hR hl).mono ?_
      rintro e w1 ⟨hbw, ⟨rfl, rfl, rfl⟩ | ⟨rfl, ho⟩⟩
      · go_wp2_with fail
        go_at_call 9
        refine (zzpad_any none 0 [] n w1 (full_nil w1) (by omega)).mono ?_
        rintro e w2 ⟨v, rfl, hb2, ⟨hk, rfl⟩ | ⟨hk, ho2⟩⟩
        · clear hk
          go_wp2
          go_ret
          exact ⟨rfl, hbw.trans (hb2.mono hbw.size)⟩
        · obtain ⟨a2, c2, rfl⟩ := slice_of ho2
          clear ho2
          have HF' := HF.out
          go_wp2
      · go_wp2_with fail
        go_at_call 9
        refine (zzpad_any _ len _ n w1 (full_of ho) (by omega)).mono ?_
        rintro e w2 ⟨v, rfl, hb2, ⟨hk, rfl⟩ | ⟨hk, ho2⟩⟩
        · have HF' := HF.out
          rw [hk] at HF'
          clear hk
          go_wp2
          go_ret
          exact ⟨ret_val (boolT (b := ((len : Int) % 4 == 0)) (beq_iff_eq.2 (by omega))), hbw.trans (hb2.mono hbw.size)⟩
        · obtain ⟨a2, c2, rfl⟩ := slice_of ho2
          clear ho2
          go_wp2
          go_ret
          have HF' := HF.out
          exact ⟨ret_val (boolT (b := (((len : Int) + (kOf n : Int)) % 4 == 0)) (beq_iff_eq.2 (by omega))), hbw.trans (hb2.mono hbw.size)⟩
    · have hd : (((len : Int) - n) % 4 != 0) = true := by simp [h3]
      clear h3
      go_enter Try.func4, Try.ntmps4
      go_wp2_with (first | (go_at_call 10; refine (zzbytes4 _ _ _ _ _ hL).mono ?_; rintro e w' ⟨rfl, rfl⟩))
      go_ret
      exact ⟨rfl, Below.refl _ _⟩
  · go_enter Try.func4, Try.ntmps4
    go_wp2_with (first | (go_at_call 10; refine (zzbytes4 _ _ _ _ _ hL).mono ?_; rintro e w' ⟨rfl, rfl⟩))
    go_ret
    exact ⟨rfl, Below.refl _ _⟩
end Go.Proofs.Qxb6602002a.padw
