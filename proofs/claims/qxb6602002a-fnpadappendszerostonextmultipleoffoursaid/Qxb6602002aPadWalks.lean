import Derived.Test.Qxb6602002aRows
import Derived.Test.Qxb6602002aPadMath
import Derived.WalkKit
import Derived.ProofKit
import Derived.OpenShut
import Derived.Below
import Derived.ArgAppend
import Derived.Lib.Hide
import Derived.WalkSpells
import Derived.WalkLawsBesides
/-! The contracts of the functions that the two laws on pad go through: padded, pad, ZZpad, cloneBytesSctpB1, the two zzBytes. -/
namespace Go.Proofs.Qxb6602002a.padw
open Go.ChangeShapes Go.WideShapes Go.ChangeAt Go.RowKit padm
set_option linter.unusedVariables false

theorem info5 : (Try.prog.info? 5).map (fun i => (i.zero, i.size, i.bytes)) = some (some (.int .u8 0), 1, 1) := by kernel_rfl

theorem ownsRow_mono {w : World} {B B' : Nat} {e : TypeId} {size : Nat} {v : Value} {n : Nat} {xs : List Value} (h : w.ownsRow B e size v n xs) (hB : B' ≤ B) : w.ownsRow B' e size v n xs := by
  obtain ⟨h1, h2 | ⟨g, cap, cur, hv, hb, r⟩⟩ := h
  · exact ⟨h1, .inl h2⟩
  · exact ⟨h1, .inr ⟨g, cap, cur, hv, Nat.le_trans hB hb, r⟩⟩
theorem cellLater {w wx : World} {a : Addr} {v : Value} (hb : Below w.heap.size w wx) (h : w.cell? a = some v) : wx.cell? a = some v := (hb.cell (World.block_lt_of_cell? _ _ h)).trans h

theorem ret_val {a b : Value} (h : a = b) : Ending.returned a = .returned b := by rw [h]

theorem padded_any (n : Int) (w : World) :
    Calls Try.prog 13 #[.int .i64 n] w fun e w' => e = .returned (.int .i64 (pdd n)) ∧ w = w' := by
  have hb := bits_pdd n
  go_enter Try.func13, Try.ntmps13
  go_wp2
  go_ret
  exact ⟨rfl, rfl⟩

/-- what pad is told of its slice: nil, or a row of n cells with no room behind them -/
def Full (w : World) (a : Option Addr) (n : Nat) (xs : List Value) : Prop :=
  (a = none → n = 0) ∧ xs.length = n ∧ ∀ b, a = some b → ∀ j u, xs[j]? = some u → w.cell? (b.add j) = some u

set_option maxHeartbeats 1600000 in
theorem pad_any (a : Option Addr) (n : Nat) (xs : List Value) (m : Int) (w : World) (hf : Full w a n xs) (hn : n ≤ 1048576) :
    Calls Try.prog 12 #[.slice a n n, .int .i64 m] w fun e w' => ∃ v, e = .returned v ∧ Below w.heap.size w w' ∧
      ((kOf m = 0 ∧ v = .slice a n n) ∨ (1 ≤ kOf m ∧ w'.ownsRow w.heap.size 5 1 v (n + kOf m) (xs ++ List.replicate (kOf m) (.int .u8 0)))) := by
  obtain ⟨i0, hi, hz0, hz1, hz2⟩ := info_parts info5
  have hk := pdd_sub m
  have hk3 := kOf_le m
  generalize kOf m = k at hk hk3 ⊢
  obtain ⟨hf0, hf1, hf2⟩ := hf
  go_enter Try.func12, Try.ntmps12
  go_wp2_with (go_at_call 13; refine (padded_any _ _).mono ?_; rintro e w' ⟨rfl, rfl⟩)
  rw [hk]
  clear hk
  go_loopw [0, 9] (fun v i wr => ∃ j : Nat, j ≤ k ∧ i = .int .i64 j ∧ Below w.heap.size w wr ∧ ((j = 0 ∧ v = .slice a n n) ∨ (1 ≤ j ∧ wr.ownsRow w.heap.size 5 1 v (n + j) (xs ++ List.replicate j (.int .u8 0)))))
    (fun _ i _ => k - (intOf i).toNat)
  case atStart => exact ⟨0, Nat.zero_le _, rfl, Below.refl _ _, .inl ⟨rfl, rfl⟩⟩
  case round =>
    obtain ⟨j, hj, rfl, hbel, hv⟩ := hrel
    by_cases hlt : j < k
    · rcases hv with ⟨rfl, rfl⟩ | ⟨hj1, hown⟩
      · go_wp2_with (at_builtin; refine wpList_append_grows _ rfl _ _ 22 rfl 5 i0 (.int .u8 0) 1 1 Try.underlying22 hi hz0 hz1 hz2 rfl (by decide) a n n xs rfl ?d1 ?d2 ?d3 ⟨wr.heap.size, 0, none⟩ 1 1 [.int .u8 0] rfl rfl ?c1 ?c2 ?c0 ?c3 ?c4 ?_)
        case d1 => intro h; exact ⟨hf0 h, hf0 h⟩
        case d2 => omega
        case d3 => intro b hb j u hj; exact cellLater (hbel.alloc hbel.size _) (hf2 b hb j u hj)
        case c1 =>
          intro j u hj
          match j, hj with
          | 0, hj => simp at hj; subst hj; simp [Addr.add]
        case c2 => intro u hu; simp at hu; subst hu; rfl
        case c0 => omega
        case c3 => unfold maxLen; omega
        case c4 => omega
        intro v1 w1 hown1 hgrow
        have hb1 : Below w.heap.size w w1 := (hbel.alloc hbel.size _).grown hgrow (by have := hbel.size; simp; omega) (fun k hk => by cases hk)
        have ho1 : w1.ownsRow w.heap.size 5 1 v1 (n + 1) (xs ++ List.replicate 1 (.int .u8 0)) := ownsRow_mono hown1 (by have := hbel.size; simp; omega)
        clear hown1 hgrow
        go_wp2
        go_roundw
        case rel => exact ⟨1, by omega, by go_num, hb1, .inr ⟨by omega, ho1⟩⟩
        case measure => simp [intOf]; omega
      · go_wp2_with (at_builtin; refine wpList_append_own _ rfl _ _ 22 rfl w.heap.size 5 i0 (.int .u8 0) 1 1 Try.underlying22 hi hz0 hz1 hz2 rfl (by decide) _ _ _ rfl (hown.alloc _) ⟨wr.heap.size, 0, none⟩ 1 1 [.int .u8 0] rfl rfl ?e1 ?e2 ?e3 ?e4 ?e5 ?_)
        case e1 =>
          intro j u hj
          match j, hj with
          | 0, hj => simp at hj; subst hj; simp [Addr.add]
        case e2 => intro u hu; simp at hu; subst hu; rfl
        case e3 => unfold maxLen; omega
        case e4 => omega
        case e5 => have := hbel.size; simp; omega
        intro v1 w1 hown1 hgrow _
        have hb1 : Below w.heap.size w w1 := (hbel.alloc hbel.size _).grown hgrow (by have := hbel.size; simp; omega) (fun k hk => (hown.lt k hk).1)
        have ho1 : w1.ownsRow w.heap.size 5 1 v1 (n + (j + 1)) (xs ++ List.replicate (j + 1) (.int .u8 0)) := by
          rw [List.replicate_succ', ← Nat.add_assoc]; simpa using hown1
        clear hown1 hgrow hown
        go_wp2
        go_roundw
        case rel => exact ⟨j + 1, by omega, by go_num, hb1, .inr ⟨by omega, ho1⟩⟩
        case measure => simp [intOf]; omega
    · obtain rfl : j = k := by omega
      go_wp2
      go_ret
      exact ⟨_, rfl, hbel, hv⟩

set_option maxHeartbeats 1600000 in
theorem zzpad_any (a : Option Addr) (n : Nat) (xs : List Value) (m : Int) (w : World) (hf : Full w a n xs) (hn : n ≤ 1048576) :
    Calls Try.prog 9 #[.slice a n n, .int .i64 m] w fun e w' => ∃ v, e = .returned v ∧ Below w.heap.size w w' ∧
      ((kOf m = 0 ∧ v = .slice a n n) ∨ (1 ≤ kOf m ∧ w'.ownsRow w.heap.size 5 1 v (n + kOf m) (xs ++ List.replicate (kOf m) (.int .u8 0)))) := by
  go_enter Try.func9, Try.ntmps9
  go_wp2_with (go_at_call 12; refine (pad_any _ _ xs _ _ hf hn).mono ?_; rintro e w' ⟨v, rfl, hb, hv⟩)
  go_ret
  exact ⟨v, rfl, hb, hv⟩

/-- what the clone is told of the slice that came in -/
def Row (w : World) (a : Option Addr) (len cap : Nat) (zs : List Int) : Prop :=
  (a = none ∧ len = 0 ∧ cap = 0 ∧ zs = []) ∨
  ∃ x, a = some x ∧ len ≤ cap ∧ zs.length = cap ∧ (∀ i, i < zs.length → w.cell? (x.add i) = some (.int .u8 (zs.getD i 0)))

theorem clone_nil (w : World) :
    Calls Try.prog 8 #[.slice none 0 0] w fun e w' => e = .returned (.slice none 0 0) ∧ w = w' := by
  have hnil := fun (w : World) => Lib.run_eql_slice_nil (P := Try.prog) w 22 5 none 0 0 0 0 Try.underlying22
  go_enter Try.func8, Try.ntmps8
  go_wp2
  go_ret
  exact ⟨rfl, rfl⟩

/-- what the clone holds behind k rounds -/
def part (zs : List Int) (len k : Nat) : List Value := (zs.take k).map (.int .u8) ++ List.replicate (len - k) (.int .u8 0)
theorem part_zero (zs : List Int) (len : Nat) : part zs len 0 = List.replicate len (.int .u8 0) := by simp [part]
theorem part_full (zs : List Int) (len : Nat) : part zs len len = (zs.take len).map (.int .u8) := by simp [part]
theorem part_succ (zs : List Int) (len k : Nat) (hk : k < len) (hz : len ≤ zs.length) : (part zs len k).set k (.int .u8 (zs.getD k 0)) = part zs len (k + 1) := by
  unfold part
  have e : List.replicate (len - k) (Value.int .u8 0) = .int .u8 0 :: List.replicate (len - (k + 1)) (.int .u8 0) := by
    rw [show len - k = (len - (k + 1)) + 1 by omega, List.replicate_succ]
  have hl : ((zs.take k).map (Value.int .u8)).length = k := by simp; omega
  rw [e, List.set_append_right _ _ (by omega), hl, Nat.sub_self, List.set_cons_zero, List.take_succ_eq_append_getElem (by omega), List.map_append]
  simp [List.getD, show k < zs.length by omega]

theorem clone_empty (x : Addr) (cap : Nat) (w : World) :
    Calls Try.prog 8 #[.slice (some x) 0 cap] w fun e w' => e = .returned (.slice (some ⟨w.heap.size, 0, none⟩) 0 0) ∧ Below w.heap.size w w' ∧
      w'.ownsRow w.heap.size 5 1 (.slice (some ⟨w.heap.size, 0, none⟩) 0 0) 0 [] := by
  obtain ⟨i0, hi, hz0, hz1, hz2⟩ := info_parts info5
  have hnil := fun (w : World) => Lib.run_eql_slice_nil (P := Try.prog) w 22 5 (some x) 0 cap 0 0 Try.underlying22
  go_enter Try.func8, Try.ntmps8
  go_wp2_with (at_make; refine wpList_make_full _ rfl _ _ 22 rfl w.heap.size 5 i0 (.int .u8 0) 1 Try.underlying22 hi hz0 hz1 _ _ _ _ 0 rfl rfl (by rfl) (by rfl) ?b2 ?b3 (Nat.le_refl _) ?_)
  case b2 => omega
  case b3 => unfold maxLen; omega
  intro w1 hown hgrow
  have hb1 : Below w.heap.size w w1 := (Below.refl _ _).grown hgrow (Nat.le_refl _) (fun k hk => by cases hk)
  clear hgrow
  go_wp2
  refine wp_loop_rounds 1 ?_
  rw [rounds_succ]
  go_wp2
  go_ret
  exact ⟨rfl, hb1, by simpa [toList_madeCells_one] using hown⟩

set_option maxHeartbeats 1600000 in
theorem clone_some (b off len cap : Nat) (zs : List Int) (w : World) (hl : len ≤ cap) (hz : zs.length = cap) (hlen : len ≤ 1048576)
    (hc : ∀ i, i < zs.length → w.cell? ⟨b, off + i, none⟩ = some (.int .u8 (zs.getD i 0))) :
    Calls Try.prog 8 #[.slice (some ⟨b, off, none⟩) len cap] w fun e w' => e = .returned (.slice (some ⟨w.heap.size, 0, none⟩) len len) ∧ Below w.heap.size w w' ∧
      w'.ownsRow w.heap.size 5 1 (.slice (some ⟨w.heap.size, 0, none⟩) len len) len ((zs.take len).map (.int .u8)) := by
  obtain ⟨i0, hi, hz0, hz1, hz2⟩ := info_parts info5
  have hnil := fun (w : World) => Lib.run_eql_slice_nil (P := Try.prog) w 22 5 (some ⟨b, off, none⟩) len cap 0 0 Try.underlying22
  go_enter Try.func8, Try.ntmps8
  go_wp2_with (at_make; refine wpList_make_full _ rfl _ _ 22 rfl w.heap.size 5 i0 (.int .u8 0) 1 Try.underlying22 hi hz0 hz1 _ _ _ _ len rfl rfl (by rfl) (by rfl) ?b2 ?b3 (Nat.le_refl _) ?_)
  case b2 => rw [hz2]; omega
  case b3 => unfold maxLen; omega
  intro w1 hown0 hgrow
  have hown : w1.ownsRow w.heap.size 5 1 (.slice (some ⟨w.heap.size, 0, none⟩) len len) len (part zs len 0) := by
    rw [part_zero, ← toList_madeCells_one, ← Nat.mul_one len]; simpa using hown0
  have hb1 : Below w.heap.size w w1 := (Below.refl _ _).grown hgrow (Nat.le_refl _) (fun k hk => by cases hk)
  clear hgrow hown0
  go_wp2
  go_loopw [4] (fun i wr => ∃ k : Nat, k ≤ len ∧ i = .int .i64 k ∧ Below w.heap.size w wr ∧ wr.ownsRow w.heap.size 5 1 (.slice (some ⟨w.heap.size, 0, none⟩) len len) len (part zs len k))
    (fun i _ => len - (intOf i).toNat)
  case atStart => exact ⟨0, Nat.zero_le _, rfl, hb1, hown⟩
  case round =>
    obtain ⟨k, hk, rfl, hbel, hownk⟩ := hrel
    clear hown hb1
    by_cases hlt : k < len
    · have hcx : wr.cell? ⟨b, off + k, none⟩ = some (.int .u8 (zs.getD k 0)) := cellLater hbel (hc k (by omega))
      have hst := hownk.stored k (.int .u8 (zs.getD k 0))
      rw [part_succ zs len k hlt (by omega)] at hst
      have hgx : wr.frozen? ⟨w.heap.size, k, none⟩ = false := hownk.frozenAt k
      have hgc : wr.cell? ⟨w.heap.size, k, none⟩ = some (.int .u8 0) := by
        rw [hownk.cellAt k (by omega)]
        unfold part
        rw [List.getElem?_append_right (by simp; omega)]
        have : k - ((zs.take k).map (Value.int .u8)).length = 0 := by simp; omega
        rw [this]
        rw [List.getElem?_replicate]
        simp [show 0 < len - k by omega]
      have HR := Lib.hid (And.intro hst.1 ((hbel).setCell (p := ⟨w.heap.size, k, none⟩) (Nat.le_refl _) (.int .u8 (zs.getD k 0))))
      clear hst hownk hbel hc
      go_wp2
      go_roundw
      case rel => exact ⟨k + 1, by omega, by go_num, HR.out.2, HR.out.1⟩
      case measure => simp [intOf]; omega
    · obtain rfl : k = len := by omega
      go_wp2
      go_ret
      rw [part_full] at hownk
      exact ⟨rfl, hbel, hownk⟩

theorem clone_any (a : Option Addr) (len cap : Nat) (zs : List Int) (w : World) (h : Row w a len cap zs) (hlen : len ≤ 1048576) :
    Calls Try.prog 8 #[.slice a len cap] w fun e w' => Below w.heap.size w w' ∧
      ((a = none ∧ len = 0 ∧ e = .returned (.slice none 0 0)) ∨
       (e = .returned (.slice (some ⟨w.heap.size, 0, none⟩) len len) ∧ w'.ownsRow w.heap.size 5 1 (.slice (some ⟨w.heap.size, 0, none⟩) len len) len ((zs.take len).map (.int .u8)))) := by
  rcases h with ⟨rfl, rfl, rfl, rfl⟩ | ⟨x, rfl, hl, hz, hc⟩
  · refine (clone_nil w).mono ?_
    rintro e w' ⟨rfl, rfl⟩
    exact ⟨Below.refl _ _, .inl ⟨rfl, rfl, rfl⟩⟩
  · by_cases h0 : len = 0
    · subst h0
      refine (clone_empty x cap w).mono ?_
      rintro e w' ⟨rfl, hb, ho⟩
      exact ⟨hb, .inr ⟨rfl, by simpa using ho⟩⟩
    · obtain ⟨b, off, rfl, hc'⟩ := ints_at hc (by omega)
      refine (clone_some b off len cap zs w hl hz hlen hc').mono ?_
      rintro e w' ⟨rfl, hb, ho⟩
      exact ⟨hb, .inr ⟨rfl, ho⟩⟩
end Go.Proofs.Qxb6602002a.padw
