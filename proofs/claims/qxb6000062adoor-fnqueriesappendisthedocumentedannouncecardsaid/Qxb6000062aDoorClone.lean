import Derived.Test.Qxb6000062aDoorPadded
import Derived.Laws.CopyOwn
/-! zzCloneBytes, zzCloneStrings: the contracts. -/
namespace Go.Proofs.Qxb6000062aDoor.pm
open Go Go.RowKit Go.Lib Go.Sort
set_option linter.unusedVariables false

theorem info9 : (Tryd.prog.info? 9).map (fun i => (i.zero, i.size, i.bytes)) = some (some (.string ⟨#[]⟩), 1, 16) := by kernel_rfl
theorem size5 : (Tryd.prog.info? 5).map (·.size) = some 1 := by kernel_rfl
theorem size9 : (Tryd.prog.info? 9).map (·.size) = some 1 := by kernel_rfl

/-- a slice of one-cell elements, its elements' cells -/
def Elems (w : World) (a : Option Addr) (len : Nat) (xs : List Value) : Prop :=
  (a = none → len = 0) ∧ xs.length = len ∧ (∀ x, a = some x → ∀ j u, xs[j]? = some u → w.cell? (x.add j) = some u) ∧ ∀ u ∈ xs, u.oneCell' = true

theorem splice_all {α : Type} (Z X : List α) (h : Z.length = X.length) : splice Z 0 X = X := by
  unfold splice
  rw [List.take_zero, List.drop_of_length_le (by omega)]
  simp

theorem own_of_row {w : World} {g : Nat} {e : TypeId} {n : Nat} {xs : List Value} (hg : w.heap[g]? = some (.cells xs.toArray e (0, 0))) (hl : xs.length = n) (hm : n ≤ maxLen) : w.ownsRow g e 1 (.slice (some ⟨g, 0, none⟩) n n) n xs :=
  ⟨by omega, .inr ⟨g, n, xs.toArray, rfl, Nat.le_refl _, hg, Nat.le_refl _, hm, by simpa using hl, by rw [Nat.mul_one, ← hl]; simp⟩⟩

theorem row_of_own {w : World} {B g : Nat} {e : TypeId} {n : Nat} {xs : List Value} (h : w.ownsRow B e 1 (.slice (some ⟨g, 0, none⟩) n n) n xs) : ∃ cur : List Value, w.heap[g]? = some (.cells cur.toArray e (0, 0)) ∧ cur.length = n := by
  rcases h.2 with ⟨h', _⟩ | ⟨g', cap, cur, h', _, hg, _, _, hs, _⟩
  · cases h'
  · cases h'
    exact ⟨cur.toList, by simpa using hg, by simpa using hs⟩

theorem cloneBytes_nil (w : World) :
    Calls Tryd.prog 9 #[.slice none 0 0] w fun e w' => e = .returned (.slice none 0 0) ∧ w = w' := by
  have hnil := fun (w : World) => Lib.run_eql_slice_nil (P := Tryd.prog) w 22 5 none 0 0 0 0 Tryd.underlying22
  go_enter Tryd.func9, Tryd.ntmps9
  go_wp2
  go_ret
  exact ⟨rfl, rfl⟩

set_option maxHeartbeats 1600000 in
theorem cloneBytes_some (x : Addr) (len cap : Nat) (xs : List Value) (w : World) (hE : Elems w (some x) len xs) (hl : len ≤ 1048576) :
    Calls Tryd.prog 9 #[.slice (some x) len cap] w fun e w' => e = .returned (.slice (some ⟨w.heap.size, 0, none⟩) len len) ∧ Below w.heap.size w w' ∧ w'.ownsRow w.heap.size 5 1 (.slice (some ⟨w.heap.size, 0, none⟩) len len) len xs := by
  obtain ⟨i0, hi, hz0, hz1, hz2⟩ := info_parts info5
  have hnil := fun (w : World) => Lib.run_eql_slice_nil (P := Tryd.prog) w 22 5 (some x) len cap 0 0 Tryd.underlying22
  go_enter Tryd.func9, Tryd.ntmps9
  go_wp2_with (at_make; refine wpList_make_full _ rfl _ _ 22 rfl w.heap.size 5 i0 (.int .u8 0) 1 Tryd.underlying22 hi hz0 hz1 _ _ _ _ len rfl rfl (by rfl) (by rfl) ?b2 ?b3 (Nat.le_refl _) ?_)
  case b2 => rw [hz2]; omega
  case b3 => unfold maxLen; omega
  intro w1 hown hgrow
  have hb1 : Below w.heap.size w w1 := (Below.refl _ _).grown hgrow (Nat.le_refl _) (fun k hk => by cases hk)
  obtain ⟨cur, hrow, hcur⟩ := row_of_own hown
  clear hown hgrow
  have HE := Lib.hid hE
  clear hE
  go_wp2_with (refine wpList_copy_splice rfl (.tmp 9) (.tmp 10) 22 22 rfl 5 Tryd.underlying22 size5 _ _ _ _ _ _ rfl rfl w.heap.size 0 cur 5 hrow xs ?c0 ?c1 ?c2 HE.out.2.2.2 w.heap.size w hb1 (Nat.le_refl _) ?_)
  case c0 => rw [HE.out.2.1]; simp
  case c1 => intro _; exact fun j v hj => cellLater hb1 (HE.out.2.2.1 x rfl j v hj)
  case c2 => rw [HE.out.2.1]; omega
  intro w2 HG hb2
  have hlx := HE.out.2.1
  have hg := HG.out
  rw [splice_all _ _ (by omega)] at hg
  have ho := ownsRow_mono (own_of_row hg hlx (by unfold maxLen; omega)) (Nat.le_refl _)
  clear HG hg hrow
  go_wp2
  go_ret
  exact ⟨rfl, hb2, ho⟩
theorem cloneStrings_nil (w : World) :
    Calls Tryd.prog 16 #[.slice none 0 0] w fun e w' => e = .returned (.slice none 0 0) ∧ w = w' := by
  have hnil := fun (w : World) => Lib.run_eql_slice_nil (P := Tryd.prog) w 29 9 none 0 0 0 0 Tryd.underlying29
  go_enter Tryd.func16, Tryd.ntmps16
  go_wp2
  go_ret
  exact ⟨rfl, rfl⟩

set_option maxHeartbeats 1600000 in
theorem cloneStrings_some (x : Addr) (len cap : Nat) (xs : List Value) (w : World) (hE : Elems w (some x) len xs) (hl : len ≤ 1048576) :
    Calls Tryd.prog 16 #[.slice (some x) len cap] w fun e w' => e = .returned (.slice (some ⟨w.heap.size, 0, none⟩) len len) ∧ Below w.heap.size w w' ∧ w'.ownsRow w.heap.size 9 1 (.slice (some ⟨w.heap.size, 0, none⟩) len len) len xs := by
  obtain ⟨i0, hi, hz0, hz1, hz2⟩ := info_parts info9
  have hnil := fun (w : World) => Lib.run_eql_slice_nil (P := Tryd.prog) w 29 9 (some x) len cap 0 0 Tryd.underlying29
  go_enter Tryd.func16, Tryd.ntmps16
  go_wp2_with (at_make; refine wpList_make_full _ rfl _ _ 29 rfl w.heap.size 9 i0 (.string ⟨#[]⟩) 1 Tryd.underlying29 hi hz0 hz1 _ _ _ _ len rfl rfl (by rfl) (by rfl) ?b2 ?b3 (Nat.le_refl _) ?_)
  case b2 => rw [hz2]; omega
  case b3 => unfold maxLen; omega
  intro w1 hown hgrow
  have hb1 : Below w.heap.size w w1 := (Below.refl _ _).grown hgrow (Nat.le_refl _) (fun k hk => by cases hk)
  obtain ⟨cur, hrow, hcur⟩ := row_of_own hown
  clear hown hgrow
  have HE := Lib.hid hE
  clear hE
  go_wp2_with (refine wpList_copy_splice rfl (.tmp 9) (.tmp 10) 29 29 rfl 9 Tryd.underlying29 size9 _ _ _ _ _ _ rfl rfl w.heap.size 0 cur 9 hrow xs ?c0 ?c1 ?c2 HE.out.2.2.2 w.heap.size w hb1 (Nat.le_refl _) ?_)
  case c0 => rw [HE.out.2.1]; simp
  case c1 => intro _; exact fun j v hj => cellLater hb1 (HE.out.2.2.1 x rfl j v hj)
  case c2 => rw [HE.out.2.1]; omega
  intro w2 HG hb2
  have hlx := HE.out.2.1
  have hg := HG.out
  rw [splice_all _ _ (by omega)] at hg
  have ho := ownsRow_mono (own_of_row hg hlx (by unfold maxLen; omega)) (Nat.le_refl _)
  clear HG hg hrow
  go_wp2
  go_ret
  exact ⟨rfl, hb2, ho⟩

theorem cloneBytes_any (a : Option Addr) (len cap : Nat) (xs : List Value) (w : World) (h0 : a = none → cap = 0) (hE : Elems w a len xs) (hl : len ≤ 1048576) :
    Calls Tryd.prog 9 #[.slice a len cap] w fun e w' => Below w.heap.size w w' ∧ ∃ a', e = .returned (.slice a' len len) ∧ Full w' w'.heap.size a' len xs ∧ (a' = none ↔ a = none) ∧ (a' = none ∨ a' = some ⟨w.heap.size, 0, none⟩) := by
  cases a with
  | none =>
    have e0 := hE.1 rfl
    have e1 := h0 rfl
    subst e0 e1
    refine (cloneBytes_nil w).mono ?_
    rintro e w' ⟨rfl, rfl⟩
    exact ⟨Below.refl _ _, none, rfl, And.intro (fun _ => rfl) (And.intro hE.2.1 (fun b hb => by cases hb)), Iff.rfl, .inl rfl⟩
  | some x =>
    refine (cloneBytes_some x len cap xs w hE hl).mono ?_
    rintro e w' ⟨rfl, hb, ho⟩
    refine ⟨hb, _, rfl, And.intro (fun h => by cases h) (And.intro hE.2.1 (fun b hb' => ?_)), by simp, .inr rfl⟩
    cases hb'
    exact And.intro (ho.lt _ rfl).2 (fun j u hj => ho.cells (g := w.heap.size) rfl j u hj)
end Go.Proofs.Qxb6000062aDoor.pm
