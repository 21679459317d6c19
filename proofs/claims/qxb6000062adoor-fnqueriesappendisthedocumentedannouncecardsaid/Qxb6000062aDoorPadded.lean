import Derived.Test.Qxb6000062aDoorOnto
import Derived.WalkSpells
import Derived.WalkLawsBesides
/-! appendPadded, ZZAppendPadded: the contracts. -/
namespace Go.Proofs.Qxb6000062aDoor.pm
open Go Go.RowKit Go.Lib Go.Sort
set_option linter.unusedVariables false

/-- how many zeros appendPadded writes -/
def padN (width : Int) (len : Nat) : Nat := (width - len).toNat

theorem TabBelow.mono {B B' : Nat} {w : World} (h : TabBelow Tryd.prog B w tabName .u64 pow10Tab) (hB : B ≤ B') : TabBelow Tryd.prog B' w tabName .u64 pow10Tab :=
  fun w' hb => h w' (hb.mono hB)

def zeros20 : Array Value := #[Value.int .u8 0, Value.int .u8 0, Value.int .u8 0, Value.int .u8 0, Value.int .u8 0, Value.int .u8 0, Value.int .u8 0, Value.int .u8 0, Value.int .u8 0, Value.int .u8 0, Value.int .u8 0, Value.int .u8 0, Value.int .u8 0, Value.int .u8 0, Value.int .u8 0, Value.int .u8 0, Value.int .u8 0, Value.int .u8 0, Value.int .u8 0, Value.int .u8 0]

theorem arr_new (w : World) : Arr (w.alloc (.cells zeros20 55)) w.heap.size 55 20 0 [] :=
  ⟨zeros20, heap_alloc_new w _, rfl, by decide, rfl⟩

theorem kept_digits {B : Nat} {w w1 : World} {cs : Array Value} (hB : B ≤ w.heap.size) (hg : (w.alloc (.cells cs 55)).grownBy w1 (some w.heap.size)) : Kept B w w1 := by
  have hb : Below w.heap.size w w1 := ((Below.refl _ w).alloc (Nat.le_refl _) _).grown hg (by simp) (fun k hk => by cases hk; exact Nat.le_refl _)
  exact ⟨hb.mono hB, (OthersKept.refl _ _ w).below hb⟩
theorem ok_digits {B : Nat} {w w1 : World} {cs : Array Value} {v : Value} {n : Nat} {xs : List Value} (hB : B ≤ w.heap.size) (hok : Ok w B v n xs) (hg : (w.alloc (.cells cs 55)).grownBy w1 (some w.heap.size)) : Ok w1 B v n xs := by
  rcases hok with hown | ⟨a, rfl, hf⟩
  · exact .inl ((hown.alloc _).kept hg (.inr (fun e => by have := (hown.lt _ e).2; omega)))
  · exact .inr ⟨a, rfl, hf.below (kept_digits hB hg).1⟩
theorem ok_alloc {B : Nat} {w : World} {v : Value} {n : Nat} {xs : List Value} (hok : Ok w B v n xs) (o : Obj) : Ok (w.alloc o) B v n xs := by
  rcases hok with hown | ⟨a, rfl, hf⟩
  · exact .inl (hown.alloc _)
  · refine .inr ⟨a, rfl, And.intro hf.1 (And.intro hf.2.1 (fun b hb => And.intro (hf.2.2 b hb).1 (fun j u hj => ?_)))⟩
    exact cellLater ((Below.refl _ w).alloc (Nat.le_refl _) o) ((hf.2.2 b hb).2 j u hj)
theorem byteCells_one (l : List UInt8) : ∀ u ∈ byteCells l, u.oneCell' = true := by
  intro u hu
  simp only [byteCells, List.mem_map] at hu
  obtain ⟨b, _, rfl⟩ := hu
  rfl

set_option maxHeartbeats 3200000 in
set_option maxRecDepth 100000 in
theorem appendPadded_any (B : Nat) (v : Value) (n : Nat) (xs : List Value) (i width : Int) (h0 : -9223372036854775808 ≤ i) (h1 : i ≤ 9223372036854775807) (hw0 : -65536 ≤ width) (hw1 : width ≤ 65536)
    (w : World) (hok : Ok w B v n xs) (hB : B ≤ w.heap.size) (hn : n ≤ 4194304) (htab : TabBelow Tryd.prog B w tabName .u64 pow10Tab) :
    Calls Tryd.prog 26 #[v, .int .i64 i, .int .i64 width] w fun e w' => ∃ v', e = .returned v' ∧ Kept B w w' ∧
      w'.ownsRow B 5 1 v' (n + padN width (itoa i).length + (itoa i).length) (xs ++ List.replicate (padN width (itoa i).length) (.int .u8 48) ++ byteCells (itoa i)) := by
  have hl := itoa_len i h0 h1
  have hAI := appendInt_room w.heap.size 55 20 i h0 h1 (w.alloc (.cells zeros20 55)) (arr_new w) hl.2 (TabBelow.mono (htab.on ((Below.refl B w).alloc hB _)) hB)
  generalize itoa i = ds at hl hAI ⊢
  obtain ⟨hl1, hl2⟩ := hl
  generalize hp : padN width ds.length = p
  have hp1 : p ≤ 65536 := by unfold padN at hp; omega
  have HP : Hid (p = padN width ds.length) := hp.symm
  have HAI := Lib.hid hAI
  clear hp hAI
  go_enter Tryd.func26, Tryd.ntmps26
  go_wp2_with fail
  go_at_call 29
  refine HAI.out.mono ?_
  rintro e w1 ⟨rfl, hg1, ha1⟩
  have hk1 : Kept B w w1 := kept_digits hB hg1
  have hok1 : Ok w1 B v n xs := ok_digits hB hok hg1
  have hs1 : w.heap.size < w1.heap.size := by have := hg1.size; simp at this; omega
  clear hg1 hok htab HAI
  go_wp2
  go_loopw [0, 16] (fun u c wr => ∃ j : Nat, j ≤ p ∧ c = .int .i64 j ∧ Kept B w wr ∧ w.heap.size < wr.heap.size ∧ Arr wr w.heap.size 55 20 ds.length (byteCells ds) ∧ Ok wr B u (n + j) (xs ++ List.replicate j (.int .u8 48)))
    (fun _ c _ => p - (RowKit.intOf c).toNat)
  case atStart => exact ⟨0, Nat.zero_le _, rfl, hk1, hs1, ha1, by simpa using hok1⟩
  case round =>
    obtain ⟨j, hj, rfl, hk, hsz, ha, hok⟩ := hrel
    clear hk1 hs1 ha1 hok1
    by_cases hlt : j < p
    · have hcmp : (j : Int) < width - (ds.length : Int) := by have := HP.out; unfold padN at this; omega
      go_wp2_with (at_builtin; refine wpList_append_ok _ rfl _ _ rfl B _ _ _ rfl (ok_alloc hok _) ⟨wr.heap.size, 0, none⟩ 1 1 [.int .u8 48] rfl rfl (by intro j u hj; match j, hj with | 0, hj => simp at hj; subst hj; simp [Addr.add]) (by intro u hu; simp at hu; subst hu; rfl) (by decide) (by omega) (by simp; omega) ?_)
      intro v1 w2 hown hkk
      have hk2 : Kept B w w2 := hk.trans (((Kept.refl B wr).alloc (by omega) _).trans hkk)
      have ha2 : Arr w2 w.heap.size 55 20 ds.length (byteCells ds) := ha.kept (by decide) (((Kept.refl B wr).alloc (by omega) _).trans hkk)
      have hs2 : w.heap.size < w2.heap.size := by have := hkk.1.size; simp at this; omega
      have hok2 : Ok w2 B v1 (n + (j + 1)) (xs ++ List.replicate (j + 1) (.int .u8 48)) := .inl (by
        rw [List.replicate_succ', ← Nat.add_assoc]; simpa using hown)
      clear hk ha hok hown hkk
      go_wp2
      go_roundw
      case rel => exact ⟨j + 1, by omega, by go_num, hk2, hs2, ha2, hok2⟩
      case measure => simp [RowKit.intOf]; omega
    · obtain rfl : j = p := by omega
      have hcmp : ¬ (j : Int) < width - (ds.length : Int) := by have := HP.out; unfold padN at this; omega
      go_wp2_with (at_builtin; refine wpList_append_ok _ rfl _ _ rfl B _ _ _ rfl hok ⟨w.heap.size, 0, none⟩ ds.length 20 (byteCells ds) rfl (byteCells_length ds) ?c1 ?c2 (by omega) (by omega) (by omega) ?_)
      case c1 =>
        intro l u hlu
        have hll := (List.getElem?_eq_some_iff.1 hlu).1
        rw [byteCells_length] at hll
        rw [ha.cell l hll]
        exact hlu
      case c2 => exact byteCells_one ds
      intro v1 w2 hown hkk
      go_wp2
      go_ret
      exact ⟨v1, rfl, hk.trans hkk, by simpa using hown⟩

set_option maxHeartbeats 3200000 in
theorem zzAppendPadded_any (B : Nat) (v : Value) (n : Nat) (xs : List Value) (i width : Int) (h0 : -9223372036854775808 ≤ i) (h1 : i ≤ 9223372036854775807) (hw0 : -65536 ≤ width) (hw1 : width ≤ 65536)
    (w : World) (hok : Ok w B v n xs) (hB : B ≤ w.heap.size) (hn : n ≤ 4194304) (htab : TabBelow Tryd.prog B w tabName .u64 pow10Tab) :
    Calls Tryd.prog 10 #[v, .int .i64 i, .int .i64 width] w fun e w' => ∃ v', e = .returned v' ∧ Kept B w w' ∧
      w'.ownsRow B 5 1 v' (n + padN width (itoa i).length + (itoa i).length) (xs ++ List.replicate (padN width (itoa i).length) (.int .u8 48) ++ byteCells (itoa i)) := by
  go_enter Tryd.func10, Tryd.ntmps10
  go_wp2_with (go_at_call 26; refine (appendPadded_any B v n xs i width h0 h1 hw0 hw1 w hok hB hn htab).mono ?_; rintro e w1 ⟨v1, rfl, hk, ho⟩)
  go_ret
  exact ⟨v1, rfl, hk, ho⟩
end Go.Proofs.Qxb6000062aDoor.pm
