import Derived.Test.Qxb6000062aDoorLaid
import Derived.Test.Qxb6000062aDoorShelf
import Derived.Test.Qxb6000062aDoorRoom
import Derived.Lib.Walk
import Derived.Lib.Slices
import Derived.Lib.Hide
import Derived.WalkKit
import Derived.BigCall
import Derived.BigGuard
import Derived.CellFam
/-! strconv.AppendInt(dst, i, 10) where dst is a row with room ('digits[:0]'), after the shelf's own proofs for an owned row. -/
namespace Go.Proofs.Qxb6000062aDoor.pm
open Go Go.RowKit Go.Lib Go.Sort

theorem info5 : (Tryd.prog.info? 5).map (fun i => (i.zero, i.size, i.bytes)) = some (some (.int .u8 0), 1, 1) := by kernel_rfl

theorem small_at (u : Nat) (h : u < 100) (w : World) : Calls Tryd.prog 32 #[.int .i64 u] w fun e w' => e = .returned (.string ⟨(decDigits u).toArray⟩) ∧ w' = w :=
  Any.internal_strconv_small { Tryd.lays176 with } u h w
theorem numDigits_at (u : Nat) (h1 : 1 ≤ u) (h2 : u < 18446744073709551616) (w : World) (htab : TabIs Tryd.prog w tabName .u64 pow10Tab) :
    Calls Tryd.prog 33 #[.int .u64 u] w fun e w' => e = .returned (.int .i64 (nDigits u)) ∧ w' = w :=
  Any.internal_strconv_numDigits { Tryd.lays176 with } u h1 h2 w htab
theorem formatBase10_at (blk off cap u : Nat) (d : Array UInt8) (w : World) (hH : Holds (fun (b : UInt8) => Value.int .u8 (b.toNat : Int)) w blk off d) (hu : u < 10 ^ d.size) (hu64 : u < 18446744073709551616) (hsz : d.size < 4611686018427387904) :
    Calls Tryd.prog 34 #[.slice (some ⟨blk, off, none⟩) d.size cap, .int .u64 u] w fun e w' =>
      e = .returned (.tuple #[]) ∧ ∃ (n v' : Nat) (dk : Array UInt8), w' = (putRow (fun (b : UInt8) => Value.int .u8 (b.toNat : Int)) w blk off dk).drewN n ∧ FmtInv d.size u 0 v' dk :=
  Any.internal_strconv_formatBase10 { Tryd.lays176 with } blk off cap u d w hH hu hu64 hsz
theorem appendInt_own (B n : Nat) (i : Int) (h0 : -9223372036854775808 ≤ i) (h1 : i ≤ 9223372036854775807) (sv : Value) (xs : List Value) (w : World) (hown : w.ownsRow B 5 1 sv n xs) (hBw : B ≤ w.heap.size) (hlim : n + 21 ≤ 140737488355328)
    (htab : TabBelow Tryd.prog B w tabName .u64 pow10Tab) :
    Calls Tryd.prog 29 #[sv, .int .i64 i, .int .i64 10] w fun e w' => ∃ v', e = .returned v' ∧ w'.ownsRow B 5 1 v' (n + (itoa i).length) (xs ++ byteCells (itoa i)) ∧ Below B w w' ∧ OthersKept 5 none w w' :=
  Any.strconv_AppendInt_10 Tryd.lays176 B n i h0 h1 sv xs w hown hBw hlim htab

theorem grown_trans {w w1 w2 : World} {g : Nat} (h1 : w.grownBy w1 (some g)) (h2 : w1.grownBy w2 (some g)) : w.grownBy w2 (some g) :=
  ⟨h2.os.trans h1.os, h2.tape.trans h1.tape, h2.output.trans h1.output, Nat.le_trans h1.size h2.size, fun k hk hr => (h2.block k (Nat.lt_of_lt_of_le hk h1.size) hr).trans (h1.block k hk hr)⟩
theorem grown_alloc {w w1 : World} {o : Obj} {g : Nat} (h : (w.alloc o).grownBy w1 (some g)) : w.grownBy w1 (some g) :=
  ⟨h.os, h.tape, h.output, Nat.le_trans (by simp) h.size, fun k hk hr => (h.block k (by simp; omega) hr).trans (Below.heap_alloc w o k hk)⟩
theorem below_of_grown {w w1 : World} {g : Nat} (h : w.grownBy w1 (some g)) (hg : g ≤ w.heap.size) : Below g w w1 :=
  (Below.refl g w).grown h hg (fun k hk => by cases hk; exact Nat.le_refl _)

set_option maxHeartbeats 6400000 in
set_option maxRecDepth 100000 in
theorem appendUint_small (g : Nat) (T : TypeId) (cap n u : Nat) (hu : u < 100) (xs : List Value) (w : World) (harr : Arr w g T cap n xs) (hroom : n + (decDigits u).length ≤ cap) :
    Calls Tryd.prog 31 #[.slice (some ⟨g, 0, none⟩) n cap, .int .u64 u, .int .i64 10] w fun e w' => e = .returned (.slice (some ⟨g, 0, none⟩) (n + (decDigits u).length) cap) ∧ w.grownBy w' (some g) ∧ Arr w' g T cap (n + (decDigits u).length) (xs ++ byteCells (decDigits u)) := by
  obtain ⟨i0, hi, hz0, hz1, hz2⟩ := info_parts info5
  have hsz : (⟨(decDigits u).toArray⟩ : ByteArray).size = (decDigits u).length := by simp [ByteArray.size]
  go_enter Tryd.func31, Tryd.ntmps31
  go_wp2_with (first
    | (go_at_call 32; refine (small_at u hu _).mono ?_; rintro e w' ⟨rfl, rfl⟩)
    | (at_builtin; refine wpList_room_string _ rfl _ _ 22 9 rfl 5 i0 Tryd.underlying22 Tryd.underlying9 hi hz1 g T cap n xs rfl harr ⟨(decDigits u).toArray⟩ rfl (by rw [hsz]; omega) ?_))
  intro w1 ha hg
  go_wp2
  go_ret
  refine ⟨rfl, hg, ?_⟩
  first | exact ha | (rw [hsz] at ha; exact ha)

theorem arr_grow {w : World} {g : Nat} {T : TypeId} {cap n : Nat} {xs : List Value} (h : Arr w g T cap n xs) (k : Nat) (os : Array Obj) : Arr (grow (w.drewN k) os) g T cap n xs :=
  h.of_block (heap_grow_old w k os g h.lt)

set_option maxHeartbeats 12800000 in
set_option maxRecDepth 100000 in
theorem appendUint_big (g : Nat) (T : TypeId) (cap n u : Nat) (hu : 100 ≤ u) (hu64 : u < 18446744073709551616) (xs : List Value) (w : World) (harr : Arr w g T cap n xs) (hroom : n + (decDigits u).length ≤ cap)
    (htab : TabIs Tryd.prog w tabName .u64 pow10Tab) :
    Calls Tryd.prog 31 #[.slice (some ⟨g, 0, none⟩) n cap, .int .u64 u, .int .i64 10] w fun e w' => e = .returned (.slice (some ⟨g, 0, none⟩) (n + (decDigits u).length) cap) ∧ w.grownBy w' (some g) ∧ Arr w' g T cap (n + (decDigits u).length) (xs ++ byteCells (decDigits u)) := by
  obtain ⟨i0, hi, hz0, hz1, hz2⟩ := info_parts info5
  have hu1 : 1 ≤ u := by omega
  have hnd20 : nDigits u ≤ 20 := nDigits_le20 u hu64
  rw [decDigits_length] at hroom ⊢
  have hal : Tryd.prog.arrayLen 48 = 24 := by simp [Program.arrayLen, Tryd.underlying48]
  have hsl : ∀ W, (Instr.sliceAt 48 (.pointer (some ⟨w.heap.size, 0, none⟩)) none (some (.int .i64 (nDigits u : Int))) none).run Tryd.prog W = .ok (.slice (some ⟨w.heap.size, 0, none⟩) (nDigits u) 24) W := fun W => by
    rw [run_sliceAt_array_h W 48 ⟨w.heap.size, 0, none⟩ (by simp [Program.arrayLen, Program.elem, Tryd.underlying48]) .i64 (nDigits u : Int) (by omega) (by rw [hal]; omega)]
    go_simp
  have hH0 := holds_zero0 w 48 (nDigits u) (by omega)
  have hfmt := formatBase10_at w.heap.size 0 24 u (Array.replicate (nDigits u) 0) (w.alloc (.cells zeros24 48)) hH0 (by rw [Array.size_replicate]; exact lt_pow_nDigits u) hu64 (by rw [Array.size_replicate]; omega)
  rw [Array.size_replicate] at hfmt
  have HH0 := Lib.hid hH0
  have iu : (100 : Int) ≤ (u : Int) := by omega
  clear hH0 hal
  go_enter Tryd.func31, Tryd.ntmps31
  go_wp2_with (first
    | (go_at_call 33; refine (numDigits_at u hu1 hu64 _ (tabIs_alloc htab _)).mono ?_; rintro e w' ⟨rfl, rfl⟩))
  go_at_call 34
  refine hfmt.mono ?_
  rintro e w' ⟨rfl, k, v', dk, rfl, hF⟩
  have hcells : ∀ j u', (byteCells (decDigits u))[j]? = some u' → ((putRow (fun (b : UInt8) => Value.int .u8 (b.toNat : Int)) (w.alloc (.cells zeros24 48)) w.heap.size 0 dk).drewN k).cell? ((⟨w.heap.size, 0, none⟩ : Addr).add j) = some u' := by
    intro j u' hj
    have hjl : j < (decDigits u).length := by
      have h5 := (List.getElem?_eq_some_iff.1 hj).1
      rwa [byteCells_length] at h5
    have e5 : (byteCells (decDigits u))[j]? = some (Value.int .u8 ((decDigits u)[j].toNat : Int)) := by simp [byteCells, hjl]
    rw [e5] at hj
    cases hj
    rw [row_is_numeral hF j hjl, add_plain, World.cell?_drewN]
    exact cell?_putRow (fun (b : UInt8) => Value.int .u8 (b.toNat : Int)) _ w.heap.size 0 _ dk HH0.out (by rw [hF.size, Array.size_replicate]) j (by rw [hF.size]; rw [decDigits_length] at hjl; exact hjl)
  obtain ⟨os, eo⟩ := fin_at w (.cells zeros24 48) dk k 0
  have hown2 : Arr ((putRow (fun (b : UInt8) => Value.int .u8 (b.toNat : Int)) (w.alloc (.cells zeros24 48)) w.heap.size 0 dk).drewN k) g T cap n xs := by rw [eo]; exact arr_grow harr k os
  have hnx2 : w.grownBy ((putRow (fun (b : UInt8) => Value.int .u8 (b.toNat : Int)) (w.alloc (.cells zeros24 48)) w.heap.size 0 dk).drewN k) (some g) := by
    rw [eo]; exact ⟨rfl, rfl, rfl, size_grow w k os, fun j hj _ => heap_grow_old w k os j hj⟩
  generalize (putRow (fun (b : UInt8) => Value.int .u8 (b.toNat : Int)) (w.alloc (.cells zeros24 48)) w.heap.size 0 dk).drewN k = W2 at hcells hown2 hnx2 ⊢
  clear eo HH0 hfmt
  go_wp2_with (at_builtin; refine wpList_room_slice _ rfl _ _ 22 rfl 5 i0 Tryd.underlying22 hi hz1 g T cap n xs rfl hown2 ⟨w.heap.size, 0, none⟩ (nDigits u) 24 (byteCells (decDigits u)) rfl ?c0 hcells ?c2 ?c3 ?_)
  case c0 => rw [byteCells_length, decDigits_length]
  case c2 => intro u' hu'; simp only [byteCells, List.mem_map] at hu'; obtain ⟨b, _, rfl⟩ := hu'; rfl
  case c3 => omega
  intro w3 ha hgrow
  go_wp2
  go_ret
  exact ⟨rfl, grown_trans hnx2 hgrow, ha⟩

theorem appendUint_any (g : Nat) (T : TypeId) (cap n u : Nat) (hu64 : u < 18446744073709551616) (xs : List Value) (w : World) (harr : Arr w g T cap n xs) (hroom : n + (decDigits u).length ≤ cap)
    (htab : TabIs Tryd.prog w tabName .u64 pow10Tab) :
    Calls Tryd.prog 31 #[.slice (some ⟨g, 0, none⟩) n cap, .int .u64 u, .int .i64 10] w fun e w' => e = .returned (.slice (some ⟨g, 0, none⟩) (n + (decDigits u).length) cap) ∧ w.grownBy w' (some g) ∧ Arr w' g T cap (n + (decDigits u).length) (xs ++ byteCells (decDigits u)) := by
  by_cases h : u < 100
  · exact appendUint_small g T cap n u h xs w harr hroom
  · exact appendUint_big g T cap n u (by omega) hu64 xs w harr hroom htab

set_option maxHeartbeats 6400000 in
set_option maxRecDepth 100000 in
theorem appendInt_in (g : Nat) (T : TypeId) (cap : Nat) (i : Int) (h0 : -9223372036854775808 ≤ i) (h1 : i ≤ 9223372036854775807) (w : World) (harr : Arr w g T cap 0 []) (hroom : (itoa i).length ≤ cap)
    (htab : TabBelow Tryd.prog g w tabName .u64 pow10Tab) :
    Calls Tryd.prog 30 #[.slice (some ⟨g, 0, none⟩) 0 cap, .int .i64 i, .int .i64 10] w fun e w' => e = .returned (.slice (some ⟨g, 0, none⟩) (itoa i).length cap) ∧ w.grownBy w' (some g) ∧ Arr w' g T cap (itoa i).length (byteCells (itoa i)) := by
  obtain ⟨i0, hi, hz0, hz1, hz2⟩ := info_parts info5
  by_cases hneg : i < 0
  · obtain ⟨u, rfl⟩ : ∃ u : Nat, i = -(u : Int) := ⟨i.natAbs, by omega⟩
    have hu1 : 1 ≤ u := by omega
    have hu64 : u < 18446744073709551616 := by omega
    have hwr : IntKind.u64.wrap (-IntKind.u64.wrap (-(u : Int))) = (u : Int) := by rw [IntKind.wrap_u64, IntKind.wrap_u64]; omega
    rw [itoa_neg u hu1] at hroom ⊢
    rw [List.length_cons] at hroom
    go_enter Tryd.func30, Tryd.ntmps30
    go_wp2_with (at_builtin; refine wpList_room_slice _ rfl _ _ 22 rfl 5 i0 Tryd.underlying22 hi hz1 g T cap 0 [] rfl (harr.of_block (Below.heap_alloc w _ g harr.lt)) ⟨w.heap.size, 0, none⟩ 1 1 [Value.int .u8 45] rfl rfl (by intro j u' hj; match j, hj with | 0, hj => simp at hj; subst hj; simp [Addr.add]) (by intro u' hu'; simp at hu'; subst hu'; rfl) (by omega) ?_)
    intro w1 ha1 hgrow
    have hg1 : w.grownBy w1 (some g) := grown_alloc hgrow
    have hb1 : Below g w w1 := below_of_grown hg1 (Nat.le_of_lt harr.lt)
    have htab1 : TabIs Tryd.prog w1 tabName .u64 pow10Tab := htab w1 hb1
    go_wp2_with (go_at_call 31; refine (appendUint_any g T cap 1 u hu64 _ w1 ha1 (by omega) htab1).mono ?_; rintro e w2 ⟨rfl, hg2, ha2⟩)
    go_wp2
    go_ret
    have e2 : byteCells (45 :: decDigits u) = [] ++ [Value.int .u8 45] ++ byteCells (decDigits u) := by simp [byteCells]
    rw [Nat.add_comm (decDigits u).length 1, e2]
    exact ⟨rfl, grown_trans hg1 hg2, ha2⟩
  · obtain ⟨u, rfl⟩ : ∃ u : Nat, i = u := ⟨i.toNat, by omega⟩
    have hu64 : u < 18446744073709551616 := by omega
    rw [itoa_nonneg] at hroom ⊢
    go_enter Tryd.func30, Tryd.ntmps30
    go_wp2_with (go_at_call 31; refine (appendUint_any g T cap 0 u hu64 [] w harr (by omega) htab.here).mono ?_; rintro e w2 ⟨rfl, hg2, ha2⟩)
    go_wp2
    go_ret
    rw [Nat.zero_add, List.nil_append] at ha2
    exact ⟨by simp, hg2, ha2⟩

set_option maxRecDepth 100000 in
/-- strconv.AppendInt(digits[:0], i, 10) -/
theorem appendInt_room (g : Nat) (T : TypeId) (cap : Nat) (i : Int) (h0 : -9223372036854775808 ≤ i) (h1 : i ≤ 9223372036854775807) (w : World) (harr : Arr w g T cap 0 []) (hroom : (itoa i).length ≤ cap)
    (htab : TabBelow Tryd.prog g w tabName .u64 pow10Tab) :
    Calls Tryd.prog 29 #[.slice (some ⟨g, 0, none⟩) 0 cap, .int .i64 i, .int .i64 10] w fun e w' => e = .returned (.slice (some ⟨g, 0, none⟩) (itoa i).length cap) ∧ w.grownBy w' (some g) ∧ Arr w' g T cap (itoa i).length (byteCells (itoa i)) := by
  go_enter Tryd.func29, Tryd.ntmps29
  go_wp2_with (go_at_call 30; refine (appendInt_in g T cap i h0 h1 w harr hroom htab).mono ?_; rintro e w2 ⟨rfl, hg2, ha2⟩)
  go_wp2
  go_ret
  exact ⟨rfl, hg2, ha2⟩
end Go.Proofs.Qxb6000062aDoor.pm
