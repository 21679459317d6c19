import Derived.Test.Qxb6000062aDoorLaw5
/-! FnQueriesAppendIsTheDocumentedAnnounce returns true: the guards. -/
namespace Go.Proofs.Qxb6000062aDoor.pm
open Go Go.RowKit Go.Lib Go.Sort
set_option linter.unusedVariables false

set_option maxHeartbeats 3200000 in
set_option maxRecDepth 100000 in
theorem law5 (x y : Int) (a : Option Addr) (len cap : Nat) (ss : List ByteArray) (a2 : Option Addr) (m cap2 : Nat) (zs : List Int) (z : Int) (w : World) (hx0 : -9223372036854775808 ≤ x) (hx1 : x ≤ 9223372036854775807) (hy0 : -9223372036854775808 ≤ y) (hy1 : y ≤ 9223372036854775807)
    (hS : SRow w a len cap ss) (hL : len ≤ 9223372036854775807) (hR : Row w a2 m cap2 zs) (hM : m ≤ 9223372036854775807) (hz0 : -9223372036854775808 ≤ z) (hz1 : z ≤ 9223372036854775807) (htab : TabIs Tryd.prog w tabName .u64 pow10Tab) :
    Calls Tryd.prog 5 #[.int .i64 x, .int .i64 y, .slice a len cap, .slice a2 m cap2, .int .i64 z] w fun e w' => e = .returned (.bool true) ∧ Below w.heap.size w w' := by
  by_cases hall : len ≤ 65536 ∧ m ≤ 1048576 ∧ 1 ≤ x ∧ 1 ≤ y ∧ 0 ≤ z ∧ y ≤ len
  · obtain ⟨h1, h2, h3, h4, h5, h6⟩ := hall
    obtain ⟨p, rfl⟩ : ∃ p : Nat, x = p := ⟨x.toNat, by omega⟩
    obtain ⟨t, rfl⟩ : ∃ t : Nat, y = t := ⟨y.toNat, by omega⟩
    obtain ⟨i, rfl⟩ : ∃ i : Nat, z = i := ⟨z.toNat, by omega⟩
    obtain ⟨e1, e2, e3⟩ := hR.elems
    rcases hS.cases with rfl | ⟨b, off, rfl, s1, s2, s3⟩
    · exfalso; omega
    · exact law5_core b off len cap ss a2 m cap2 (zs.take m) p t i w hS s1 s2 h1 e1 e2 e3 h2 (by omega) (by omega) (by omega) hz1 hx1 htab
  · have HE := Lib.hid (zzBytes13_any a len cap ss a2 m cap2 x y z w hS hL hM)
    have HS := Lib.hid hS
    clear hS htab hR
    by_cases h1 : len ≤ 65536
    · have hd1 : decide ((65536 : Int) < (len : Int)) = false := by simp; omega
      have HB := Lib.hid (zzStringsBytes_any a len cap ss w HS.out h1)
      by_cases h2 : m ≤ 1048576
      · have hd2 : decide ((1048576 : Int) < (m : Int)) = false := by simp; omega
        have hlm : (m : Int) ≤ 1048576 := by omega
        have hll : (len : Int) ≤ 65536 := by omega
        have hrest : x < 1 ∨ y < 1 ∨ z < 0 ∨ (len : Int) < y := by omega
        have hd3 : decide (x < 1) = true ∨ (decide (x < 1) = false ∧ (decide (y < 1) = true ∨ (decide (y < 1) = false ∧ (decide (z < 0) = true ∨ (decide (z < 0) = false ∧ decide ((len : Int) < y) = true))))) := by
          by_cases a1 : x < 1
          · exact .inl (decide_eq_true a1)
          · refine .inr ⟨decide_eq_false a1, ?_⟩
            by_cases a2 : y < 1
            · exact .inl (decide_eq_true a2)
            · refine .inr ⟨decide_eq_false a2, ?_⟩
              by_cases a3 : z < 0
              · exact .inl (decide_eq_true a3)
              · exact .inr ⟨decide_eq_false a3, decide_eq_true (by omega)⟩
        clear hall hrest h1 h2 hM hL
        go_enter Tryd.func5, Tryd.ntmps5
        go_wp2_with fail
        go_at_call 13
        refine HE.out.mono ?_
        rintro e w' ⟨⟨r, rfl⟩, rfl⟩
        cases r with
        | false =>
          go_wp2
          go_ret
          exact ⟨rfl, Below.refl _ _⟩
        | true =>
          go_wp2_with fail
          go_at_call 14
          refine HB.out.mono ?_
          rintro e w' ⟨r, rfl, rfl, hr0, hr1, hr⟩
          clear hr
          by_cases hbig : 1048576 < r + (m : Int)
          · have hd7 : decide ((1048576 : Int) < r + (m : Int)) = true := decide_eq_true hbig
            go_wp2
            go_ret
            exact ⟨rfl, Below.refl _ _⟩
          · have hd7 : decide ((1048576 : Int) < r + (m : Int)) = false := decide_eq_false hbig
            rcases hd3 with d1 | ⟨d1, d2 | ⟨d2, d3 | ⟨d3, d4⟩⟩⟩
            · go_wp2
              go_ret
              exact ⟨rfl, Below.refl _ _⟩
            · go_wp2
              go_ret
              exact ⟨rfl, Below.refl _ _⟩
            · go_wp2
              go_ret
              exact ⟨rfl, Below.refl _ _⟩
            · go_wp2
              go_ret
              exact ⟨rfl, Below.refl _ _⟩
      · have hd2 : decide ((1048576 : Int) < (m : Int)) = true := decide_eq_true (by omega)
        clear hall h1 h2 HB
        go_enter Tryd.func5, Tryd.ntmps5
        go_wp2_with fail
        go_at_call 13
        refine HE.out.mono ?_
        rintro e w' ⟨⟨r, rfl⟩, rfl⟩
        cases r with
        | false =>
          go_wp2
          go_ret
          exact ⟨rfl, Below.refl _ _⟩
        | true =>
          go_wp2
          go_ret
          exact ⟨rfl, Below.refl _ _⟩
    · have hd1 : decide ((65536 : Int) < (len : Int)) = true := decide_eq_true (by omega)
      clear hall h1
      go_enter Tryd.func5, Tryd.ntmps5
      go_wp2_with fail
      go_at_call 13
      refine HE.out.mono ?_
      rintro e w' ⟨⟨r, rfl⟩, rfl⟩
      cases r with
      | false =>
        go_wp2
        go_ret
        exact ⟨rfl, Below.refl _ _⟩
      | true =>
        go_wp2
        go_ret
        exact ⟨rfl, Below.refl _ _⟩
end Go.Proofs.Qxb6000062aDoor.pm
