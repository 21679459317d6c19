import Derived.Test.Qxb6000062aDoorStrings
import Derived.Deep.QuietTactic
import Derived.BigQuiet
/-! FnQueriesLaterRoundRepeatsFirstWithoutStarted returns true: the walk. -/
namespace Go.Proofs.Qxb6000062aDoor.pm
open Go Go.RowKit Go.Lib Go.Sort
set_option linter.unusedVariables false

theorem qBase_length (p k : Nat) (left : Int) (h : List UInt8) (hp : (p : Int) ≤ 9223372036854775807) (hl0 : -9223372036854775808 ≤ left) (hl1 : left ≤ 9223372036854775807) :
    1 ≤ (qBase p k left h).length ∧ (qBase p k left h).length ≤ h.length + 200 := by
  have h1 := itoa_len (p : Int) (by omega) hp
  have h2 := itoa_len (1024 + (k : Int) % 60000) (by omega) (by omega)
  have h3 := itoa_len left hl0 hl1
  have h4 := itoa_len 50 (by decide) (by decide)
  unfold qBase sInfo sPeer sPort sUp sComp peerText
  simp only [List.length_append, List.length_replicate, List.length_cons, List.length_nil]
  omega

theorem leftOf_bd (k : Nat) : -9223372036854775808 ≤ leftOf k ∧ leftOf k ≤ 9223372036854775807 := by
  unfold leftOf; split <;> decide

/-- the bytes that an accumulated buffer holds -/
theorem acc_cells {w : World} {B : Nat} {v : Value} {n : Nat} {xs : List Value} {L : List UInt8} (h : Acc w B v n xs L) (hx : xs.length = n) (h1 : 1 ≤ L.length) :
    ∃ g c, v = .slice (some ⟨g, 0, none⟩) (n + L.length) c ∧ B ≤ g ∧ (∀ j u, xs[j]? = some u → w.cell? ⟨g, j, none⟩ = some u) ∧ ∀ j (hj : j < L.length), w.cell? ⟨g, n + j, none⟩ = some (.int .u8 (L[j].toNat : Int)) := by
  unfold Acc at h
  rcases h.2 with ⟨_, h2⟩ | ⟨g, cap, cur, rfl, hB, _⟩
  · omega
  · refine ⟨g, cap, rfl, hB, fun j u hj => ?_, fun j hj => ?_⟩
    · have hj1 := (List.getElem?_eq_some_iff.1 hj).1
      rw [h.cellAt j (by omega), List.getElem?_append_left hj1]
      exact hj
    · rw [h.cellAt (n + j) (by omega), List.getElem?_append_right (by omega)]
      simp [byteCells, hx, hj]

set_option maxHeartbeats 6400000 in
set_option maxRecDepth 100000 in
theorem law6_core (a : Option Addr) (len cap : Nat) (ss : List ByteArray) (peers torrents i : Nat) (w : World) (hS : SRow w a len cap ss) (hlen : len ≤ 65536)
    (hp : 1 ≤ peers) (ht : 1 ≤ torrents) (hip : peers ≤ i) (htl : torrents ≤ len) (hi : (i : Int) ≤ 9223372036854775807) (htab : TabIs Tryd.prog w tabName .u64 pow10Tab) :
    Calls Tryd.prog 6 #[.int .i64 peers, .int .i64 torrents, .slice a len cap, .int .i64 i] w fun e w' => e = .returned (.bool true) ∧ Below w.heap.size w w' := by
  have hT := tabBelow_of_tabIs htab
  have hpi : (peers : Int) ≤ (i : Int) := by omega
  have hpt : (torrents : Int) ≤ (len : Int) := by omega
  obtain ⟨p, hpp⟩ : ∃ p, p = i % peers := ⟨_, rfl⟩
  have hpe : (i : Int) % (peers : Int) = (p : Int) := by rw [hpp]; simp
  have hplt : p < peers := by rw [hpp]; exact Nat.mod_lt _ (by omega)
  have htt : p % torrents < len := Nat.lt_of_lt_of_le (Nat.mod_lt _ (by omega)) htl
  have HQ : Hid ((∀ h, query peers torrents i h = qBase p (p / torrents) (leftOf (p / torrents)) h) ∧ ∀ h, query peers torrents p h = qBase p (p / torrents) (leftOf (p / torrents)) h ++ sEvent) := by
    refine ⟨fun h => ?_, fun h => ?_⟩
    · unfold query qText; rw [← hpp, if_neg (by omega)]
    · unfold query qText; rw [Nat.mod_eq_of_lt hplt, if_pos hplt]
  have HPP : Hid (p = i % peers ∧ p % peers = p) := ⟨hpp, Nat.mod_eq_of_lt hplt⟩
  clear hpp
  go_enter Tryd.func6, Tryd.ntmps6
  go_wp2_with fail
  go_at_call 23
  refine (zzBytes23_any a len cap ss _ _ _ w hS (by omega)).mono ?_
  rintro e w' ⟨⟨r, rfl⟩, rfl⟩
  cases r with
  | false =>
    go_wp2
    go_ret
    exact ⟨rfl, Below.refl _ _⟩
  | true =>
    go_wp2_with fail
    go_at_call 14
    refine (zzStringsBytes_any a len cap ss w hS hlen).mono ?_
    rintro e w' ⟨r, rfl, rfl, hr0, hr1, hr⟩
    by_cases hbig : 1048576 < r
    · go_wp2
      go_ret
      exact ⟨rfl, Below.refl _ _⟩
    · have HR := Lib.hid (hr (by omega))
      clear hr
      go_wp2_with fail
      go_at_call 16
      refine (cloneStrings_any a len cap ss w hS (by omega) (by omega)).mono ?_
      rintro e w1 ⟨rfl, hb1, hH⟩
      have hH1 := hH (p % torrents) htt
      have hh1 := HR.out (p % torrents) htt
      generalize ss.getD (p % torrents) ByteArray.empty = h at hH1 hh1
      clear hH HR hS
      go_wp2_with fail
      go_at_call 17
      refine (zzQuery_any w1.heap.size (.slice none 0 0) 0 [] i peers torrents w.heap.size len len h w1 hp ht hi (by omega) (by omega) (by omega) hh1 (by omega) (.inl (World.ownsRow_nil _ _ _ _)) (Nat.le_refl _) (by rw [← HPP.out.1]; exact hH1) (TabBelow.mono (hT.on hb1) hb1.size)).mono ?_
      rintro e w2 ⟨v2, rfl, ha2, hk2⟩
      have hb2 : Below w.heap.size w w2 := hb1.trans (hk2.1.mono hb1.size)
      have hH2 := hH1.kept hk2
      rw [HQ.out.1] at ha2
      go_wp2_with fail
      go_at_call 17
      refine (zzQuery_any w2.heap.size (.slice none 0 0) 0 [] p peers torrents w.heap.size len len h w2 hp ht (by omega) (by omega) (by omega) (by omega) hh1 (by omega) (.inl (World.ownsRow_nil _ _ _ _)) (Nat.le_refl _) (by rw [HPP.out.2]; exact hH2) (TabBelow.mono (hT.on hb2) hb2.size)).mono ?_
      rintro e w3 ⟨v3, rfl, ha3, hk3⟩
      have hb3 : Below w.heap.size w w3 := hb2.trans (hk3.1.mono hb2.size)
      rw [HQ.out.2] at ha3
      have hql := qBase_length p (p / torrents) (leftOf (p / torrents)) h.data.toList (by omega) (leftOf_bd _).1 (leftOf_bd _).2
      rw [data_length] at hql
      generalize qBase p (p / torrents) (leftOf (p / torrents)) h.data.toList = L at ha2 ha3 hql
      obtain ⟨g2, c2, rfl, _, _, hc2⟩ := acc_cells ha2 rfl (by omega)
      obtain ⟨g3, c3, rfl, _, _, hc3⟩ := acc_cells ha3 rfl (by rw [List.length_append]; omega)
      have hd2 := fun j hj => cellLater hk3.1 (hc2 j hj)
      have hd3 : ∀ j (hj : j < L.length), w3.cell? ⟨g3, j, none⟩ = some (.int .u8 (L[j].toNat : Int)) := fun j hj => by
        have := hc3 j (by rw [List.length_append]; omega)
        rw [List.getElem_append_left hj, Nat.zero_add] at this
        exact this
      have hd4 : ∀ j (hj : j < sEvent.length), w3.cell? ⟨g3, L.length + j, none⟩ = some (.int .u8 (sEvent[j].toNat : Int)) := fun j hj => by
        have := hc3 (L.length + j) (by rw [List.length_append]; omega)
        rw [List.getElem_append_right (by omega), Nat.zero_add] at this
        simpa using this
      have hd5 : ∀ j (hj : j < 14), w3.cell? ⟨g3, L.length + j, none⟩ = some (.int .u8 (((⟨#[38, 101, 118, 101, 110, 116, 61, 115, 116, 97, 114, 116, 101, 100]⟩ : ByteArray)[j]'hj).toNat : Int)) := fun j hj => hd4 j hj
      clear hd4
      have hl3 : (L ++ sEvent).length = L.length + 14 := by rw [List.length_append]; rfl
      rw [hl3]
      simp only [Nat.zero_add] at hd2 ⊢
      clear hc2 hc3 ha2 ha3 hH1 hH2 HQ HPP hk2 hk3 hb1 hb2 hT hl3
      go_wp2
      clear hpe
      obtain ⟨hq1, hq2⟩ := hql
      go_loopw [12] (fun i wr => ∃ j : Nat, j ≤ L.length ∧ i = .int .i64 j ∧ Below w3.heap.size w3 wr) (fun i _ => L.length - (RowKit.intOf i).toNat)
      case atStart => exact ⟨0, Nat.zero_le _, rfl, Below.refl _ _⟩
      case round =>
        obtain ⟨j, hj, rfl, hbr⟩ := hrel
        by_cases hlt : j < L.length
        · have hc1 := cellLater hbr (hd2 j hlt)
          have hc2 := cellLater hbr (hd3 j hlt)
          clear hd2 hd3 hd5
          go_wp2_with fail
          go_quiet (fail)
          go_wp2
          go_roundw
          case rel => exact ⟨j + 1, by omega, by go_num, below_drewN hbr _⟩
          case measure => simp [RowKit.intOf]; omega
        · go_wp2
          go_loopw [13] (fun i wx => ∃ l : Nat, l ≤ 14 ∧ i = .int .i64 l ∧ Below wr.heap.size wr wx) (fun i _ => 14 - (RowKit.intOf i).toNat)
          case atStart => exact ⟨0, Nat.zero_le _, rfl, Below.refl _ _⟩
          case round =>
            obtain ⟨l, hl, rfl, hbx⟩ := hrel
            by_cases hll : l < 14
            · have hc1 := cellLater hbx (cellLater hbr (hd5 l hll))
              clear hd2 hd3 hd5
              go_wp2_with fail
              go_quiet (fail)
              go_wp2
              go_roundw
              case rel => exact ⟨l + 1, by omega, by go_num, below_drewN hbx _⟩
              case measure => simp [RowKit.intOf]; omega
            · go_wp2
              go_ret
              exact ⟨rfl, hb3.trans ((hbr.trans (hbx.mono hbr.size)).mono hb3.size)⟩

set_option maxHeartbeats 3200000 in
theorem law6 (x y : Int) (a : Option Addr) (len cap : Nat) (ss : List ByteArray) (z : Int) (w : World) (hx0 : -9223372036854775808 ≤ x) (hx1 : x ≤ 9223372036854775807) (hy0 : -9223372036854775808 ≤ y) (hy1 : y ≤ 9223372036854775807)
    (hS : SRow w a len cap ss) (hL : len ≤ 9223372036854775807) (hz0 : -9223372036854775808 ≤ z) (hz1 : z ≤ 9223372036854775807) (htab : TabIs Tryd.prog w tabName .u64 pow10Tab) :
    Calls Tryd.prog 6 #[.int .i64 x, .int .i64 y, .slice a len cap, .int .i64 z] w fun e w' => e = .returned (.bool true) ∧ Below w.heap.size w w' := by
  by_cases hall : len ≤ 65536 ∧ 1 ≤ x ∧ 1 ≤ y ∧ x ≤ z ∧ y ≤ len
  · obtain ⟨h1, h2, h3, h4, h5⟩ := hall
    obtain ⟨p, rfl⟩ : ∃ p : Nat, x = p := ⟨x.toNat, by omega⟩
    obtain ⟨t, rfl⟩ : ∃ t : Nat, y = t := ⟨y.toNat, by omega⟩
    obtain ⟨i, rfl⟩ : ∃ i : Nat, z = i := ⟨z.toNat, by omega⟩
    exact law6_core a len cap ss p t i w hS h1 (by omega) (by omega) (by omega) (by omega) hz1 htab
  · have hE := zzBytes23_any a len cap ss x y z w hS hL
    have HE := Lib.hid hE
    have HS := Lib.hid hS
    clear hE hS htab
    go_enter Tryd.func6, Tryd.ntmps6
    go_wp2_with fail
    go_at_call 23
    refine HE.out.mono ?_
    rintro e w' ⟨⟨r, rfl⟩, rfl⟩
    cases r with
    | false =>
      go_wp2
      go_ret
      exact ⟨rfl, Below.refl _ _⟩
    | true =>
      by_cases h1 : len ≤ 65536
      · go_wp2_with fail
        go_at_call 14
        refine (zzStringsBytes_any a len cap ss w HS.out h1).mono ?_
        rintro e w' ⟨r, rfl, rfl, hr0, hr1, hr⟩
        clear hr
        by_cases hbig : 1048576 < r
        · go_wp2
          go_ret
          exact ⟨rfl, Below.refl _ _⟩
        · by_cases h2 : x < 1
          · go_wp2
            go_ret
            exact ⟨rfl, Below.refl _ _⟩
          by_cases h3 : y < 1
          · go_wp2
            go_ret
            exact ⟨rfl, Below.refl _ _⟩
          by_cases h4 : z < x
          · go_wp2
            go_ret
            exact ⟨rfl, Below.refl _ _⟩
          have h5 : (len : Int) < y := by omega
          go_wp2
          go_ret
          exact ⟨rfl, Below.refl _ _⟩
      · go_wp2
        go_ret
        exact ⟨rfl, Below.refl _ _⟩
end Go.Proofs.Qxb6000062aDoor.pm
