import Derived.Test.Qxb6000062aDoorLaw5a
/-! FnQueriesAppendIsTheDocumentedAnnounce returns true: the walk. -/
namespace Go.Proofs.Qxb6000062aDoor.pm
open Go Go.RowKit Go.Lib Go.Sort
set_option linter.unusedVariables false

theorem elems_later {w w' : World} {a : Option Addr} {m : Nat} {xs : List Value} (h : Elems w a m xs) (hb : Below w.heap.size w w') : Elems w' a m xs :=
  And.intro h.1 (And.intro h.2.1 (And.intro (fun x hx j u hj => cellLater hb (h.2.2.1 x hx j u hj)) h.2.2.2))
theorem hashes_below {w w' : World} {gh hl t : Nat} {h : ByteArray} (hh : Hashes w gh hl t h) (hb : Below w.heap.size w w') : Hashes w' gh hl t h := by
  obtain ⟨cur, h0, h1⟩ := hh
  have hlt : gh < w.heap.size := by
    rcases Nat.lt_or_ge gh w.heap.size with h2 | h2
    · exact h2
    · rw [Array.getElem?_eq_none h2] at h0; cases h0
  exact ⟨cur, (hb.block gh hlt).trans h0, h1⟩
theorem qText_len (p k : Nat) (left : Int) (h : ByteArray) (st : Prop) [Decidable st] (hp : (p : Int) ≤ 9223372036854775807) (hl0 : -9223372036854775808 ≤ left) (hl1 : left ≤ 9223372036854775807) :
    1 ≤ (qText p k left h.data.toList st).length ∧ (qText p k left h.data.toList st).length ≤ h.size + 220 := by
  have h1 := qBase_length p k left h.data.toList hp hl0 hl1
  rw [data_length] at h1
  unfold qText
  split
  · rw [List.length_append, show sEvent.length = 14 from rfl]; omega
  · omega

theorem le_chain {a b : Nat} {X : Int} (h : a ≤ b) (hb : (b : Int) ≤ X) : (a : Int) ≤ X := by omega
theorem ar_mc {m c n : Nat} (h1 : 1 ≤ n) (h : m + n ≤ c) : m < c := by omega
theorem ar_len {n s : Nat} (h : n ≤ s + 220) (hs : s ≤ 1048576) : n ≤ 4194304 := by omega
theorem ar_L {n s : Nat} (h : n ≤ s + 220) (hs : s ≤ 1048576) : (n : Int) ≤ 2097152 := by omega
theorem ar_cap {m c n : Nat} (h : m + n ≤ c) : n ≤ c - m := by omega
theorem ar_cm {m c : Nat} (h : c ≤ 9223372036854775807) : c - m ≤ 9223372036854775807 := by omega
theorem ar_tn {a b : Nat} (h : a ≤ b) (hb : b ≤ 65536) : (a : Int) ≤ 9223372036854775807 := by omega
theorem ar_m {m : Nat} (h : m ≤ 1048576) : (m : Int) ≤ 1048576 := by omega

theorem peerC (p : Nat) (V : List UInt8) (hV : V = sTL ++ peerText p) (hp : (p : Int) ≤ 9223372036854775807) : ∀ g o c w, ValAt w g o c V → Calls Tryd.prog 21 #[.slice (some ⟨g, o, none⟩) V.length c, .int .u64 p] w fun e w' => e = .returned (.bool true) ∧ Below w.heap.size w w' := by
  intro g o c w hv
  subst hV
  exact zzIsPeerID_any g o c p w hv (by omega)
theorem canonC (n : Int) (V : List UInt8) (hV : V = itoa n) (h0 : 0 ≤ n) (h1 : n ≤ 9223372036854775807) : ∀ g o c w, ValAt w g o c V → Calls Tryd.prog 22 #[.slice (some ⟨g, o, none⟩) V.length c, .int .u64 n] w fun e w' => e = .returned (.bool true) ∧ w = w' := by
  intro g o c w hv
  subst hV
  exact canon_at n n.toNat (by omega) (by omega) hv
theorem stringC (h : ByteArray) (V : List UInt8) (hV : V = h.data.toList) : ∀ g o c w, ValAt w g o c V → (convert 22 9 (.slice (some ⟨g, o, none⟩) V.length c)).run Tryd.prog w = .ok (.string h) w := by
  intro g o c w hv
  exact val_string h hv hV.symm
theorem ten_cases (j : Int) (h0 : 0 ≤ j) (h1 : j ≤ 9) : j = 0 ∨ j = 1 ∨ j = 2 ∨ j = 3 ∨ j = 4 ∨ j = 5 ∨ j = 6 ∨ j = 7 ∨ j = 8 ∨ j = 9 := by omega
theorem nine_cases (j : Int) (h0 : 0 ≤ j) (h1 : j ≤ 8) : j = 0 ∨ j = 1 ∨ j = 2 ∨ j = 3 ∨ j = 4 ∨ j = 5 ∨ j = 6 ∨ j = 7 ∨ j = 8 := by omega
theorem port_bd (k : Nat) : (0 : Int) ≤ 1024 + (k : Int) % 60000 ∧ 1024 + (k : Int) % 60000 ≤ 9223372036854775807 := by omega

theorem kmod_cases (k : Nat) : (((k : Int) % 4 == 0) = true ∧ leftOf k = 0) ∨ (((k : Int) % 4 == 0) = false ∧ leftOf k = 1048576) := by
  unfold leftOf
  by_cases h : k % 4 = 0
  · left; exact ⟨beq_iff_eq.2 (by omega), if_pos h⟩
  · right; exact ⟨beq_eq_false_iff_ne.2 (by omega), if_neg h⟩

theorem announce_split (p k : Nat) (h : ByteArray) (st : Prop) [Decidable st] (L : List UInt8) (hJ : L = joinAmp ((kvs p k (leftOf k) h.data.toList st).map fld)) (g o c : Nat) (w : World) (hfree : ∀ q (hq : q < h.size), h[q] ≠ 38)
    (hp : (p : Int) ≤ 9223372036854775807) (hlen : L.length ≤ 4194304) (hcap : L.length ≤ c) (hcm : c ≤ 9223372036854775807) (hc : ∀ j (hj : j < L.length), w.cell? ⟨g, o + j, none⟩ = some (.int .u8 (L[j].toNat : Int))) :
    Calls Tryd.prog 18 #[.slice (some ⟨g, o, none⟩) L.length c] w fun e w' => ∃ gf cf, e = .returned (.slice (some ⟨gf, 0, none⟩) (kvs p k (leftOf k) h.data.toList st).length cf) ∧ Below w.heap.size w w' ∧
      ∀ j (hj : j < (kvs p k (leftOf k) h.data.toList st).length), ∃ v, w'.cell? ⟨gf, j, none⟩ = some v ∧ FieldAt w' v (kvs p k (leftOf k) h.data.toList st)[j].1 (kvs p k (leftOf k) h.data.toList st)[j].2 := by
  have hne : kvs p k (leftOf k) h.data.toList st ≠ [] := by unfold kvs; split <;> simp [kvBase]
  have hf : ∀ b ∈ h.data.toList, b ≠ 38 := by
    intro b hb
    obtain ⟨q, hq, rfl⟩ := List.mem_iff_getElem.1 hb
    exact hfree q (by rw [data_length] at hq; exact hq)
  have hfr := fld_free p k (leftOf k) (leftOf_nonneg _) h.data.toList hf st
  have hK := kvs_key p k (leftOf k) h.data.toList st
  have hV := kvs_vals p k (leftOf k) hp (leftOf_bd _).1 (leftOf_bd _).2 h.data.toList st
  have hk := kv_split g o c _ w hne hfr hK hV
  rw [← hJ] at hk
  exact hk hlen hcap hcm hc

set_option maxHeartbeats 12800000 in
set_option maxRecDepth 100000 in
theorem law5_core (b off len cap : Nat) (ss : List ByteArray) (a2 : Option Addr) (m cap2 : Nat) (zs : List Int) (peers torrents i : Nat) (w : World)
    (hS : SRow w (some ⟨b, off, none⟩) len cap ss) (hls : len ≤ ss.length) (hcS : ∀ j, j < ss.length → w.cell? ⟨b, off + j, none⟩ = some (.string (ss.getD j ByteArray.empty))) (hlen : len ≤ 65536)
    (hc : a2 = none → cap2 = 0) (hz : zs.length = m) (hE : Elems w a2 m (zs.map (.int .u8))) (hm : m ≤ 1048576)
    (hp : 1 ≤ peers) (ht : 1 ≤ torrents) (htl : torrents ≤ len) (hi : (i : Int) ≤ 9223372036854775807) (hp1 : (peers : Int) ≤ 9223372036854775807) (htab : TabIs Tryd.prog w tabName .u64 pow10Tab) :
    Calls Tryd.prog 5 #[.int .i64 peers, .int .i64 torrents, .slice (some ⟨b, off, none⟩) len cap, .slice a2 m cap2, .int .i64 i] w fun e w' => e = .returned (.bool true) ∧ Below w.heap.size w w' := by
  have hT := tabBelow_of_tabIs htab
  have hpt : (torrents : Int) ≤ (len : Int) := by omega
  have HE := Lib.hid hE
  have HS := Lib.hid hS
  have hd1 : decide ((65536 : Int) < (len : Int)) = false := by simp; omega
  have hd2 : decide ((1048576 : Int) < (m : Int)) = false := by simp; omega
  have hd3 : decide ((peers : Int) < 1) = false := by simp; omega
  have hd4 : decide ((torrents : Int) < 1) = false := by simp; omega
  have hd5 : decide ((i : Int) < 0) = false := by simp
  have hd6 : decide (len < torrents) = false := by simp; omega
  clear htab hE hS
  go_enter Tryd.func5, Tryd.ntmps5
  go_wp2_with fail
  go_at_call 13
  refine (zzBytes13_any _ len cap ss a2 m cap2 _ _ _ w HS.out (by omega) (by omega)).mono ?_
  rintro e w' ⟨⟨r, rfl⟩, rfl⟩
  cases r with
  | false =>
    go_wp2
    go_ret
    exact ⟨rfl, Below.refl _ _⟩
  | true =>
    go_wp2_with fail
    go_at_call 14
    refine (zzStringsBytes_any _ len cap ss w HS.out hlen).mono ?_
    rintro e w' ⟨r, rfl, rfl, hr0, hr1, hr⟩
    by_cases hbig : 1048576 < r + (m : Int)
    · clear hr
      go_wp2
      go_ret
      exact ⟨rfl, Below.refl _ _⟩
    · have HR := Lib.hid (hr (by omega))
      have hd7 : decide ((1048576 : Int) < r + (m : Int)) = false := by simp; omega
      clear hr
      go_wp2
      clear hd1 hd2 hd3 hd4 hd5 hd6 hd7
      go_loop [11] (fun x => ∃ j : Nat, j ≤ torrents ∧ x = .int .i64 j ∧ Hid (∀ l, l < j → ∀ q (hq : q < (ss.getD l ByteArray.empty).size), (ss.getD l ByteArray.empty)[q] ≠ 38)) (fun x => torrents - (RowKit.intOf x).toNat)
      case atStart => exact ⟨0, Nat.zero_le _, rfl, show ∀ l, l < 0 → _ from fun l hl => by omega⟩
      case round =>
        obtain ⟨j, hj, rfl, HA⟩ := hrel
        by_cases hlt : j < torrents
        · have hcx := hcS j (by omega)
          have hsz := HR.out j (by omega)
          have HZ := Lib.hid (zzHasAmp_any (ss.getD j ByteArray.empty) w hsz)
          have HJ : Hid (∃ s, s = ss.getD j ByteArray.empty) := ⟨_, rfl⟩
          obtain ⟨s, hs⟩ := HJ.out
          rw [← hs] at hcx HZ
          have HSJ := Lib.hid hs
          clear hs hsz hcS HJ
          go_wp2_with fail
          go_at_call 15
          refine HZ.out.mono ?_
          rintro e w' ⟨rfl | ⟨rfl, hno⟩, rfl⟩
          · go_wp2
            go_ret
            exact ⟨rfl, Below.refl _ _⟩
          · have HN := Lib.hid hno
            clear hno
            go_wp2
            go_round
            case rel => exact ⟨j + 1, by omega, by go_num, show ∀ l, l < j + 1 → _ from fun l hl => by
              by_cases e : l = j
              · subst e; rw [← HSJ.out]; exact HN.out
              · exact HA.out l (by omega)⟩
            case measure => simp [RowKit.intOf]; omega
        · have ej : j = torrents := by omega
          have HH := Lib.hid (fun l (hl : l < torrents) => HA.out l (by omega))
          obtain ⟨p, hpp⟩ : ∃ p, p = i % peers := ⟨_, rfl⟩
          have hplt : p < peers := by rw [hpp]; exact Nat.mod_lt _ (by omega)
          have htt : p % torrents < torrents := Nat.mod_lt _ (by omega)
          have hpi : p ≤ i := by rw [hpp]; exact Nat.mod_le _ _
          have HPP := Lib.hid hpp
          clear hpp HA hcS
          go_wp2_with fail
          go_at_call 16
          refine (cloneStrings_any _ len cap ss w HS.out (by omega) (by omega)).mono ?_
          rintro e w1 ⟨rfl, hb1, hH⟩
          have hH1 := hH (p % torrents) (by omega)
          have hh1 := HR.out (p % torrents) (by omega)
          have hfree := HH.out (p % torrents) htt
          obtain ⟨h, hh⟩ : ∃ h, h = ss.getD (p % torrents) ByteArray.empty := ⟨_, rfl⟩
          rw [← hh] at hH1 hh1
          have hfree' : ∀ q (hq : q < h.size), h[q] ≠ 38 := by rw [hh]; exact hfree
          have HFR := Lib.hid hfree'
          have HE1 := Lib.hid (elems_later HE.out hb1)
          clear hh hfree hfree' hH HR HH HS HE
          go_wp2_with fail
          go_at_call 9
          refine (cloneBytes_any a2 m cap2 _ w1 hc HE1.out hm).mono ?_
          rintro e w2 ⟨hb2, a3, rfl, hf2, -, ho2⟩
          go_wp2_with fail
          go_at_call 9
          refine (cloneBytes_any a3 m m _ w2 (fun h => hf2.1 h) (elems_of_full hf2) hm).mono ?_
          rintro e w3 ⟨hb3, a4, rfl, hf3, -, ho3⟩
          have hb23 : Below w1.heap.size w1 w3 := hb2.trans (hb3.mono hb2.size)
          have hb3' : Below w.heap.size w w3 := hb1.trans (hb23.mono hb1.size)
          have hok : Ok w3 w3.heap.size (.slice a3 m m) m (zs.map (.int .u8)) := .inr ⟨a3, rfl, hf2.later hb3⟩
          have hH3 := hashes_below hH1 hb23
          have HQ := Lib.hid (zzQuery_any w3.heap.size (.slice a3 m m) m (zs.map (.int .u8)) i peers torrents w.heap.size len len h w3 hp ht hi hp1 (by omega) (by omega) hh1 hm hok (Nat.le_refl _) (by rw [← HPP.out]; exact hH3) (TabBelow.mono (hT.on hb3') hb3'.size))
          clear hok hf2 HE1 hT ho2
          go_wp2_with fail
          go_at_call 17
          refine HQ.out.mono ?_
          rintro e w4 ⟨v4, rfl, ha4, hk4⟩
          have hb4 : Below w.heap.size w w4 := hb3'.trans (hk4.1.mono hb3'.size)
          have hH4 := hH3.kept hk4
          have hf4 := hf3.later hk4.1
          clear HQ hH3 hf3 hk4
          obtain ⟨k, hk⟩ : ∃ k, k = p / torrents := ⟨_, rfl⟩
          have hq1 : query peers torrents i h.data.toList = qText p k (leftOf k) h.data.toList (i < peers) := by
            unfold query; rw [← HPP.out, ← hk]
          rw [hq1] at ha4
          have hkp : k ≤ p := by rw [hk]; exact Nat.div_le_self _ _
          have HKK := Lib.hid hk
          have hql := qText_len p k (leftOf k) h (i < peers) (by omega) (leftOf_bd _).1 (leftOf_bd _).2
          clear hk hq1
          have HJ : Hid (qText p k (leftOf k) h.data.toList (i < peers) = joinAmp ((kvs p k (leftOf k) h.data.toList (i < peers)).map fld)) := (join_kvs p k (leftOf k) h.data.toList (i < peers)).symm
          obtain ⟨L, hL⟩ : ∃ L, L = qText p k (leftOf k) h.data.toList (i < peers) := ⟨_, rfl⟩
          rw [← hL] at ha4 HJ hql
          clear hL
          obtain ⟨hql1, hql2⟩ := hql
          obtain ⟨g, c, rfl, hcc1, hcc2, hgx, hgl⟩ := acc_row ha4 (by simpa using hz) hql1
          have hgx' : ∀ l, l < m → w4.cell? ⟨g, l, none⟩ = some (.int .u8 (zs.getD l 0)) := fun l hl => hgx l _ (by simp [List.getD, show l < zs.length by omega])
          have hcase : (a4 = none ∧ m ≤ 0) ∨ (a4 = some ⟨w2.heap.size, 0, none⟩ ∧ ∀ l, l < m → w4.cell? ⟨w2.heap.size, l, none⟩ = some (.int .u8 (zs.getD l 0))) := by
            rcases ho3 with rfl | rfl
            · exact .inl ⟨rfl, by have := hf4.1 rfl; omega⟩
            · exact .inr ⟨rfl, full_cells hf4 hz⟩
          have HGL := Lib.hid hgl
          have hcs := hH4.cell
          have HCS := Lib.hid hcs
          clear ha4 hgx hgl hf4 ho3 hcs hb1 hb2 hb3 hb23 hb3' hH1 hH4 hc
          go_wp2
          go_loopw [14] (fun x wr => ∃ l : Nat, l ≤ m ∧ x = .int .i64 l ∧ Below w4.heap.size w4 wr) (fun x _ => m - (RowKit.intOf x).toNat)
          case atStart => exact ⟨0, Nat.zero_le _, rfl, Below.refl _ _⟩
          case round =>
            obtain ⟨l, hl, rfl, hbr⟩ := hrel
            by_cases hlm : l < m
            · rcases hcase with ⟨_, h0⟩ | ⟨rfl, hor⟩
              · exfalso; omega
              · have hc1 := cellLater hbr (hgx' l hlm)
                have hc2 := cellLater hbr (hor l hlm)
                clear hgx' hor
                go_wp2_with fail
                go_quiet (fail)
                go_wp2
                go_roundw
                case rel => exact ⟨l + 1, by omega, by go_num, below_drewN hbr _⟩
                case measure => simp [RowKit.intOf]; omega
            · clear hgx' hcase
              have hpe : (i : Int) % (peers : Int) = (p : Int) := by rw [HPP.out]; simp
              obtain ⟨t, htt'⟩ : ∃ t, t = p % torrents := ⟨_, rfl⟩
              have hte : (p : Int) % (torrents : Int) = (t : Int) := by rw [htt']; simp
              have hke : wrap64 ((p : Int) / (torrents : Int)) = (k : Int) := by rw [HKK.out]; exact wrap_quo p torrents (le_chain hpi hi)
              rw [← htt'] at HCS htt
              clear htt'
              have hmc : m < c := ar_mc hql1 hcc1
              have HSPL := Lib.hid (announce_split p k h (i < peers) L HJ.out g m (c - m) wr HFR.out (le_chain hpi hi) (ar_len hql2 hh1) (ar_cap hcc1) (ar_cm hcc2) (fun q hq => cellLater hbr (HGL.out q hq)))
              have hcs := cellLater hbr HCS.out
              have htlen : t < len := Nat.lt_of_lt_of_le htt htl
              have hpb : (p : Int) ≤ 9223372036854775807 := le_chain hpi hi
              have hkb : (k : Int) ≤ 9223372036854775807 := le_chain hkp hpb
              have htn1 : (torrents : Int) ≤ 9223372036854775807 := ar_tn htl hlen
              have hlmx : (m : Int) ≤ 1048576 := ar_m hm
              have hLx : (L.length : Int) ≤ 2097152 := ar_L hql2 hh1
              clear HJ HGL HCS HFR HPP HKK ej hj hlt hz hr0 hr1 hbig hls hlen htl hpt hm hplt hpi hkp hql1 hql2 hh1 hcc1
              rcases kmod_cases k with ⟨hk4, hlf⟩ | ⟨hk4, hlf⟩
              · obtain ⟨V0, hV0⟩ : ∃ V, V = h.data.toList := ⟨_, rfl⟩
                rw [hlf, ← hV0] at HSPL
                have HC0 := Lib.hid (stringC h V0 hV0)
                clear hV0 hlf
                go_wp2_with fail
                go_at_call 18
                refine HSPL.out.mono ?_
                rintro e w5 ⟨gf, cf, rfl, hb5, hF⟩
                have hb5' : Below w.heap.size w w5 := hb4.trans ((hbr.trans (hb5.mono hbr.size)).mono hb4.size)
                have hcs5 := cellLater hb5 hcs
                rw [hpe, hte, hke]
                clear HSPL hcs hb4 hbr hb5 hk4 hpe hte hke
                have hpor := port_bd k
                obtain ⟨V1, hV1⟩ : ∃ V, V = sTL ++ peerText p := ⟨_, rfl⟩
                have HC1 := Lib.hid (peerC p V1 hV1 hpb)
                obtain ⟨V2, hV2⟩ : ∃ V, V = itoa (1024 + (k : Int) % 60000) := ⟨_, rfl⟩
                have HC2 := Lib.hid (canonC _ V2 hV2 hpor.1 hpor.2)
                obtain ⟨V5, hV5⟩ : ∃ V, V = itoa 0 := ⟨_, rfl⟩
                have HC5 := Lib.hid (canonC _ V5 hV5 (by decide) (by decide))
                obtain ⟨V7, hV7⟩ : ∃ V, V = itoa 50 := ⟨_, rfl⟩
                have HC7 := Lib.hid (canonC _ V7 hV7 (by decide) (by decide))
                clear hpor
                by_cases hst : i < peers
                · as_aux_lemma =>
                  obtain ⟨hl9, hF8, hF9⟩ := fields_first p k 0 V0 (i < peers) hst hF
                  have hst' : decide ((i : Int) < (peers : Int)) = true := decide_eq_true (Int.ofNat_lt.2 hst)
                  have hst2 : decide (i < peers) = true := decide_eq_true hst
                  unfold F8 at hF8
                  rw [← hV1, ← hV2, ← hV5, ← hV7] at hF8
                  obtain ⟨⟨v0, h0, f0'⟩, ⟨v1, h1, f1'⟩, ⟨v2, h2, f2'⟩, ⟨v3, h3, f3'⟩, ⟨v4, h4, f4'⟩, ⟨v5, h5, f5'⟩, ⟨v6, h6, f6'⟩, ⟨v7, h7, f7'⟩⟩ := hF8
                  obtain ⟨v8, h8, f8'⟩ := hF9
                  have f0 := Lib.hid f0'
                  have f1 := Lib.hid f1'
                  have f2 := Lib.hid f2'
                  have f3 := Lib.hid f3'
                  have f4 := Lib.hid f4'
                  have f5 := Lib.hid f5'
                  have f6 := Lib.hid f6'
                  have f7 := Lib.hid f7'
                  have f8 := Lib.hid f8'
                  rw [hl9]
                  clear hF hl9 hst hV1 hV2 hV5 hV7 f0' f1' f2' f3' f4' f5' f6' f7' f8'
                  go_wp2
                  clear hst' hst2
                  go_loopw [21] (fun x wx => ∃ jj : Int, 0 ≤ jj ∧ jj ≤ 9 ∧ x = .int .i64 jj ∧ Below w5.heap.size w5 wx) (fun x _ => (9 - RowKit.intOf x).toNat)
                  case atStart => exact ⟨0, by decide, by decide, rfl, Below.refl _ _⟩
                  case round =>
                    obtain ⟨jj, hj0, hj1, rfl, hbx⟩ := hrel
                    rcases ten_cases jj hj0 hj1 with rfl | rfl | rfl | rfl | rfl | rfl | rfl | rfl | rfl | rfl
                    all_goals clear hj0 hj1
                    · have hv' := cellLater hbx h0
                      have HK := Lib.hid (keyAt0 (FieldAt.later f0.out hbx))
                      have hcs6 := cellLater hbx hcs5
                      clear h0 h1 h2 h3 h4 h5 h6 h7 h8 f0 f1 f2 f3 f4 f5 f6 f7 f8 HC1 HC2 HC5 HC7 hcs5
                      go_wp2_with fail
                      go_at_call 19
                      refine HK.out.mono ?_
                      rintro e w6 ⟨g6, o6, c6, rfl, hb6, hval⟩
                      have hb6' : Below w5.heap.size w5 w6 := hbx.trans (hb6.mono hbx.size)
                      have hcv1 := HC0.out g6 o6 c6 w6 hval
                      have hcv2 : (convert 22 9 (.slice (some ⟨g6, o6, none⟩) V0.length c6)).run Tryd.prog w6.drew = .ok (.string h) w6.drew := HC0.out g6 o6 c6 w6.drew hval
                      have hcs7 := cellLater hb6 hcs6
                      clear HK hval HC0 hv' hcs6 hbx hb6
                      go_wp2_with (go_at_call 20; refine (wantKey0 _).mono ?_; rintro e w' ⟨rfl, rfl⟩)
                      go_region
                      go_wp2
                      go_roundw
                      case rel => exact ⟨1, by decide, by decide, rfl, hb6'.drew⟩
                      case measure => simp [RowKit.intOf]
                    · have hv' := cellLater hbx h1
                      have HK := Lib.hid (keyAt1 (FieldAt.later f1.out hbx))
                      clear h0 h1 h2 h3 h4 h5 h6 h7 h8 f0 f1 f2 f3 f4 f5 f6 f7 f8 HC0 HC2 HC5 HC7 hcs5
                      go_wp2_with fail
                      go_at_call 19
                      refine HK.out.mono ?_
                      rintro e w6 ⟨g6, o6, c6, rfl, hb6, hval⟩
                      have hb6' : Below w5.heap.size w5 w6 := hbx.trans (hb6.mono hbx.size)
                      have HP := Lib.hid (HC1.out g6 o6 c6 w6 hval)
                      clear HK hval HC1 hv' hbx hb6
                      go_wp2_with (go_at_call 20; refine (wantKey1 _).mono ?_; rintro e w' ⟨rfl, rfl⟩)
                      go_at_call 21
                      refine HP.out.mono ?_
                      rintro e w7 ⟨rfl, hb7⟩
                      have hb7' : Below w5.heap.size w5 w7 := hb6'.trans (hb7.mono hb6'.size)
                      clear HP hb6' hb7
                      go_wp2
                      go_roundw
                      case rel => exact ⟨2, by decide, by decide, rfl, hb7'⟩
                      case measure => simp [RowKit.intOf]
                    · have hv' := cellLater hbx h2
                      have HK := Lib.hid (keyAt2 (FieldAt.later f2.out hbx))
                      clear h0 h1 h2 h3 h4 h5 h6 h7 h8 f0 f1 f2 f3 f4 f5 f6 f7 f8 HC0 HC1 HC5 HC7 hcs5
                      go_wp2_with fail
                      go_at_call 19
                      refine HK.out.mono ?_
                      rintro e w6 ⟨g6, o6, c6, rfl, hb6, hval⟩
                      have hb6' : Below w5.heap.size w5 w6 := hbx.trans (hb6.mono hbx.size)
                      have HP := Lib.hid (HC2.out g6 o6 c6 w6 hval)
                      clear HK hval HC2 hv' hbx hb6
                      go_wp2_with (go_at_call 20; refine (wantKey2 _).mono ?_; rintro e w' ⟨rfl, rfl⟩)
                      go_at_call 22
                      refine HP.out.mono ?_
                      rintro e w7 ⟨rfl, rfl⟩
                      clear HP
                      go_wp2
                      go_roundw
                      case rel => exact ⟨3, by decide, by decide, rfl, hb6'⟩
                      case measure => simp [RowKit.intOf]
                    · have hv' := cellLater hbx h3
                      have HK := Lib.hid (keyAt3 (FieldAt.later f3.out hbx))
                      clear h0 h1 h2 h3 h4 h5 h6 h7 h8 f0 f1 f2 f3 f4 f5 f6 f7 f8 HC0 HC1 HC2 HC5 HC7 hcs5
                      go_wp2_with fail
                      go_at_call 19
                      refine HK.out.mono ?_
                      rintro e w6 ⟨g6, o6, c6, rfl, hb6, hval⟩
                      have hb6' : Below w5.heap.size w5 w6 := hbx.trans (hb6.mono hbx.size)
                      have hlen8 : ([48]).length = 1 := rfl
                      try rw [hlen8]
                      clear hlen8
                      have hcv1 : (convert 22 9 (.slice (some ⟨g6, o6, none⟩) 1 c6)).run Tryd.prog w6 = .ok (.string ⟨#[48]⟩) w6 := val_string ⟨#[48]⟩ hval rfl
                      clear HK hval hv' hbx hb6
                      go_wp2_with (go_at_call 20; refine (wantKey3 _).mono ?_; rintro e w' ⟨rfl, rfl⟩)
                      go_roundw
                      case rel => exact ⟨4, by decide, by decide, rfl, hb6'⟩
                      case measure => simp [RowKit.intOf]
                    · have hv' := cellLater hbx h4
                      have HK := Lib.hid (keyAt4 (FieldAt.later f4.out hbx))
                      clear h0 h1 h2 h3 h4 h5 h6 h7 h8 f0 f1 f2 f3 f4 f5 f6 f7 f8 HC0 HC1 HC2 HC5 HC7 hcs5
                      go_wp2_with fail
                      go_at_call 19
                      refine HK.out.mono ?_
                      rintro e w6 ⟨g6, o6, c6, rfl, hb6, hval⟩
                      have hb6' : Below w5.heap.size w5 w6 := hbx.trans (hb6.mono hbx.size)
                      have hlen8 : ([48]).length = 1 := rfl
                      try rw [hlen8]
                      clear hlen8
                      have hcv1 : (convert 22 9 (.slice (some ⟨g6, o6, none⟩) 1 c6)).run Tryd.prog w6 = .ok (.string ⟨#[48]⟩) w6 := val_string ⟨#[48]⟩ hval rfl
                      clear HK hval hv' hbx hb6
                      go_wp2_with (go_at_call 20; refine (wantKey4 _).mono ?_; rintro e w' ⟨rfl, rfl⟩)
                      go_roundw
                      case rel => exact ⟨5, by decide, by decide, rfl, hb6'⟩
                      case measure => simp [RowKit.intOf]
                    · have hv' := cellLater hbx h5
                      have HK := Lib.hid (keyAt5 (FieldAt.later f5.out hbx))
                      clear h0 h1 h2 h3 h4 h5 h6 h7 h8 f0 f1 f2 f3 f4 f5 f6 f7 f8 HC0 HC1 HC2 HC7 hcs5
                      go_wp2_with fail
                      go_at_call 19
                      refine HK.out.mono ?_
                      rintro e w6 ⟨g6, o6, c6, rfl, hb6, hval⟩
                      have hb6' : Below w5.heap.size w5 w6 := hbx.trans (hb6.mono hbx.size)
                      have HP := Lib.hid (HC5.out g6 o6 c6 w6 hval)
                      clear HK hval HC5 hv' hbx hb6
                      go_wp2_with (go_at_call 20; refine (wantKey5 _).mono ?_; rintro e w' ⟨rfl, rfl⟩)
                      go_at_call 22
                      refine HP.out.mono ?_
                      rintro e w7 ⟨rfl, rfl⟩
                      clear HP
                      go_wp2
                      go_roundw
                      case rel => exact ⟨6, by decide, by decide, rfl, hb6'⟩
                      case measure => simp [RowKit.intOf]
                    · have hv' := cellLater hbx h6
                      have HK := Lib.hid (keyAt6 (FieldAt.later f6.out hbx))
                      clear h0 h1 h2 h3 h4 h5 h6 h7 h8 f0 f1 f2 f3 f4 f5 f6 f7 f8 HC0 HC1 HC2 HC5 HC7 hcs5
                      go_wp2_with fail
                      go_at_call 19
                      refine HK.out.mono ?_
                      rintro e w6 ⟨g6, o6, c6, rfl, hb6, hval⟩
                      have hb6' : Below w5.heap.size w5 w6 := hbx.trans (hb6.mono hbx.size)
                      have hlen8 : ([49]).length = 1 := rfl
                      try rw [hlen8]
                      clear hlen8
                      have hcv1 : (convert 22 9 (.slice (some ⟨g6, o6, none⟩) 1 c6)).run Tryd.prog w6 = .ok (.string ⟨#[49]⟩) w6 := val_string ⟨#[49]⟩ hval rfl
                      clear HK hval hv' hbx hb6
                      go_wp2_with (go_at_call 20; refine (wantKey6 _).mono ?_; rintro e w' ⟨rfl, rfl⟩)
                      go_roundw
                      case rel => exact ⟨7, by decide, by decide, rfl, hb6'⟩
                      case measure => simp [RowKit.intOf]
                    · have hv' := cellLater hbx h7
                      have HK := Lib.hid (keyAt7 (FieldAt.later f7.out hbx))
                      clear h0 h1 h2 h3 h4 h5 h6 h7 h8 f0 f1 f2 f3 f4 f5 f6 f7 f8 HC0 HC1 HC2 HC5 hcs5
                      go_wp2_with fail
                      go_at_call 19
                      refine HK.out.mono ?_
                      rintro e w6 ⟨g6, o6, c6, rfl, hb6, hval⟩
                      have hb6' : Below w5.heap.size w5 w6 := hbx.trans (hb6.mono hbx.size)
                      have HP := Lib.hid (HC7.out g6 o6 c6 w6 hval)
                      clear HK hval HC7 hv' hbx hb6
                      go_wp2_with (go_at_call 20; refine (wantKey7 _).mono ?_; rintro e w' ⟨rfl, rfl⟩)
                      go_at_call 22
                      refine HP.out.mono ?_
                      rintro e w7 ⟨rfl, rfl⟩
                      clear HP
                      go_wp2
                      go_roundw
                      case rel => exact ⟨8, by decide, by decide, rfl, hb6'⟩
                      case measure => simp [RowKit.intOf]
                    · have hv' := cellLater hbx h8
                      have HK := Lib.hid (keyAt8 (FieldAt.later f8.out hbx))
                      clear h0 h1 h2 h3 h4 h5 h6 h7 h8 f0 f1 f2 f3 f4 f5 f6 f7 f8 HC0 HC1 HC2 HC5 HC7 hcs5
                      go_wp2_with fail
                      go_at_call 19
                      refine HK.out.mono ?_
                      rintro e w6 ⟨g6, o6, c6, rfl, hb6, hval⟩
                      have hb6' : Below w5.heap.size w5 w6 := hbx.trans (hb6.mono hbx.size)
                      have hlen8 : (sStarted).length = 7 := rfl
                      try rw [hlen8]
                      clear hlen8
                      have hcv1 : (convert 22 9 (.slice (some ⟨g6, o6, none⟩) 7 c6)).run Tryd.prog w6 = .ok (.string ⟨#[115, 116, 97, 114, 116, 101, 100]⟩) w6 := val_string ⟨#[115, 116, 97, 114, 116, 101, 100]⟩ hval rfl
                      clear HK hval hv' hbx hb6
                      go_wp2_with (go_at_call 20; refine (wantKey8 _).mono ?_; rintro e w' ⟨rfl, rfl⟩)
                      go_roundw
                      case rel => exact ⟨9, by decide, by decide, rfl, hb6'⟩
                      case measure => simp [RowKit.intOf]
                    · clear HC0 HC1 HC2 HC5 HC7 hcs5
                      go_wp2
                      go_ret
                      exact ⟨rfl, hb5'.trans (hbx.mono hb5'.size)⟩
                · as_aux_lemma =>
                  obtain ⟨hl9, hF8⟩ := fields_later p k 0 V0 (i < peers) hst hF
                  have hst' : decide ((i : Int) < (peers : Int)) = false := decide_eq_false (fun h => hst (Int.ofNat_lt.1 h))
                  have hst2 : decide (i < peers) = false := decide_eq_false hst
                  unfold F8 at hF8
                  rw [← hV1, ← hV2, ← hV5, ← hV7] at hF8
                  obtain ⟨⟨v0, h0, f0'⟩, ⟨v1, h1, f1'⟩, ⟨v2, h2, f2'⟩, ⟨v3, h3, f3'⟩, ⟨v4, h4, f4'⟩, ⟨v5, h5, f5'⟩, ⟨v6, h6, f6'⟩, ⟨v7, h7, f7'⟩⟩ := hF8
                  have f0 := Lib.hid f0'
                  have f1 := Lib.hid f1'
                  have f2 := Lib.hid f2'
                  have f3 := Lib.hid f3'
                  have f4 := Lib.hid f4'
                  have f5 := Lib.hid f5'
                  have f6 := Lib.hid f6'
                  have f7 := Lib.hid f7'
                  rw [hl9]
                  clear hF hl9 hst hV1 hV2 hV5 hV7 f0' f1' f2' f3' f4' f5' f6' f7'
                  go_wp2
                  clear hst' hst2
                  go_loopw [21] (fun x wx => ∃ jj : Int, 0 ≤ jj ∧ jj ≤ 8 ∧ x = .int .i64 jj ∧ Below w5.heap.size w5 wx) (fun x _ => (8 - RowKit.intOf x).toNat)
                  case atStart => exact ⟨0, by decide, by decide, rfl, Below.refl _ _⟩
                  case round =>
                    obtain ⟨jj, hj0, hj1, rfl, hbx⟩ := hrel
                    rcases nine_cases jj hj0 hj1 with rfl | rfl | rfl | rfl | rfl | rfl | rfl | rfl | rfl
                    all_goals clear hj0 hj1
                    · have hv' := cellLater hbx h0
                      have HK := Lib.hid (keyAt0 (FieldAt.later f0.out hbx))
                      have hcs6 := cellLater hbx hcs5
                      clear h0 h1 h2 h3 h4 h5 h6 h7 f0 f1 f2 f3 f4 f5 f6 f7 HC1 HC2 HC5 HC7 hcs5
                      go_wp2_with fail
                      go_at_call 19
                      refine HK.out.mono ?_
                      rintro e w6 ⟨g6, o6, c6, rfl, hb6, hval⟩
                      have hb6' : Below w5.heap.size w5 w6 := hbx.trans (hb6.mono hbx.size)
                      have hcv1 := HC0.out g6 o6 c6 w6 hval
                      have hcv2 : (convert 22 9 (.slice (some ⟨g6, o6, none⟩) V0.length c6)).run Tryd.prog w6.drew = .ok (.string h) w6.drew := HC0.out g6 o6 c6 w6.drew hval
                      have hcs7 := cellLater hb6 hcs6
                      clear HK hval HC0 hv' hcs6 hbx hb6
                      go_wp2_with (go_at_call 20; refine (wantKey0 _).mono ?_; rintro e w' ⟨rfl, rfl⟩)
                      go_region
                      go_wp2
                      go_roundw
                      case rel => exact ⟨1, by decide, by decide, rfl, hb6'.drew⟩
                      case measure => simp [RowKit.intOf]
                    · have hv' := cellLater hbx h1
                      have HK := Lib.hid (keyAt1 (FieldAt.later f1.out hbx))
                      clear h0 h1 h2 h3 h4 h5 h6 h7 f0 f1 f2 f3 f4 f5 f6 f7 HC0 HC2 HC5 HC7 hcs5
                      go_wp2_with fail
                      go_at_call 19
                      refine HK.out.mono ?_
                      rintro e w6 ⟨g6, o6, c6, rfl, hb6, hval⟩
                      have hb6' : Below w5.heap.size w5 w6 := hbx.trans (hb6.mono hbx.size)
                      have HP := Lib.hid (HC1.out g6 o6 c6 w6 hval)
                      clear HK hval HC1 hv' hbx hb6
                      go_wp2_with (go_at_call 20; refine (wantKey1 _).mono ?_; rintro e w' ⟨rfl, rfl⟩)
                      go_at_call 21
                      refine HP.out.mono ?_
                      rintro e w7 ⟨rfl, hb7⟩
                      have hb7' : Below w5.heap.size w5 w7 := hb6'.trans (hb7.mono hb6'.size)
                      clear HP hb6' hb7
                      go_wp2
                      go_roundw
                      case rel => exact ⟨2, by decide, by decide, rfl, hb7'⟩
                      case measure => simp [RowKit.intOf]
                    · have hv' := cellLater hbx h2
                      have HK := Lib.hid (keyAt2 (FieldAt.later f2.out hbx))
                      clear h0 h1 h2 h3 h4 h5 h6 h7 f0 f1 f2 f3 f4 f5 f6 f7 HC0 HC1 HC5 HC7 hcs5
                      go_wp2_with fail
                      go_at_call 19
                      refine HK.out.mono ?_
                      rintro e w6 ⟨g6, o6, c6, rfl, hb6, hval⟩
                      have hb6' : Below w5.heap.size w5 w6 := hbx.trans (hb6.mono hbx.size)
                      have HP := Lib.hid (HC2.out g6 o6 c6 w6 hval)
                      clear HK hval HC2 hv' hbx hb6
                      go_wp2_with (go_at_call 20; refine (wantKey2 _).mono ?_; rintro e w' ⟨rfl, rfl⟩)
                      go_at_call 22
                      refine HP.out.mono ?_
                      rintro e w7 ⟨rfl, rfl⟩
                      clear HP
                      go_wp2
                      go_roundw
                      case rel => exact ⟨3, by decide, by decide, rfl, hb6'⟩
                      case measure => simp [RowKit.intOf]
                    · have hv' := cellLater hbx h3
                      have HK := Lib.hid (keyAt3 (FieldAt.later f3.out hbx))
                      clear h0 h1 h2 h3 h4 h5 h6 h7 f0 f1 f2 f3 f4 f5 f6 f7 HC0 HC1 HC2 HC5 HC7 hcs5
                      go_wp2_with fail
                      go_at_call 19
                      refine HK.out.mono ?_
                      rintro e w6 ⟨g6, o6, c6, rfl, hb6, hval⟩
                      have hb6' : Below w5.heap.size w5 w6 := hbx.trans (hb6.mono hbx.size)
                      have hlen8 : ([48]).length = 1 := rfl
                      try rw [hlen8]
                      clear hlen8
                      have hcv1 : (convert 22 9 (.slice (some ⟨g6, o6, none⟩) 1 c6)).run Tryd.prog w6 = .ok (.string ⟨#[48]⟩) w6 := val_string ⟨#[48]⟩ hval rfl
                      clear HK hval hv' hbx hb6
                      go_wp2_with (go_at_call 20; refine (wantKey3 _).mono ?_; rintro e w' ⟨rfl, rfl⟩)
                      go_roundw
                      case rel => exact ⟨4, by decide, by decide, rfl, hb6'⟩
                      case measure => simp [RowKit.intOf]
                    · have hv' := cellLater hbx h4
                      have HK := Lib.hid (keyAt4 (FieldAt.later f4.out hbx))
                      clear h0 h1 h2 h3 h4 h5 h6 h7 f0 f1 f2 f3 f4 f5 f6 f7 HC0 HC1 HC2 HC5 HC7 hcs5
                      go_wp2_with fail
                      go_at_call 19
                      refine HK.out.mono ?_
                      rintro e w6 ⟨g6, o6, c6, rfl, hb6, hval⟩
                      have hb6' : Below w5.heap.size w5 w6 := hbx.trans (hb6.mono hbx.size)
                      have hlen8 : ([48]).length = 1 := rfl
                      try rw [hlen8]
                      clear hlen8
                      have hcv1 : (convert 22 9 (.slice (some ⟨g6, o6, none⟩) 1 c6)).run Tryd.prog w6 = .ok (.string ⟨#[48]⟩) w6 := val_string ⟨#[48]⟩ hval rfl
                      clear HK hval hv' hbx hb6
                      go_wp2_with (go_at_call 20; refine (wantKey4 _).mono ?_; rintro e w' ⟨rfl, rfl⟩)
                      go_roundw
                      case rel => exact ⟨5, by decide, by decide, rfl, hb6'⟩
                      case measure => simp [RowKit.intOf]
                    · have hv' := cellLater hbx h5
                      have HK := Lib.hid (keyAt5 (FieldAt.later f5.out hbx))
                      clear h0 h1 h2 h3 h4 h5 h6 h7 f0 f1 f2 f3 f4 f5 f6 f7 HC0 HC1 HC2 HC7 hcs5
                      go_wp2_with fail
                      go_at_call 19
                      refine HK.out.mono ?_
                      rintro e w6 ⟨g6, o6, c6, rfl, hb6, hval⟩
                      have hb6' : Below w5.heap.size w5 w6 := hbx.trans (hb6.mono hbx.size)
                      have HP := Lib.hid (HC5.out g6 o6 c6 w6 hval)
                      clear HK hval HC5 hv' hbx hb6
                      go_wp2_with (go_at_call 20; refine (wantKey5 _).mono ?_; rintro e w' ⟨rfl, rfl⟩)
                      go_at_call 22
                      refine HP.out.mono ?_
                      rintro e w7 ⟨rfl, rfl⟩
                      clear HP
                      go_wp2
                      go_roundw
                      case rel => exact ⟨6, by decide, by decide, rfl, hb6'⟩
                      case measure => simp [RowKit.intOf]
                    · have hv' := cellLater hbx h6
                      have HK := Lib.hid (keyAt6 (FieldAt.later f6.out hbx))
                      clear h0 h1 h2 h3 h4 h5 h6 h7 f0 f1 f2 f3 f4 f5 f6 f7 HC0 HC1 HC2 HC5 HC7 hcs5
                      go_wp2_with fail
                      go_at_call 19
                      refine HK.out.mono ?_
                      rintro e w6 ⟨g6, o6, c6, rfl, hb6, hval⟩
                      have hb6' : Below w5.heap.size w5 w6 := hbx.trans (hb6.mono hbx.size)
                      have hlen8 : ([49]).length = 1 := rfl
                      try rw [hlen8]
                      clear hlen8
                      have hcv1 : (convert 22 9 (.slice (some ⟨g6, o6, none⟩) 1 c6)).run Tryd.prog w6 = .ok (.string ⟨#[49]⟩) w6 := val_string ⟨#[49]⟩ hval rfl
                      clear HK hval hv' hbx hb6
                      go_wp2_with (go_at_call 20; refine (wantKey6 _).mono ?_; rintro e w' ⟨rfl, rfl⟩)
                      go_roundw
                      case rel => exact ⟨7, by decide, by decide, rfl, hb6'⟩
                      case measure => simp [RowKit.intOf]
                    · have hv' := cellLater hbx h7
                      have HK := Lib.hid (keyAt7 (FieldAt.later f7.out hbx))
                      clear h0 h1 h2 h3 h4 h5 h6 h7 f0 f1 f2 f3 f4 f5 f6 f7 HC0 HC1 HC2 HC5 hcs5
                      go_wp2_with fail
                      go_at_call 19
                      refine HK.out.mono ?_
                      rintro e w6 ⟨g6, o6, c6, rfl, hb6, hval⟩
                      have hb6' : Below w5.heap.size w5 w6 := hbx.trans (hb6.mono hbx.size)
                      have HP := Lib.hid (HC7.out g6 o6 c6 w6 hval)
                      clear HK hval HC7 hv' hbx hb6
                      go_wp2_with (go_at_call 20; refine (wantKey7 _).mono ?_; rintro e w' ⟨rfl, rfl⟩)
                      go_at_call 22
                      refine HP.out.mono ?_
                      rintro e w7 ⟨rfl, rfl⟩
                      clear HP
                      go_wp2
                      go_roundw
                      case rel => exact ⟨8, by decide, by decide, rfl, hb6'⟩
                      case measure => simp [RowKit.intOf]
                    · clear HC0 HC1 HC2 HC5 HC7 hcs5
                      go_wp2
                      go_ret
                      exact ⟨rfl, hb5'.trans (hbx.mono hb5'.size)⟩
              · obtain ⟨V0, hV0⟩ : ∃ V, V = h.data.toList := ⟨_, rfl⟩
                rw [hlf, ← hV0] at HSPL
                have HC0 := Lib.hid (stringC h V0 hV0)
                clear hV0 hlf
                go_wp2_with fail
                go_at_call 18
                refine HSPL.out.mono ?_
                rintro e w5 ⟨gf, cf, rfl, hb5, hF⟩
                have hb5' : Below w.heap.size w w5 := hb4.trans ((hbr.trans (hb5.mono hbr.size)).mono hb4.size)
                have hcs5 := cellLater hb5 hcs
                rw [hpe, hte, hke]
                clear HSPL hcs hb4 hbr hb5 hk4 hpe hte hke
                have hpor := port_bd k
                obtain ⟨V1, hV1⟩ : ∃ V, V = sTL ++ peerText p := ⟨_, rfl⟩
                have HC1 := Lib.hid (peerC p V1 hV1 hpb)
                obtain ⟨V2, hV2⟩ : ∃ V, V = itoa (1024 + (k : Int) % 60000) := ⟨_, rfl⟩
                have HC2 := Lib.hid (canonC _ V2 hV2 hpor.1 hpor.2)
                obtain ⟨V5, hV5⟩ : ∃ V, V = itoa 1048576 := ⟨_, rfl⟩
                have HC5 := Lib.hid (canonC _ V5 hV5 (by decide) (by decide))
                obtain ⟨V7, hV7⟩ : ∃ V, V = itoa 50 := ⟨_, rfl⟩
                have HC7 := Lib.hid (canonC _ V7 hV7 (by decide) (by decide))
                clear hpor
                by_cases hst : i < peers
                · as_aux_lemma =>
                  obtain ⟨hl9, hF8, hF9⟩ := fields_first p k 1048576 V0 (i < peers) hst hF
                  have hst' : decide ((i : Int) < (peers : Int)) = true := decide_eq_true (Int.ofNat_lt.2 hst)
                  have hst2 : decide (i < peers) = true := decide_eq_true hst
                  unfold F8 at hF8
                  rw [← hV1, ← hV2, ← hV5, ← hV7] at hF8
                  obtain ⟨⟨v0, h0, f0'⟩, ⟨v1, h1, f1'⟩, ⟨v2, h2, f2'⟩, ⟨v3, h3, f3'⟩, ⟨v4, h4, f4'⟩, ⟨v5, h5, f5'⟩, ⟨v6, h6, f6'⟩, ⟨v7, h7, f7'⟩⟩ := hF8
                  obtain ⟨v8, h8, f8'⟩ := hF9
                  have f0 := Lib.hid f0'
                  have f1 := Lib.hid f1'
                  have f2 := Lib.hid f2'
                  have f3 := Lib.hid f3'
                  have f4 := Lib.hid f4'
                  have f5 := Lib.hid f5'
                  have f6 := Lib.hid f6'
                  have f7 := Lib.hid f7'
                  have f8 := Lib.hid f8'
                  rw [hl9]
                  clear hF hl9 hst hV1 hV2 hV5 hV7 f0' f1' f2' f3' f4' f5' f6' f7' f8'
                  go_wp2
                  clear hst' hst2
                  go_loopw [21] (fun x wx => ∃ jj : Int, 0 ≤ jj ∧ jj ≤ 9 ∧ x = .int .i64 jj ∧ Below w5.heap.size w5 wx) (fun x _ => (9 - RowKit.intOf x).toNat)
                  case atStart => exact ⟨0, by decide, by decide, rfl, Below.refl _ _⟩
                  case round =>
                    obtain ⟨jj, hj0, hj1, rfl, hbx⟩ := hrel
                    rcases ten_cases jj hj0 hj1 with rfl | rfl | rfl | rfl | rfl | rfl | rfl | rfl | rfl | rfl
                    all_goals clear hj0 hj1
                    · have hv' := cellLater hbx h0
                      have HK := Lib.hid (keyAt0 (FieldAt.later f0.out hbx))
                      have hcs6 := cellLater hbx hcs5
                      clear h0 h1 h2 h3 h4 h5 h6 h7 h8 f0 f1 f2 f3 f4 f5 f6 f7 f8 HC1 HC2 HC5 HC7 hcs5
                      go_wp2_with fail
                      go_at_call 19
                      refine HK.out.mono ?_
                      rintro e w6 ⟨g6, o6, c6, rfl, hb6, hval⟩
                      have hb6' : Below w5.heap.size w5 w6 := hbx.trans (hb6.mono hbx.size)
                      have hcv1 := HC0.out g6 o6 c6 w6 hval
                      have hcv2 : (convert 22 9 (.slice (some ⟨g6, o6, none⟩) V0.length c6)).run Tryd.prog w6.drew = .ok (.string h) w6.drew := HC0.out g6 o6 c6 w6.drew hval
                      have hcs7 := cellLater hb6 hcs6
                      clear HK hval HC0 hv' hcs6 hbx hb6
                      go_wp2_with (go_at_call 20; refine (wantKey0 _).mono ?_; rintro e w' ⟨rfl, rfl⟩)
                      go_region
                      go_wp2
                      go_roundw
                      case rel => exact ⟨1, by decide, by decide, rfl, hb6'.drew⟩
                      case measure => simp [RowKit.intOf]
                    · have hv' := cellLater hbx h1
                      have HK := Lib.hid (keyAt1 (FieldAt.later f1.out hbx))
                      clear h0 h1 h2 h3 h4 h5 h6 h7 h8 f0 f1 f2 f3 f4 f5 f6 f7 f8 HC0 HC2 HC5 HC7 hcs5
                      go_wp2_with fail
                      go_at_call 19
                      refine HK.out.mono ?_
                      rintro e w6 ⟨g6, o6, c6, rfl, hb6, hval⟩
                      have hb6' : Below w5.heap.size w5 w6 := hbx.trans (hb6.mono hbx.size)
                      have HP := Lib.hid (HC1.out g6 o6 c6 w6 hval)
                      clear HK hval HC1 hv' hbx hb6
                      go_wp2_with (go_at_call 20; refine (wantKey1 _).mono ?_; rintro e w' ⟨rfl, rfl⟩)
                      go_at_call 21
                      refine HP.out.mono ?_
                      rintro e w7 ⟨rfl, hb7⟩
                      have hb7' : Below w5.heap.size w5 w7 := hb6'.trans (hb7.mono hb6'.size)
                      clear HP hb6' hb7
                      go_wp2
                      go_roundw
                      case rel => exact ⟨2, by decide, by decide, rfl, hb7'⟩
                      case measure => simp [RowKit.intOf]
                    · have hv' := cellLater hbx h2
                      have HK := Lib.hid (keyAt2 (FieldAt.later f2.out hbx))
                      clear h0 h1 h2 h3 h4 h5 h6 h7 h8 f0 f1 f2 f3 f4 f5 f6 f7 f8 HC0 HC1 HC5 HC7 hcs5
                      go_wp2_with fail
                      go_at_call 19
                      refine HK.out.mono ?_
                      rintro e w6 ⟨g6, o6, c6, rfl, hb6, hval⟩
                      have hb6' : Below w5.heap.size w5 w6 := hbx.trans (hb6.mono hbx.size)
                      have HP := Lib.hid (HC2.out g6 o6 c6 w6 hval)
                      clear HK hval HC2 hv' hbx hb6
                      go_wp2_with (go_at_call 20; refine (wantKey2 _).mono ?_; rintro e w' ⟨rfl, rfl⟩)
                      go_at_call 22
                      refine HP.out.mono ?_
                      rintro e w7 ⟨rfl, rfl⟩
                      clear HP
                      go_wp2
                      go_roundw
                      case rel => exact ⟨3, by decide, by decide, rfl, hb6'⟩
                      case measure => simp [RowKit.intOf]
                    · have hv' := cellLater hbx h3
                      have HK := Lib.hid (keyAt3 (FieldAt.later f3.out hbx))
                      clear h0 h1 h2 h3 h4 h5 h6 h7 h8 f0 f1 f2 f3 f4 f5 f6 f7 f8 HC0 HC1 HC2 HC5 HC7 hcs5
                      go_wp2_with fail
                      go_at_call 19
                      refine HK.out.mono ?_
                      rintro e w6 ⟨g6, o6, c6, rfl, hb6, hval⟩
                      have hb6' : Below w5.heap.size w5 w6 := hbx.trans (hb6.mono hbx.size)
                      have hlen8 : ([48]).length = 1 := rfl
                      try rw [hlen8]
                      clear hlen8
                      have hcv1 : (convert 22 9 (.slice (some ⟨g6, o6, none⟩) 1 c6)).run Tryd.prog w6 = .ok (.string ⟨#[48]⟩) w6 := val_string ⟨#[48]⟩ hval rfl
                      clear HK hval hv' hbx hb6
                      go_wp2_with (go_at_call 20; refine (wantKey3 _).mono ?_; rintro e w' ⟨rfl, rfl⟩)
                      go_roundw
                      case rel => exact ⟨4, by decide, by decide, rfl, hb6'⟩
                      case measure => simp [RowKit.intOf]
                    · have hv' := cellLater hbx h4
                      have HK := Lib.hid (keyAt4 (FieldAt.later f4.out hbx))
                      clear h0 h1 h2 h3 h4 h5 h6 h7 h8 f0 f1 f2 f3 f4 f5 f6 f7 f8 HC0 HC1 HC2 HC5 HC7 hcs5
                      go_wp2_with fail
                      go_at_call 19
                      refine HK.out.mono ?_
                      rintro e w6 ⟨g6, o6, c6, rfl, hb6, hval⟩
                      have hb6' : Below w5.heap.size w5 w6 := hbx.trans (hb6.mono hbx.size)
                      have hlen8 : ([48]).length = 1 := rfl
                      try rw [hlen8]
                      clear hlen8
                      have hcv1 : (convert 22 9 (.slice (some ⟨g6, o6, none⟩) 1 c6)).run Tryd.prog w6 = .ok (.string ⟨#[48]⟩) w6 := val_string ⟨#[48]⟩ hval rfl
                      clear HK hval hv' hbx hb6
                      go_wp2_with (go_at_call 20; refine (wantKey4 _).mono ?_; rintro e w' ⟨rfl, rfl⟩)
                      go_roundw
                      case rel => exact ⟨5, by decide, by decide, rfl, hb6'⟩
                      case measure => simp [RowKit.intOf]
                    · have hv' := cellLater hbx h5
                      have HK := Lib.hid (keyAt5 (FieldAt.later f5.out hbx))
                      clear h0 h1 h2 h3 h4 h5 h6 h7 h8 f0 f1 f2 f3 f4 f5 f6 f7 f8 HC0 HC1 HC2 HC7 hcs5
                      go_wp2_with fail
                      go_at_call 19
                      refine HK.out.mono ?_
                      rintro e w6 ⟨g6, o6, c6, rfl, hb6, hval⟩
                      have hb6' : Below w5.heap.size w5 w6 := hbx.trans (hb6.mono hbx.size)
                      have HP := Lib.hid (HC5.out g6 o6 c6 w6 hval)
                      clear HK hval HC5 hv' hbx hb6
                      go_wp2_with (go_at_call 20; refine (wantKey5 _).mono ?_; rintro e w' ⟨rfl, rfl⟩)
                      go_at_call 22
                      refine HP.out.mono ?_
                      rintro e w7 ⟨rfl, rfl⟩
                      clear HP
                      go_wp2
                      go_roundw
                      case rel => exact ⟨6, by decide, by decide, rfl, hb6'⟩
                      case measure => simp [RowKit.intOf]
                    · have hv' := cellLater hbx h6
                      have HK := Lib.hid (keyAt6 (FieldAt.later f6.out hbx))
                      clear h0 h1 h2 h3 h4 h5 h6 h7 h8 f0 f1 f2 f3 f4 f5 f6 f7 f8 HC0 HC1 HC2 HC5 HC7 hcs5
                      go_wp2_with fail
                      go_at_call 19
                      refine HK.out.mono ?_
                      rintro e w6 ⟨g6, o6, c6, rfl, hb6, hval⟩
                      have hb6' : Below w5.heap.size w5 w6 := hbx.trans (hb6.mono hbx.size)
                      have hlen8 : ([49]).length = 1 := rfl
                      try rw [hlen8]
                      clear hlen8
                      have hcv1 : (convert 22 9 (.slice (some ⟨g6, o6, none⟩) 1 c6)).run Tryd.prog w6 = .ok (.string ⟨#[49]⟩) w6 := val_string ⟨#[49]⟩ hval rfl
                      clear HK hval hv' hbx hb6
                      go_wp2_with (go_at_call 20; refine (wantKey6 _).mono ?_; rintro e w' ⟨rfl, rfl⟩)
                      go_roundw
                      case rel => exact ⟨7, by decide, by decide, rfl, hb6'⟩
                      case measure => simp [RowKit.intOf]
                    · have hv' := cellLater hbx h7
                      have HK := Lib.hid (keyAt7 (FieldAt.later f7.out hbx))
                      clear h0 h1 h2 h3 h4 h5 h6 h7 h8 f0 f1 f2 f3 f4 f5 f6 f7 f8 HC0 HC1 HC2 HC5 hcs5
                      go_wp2_with fail
                      go_at_call 19
                      refine HK.out.mono ?_
                      rintro e w6 ⟨g6, o6, c6, rfl, hb6, hval⟩
                      have hb6' : Below w5.heap.size w5 w6 := hbx.trans (hb6.mono hbx.size)
                      have HP := Lib.hid (HC7.out g6 o6 c6 w6 hval)
                      clear HK hval HC7 hv' hbx hb6
                      go_wp2_with (go_at_call 20; refine (wantKey7 _).mono ?_; rintro e w' ⟨rfl, rfl⟩)
                      go_at_call 22
                      refine HP.out.mono ?_
                      rintro e w7 ⟨rfl, rfl⟩
                      clear HP
                      go_wp2
                      go_roundw
                      case rel => exact ⟨8, by decide, by decide, rfl, hb6'⟩
                      case measure => simp [RowKit.intOf]
                    · have hv' := cellLater hbx h8
                      have HK := Lib.hid (keyAt8 (FieldAt.later f8.out hbx))
                      clear h0 h1 h2 h3 h4 h5 h6 h7 h8 f0 f1 f2 f3 f4 f5 f6 f7 f8 HC0 HC1 HC2 HC5 HC7 hcs5
                      go_wp2_with fail
                      go_at_call 19
                      refine HK.out.mono ?_
                      rintro e w6 ⟨g6, o6, c6, rfl, hb6, hval⟩
                      have hb6' : Below w5.heap.size w5 w6 := hbx.trans (hb6.mono hbx.size)
                      have hlen8 : (sStarted).length = 7 := rfl
                      try rw [hlen8]
                      clear hlen8
                      have hcv1 : (convert 22 9 (.slice (some ⟨g6, o6, none⟩) 7 c6)).run Tryd.prog w6 = .ok (.string ⟨#[115, 116, 97, 114, 116, 101, 100]⟩) w6 := val_string ⟨#[115, 116, 97, 114, 116, 101, 100]⟩ hval rfl
                      clear HK hval hv' hbx hb6
                      go_wp2_with (go_at_call 20; refine (wantKey8 _).mono ?_; rintro e w' ⟨rfl, rfl⟩)
                      go_roundw
                      case rel => exact ⟨9, by decide, by decide, rfl, hb6'⟩
                      case measure => simp [RowKit.intOf]
                    · clear HC0 HC1 HC2 HC5 HC7 hcs5
                      go_wp2
                      go_ret
                      exact ⟨rfl, hb5'.trans (hbx.mono hb5'.size)⟩
                · as_aux_lemma =>
                  obtain ⟨hl9, hF8⟩ := fields_later p k 1048576 V0 (i < peers) hst hF
                  have hst' : decide ((i : Int) < (peers : Int)) = false := decide_eq_false (fun h => hst (Int.ofNat_lt.1 h))
                  have hst2 : decide (i < peers) = false := decide_eq_false hst
                  unfold F8 at hF8
                  rw [← hV1, ← hV2, ← hV5, ← hV7] at hF8
                  obtain ⟨⟨v0, h0, f0'⟩, ⟨v1, h1, f1'⟩, ⟨v2, h2, f2'⟩, ⟨v3, h3, f3'⟩, ⟨v4, h4, f4'⟩, ⟨v5, h5, f5'⟩, ⟨v6, h6, f6'⟩, ⟨v7, h7, f7'⟩⟩ := hF8
                  have f0 := Lib.hid f0'
                  have f1 := Lib.hid f1'
                  have f2 := Lib.hid f2'
                  have f3 := Lib.hid f3'
                  have f4 := Lib.hid f4'
                  have f5 := Lib.hid f5'
                  have f6 := Lib.hid f6'
                  have f7 := Lib.hid f7'
                  rw [hl9]
                  clear hF hl9 hst hV1 hV2 hV5 hV7 f0' f1' f2' f3' f4' f5' f6' f7'
                  go_wp2
                  clear hst' hst2
                  go_loopw [21] (fun x wx => ∃ jj : Int, 0 ≤ jj ∧ jj ≤ 8 ∧ x = .int .i64 jj ∧ Below w5.heap.size w5 wx) (fun x _ => (8 - RowKit.intOf x).toNat)
                  case atStart => exact ⟨0, by decide, by decide, rfl, Below.refl _ _⟩
                  case round =>
                    obtain ⟨jj, hj0, hj1, rfl, hbx⟩ := hrel
                    rcases nine_cases jj hj0 hj1 with rfl | rfl | rfl | rfl | rfl | rfl | rfl | rfl | rfl
                    all_goals clear hj0 hj1
                    · have hv' := cellLater hbx h0
                      have HK := Lib.hid (keyAt0 (FieldAt.later f0.out hbx))
                      have hcs6 := cellLater hbx hcs5
                      clear h0 h1 h2 h3 h4 h5 h6 h7 f0 f1 f2 f3 f4 f5 f6 f7 HC1 HC2 HC5 HC7 hcs5
                      go_wp2_with fail
                      go_at_call 19
                      refine HK.out.mono ?_
                      rintro e w6 ⟨g6, o6, c6, rfl, hb6, hval⟩
                      have hb6' : Below w5.heap.size w5 w6 := hbx.trans (hb6.mono hbx.size)
                      have hcv1 := HC0.out g6 o6 c6 w6 hval
                      have hcv2 : (convert 22 9 (.slice (some ⟨g6, o6, none⟩) V0.length c6)).run Tryd.prog w6.drew = .ok (.string h) w6.drew := HC0.out g6 o6 c6 w6.drew hval
                      have hcs7 := cellLater hb6 hcs6
                      clear HK hval HC0 hv' hcs6 hbx hb6
                      go_wp2_with (go_at_call 20; refine (wantKey0 _).mono ?_; rintro e w' ⟨rfl, rfl⟩)
                      go_region
                      go_wp2
                      go_roundw
                      case rel => exact ⟨1, by decide, by decide, rfl, hb6'.drew⟩
                      case measure => simp [RowKit.intOf]
                    · have hv' := cellLater hbx h1
                      have HK := Lib.hid (keyAt1 (FieldAt.later f1.out hbx))
                      clear h0 h1 h2 h3 h4 h5 h6 h7 f0 f1 f2 f3 f4 f5 f6 f7 HC0 HC2 HC5 HC7 hcs5
                      go_wp2_with fail
                      go_at_call 19
                      refine HK.out.mono ?_
                      rintro e w6 ⟨g6, o6, c6, rfl, hb6, hval⟩
                      have hb6' : Below w5.heap.size w5 w6 := hbx.trans (hb6.mono hbx.size)
                      have HP := Lib.hid (HC1.out g6 o6 c6 w6 hval)
                      clear HK hval HC1 hv' hbx hb6
                      go_wp2_with (go_at_call 20; refine (wantKey1 _).mono ?_; rintro e w' ⟨rfl, rfl⟩)
                      go_at_call 21
                      refine HP.out.mono ?_
                      rintro e w7 ⟨rfl, hb7⟩
                      have hb7' : Below w5.heap.size w5 w7 := hb6'.trans (hb7.mono hb6'.size)
                      clear HP hb6' hb7
                      go_wp2
                      go_roundw
                      case rel => exact ⟨2, by decide, by decide, rfl, hb7'⟩
                      case measure => simp [RowKit.intOf]
                    · have hv' := cellLater hbx h2
                      have HK := Lib.hid (keyAt2 (FieldAt.later f2.out hbx))
                      clear h0 h1 h2 h3 h4 h5 h6 h7 f0 f1 f2 f3 f4 f5 f6 f7 HC0 HC1 HC5 HC7 hcs5
                      go_wp2_with fail
                      go_at_call 19
                      refine HK.out.mono ?_
                      rintro e w6 ⟨g6, o6, c6, rfl, hb6, hval⟩
                      have hb6' : Below w5.heap.size w5 w6 := hbx.trans (hb6.mono hbx.size)
                      have HP := Lib.hid (HC2.out g6 o6 c6 w6 hval)
                      clear HK hval HC2 hv' hbx hb6
                      go_wp2_with (go_at_call 20; refine (wantKey2 _).mono ?_; rintro e w' ⟨rfl, rfl⟩)
                      go_at_call 22
                      refine HP.out.mono ?_
                      rintro e w7 ⟨rfl, rfl⟩
                      clear HP
                      go_wp2
                      go_roundw
                      case rel => exact ⟨3, by decide, by decide, rfl, hb6'⟩
                      case measure => simp [RowKit.intOf]
                    · have hv' := cellLater hbx h3
                      have HK := Lib.hid (keyAt3 (FieldAt.later f3.out hbx))
                      clear h0 h1 h2 h3 h4 h5 h6 h7 f0 f1 f2 f3 f4 f5 f6 f7 HC0 HC1 HC2 HC5 HC7 hcs5
                      go_wp2_with fail
                      go_at_call 19
                      refine HK.out.mono ?_
                      rintro e w6 ⟨g6, o6, c6, rfl, hb6, hval⟩
                      have hb6' : Below w5.heap.size w5 w6 := hbx.trans (hb6.mono hbx.size)
                      have hlen8 : ([48]).length = 1 := rfl
                      try rw [hlen8]
                      clear hlen8
                      have hcv1 : (convert 22 9 (.slice (some ⟨g6, o6, none⟩) 1 c6)).run Tryd.prog w6 = .ok (.string ⟨#[48]⟩) w6 := val_string ⟨#[48]⟩ hval rfl
                      clear HK hval hv' hbx hb6
                      go_wp2_with (go_at_call 20; refine (wantKey3 _).mono ?_; rintro e w' ⟨rfl, rfl⟩)
                      go_roundw
                      case rel => exact ⟨4, by decide, by decide, rfl, hb6'⟩
                      case measure => simp [RowKit.intOf]
                    · have hv' := cellLater hbx h4
                      have HK := Lib.hid (keyAt4 (FieldAt.later f4.out hbx))
                      clear h0 h1 h2 h3 h4 h5 h6 h7 f0 f1 f2 f3 f4 f5 f6 f7 HC0 HC1 HC2 HC5 HC7 hcs5
                      go_wp2_with fail
                      go_at_call 19
                      refine HK.out.mono ?_
                      rintro e w6 ⟨g6, o6, c6, rfl, hb6, hval⟩
                      have hb6' : Below w5.heap.size w5 w6 := hbx.trans (hb6.mono hbx.size)
                      have hlen8 : ([48]).length = 1 := rfl
                      try rw [hlen8]
                      clear hlen8
                      have hcv1 : (convert 22 9 (.slice (some ⟨g6, o6, none⟩) 1 c6)).run Tryd.prog w6 = .ok (.string ⟨#[48]⟩) w6 := val_string ⟨#[48]⟩ hval rfl
                      clear HK hval hv' hbx hb6
                      go_wp2_with (go_at_call 20; refine (wantKey4 _).mono ?_; rintro e w' ⟨rfl, rfl⟩)
                      go_roundw
                      case rel => exact ⟨5, by decide, by decide, rfl, hb6'⟩
                      case measure => simp [RowKit.intOf]
                    · have hv' := cellLater hbx h5
                      have HK := Lib.hid (keyAt5 (FieldAt.later f5.out hbx))
                      clear h0 h1 h2 h3 h4 h5 h6 h7 f0 f1 f2 f3 f4 f5 f6 f7 HC0 HC1 HC2 HC7 hcs5
                      go_wp2_with fail
                      go_at_call 19
                      refine HK.out.mono ?_
                      rintro e w6 ⟨g6, o6, c6, rfl, hb6, hval⟩
                      have hb6' : Below w5.heap.size w5 w6 := hbx.trans (hb6.mono hbx.size)
                      have HP := Lib.hid (HC5.out g6 o6 c6 w6 hval)
                      clear HK hval HC5 hv' hbx hb6
                      go_wp2_with (go_at_call 20; refine (wantKey5 _).mono ?_; rintro e w' ⟨rfl, rfl⟩)
                      go_at_call 22
                      refine HP.out.mono ?_
                      rintro e w7 ⟨rfl, rfl⟩
                      clear HP
                      go_wp2
                      go_roundw
                      case rel => exact ⟨6, by decide, by decide, rfl, hb6'⟩
                      case measure => simp [RowKit.intOf]
                    · have hv' := cellLater hbx h6
                      have HK := Lib.hid (keyAt6 (FieldAt.later f6.out hbx))
                      clear h0 h1 h2 h3 h4 h5 h6 h7 f0 f1 f2 f3 f4 f5 f6 f7 HC0 HC1 HC2 HC5 HC7 hcs5
                      go_wp2_with fail
                      go_at_call 19
                      refine HK.out.mono ?_
                      rintro e w6 ⟨g6, o6, c6, rfl, hb6, hval⟩
                      have hb6' : Below w5.heap.size w5 w6 := hbx.trans (hb6.mono hbx.size)
                      have hlen8 : ([49]).length = 1 := rfl
                      try rw [hlen8]
                      clear hlen8
                      have hcv1 : (convert 22 9 (.slice (some ⟨g6, o6, none⟩) 1 c6)).run Tryd.prog w6 = .ok (.string ⟨#[49]⟩) w6 := val_string ⟨#[49]⟩ hval rfl
                      clear HK hval hv' hbx hb6
                      go_wp2_with (go_at_call 20; refine (wantKey6 _).mono ?_; rintro e w' ⟨rfl, rfl⟩)
                      go_roundw
                      case rel => exact ⟨7, by decide, by decide, rfl, hb6'⟩
                      case measure => simp [RowKit.intOf]
                    · have hv' := cellLater hbx h7
                      have HK := Lib.hid (keyAt7 (FieldAt.later f7.out hbx))
                      clear h0 h1 h2 h3 h4 h5 h6 h7 f0 f1 f2 f3 f4 f5 f6 f7 HC0 HC1 HC2 HC5 hcs5
                      go_wp2_with fail
                      go_at_call 19
                      refine HK.out.mono ?_
                      rintro e w6 ⟨g6, o6, c6, rfl, hb6, hval⟩
                      have hb6' : Below w5.heap.size w5 w6 := hbx.trans (hb6.mono hbx.size)
                      have HP := Lib.hid (HC7.out g6 o6 c6 w6 hval)
                      clear HK hval HC7 hv' hbx hb6
                      go_wp2_with (go_at_call 20; refine (wantKey7 _).mono ?_; rintro e w' ⟨rfl, rfl⟩)
                      go_at_call 22
                      refine HP.out.mono ?_
                      rintro e w7 ⟨rfl, rfl⟩
                      clear HP
                      go_wp2
                      go_roundw
                      case rel => exact ⟨8, by decide, by decide, rfl, hb6'⟩
                      case measure => simp [RowKit.intOf]
                    · clear HC0 HC1 HC2 HC5 HC7 hcs5
                      go_wp2
                      go_ret
                      exact ⟨rfl, hb5'.trans (hbx.mono hb5'.size)⟩
end Go.Proofs.Qxb6000062aDoor.pm
