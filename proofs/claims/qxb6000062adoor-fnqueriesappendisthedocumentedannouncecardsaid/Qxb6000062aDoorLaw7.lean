import Derived.Test.Qxb6000062aDoorKv
import Derived.Test.Qxb6000062aDoorLaw6
/-! FnMeasurementRunStartsEachPeerOnceWithTwentyByteIDs returns true: the walk. -/
namespace Go.Proofs.Qxb6000062aDoor.pm
open Go Go.RowKit Go.Lib Go.Sort
set_option linter.unusedVariables false

theorem zzBytes24 (s : ByteArray) (i : Int) (w : World) (hl : s.size ≤ 9223372036854775807) :
    Calls Tryd.prog 24 #[.string s, .int .i64 i] w fun e w' => e = .returned (.bool (decide (s.size ≤ 1048576))) ∧ w = w' := by
  by_cases h : s.size ≤ 1048576
  · go_enter Tryd.func24, Tryd.ntmps24
    go_wp2
    go_ret
    exact ⟨by simp [h], rfl⟩
  · go_enter Tryd.func24, Tryd.ntmps24
    go_wp2
    go_ret
    exact ⟨by simp [h], rfl⟩

theorem measurement (s : ByteArray) (w : World) :
    Calls Tryd.prog 25 #[.string s] w fun e w' => e = .returned (.agg #[.string s, .int .i64 100000, .int .i64 1000, .int .i64 200000, .int .i64 32]) ∧ Below w.heap.size w w' := by
  go_enter Tryd.func25, Tryd.ntmps25
  go_wp2
  exact bodyPost_ret (v := .agg #[.string s, .int .i64 100000, .int .i64 1000, .int .i64 200000, .int .i64 32]) (by simp [results, Tryd.results25, go_sem]) rfl ⟨rfl, (Below.refl _ _).alloc (Nat.le_refl _) _⟩

/-- the list of hashes behind j rounds -/
def filled (j : Nat) : List Value := List.replicate j (.string ⟨#[37, 48, 48]⟩) ++ List.replicate (1000 - j) (.string ⟨#[]⟩)
theorem filled_zero : filled 0 = List.replicate 1000 (.string ⟨#[]⟩) := by unfold filled; rw [List.replicate_zero, List.nil_append, Nat.sub_zero]
theorem filled_at (j : Nat) (h : j < 1000) : (filled j)[j]? = some (.string ⟨#[]⟩) := by
  unfold filled
  rw [List.getElem?_append_right (by simp), List.length_replicate, Nat.sub_self, List.getElem?_replicate, if_pos (by omega)]
theorem filled_succ (j : Nat) (h : j < 1000) : (filled j).set j (.string ⟨#[37, 48, 48]⟩) = filled (j + 1) := by
  unfold filled
  rw [List.set_append_right _ _ (by simp), List.length_replicate, Nat.sub_self, show 1000 - j = (1000 - (j + 1)) + 1 by omega, List.replicate_succ, List.set_cons_zero, List.replicate_succ', List.append_assoc]
  rfl
theorem filled_full (t : Nat) (h : t < 1000) : (filled 1000)[t]? = some (.string ⟨#[37, 48, 48]⟩) := by
  unfold filled
  rw [List.getElem?_append_left (by rw [List.length_replicate]; exact h), List.getElem?_replicate, if_pos h]

/-- the run's own variable reads as it was laid -/
def Cfg (w : World) (b : Nat) (s : ByteArray) : Prop := w.heap[b]? = some (.cells #[.string s, .int .i64 100000, .int .i64 1000, .int .i64 200000, .int .i64 32] 46 (0, 0))
theorem cfg_cells {w w2 : World} {s : ByteArray} (hg : (w.alloc (.cells #[.string s, .int .i64 100000, .int .i64 1000, .int .i64 200000, .int .i64 32] 46)).grownBy w2 none) : Cfg w2 w.heap.size s :=
  (hg.block w.heap.size (by simp) (by simp)).trans (heap_alloc_new w _)
theorem Cfg.below {w w2 : World} {b B : Nat} {s : ByteArray} (h : Cfg w b s) (hb : Below B w w2) (hB : b < B) : Cfg w2 b s := (hb.block b hB).trans h
theorem Cfg.c1 {w : World} {b : Nat} {s : ByteArray} (h : Cfg w b s) : w.cell? ⟨b, 1, none⟩ = some (.int .i64 100000) := by rw [cell_of_row w b 1 _ 46 (0, 0) h]; rfl
theorem Cfg.c2 {w : World} {b : Nat} {s : ByteArray} (h : Cfg w b s) : w.cell? ⟨b, 2, none⟩ = some (.int .i64 1000) := by rw [cell_of_row w b 2 _ 46 (0, 0) h]; rfl

theorem filled_hashes {w : World} {g : Nat} (ho : w.ownsRow g 9 1 (.slice (some ⟨g, 0, none⟩) 1000 1000) 1000 (filled 1000)) : ∀ t, t < 1000 → Hashes w g 1000 t ⟨#[37, 48, 48]⟩ := by
  intro t ht
  rcases ho.2 with ⟨hv, _⟩ | ⟨g', cap', cur, hv, _, hg, _, _, _, htk⟩
  · cases hv
  · cases hv
    refine ⟨cur, hg, ?_, ht⟩
    have h5 := congrArg (·[t]?) htk
    simp only [Nat.mul_one, List.getElem?_take, ht, if_true, Array.getElem?_toList] at h5
    rw [h5, filled_full t ht]

/-- the measured run's announce i -/
def measQ (i : Nat) : List UInt8 := query 100000 1000 i [37, 48, 48]

theorem zzQuery_meas (i g : Nat) (w : World) (hi : i < 200000) (hH : ∀ t, t < 1000 → Hashes w g 1000 t ⟨#[37, 48, 48]⟩) (hT : TabBelow Tryd.prog w.heap.size w tabName .u64 pow10Tab) :
    Calls Tryd.prog 17 #[.int .i64 100000, .int .i64 1000, .slice (some ⟨g, 0, none⟩) 1000 1000, .slice none 0 0, .int .i64 i] w fun e w' => ∃ v', e = .returned v' ∧ Acc w' w.heap.size v' 0 [] (measQ i) ∧ Kept w.heap.size w w' :=
  zzQuery_any w.heap.size (.slice none 0 0) 0 [] i 100000 1000 g 1000 1000 ⟨#[37, 48, 48]⟩ w (by decide) (by decide) (by omega) (by decide) (by decide) (by decide) (by decide) (by decide) (.inl (World.ownsRow_nil _ _ _ _)) (Nat.le_refl _) (hH _ (Nat.mod_lt _ (by decide))) hT

/-- the measured run's announce i, as fields -/
def measX (i : Nat) : List (List UInt8 × List UInt8) := kvs (i % 100000) (i % 100000 / 1000) (leftOf (i % 100000 / 1000)) [37, 48, 48] (i < 100000)

theorem measX_join (i : Nat) : joinAmp ((measX i).map fld) = measQ i := join_kvs _ _ _ _ _

theorem measQ_len (i : Nat) (hi : i < 200000) : 1 ≤ (measQ i).length ∧ (measQ i).length ≤ 4194304 := by
  have h := qBase_length (i % 100000) (i % 100000 / 1000) (leftOf (i % 100000 / 1000)) [37, 48, 48] (by omega) (leftOf_bd _).1 (leftOf_bd _).2
  simp only [List.length_cons, List.length_nil] at h
  unfold measQ query qText
  split
  · rw [List.length_append, show sEvent.length = 14 from rfl]; omega
  · omega

theorem kvs_vals (p k : Nat) (left : Int) (hp : (p : Int) ≤ 9223372036854775807) (hl0 : -9223372036854775808 ≤ left) (hl1 : left ≤ 9223372036854775807) (h : List UInt8) (st : Prop) [Decidable st] :
    ∀ j (hj : j < (kvs p k left h st).length), 1 ≤ ((kvs p k left h st)[j]).2.length ∨ j + 1 < (kvs p k left h st).length := by
  have h1 := itoa_len (p : Int) (by omega) hp
  have h2 := itoa_len (1024 + (k : Int) % 60000) (by omega) (by omega)
  have h3 := itoa_len left hl0 hl1
  have h4 := itoa_len 50 (by decide) (by decide)
  intro j hj
  by_cases hlast : j + 1 < (kvs p k left h st).length
  · exact .inr hlast
  · left
    have hlen : (kvs p k left h st).length = 8 ∨ (kvs p k left h st).length = 9 := by
      unfold kvs; split
      · right; rfl
      · left; rfl
    unfold kvs at hj hlast hlen ⊢
    split at hlen
    · rename_i hs
      simp only [if_pos hs] at hj hlast ⊢
      have hj8 : j = 8 := by
        have : (kvBase p k left h ++ [(kEvent, sStarted)]).length = 9 := rfl
        omega
      subst hj8
      show 1 ≤ sStarted.length
      decide
    · rename_i hs
      simp only [if_neg hs] at hj hlast ⊢
      have hj7 : j = 7 := by
        have : (kvBase p k left h).length = 8 := rfl
        omega
      subst hj7
      exact h4.1

theorem meas_split (i g c : Nat) (w : World) (hi : i < 200000) (hlen : (measQ i).length ≤ 4194304) (hcap : (measQ i).length ≤ c) (hcm : c ≤ 9223372036854775807)
    (hc : ∀ j (hj : j < (measQ i).length), w.cell? ⟨g, 0 + j, none⟩ = some (.int .u8 ((measQ i)[j].toNat : Int))) :
    Calls Tryd.prog 18 #[.slice (some ⟨g, 0, none⟩) (measQ i).length c] w fun e w' => ∃ gf cf, e = .returned (.slice (some ⟨gf, 0, none⟩) (measX i).length cf) ∧ Below w.heap.size w w' ∧
      ∀ j (hj : j < (measX i).length), ∃ v, w'.cell? ⟨gf, j, none⟩ = some v ∧ FieldAt w' v (measX i)[j].1 (measX i)[j].2 := by
  have hne : measX i ≠ [] := by unfold measX kvs; split <;> simp [kvBase]
  have hfree : ∀ F ∈ (measX i).map fld, ∀ b ∈ F, b ≠ 38 := fld_free _ _ _ (leftOf_nonneg _) _ (by decide) _
  have hK : ∀ x ∈ measX i, ∀ b ∈ x.1, b ≠ 61 := kvs_key _ _ _ _ _
  have hV := kvs_vals (i % 100000) (i % 100000 / 1000) (leftOf (i % 100000 / 1000)) (by omega) (leftOf_bd _).1 (leftOf_bd _).2 [37, 48, 48] (i < 100000)
  have hk := kv_split g 0 c (measX i) w hne hfree hK hV
  rw [measX_join i] at hk
  exact hk hlen hcap hcm hc

theorem measX_first (i : Nat) (h : i < 100000) {w : World} {gf : Nat} (hF : ∀ j (hj : j < (measX i).length), ∃ v, w.cell? ⟨gf, j, none⟩ = some v ∧ FieldAt w v (measX i)[j].1 (measX i)[j].2) :
    (measX i).length = 9 ∧ (∃ v, w.cell? ⟨gf, 1, none⟩ = some v ∧ FieldAt w v kPeer (sTL ++ peerText (i % 100000))) ∧ ∃ v, w.cell? ⟨gf, 8, none⟩ = some v ∧ FieldAt w v kEvent sStarted := by
  have e : measX i = kvBase (i % 100000) (i % 100000 / 1000) (leftOf (i % 100000 / 1000)) [37, 48, 48] ++ [(kEvent, sStarted)] := by unfold measX kvs; rw [if_pos h]
  rw [e] at hF ⊢
  exact ⟨rfl, hF 1 (by show 1 < 9; decide), hF 8 (by show 8 < 9; decide)⟩
theorem measX_later (i : Nat) (h : ¬ i < 100000) {w : World} {gf : Nat} (hF : ∀ j (hj : j < (measX i).length), ∃ v, w.cell? ⟨gf, j, none⟩ = some v ∧ FieldAt w v (measX i)[j].1 (measX i)[j].2) :
    (measX i).length = 8 ∧ (∃ v, w.cell? ⟨gf, 1, none⟩ = some v ∧ FieldAt w v kPeer (sTL ++ peerText (i % 100000))) ∧ ∃ v, w.cell? ⟨gf, 7, none⟩ = some v ∧ FieldAt w v kNum (itoa 50) := by
  have e : measX i = kvBase (i % 100000) (i % 100000 / 1000) (leftOf (i % 100000 / 1000)) [37, 48, 48] := by unfold measX kvs; rw [if_neg h]
  rw [e] at hF ⊢
  exact ⟨rfl, hF 1 (by show 1 < 8; decide), hF 7 (by show 7 < 8; decide)⟩

theorem peer_len (p : Nat) (h : p < 1000000000000) : (sTL ++ peerText p).length = 20 := by
  have h1 : (itoa (p : Int)).length ≤ 12 := by rw [itoa_nonneg, decDigits_length]; exact nDigits_le 12 p (by decide) h
  unfold peerText
  rw [List.length_append, List.length_append, List.length_replicate, show sTL.length = 8 from rfl]
  omega

theorem keyPeer (p : Nat) (h : p < 1000000000000) {w : World} {v : Value} (hf : FieldAt w v kPeer (sTL ++ peerText p)) :
    Calls Tryd.prog 19 #[v] w fun e w' => ∃ g o c, e = .returned (.tuple #[.string ⟨#[112, 101, 101, 114, 95, 105, 100]⟩, .slice (some ⟨g, o, none⟩) 20 c, .bool true]) ∧ Below w.heap.size w w' := by
  have hk := keyVal_at hf
  rw [peer_len p h] at hk
  refine hk.mono ?_
  rintro e w' ⟨g, o, c, rfl, hb, _⟩
  exact ⟨g, o, c, rfl, hb⟩
theorem keyEvent {w : World} {v : Value} (hf : FieldAt w v kEvent sStarted) :
    Calls Tryd.prog 19 #[v] w fun e w' => ∃ g o c, e = .returned (.tuple #[.string ⟨#[101, 118, 101, 110, 116]⟩, .slice (some ⟨g, o, none⟩) 7 c, .bool true]) ∧ Below w.heap.size w w' ∧ ValAt w' g o c sStarted :=
  keyVal_at hf
theorem keyNum {w : World} {v : Value} (hf : FieldAt w v kNum (itoa 50)) :
    Calls Tryd.prog 19 #[v] w fun e w' => ∃ g o c, e = .returned (.tuple #[.string ⟨#[110, 117, 109, 119, 97, 110, 116]⟩, .slice (some ⟨g, o, none⟩) (itoa 50).length c, .bool true]) ∧ Below w.heap.size w w' ∧ ValAt w' g o c (itoa 50) :=
  keyVal_at hf
theorem val_conv {w : World} {g o c : Nat} (h : ValAt w g o c sStarted) : (convert 22 9 (.slice (some ⟨g, o, none⟩) 7 c)).run Tryd.prog w = .ok (.string ⟨#[115, 116, 97, 114, 116, 101, 100]⟩) w :=
  run_convert_bytes_back (P := Tryd.prog) w 22 9 5 ⟨g, o, none⟩ c sStarted Tryd.underlying22 Tryd.underlying5 Tryd.underlying9 (fun l hl => by rw [add_plain]; exact h.2.2.2 l hl)

set_option maxHeartbeats 6400000 in
set_option maxRecDepth 100000 in
theorem law7_core (s : ByteArray) (i : Nat) (w : World) (hs : s.size ≤ 1048576) (hi : i < 200000) (htab : TabIs Tryd.prog w tabName .u64 pow10Tab) :
    Calls Tryd.prog 7 #[.string s, .int .i64 i] w fun e w' => e = .returned (.bool true) ∧ Below w.heap.size w w' := by
  obtain ⟨i0, hi9, hz0, hz1, hz2⟩ := info_parts info9
  have hT := tabBelow_of_tabIs htab
  have HI' : Hid ((i : Int) ≤ 199999) := by show _ ≤ _; omega
  have hs' : (s.size : Int) ≤ 1048576 := by omega
  have HI := Lib.hid hi
  have hd : decide (s.size ≤ 1048576) = true := by simpa using hs
  have HS := Lib.hid hs
  clear htab hi hs
  go_enter Tryd.func7, Tryd.ntmps7
  go_wp2_with fail
  go_at_call 24
  refine (zzBytes24 s i w (by omega)).mono ?_
  rw [hd]
  clear hd
  rintro e w' ⟨rfl, rfl⟩
  go_wp2_with fail
  go_at_call 25
  refine (measurement s w).mono ?_
  rintro e w1 ⟨rfl, hb1⟩
  have hi' := HI'.out
  clear hs'
  go_wp2_with (at_make; refine wpList_make_full _ rfl _ _ 29 rfl (w1.heap.size + 1) 9 i0 (.string ⟨#[]⟩) 1 Tryd.underlying29 hi9 hz0 hz1 _ _ _ _ 1000 rfl rfl (by rfl) (by rfl) ?b2 ?b3 ?b4 ?_)
  case b2 => rw [hz2]; decide
  case b3 => unfold maxLen; decide
  case b4 => simp
  intro w2 hown0 hgrow
  have hown : w2.ownsRow (w1.heap.size + 1) 9 1 (.slice (some ⟨w1.heap.size + 1, 0, none⟩) 1000 1000) 1000 (filled 0) := by
    rw [filled_zero, ← toList_madeCells_one]; exact hown0
  have hcb := cfg_cells hgrow
  have hb2 : Below w.heap.size w w2 := (hb1.alloc hb1.size _).grown hgrow (by have := hb1.size; simp; omega) (fun k hk => by cases hk)
  have hz2' : w1.heap.size + 1 < w2.heap.size := (hown.lt _ rfl).2
  clear hown0 hgrow HI' hi'
  rename (s.size : Int) ≤ 1048576 => hbad
  clear hbad HS
  go_wp2
  go_loopw [7] (fun x wr => ∃ j : Nat, j ≤ 1000 ∧ x = .int .i64 j ∧ Below (w1.heap.size + 1) w2 wr ∧ wr.ownsRow (w1.heap.size + 1) 9 1 (.slice (some ⟨w1.heap.size + 1, 0, none⟩) 1000 1000) 1000 (filled j))
    (fun x _ => 1000 - (RowKit.intOf x).toNat)
  case atStart => exact ⟨0, Nat.zero_le _, rfl, Below.refl _ _, hown⟩
  case round =>
    obtain ⟨j, hj, rfl, hbr, hownr⟩ := hrel
    clear hown
    by_cases hlt : j < 1000
    · have hst := hownr.stored j (.string ⟨#[37, 48, 48]⟩)
      rw [filled_succ j hlt] at hst
      have hfz : wr.frozen? ⟨w1.heap.size + 1, j, none⟩ = false := hownr.frozenAt j
      have hce : wr.cell? ⟨w1.heap.size + 1, j, none⟩ = some (.string ⟨#[]⟩) := by
        rw [hownr.cellAt j (by omega)]; exact filled_at j hlt
      have HR := Lib.hid (And.intro hst.1 (hbr.setCell (p := ⟨w1.heap.size + 1, j, none⟩) (Nat.le_refl _) (.string ⟨#[37, 48, 48]⟩)))
      clear hst hownr hbr hcb
      go_wp2
      go_roundw
      case rel => exact ⟨j + 1, by omega, by go_num, HR.out.2, HR.out.1⟩
      case measure => simp [RowKit.intOf]; omega
    · have ej : j = 1000 := by omega
      have hcb' := hcb.below hbr (Nat.lt_succ_self _)
      have hb3 : Below w.heap.size w wr := hb2.trans (hbr.mono (by have := hb1.size; omega))
      have hH := filled_hashes (ej ▸ hownr)
      have hs3 := hbr.size
      have hc1 := hcb'.c1
      have hc2 := hcb'.c2
      have HQ := Lib.hid (zzQuery_meas i (w1.heap.size + 1) wr HI.out hH (TabBelow.mono (hT.on hb3) hb3.size))
      clear hcb hbr hownr hH hT hb2
      go_wp2_with fail
      go_at_call 17
      refine HQ.out.mono ?_
      rintro e w4 ⟨v4, rfl, ha4, hk4⟩
      have hb4 : Below w.heap.size w w4 := hb3.trans (hk4.1.mono hb3.size)
      have hcb4 := hcb'.below hk4.1 (by omega)
      have hs4 := hk4.1.size
      clear HQ hk4 hb3 hc1 hc2 hcb'
      have hml := measQ_len i HI.out
      obtain ⟨g4, c4, rfl, hc41, hc42, -, hcl⟩ := acc_row ha4 rfl hml.1
      rw [Nat.zero_add] at hc41 ⊢
      simp only [Nat.zero_add] at hcl
      have HSp := Lib.hid (meas_split i g4 c4 w4 HI.out hml.2 hc41 hc42 (by simpa using hcl))
      clear ha4 hcl
      go_wp2_with fail
      go_at_call 18
      refine HSp.out.mono ?_
      rintro e w5 ⟨gf, cf, rfl, hb5, hF⟩
      have hb5' : Below w.heap.size w w5 := hb4.trans (hb5.mono hb4.size)
      have hcb5 := hcb4.below hb5 (by omega)
      obtain ⟨P, hP⟩ : ∃ P : Int, P = 100000 := ⟨_, rfl⟩
      have hc1 : w5.cell? ⟨w1.heap.size, 1, none⟩ = some (.int .i64 P) := by rw [hP]; exact hcb5.c1
      clear HSp hb4 hcb4 hml hc41 hc42 hs3 hs4 hz2' ej hj hlt hb1
      rename 0 ≤ (i : Int) ∧ (i : Int) < 200000 => hbad2
      clear hbad2
      by_cases hst : i < 100000
      · obtain ⟨hl9, hF1, hF8⟩ := measX_first i hst hF
        obtain ⟨v1, hv1, hf1⟩ := hF1
        obtain ⟨v8, hv8, hf8⟩ := hF8
        have HK1 := Lib.hid (keyPeer (i % 100000) (by omega) hf1)
        have HF8 := Lib.hid hf8
        rw [hl9]
        have hi' : (i : Int) < P := by omega
        clear hP
        have hpi : Hid (i < 100000) := hst
        clear hF hf1 hf8 hst hl9
        go_wp2_with fail
        go_at_call 19
        refine HK1.out.mono ?_
        rintro e w6 ⟨g6, o6, c6, rfl, hb6⟩
        have hv8' := cellLater hb6 hv8
        have HK8 := Lib.hid (keyEvent (HF8.out.later hb6))
        have hb6' : Below w.heap.size w w6 := hb5'.trans (hb6.mono hb5'.size)
        have hc1' := cellLater hb6 hc1
        clear HK1 HF8 hv8 hv1 hc1
        go_wp2_with fail
        go_at_call 19
        refine HK8.out.mono ?_
        rintro e w7 ⟨g7, o7, c7, rfl, hb7, hval⟩
        have hb7' : Below w.heap.size w w7 := hb6'.trans (hb7.mono hb6'.size)
        have hc1'' := cellLater hb7 hc1'
        have hcv := val_conv hval
        clear HK8 hv8' hc1' hval
        go_wp2
        go_ret
        exact ⟨rfl, hb7'⟩
      · obtain ⟨hl8, hF1, hF7⟩ := measX_later i hst hF
        obtain ⟨v1, hv1, hf1⟩ := hF1
        obtain ⟨v7, hv7, hf7⟩ := hF7
        have HK1 := Lib.hid (keyPeer (i % 100000) (by omega) hf1)
        have HF7 := Lib.hid hf7
        rw [hl8]
        have hi' : ¬ (i : Int) < P := by omega
        clear hP
        clear hF hf1 hf7 hst hl8
        go_wp2_with fail
        go_at_call 19
        refine HK1.out.mono ?_
        rintro e w6 ⟨g6, o6, c6, rfl, hb6⟩
        have hv7' := cellLater hb6 hv7
        have HK7 := Lib.hid (keyNum (HF7.out.later hb6))
        have hb6' : Below w.heap.size w w6 := hb5'.trans (hb6.mono hb5'.size)
        have hc1' := cellLater hb6 hc1
        clear HK1 HF7 hv7 hv1 hc1
        go_wp2_with fail
        go_at_call 19
        refine HK7.out.mono ?_
        rintro e w7 ⟨g7, o7, c7, rfl, hb7, hval⟩
        have hb7' : Below w.heap.size w w7 := hb6'.trans (hb7.mono hb6'.size)
        have hc1'' := cellLater hb7 hc1'
        clear HK7 hv7' hc1' hval
        go_wp2
        go_ret
        exact ⟨rfl, hb7'⟩

set_option maxHeartbeats 3200000 in
set_option maxRecDepth 100000 in
theorem law7_out (s : ByteArray) (z : Int) (w : World) (hs : s.size ≤ 1048576) (hz : z < 0 ∨ 200000 ≤ z) :
    Calls Tryd.prog 7 #[.string s, .int .i64 z] w fun e w' => e = .returned (.bool true) ∧ Below w.heap.size w w' := by
  have HZ := Lib.hid hz
  have hs' : (s.size : Int) ≤ 1048576 := by omega
  have hd : decide (s.size ≤ 1048576) = true := by simpa using hs
  clear hz hs
  go_enter Tryd.func7, Tryd.ntmps7
  go_wp2_with fail
  go_at_call 24
  refine (zzBytes24 s z w (by omega)).mono ?_
  rw [hd]
  clear hd
  rintro e w' ⟨rfl, rfl⟩
  go_wp2_with fail
  go_at_call 25
  refine (measurement s w).mono ?_
  rintro e w1 ⟨rfl, hb1⟩
  clear hs'
  rename (s.size : Int) ≤ 1048576 => hbad
  clear hbad
  rcases HZ.out with hz | hz
  · clear HZ
    go_wp2
    go_ret
    exact ⟨rfl, hb1.alloc hb1.size _⟩
  · have hz0 : ¬ z < 0 := by omega
    clear HZ
    go_wp2
    go_ret
    exact ⟨rfl, hb1.alloc hb1.size _⟩

set_option maxHeartbeats 3200000 in
set_option maxRecDepth 100000 in
theorem law7 (s : ByteArray) (z : Int) (w : World) (hs : s.size ≤ maxLen) (hz0 : -9223372036854775808 ≤ z) (hz1 : z ≤ 9223372036854775807) (htab : TabIs Tryd.prog w tabName .u64 pow10Tab) :
    Calls Tryd.prog 7 #[.string s, .int .i64 z] w fun e w' => e = .returned (.bool true) ∧ Below w.heap.size w w' := by
  by_cases h1 : s.size ≤ 1048576
  · by_cases h2 : z < 0 ∨ 200000 ≤ z
    · exact law7_out s z w h1 h2
    · obtain ⟨i, rfl⟩ : ∃ i : Nat, z = i := ⟨z.toNat, by omega⟩
      exact law7_core s i w h1 (by omega) htab
  · have hd : decide (s.size ≤ 1048576) = false := by simpa using h1
    have hL : s.size ≤ 9223372036854775807 := by unfold maxLen at hs; omega
    have HB := Lib.hid (zzBytes24 s z w hL)
    rw [hd] at HB
    clear hs hz0 hz1 htab h1 hd hL
    go_enter Tryd.func7, Tryd.ntmps7
    go_wp2_with fail
    go_at_call 24
    refine HB.out.mono ?_
    rintro e w' ⟨rfl, rfl⟩
    go_wp2
    go_ret
    exact ⟨rfl, Below.refl _ _⟩
end Go.Proofs.Qxb6000062aDoor.pm
