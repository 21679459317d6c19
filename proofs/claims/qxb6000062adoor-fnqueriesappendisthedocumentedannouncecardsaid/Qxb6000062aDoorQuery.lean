import Derived.Test.Qxb6000062aDoorAcc
/-! (*queries).append, ZZQueriesAppend: the contracts. -/
namespace Go.Proofs.Qxb6000062aDoor.pm
open Go Go.RowKit Go.Lib Go.Sort
set_option linter.unusedVariables false

def sInfo : List UInt8 := [105, 110, 102, 111, 95, 104, 97, 115, 104, 61]
def sPeer : List UInt8 := [38, 112, 101, 101, 114, 95, 105, 100, 61, 45, 84, 76, 48, 48, 48, 49, 45]
def sPort : List UInt8 := [38, 112, 111, 114, 116, 61]
def sUp : List UInt8 := [38, 117, 112, 108, 111, 97, 100, 101, 100, 61, 48, 38, 100, 111, 119, 110, 108, 111, 97, 100, 101, 100, 61, 48, 38, 108, 101, 102, 116, 61]
def sComp : List UInt8 := [38, 99, 111, 109, 112, 97, 99, 116, 61, 49, 38, 110, 117, 109, 119, 97, 110, 116, 61]
def sEvent : List UInt8 := [38, 101, 118, 101, 110, 116, 61, 115, 116, 97, 114, 116, 101, 100]

/-- peer p's number, zero-filled to twelve digits -/
def peerText (p : Nat) : List UInt8 := List.replicate (12 - (itoa (p : Int)).length) 48 ++ itoa (p : Int)
/-- the query but for its last field -/
def qBase (p k : Nat) (left : Int) (h : List UInt8) : List UInt8 :=
  sInfo ++ h ++ sPeer ++ peerText p ++ sPort ++ itoa (1024 + (k : Int) % 60000) ++ sUp ++ itoa left ++ sComp ++ itoa 50
/-- the query -/
def qText (p k : Nat) (left : Int) (h : List UInt8) (st : Prop) [Decidable st] : List UInt8 := if st then qBase p k left h ++ sEvent else qBase p k left h

/-- the torrent's hash lies in the list of hashes: block gh, a row of strings -/
def Hashes (w : World) (gh hl t : Nat) (h : ByteArray) : Prop := ∃ cur : Array Value, w.heap[gh]? = some (.cells cur 9 (0, 0)) ∧ cur[t]? = some (.string h) ∧ t < hl

/-- the receiver's block -/
def Recv (w : World) (q : Nat) (peers torrents : Nat) (gh hl hc : Nat) : Prop :=
  w.heap[q]? = some (.cells #[.int .i64 peers, .int .i64 torrents, .slice (some ⟨gh, 0, none⟩) hl hc] 51 (0, 0))

theorem Hashes.kept {B : Nat} {w w' : World} {gh hl t : Nat} {h : ByteArray} (hh : Hashes w gh hl t h) (hk : Kept B w w') : Hashes w' gh hl t h := by
  obtain ⟨cur, h0, h1⟩ := hh
  refine ⟨cur, hk.2 gh _ h0 (by simp) (fun c fz e => ?_), h1⟩
  simp at e
theorem Recv.kept {B : Nat} {w w' : World} {q peers torrents gh hl hc : Nat} (hr : Recv w q peers torrents gh hl hc) (hk : Kept B w w') : Recv w' q peers torrents gh hl hc := by
  refine hk.2 q _ hr (by simp) (fun c fz e => ?_)
  simp at e
theorem Hashes.cell {w : World} {gh hl t : Nat} {h : ByteArray} (hh : Hashes w gh hl t h) : w.cell? ⟨gh, t, none⟩ = some (.string h) := by
  obtain ⟨cur, h0, h1, _⟩ := hh
  rw [cell_of_row w gh t cur 9 (0, 0) h0, h1]
theorem Recv.cells {w : World} {q peers torrents gh hl hc : Nat} (hr : Recv w q peers torrents gh hl hc) :
    w.cell? ⟨q, 0, none⟩ = some (.int .i64 peers) ∧ w.cell? ⟨q, 1, none⟩ = some (.int .i64 torrents) ∧ w.cell? ⟨q, 2, none⟩ = some (.slice (some ⟨gh, 0, none⟩) hl hc) :=
  ⟨by rw [cell_of_row w q 0 _ 51 (0, 0) hr]; rfl, by rw [cell_of_row w q 1 _ 51 (0, 0) hr]; rfl, by rw [cell_of_row w q 2 _ 51 (0, 0) hr]; rfl⟩

theorem cells4 {B : Nat} {w w2 : World} {q peers torrents gh hl hc t : Nat} {h : ByteArray} (hR : Recv w q peers torrents gh hl hc) (hH : Hashes w gh hl t h) (hk : Kept B w w2) :
    w2.cell? ⟨q, 0, none⟩ = some (.int .i64 peers) ∧ w2.cell? ⟨q, 1, none⟩ = some (.int .i64 torrents) ∧ w2.cell? ⟨q, 2, none⟩ = some (.slice (some ⟨gh, 0, none⟩) hl hc) ∧ w2.cell? ⟨gh, t, none⟩ = some (.string h) :=
  ⟨(hR.kept hk).cells.1, (hR.kept hk).cells.2.1, (hR.kept hk).cells.2.2, (hH.kept hk).cell⟩
theorem kept_drew {B : Nat} {w w2 : World} (h : Kept B w.drew w2) : Kept B w w2 := ⟨⟨h.1.os, h.1.tape, h.1.output, h.1.size, h.1.block⟩, h.2⟩

set_option maxHeartbeats 6400000 in
set_option maxRecDepth 100000 in
theorem append_seed (B q : Nat) (v : Value) (n : Nat) (xs : List Value) (i peers torrents gh hl hc p k t : Nat) (h : ByteArray) (w : World)
    (hp : 1 ≤ peers) (ht : 1 ≤ torrents) (hi : (i : Int) ≤ 9223372036854775807) (hp1 : (peers : Int) ≤ 9223372036854775807) (ht1 : (torrents : Int) ≤ 9223372036854775807) (hhl : hl ≤ 1048576) (hh : h.size ≤ 1048576) (hn : n ≤ 1048576)
    (hpe : (i : Int) % (peers : Int) = (p : Int)) (hke : wrap64 ((p : Int) / (torrents : Int)) = (k : Int)) (hte : (p : Int) % (torrents : Int) = (t : Int)) (hp2 : (p : Int) ≤ 9223372036854775807) (hk2 : (k : Int) ≤ 9223372036854775807) (htl : t < hl)
    (hok : Ok w B v n xs) (hB : B ≤ w.heap.size) (hR : Recv w q peers torrents gh hl hc) (hH : Hashes w gh hl t h)
    (hT : TabBelow Tryd.prog B w tabName .u64 pow10Tab) (hk4 : ((k : Int) % 4 == 0) = true) :
    Calls Tryd.prog 27 #[.pointer (some ⟨q, 0, none⟩), v, .int .i64 i] w fun e w' => ∃ v', e = .returned v' ∧ Acc w' B v' n xs (qText p k 0 h.data.toList (i < peers)) ∧ Kept B w w' := by
  obtain ⟨hc0, hc1, hc2⟩ := hR.cells
  go_enter Tryd.func27, Tryd.ntmps27
  go_wp2_with (at_builtin; refine wpList_acc_first _ rfl _ _ rfl B v n xs rfl hok _ rfl (by decide) ?b2 hB ?_)
  case b2 => first | omega | (show n + 10 ≤ _; omega)
  intro v1 w1 L1 E1 len1 ha1 hk1 hB1
  clear hc0 hc1 hc2
  have hR1 := hR.kept hk1
  have hH1 := hH.kept hk1
  have hT1 := hT.on hk1.1
  obtain ⟨hc0, hc1, hc2⟩ := hR1.cells
  have hcs := hH1.cell
  clear hok hR hH hT
  go_wp2_with fail
  go_region_held_law (fun w' => w'.cell? ⟨q, 0, none⟩ = some (.int .i64 peers) ∧ w'.cell? ⟨q, 1, none⟩ = some (.int .i64 torrents) ∧ w'.cell? ⟨q, 2, none⟩ = some (.slice (some ⟨gh, 0, none⟩) hl hc) ∧ w'.cell? ⟨gh, t, none⟩ = some (.string h)) (first | go_keep | exact cells4 hR1 hH1 (kept_drew (by assumption)))
    (first | (refine step_acc_next rfl (.tmp 29) (.tmp 42) rfl B v1 n xs L1 rfl ha1 h rfl (by omega) hB1 ?_; intro v2 w2 L2 E2 len2 ha2 hkd hB2))
  have hk2' := kept_drew hkd
  have hR2 := hR1.kept hk2'
  have hT2 := hT1.on hk2'.1
  have hK2 := hk1.trans hk2'
  clear hc0 hc1 hc2 hcs hR1 hH1 hT1 hk1 hkd hk2' ha1 hpe hte
  go_wp2_with (at_builtin; refine wpList_acc_next _ rfl _ _ rfl B _ n xs L2 rfl ha2 _ rfl ?b3 hB2 ?_)
  case b3 => first | omega | (show n + L2.length + 17 ≤ _; omega)
  intro v3 w3 L3 E3 len3 ha3 hk3 hB3
  have hR3 := hR2.kept hk3
  have hT3 := hT2.on hk3.1
  have hK3 := hK2.trans hk3
  have len3' : L3.length ≤ L2.length + 17 := len3
  clear ha2 hR2 hT2 hK2 hk3 len3
  go_wp2_with fail
  go_at_call 26
  refine (appendPadded_acc B _ n xs L3 _ ?g0 ?g1 _ ha3 hB3 ?g2 hT3).mono ?_
  case g0 => omega
  case g1 => omega
  case g2 => omega
  rintro e w4 ⟨v4, L4, rfl, E4, len4, ha4, hk4', hB4⟩
  have hR4 := hR3.kept hk4'
  have hT4 := hT3.on hk4'.1
  have hK4 := hK3.trans hk4'
  clear ha3 hR3 hT3 hK3 hk4'
  go_wp2_with (at_builtin; refine wpList_acc_next _ rfl _ _ rfl B _ n xs L4 rfl ha4 _ rfl ?b5 hB4 ?_)
  case b5 => first | omega | (show n + L4.length + 6 ≤ _; omega)
  intro v5 w5 L5 E5 len5 ha5 hk5 hB5
  have hR5 := hR4.kept hk5
  have hT5 := hT4.on hk5.1
  have hK5 := hK4.trans hk5
  have len5' : L5.length ≤ L4.length + 6 := len5
  clear ha4 hR4 hT4 hK4 hk5 len5
  go_wp2_with fail
  go_at_call 29
  refine (appendInt_acc B _ n xs L5 _ ?g6a ?g6b _ ha5 hB5 ?g6c hT5).mono ?_
  case g6a => omega
  case g6b => omega
  case g6c => omega
  rintro e w6 ⟨v6, L6, rfl, E6, len6, ha6, hq6, hB6⟩
  have hR6 := hR5.kept hq6
  have hT6 := hT5.on hq6.1
  have hK6 := hK5.trans hq6
  clear ha5 hR5 hT5 hK5 hq6
  go_wp2_with (at_builtin; refine wpList_acc_next _ rfl _ _ rfl B _ n xs L6 rfl ha6 _ rfl ?b7 hB6 ?_)
  case b7 => first | omega | (show n + L6.length + 30 ≤ _; omega)
  intro v7 w7 L7 E7 len7 ha7 hq7 hB7
  have hR7 := hR6.kept hq7
  have hT7 := hT6.on hq7.1
  have hK7 := hK6.trans hq7
  have len7' : L7.length ≤ L6.length + 30 := len7
  clear ha6 hR6 hT6 hK6 hq7 len7
  go_wp2_with fail
  go_at_call 29
  refine (appendInt_acc B _ n xs L7 _ ?g8a ?g8b _ ha7 hB7 ?g8c hT7).mono ?_
  case g8a => omega
  case g8b => omega
  case g8c => omega
  rintro e w8 ⟨v8, L8, rfl, E8, len8, ha8, hq8, hB8⟩
  have hR8 := hR7.kept hq8
  have hT8 := hT7.on hq8.1
  have hK8 := hK7.trans hq8
  clear ha7 hR7 hT7 hK7 hq8
  go_wp2_with (at_builtin; refine wpList_acc_next _ rfl _ _ rfl B _ n xs L8 rfl ha8 _ rfl ?b9 hB8 ?_)
  case b9 => first | omega | (show n + L8.length + 19 ≤ _; omega)
  intro v9 w9 L9 E9 len9 ha9 hq9 hB9
  have hR9 := hR8.kept hq9
  have hT9 := hT8.on hq9.1
  have hK9 := hK8.trans hq9
  have len9' : L9.length ≤ L8.length + 19 := len9
  clear ha8 hR8 hT8 hK8 hq9 len9
  go_wp2_with fail
  go_at_call 29
  refine (appendInt_acc B _ n xs L9 _ ?g10a ?g10b _ ha9 hB9 ?g10c hT9).mono ?_
  case g10a => omega
  case g10b => omega
  case g10c => omega
  rintro e w10 ⟨v10, L10, rfl, E10, len10, ha10, hq10, hB10⟩
  have hR10 := hR9.kept hq10
  have hT10 := hT9.on hq10.1
  have hK10 := hK9.trans hq10
  clear ha9 hR9 hT9 hK9 hq10
  obtain ⟨hc0, hc1, hc2⟩ := hR10.cells
  have EQ : Hid (L10 = qBase p k 0 h.data.toList) := by
    show L10 = qBase p k 0 h.data.toList
    unfold qBase sInfo sPeer sPort sUp sComp peerText
    rw [E10.out, E9.out, E8.out, E7.out, E6.out, E5.out, E4.out, E3.out, E2.out, E1.out]
  clear E1 E2 E3 E4 E5 E6 E7 E8 E9 E10
  by_cases hip : i < peers
  · have hip' : (i : Int) < (peers : Int) := by omega
    go_wp2_with (at_builtin; refine wpList_acc_next _ rfl _ _ rfl B _ n xs L10 rfl ha10 _ rfl ?b11 hB10 ?_)
    case b11 => first | omega | (show n + L10.length + 14 ≤ _; omega)
    intro v11 w11 L11 E11 len11 ha11 hq11 hB11
    have hK11 := hK10.trans hq11
    clear ha10 hR10 hT10 hK10 hq11 len11
    go_wp2
    go_ret
    have e11 : L11 = qText p k 0 h.data.toList (i < peers) := by
      unfold qText
      rw [if_pos hip, ← EQ.out, E11.out]
      rfl
    rw [← e11]
    exact ⟨v11, rfl, ha11, hK11⟩
  · have hip' : ¬ (i : Int) < (peers : Int) := by omega
    go_wp2
    go_ret
    have e11 : L10 = qText p k 0 h.data.toList (i < peers) := by
      unfold qText
      rw [if_neg hip, ← EQ.out]
    rw [← e11]
    exact ⟨v10, rfl, ha10, hK10⟩

set_option maxHeartbeats 6400000 in
set_option maxRecDepth 100000 in
theorem append_leech (B q : Nat) (v : Value) (n : Nat) (xs : List Value) (i peers torrents gh hl hc p k t : Nat) (h : ByteArray) (w : World)
    (hp : 1 ≤ peers) (ht : 1 ≤ torrents) (hi : (i : Int) ≤ 9223372036854775807) (hp1 : (peers : Int) ≤ 9223372036854775807) (ht1 : (torrents : Int) ≤ 9223372036854775807) (hhl : hl ≤ 1048576) (hh : h.size ≤ 1048576) (hn : n ≤ 1048576)
    (hpe : (i : Int) % (peers : Int) = (p : Int)) (hke : wrap64 ((p : Int) / (torrents : Int)) = (k : Int)) (hte : (p : Int) % (torrents : Int) = (t : Int)) (hp2 : (p : Int) ≤ 9223372036854775807) (hk2 : (k : Int) ≤ 9223372036854775807) (htl : t < hl)
    (hok : Ok w B v n xs) (hB : B ≤ w.heap.size) (hR : Recv w q peers torrents gh hl hc) (hH : Hashes w gh hl t h)
    (hT : TabBelow Tryd.prog B w tabName .u64 pow10Tab) (hk4 : ((k : Int) % 4 == 0) = false) :
    Calls Tryd.prog 27 #[.pointer (some ⟨q, 0, none⟩), v, .int .i64 i] w fun e w' => ∃ v', e = .returned v' ∧ Acc w' B v' n xs (qText p k 1048576 h.data.toList (i < peers)) ∧ Kept B w w' := by
  obtain ⟨hc0, hc1, hc2⟩ := hR.cells
  go_enter Tryd.func27, Tryd.ntmps27
  go_wp2_with (at_builtin; refine wpList_acc_first _ rfl _ _ rfl B v n xs rfl hok _ rfl (by decide) ?b2 hB ?_)
  case b2 => first | omega | (show n + 10 ≤ _; omega)
  intro v1 w1 L1 E1 len1 ha1 hk1 hB1
  clear hc0 hc1 hc2
  have hR1 := hR.kept hk1
  have hH1 := hH.kept hk1
  have hT1 := hT.on hk1.1
  obtain ⟨hc0, hc1, hc2⟩ := hR1.cells
  have hcs := hH1.cell
  clear hok hR hH hT
  go_wp2_with fail
  go_region_held_law (fun w' => w'.cell? ⟨q, 0, none⟩ = some (.int .i64 peers) ∧ w'.cell? ⟨q, 1, none⟩ = some (.int .i64 torrents) ∧ w'.cell? ⟨q, 2, none⟩ = some (.slice (some ⟨gh, 0, none⟩) hl hc) ∧ w'.cell? ⟨gh, t, none⟩ = some (.string h)) (first | go_keep | exact cells4 hR1 hH1 (kept_drew (by assumption)))
    (first | (refine step_acc_next rfl (.tmp 29) (.tmp 42) rfl B v1 n xs L1 rfl ha1 h rfl (by omega) hB1 ?_; intro v2 w2 L2 E2 len2 ha2 hkd hB2))
  have hk2' := kept_drew hkd
  have hR2 := hR1.kept hk2'
  have hT2 := hT1.on hk2'.1
  have hK2 := hk1.trans hk2'
  clear hc0 hc1 hc2 hcs hR1 hH1 hT1 hk1 hkd hk2' ha1 hpe hte
  go_wp2_with (at_builtin; refine wpList_acc_next _ rfl _ _ rfl B _ n xs L2 rfl ha2 _ rfl ?b3 hB2 ?_)
  case b3 => first | omega | (show n + L2.length + 17 ≤ _; omega)
  intro v3 w3 L3 E3 len3 ha3 hk3 hB3
  have hR3 := hR2.kept hk3
  have hT3 := hT2.on hk3.1
  have hK3 := hK2.trans hk3
  have len3' : L3.length ≤ L2.length + 17 := len3
  clear ha2 hR2 hT2 hK2 hk3 len3
  go_wp2_with fail
  go_at_call 26
  refine (appendPadded_acc B _ n xs L3 _ ?g0 ?g1 _ ha3 hB3 ?g2 hT3).mono ?_
  case g0 => omega
  case g1 => omega
  case g2 => omega
  rintro e w4 ⟨v4, L4, rfl, E4, len4, ha4, hk4', hB4⟩
  have hR4 := hR3.kept hk4'
  have hT4 := hT3.on hk4'.1
  have hK4 := hK3.trans hk4'
  clear ha3 hR3 hT3 hK3 hk4'
  go_wp2_with (at_builtin; refine wpList_acc_next _ rfl _ _ rfl B _ n xs L4 rfl ha4 _ rfl ?b5 hB4 ?_)
  case b5 => first | omega | (show n + L4.length + 6 ≤ _; omega)
  intro v5 w5 L5 E5 len5 ha5 hk5 hB5
  have hR5 := hR4.kept hk5
  have hT5 := hT4.on hk5.1
  have hK5 := hK4.trans hk5
  have len5' : L5.length ≤ L4.length + 6 := len5
  clear ha4 hR4 hT4 hK4 hk5 len5
  go_wp2_with fail
  go_at_call 29
  refine (appendInt_acc B _ n xs L5 _ ?g6a ?g6b _ ha5 hB5 ?g6c hT5).mono ?_
  case g6a => omega
  case g6b => omega
  case g6c => omega
  rintro e w6 ⟨v6, L6, rfl, E6, len6, ha6, hq6, hB6⟩
  have hR6 := hR5.kept hq6
  have hT6 := hT5.on hq6.1
  have hK6 := hK5.trans hq6
  clear ha5 hR5 hT5 hK5 hq6
  go_wp2_with (at_builtin; refine wpList_acc_next _ rfl _ _ rfl B _ n xs L6 rfl ha6 _ rfl ?b7 hB6 ?_)
  case b7 => first | omega | (show n + L6.length + 30 ≤ _; omega)
  intro v7 w7 L7 E7 len7 ha7 hq7 hB7
  have hR7 := hR6.kept hq7
  have hT7 := hT6.on hq7.1
  have hK7 := hK6.trans hq7
  have len7' : L7.length ≤ L6.length + 30 := len7
  clear ha6 hR6 hT6 hK6 hq7 len7
  go_wp2_with fail
  go_at_call 29
  refine (appendInt_acc B _ n xs L7 _ ?g8a ?g8b _ ha7 hB7 ?g8c hT7).mono ?_
  case g8a => omega
  case g8b => omega
  case g8c => omega
  rintro e w8 ⟨v8, L8, rfl, E8, len8, ha8, hq8, hB8⟩
  have hR8 := hR7.kept hq8
  have hT8 := hT7.on hq8.1
  have hK8 := hK7.trans hq8
  clear ha7 hR7 hT7 hK7 hq8
  go_wp2_with (at_builtin; refine wpList_acc_next _ rfl _ _ rfl B _ n xs L8 rfl ha8 _ rfl ?b9 hB8 ?_)
  case b9 => first | omega | (show n + L8.length + 19 ≤ _; omega)
  intro v9 w9 L9 E9 len9 ha9 hq9 hB9
  have hR9 := hR8.kept hq9
  have hT9 := hT8.on hq9.1
  have hK9 := hK8.trans hq9
  have len9' : L9.length ≤ L8.length + 19 := len9
  clear ha8 hR8 hT8 hK8 hq9 len9
  go_wp2_with fail
  go_at_call 29
  refine (appendInt_acc B _ n xs L9 _ ?g10a ?g10b _ ha9 hB9 ?g10c hT9).mono ?_
  case g10a => omega
  case g10b => omega
  case g10c => omega
  rintro e w10 ⟨v10, L10, rfl, E10, len10, ha10, hq10, hB10⟩
  have hR10 := hR9.kept hq10
  have hT10 := hT9.on hq10.1
  have hK10 := hK9.trans hq10
  clear ha9 hR9 hT9 hK9 hq10
  obtain ⟨hc0, hc1, hc2⟩ := hR10.cells
  have EQ : Hid (L10 = qBase p k 1048576 h.data.toList) := by
    show L10 = qBase p k 1048576 h.data.toList
    unfold qBase sInfo sPeer sPort sUp sComp peerText
    rw [E10.out, E9.out, E8.out, E7.out, E6.out, E5.out, E4.out, E3.out, E2.out, E1.out]
  clear E1 E2 E3 E4 E5 E6 E7 E8 E9 E10
  by_cases hip : i < peers
  · have hip' : (i : Int) < (peers : Int) := by omega
    go_wp2_with (at_builtin; refine wpList_acc_next _ rfl _ _ rfl B _ n xs L10 rfl ha10 _ rfl ?b11 hB10 ?_)
    case b11 => first | omega | (show n + L10.length + 14 ≤ _; omega)
    intro v11 w11 L11 E11 len11 ha11 hq11 hB11
    have hK11 := hK10.trans hq11
    clear ha10 hR10 hT10 hK10 hq11 len11
    go_wp2
    go_ret
    have e11 : L11 = qText p k 1048576 h.data.toList (i < peers) := by
      unfold qText
      rw [if_pos hip, ← EQ.out, E11.out]
      rfl
    rw [← e11]
    exact ⟨v11, rfl, ha11, hK11⟩
  · have hip' : ¬ (i : Int) < (peers : Int) := by omega
    go_wp2
    go_ret
    have e11 : L10 = qText p k 1048576 h.data.toList (i < peers) := by
      unfold qText
      rw [if_neg hip, ← EQ.out]
    rw [← e11]
    exact ⟨v10, rfl, ha10, hK10⟩

/-- what a peer has left to download -/
def leftOf (k : Nat) : Int := if k % 4 = 0 then 0 else 1048576

/-- announce i's query -/
def query (peers torrents i : Nat) (h : List UInt8) : List UInt8 := qText (i % peers) (i % peers / torrents) (leftOf (i % peers / torrents)) h (i < peers)

theorem wrap_quo (p torrents : Nat) (hp : (p : Int) ≤ 9223372036854775807) : wrap64 ((p : Int) / (torrents : Int)) = ((p / torrents : Nat) : Int) := by
  have e : (p : Int) / (torrents : Int) = ((p / torrents : Nat) : Int) := by simp
  have h : p / torrents ≤ p := Nat.div_le_self _ _
  rw [e]
  generalize p / torrents = k at h
  unfold wrap64
  omega

theorem append_pkt (B q : Nat) (v : Value) (n : Nat) (xs : List Value) (i peers torrents gh hl hc p k t : Nat) (h : ByteArray) (w : World)
    (hp : 1 ≤ peers) (ht : 1 ≤ torrents) (hi : (i : Int) ≤ 9223372036854775807) (hp1 : (peers : Int) ≤ 9223372036854775807) (ht1 : (torrents : Int) ≤ 9223372036854775807) (hhl : hl ≤ 1048576) (hh : h.size ≤ 1048576) (hn : n ≤ 1048576)
    (hpe : (i : Int) % (peers : Int) = (p : Int)) (hke : wrap64 ((p : Int) / (torrents : Int)) = (k : Int)) (hte : (p : Int) % (torrents : Int) = (t : Int)) (hp2 : (p : Int) ≤ 9223372036854775807) (hk2 : (k : Int) ≤ 9223372036854775807) (htl : t < hl)
    (hok : Ok w B v n xs) (hB : B ≤ w.heap.size) (hR : Recv w q peers torrents gh hl hc) (hH : Hashes w gh hl t h)
    (hT : TabBelow Tryd.prog B w tabName .u64 pow10Tab) :
    Calls Tryd.prog 27 #[.pointer (some ⟨q, 0, none⟩), v, .int .i64 i] w fun e w' => ∃ v', e = .returned v' ∧ Acc w' B v' n xs (qText p k (leftOf k) h.data.toList (i < peers)) ∧ Kept B w w' := by
  by_cases hk4 : k % 4 = 0
  · have e : leftOf k = 0 := by unfold leftOf; rw [if_pos hk4]
    have hb : ((k : Int) % 4 == 0) = true := beq_iff_eq.2 (by omega)
    rw [e]
    exact append_seed B q v n xs i peers torrents gh hl hc p k t h w hp ht hi hp1 ht1 hhl hh hn hpe hke hte hp2 hk2 htl hok hB hR hH hT hb
  · have e : leftOf k = 1048576 := by unfold leftOf; rw [if_neg hk4]
    have hb : ((k : Int) % 4 == 0) = false := beq_eq_false_iff_ne.2 (by omega)
    rw [e]
    exact append_leech B q v n xs i peers torrents gh hl hc p k t h w hp ht hi hp1 ht1 hhl hh hn hpe hke hte hp2 hk2 htl hok hB hR hH hT hb

theorem append_any (B q : Nat) (v : Value) (n : Nat) (xs : List Value) (i peers torrents gh hl hc : Nat) (h : ByteArray) (w : World)
    (hp : 1 ≤ peers) (ht : 1 ≤ torrents) (hi : (i : Int) ≤ 9223372036854775807) (hp1 : (peers : Int) ≤ 9223372036854775807) (ht1 : (torrents : Int) ≤ 9223372036854775807) (hhl : hl ≤ 1048576) (hh : h.size ≤ 1048576) (hn : n ≤ 1048576)
    (hok : Ok w B v n xs) (hB : B ≤ w.heap.size) (hR : Recv w q peers torrents gh hl hc) (hH : Hashes w gh hl (i % peers % torrents) h)
    (hT : TabBelow Tryd.prog B w tabName .u64 pow10Tab) :
    Calls Tryd.prog 27 #[.pointer (some ⟨q, 0, none⟩), v, .int .i64 i] w fun e w' => ∃ v', e = .returned v' ∧ Acc w' B v' n xs (query peers torrents i h.data.toList) ∧ Kept B w w' := by
  have htl : i % peers % torrents < hl := hH.choose_spec.2.2
  have h1 : i % peers ≤ i := Nat.mod_le _ _
  have h2 : i % peers / torrents ≤ i % peers := Nat.div_le_self _ _
  have hp2 : ((i % peers : Nat) : Int) ≤ 9223372036854775807 := by generalize i % peers = p at h1; omega
  have hk2 : ((i % peers / torrents : Nat) : Int) ≤ 9223372036854775807 := by generalize i % peers = p at h1 h2; generalize p / torrents = k at h2; omega
  exact append_pkt B q v n xs i peers torrents gh hl hc (i % peers) (i % peers / torrents) (i % peers % torrents) h w hp ht hi hp1 ht1 hhl hh hn (by simp) (wrap_quo _ _ hp2) (by simp) hp2 hk2 htl hok hB hR hH hT

set_option maxHeartbeats 3200000 in
set_option maxRecDepth 100000 in
theorem zzQuery_any (B : Nat) (v : Value) (n : Nat) (xs : List Value) (i peers torrents gh hl hc : Nat) (h : ByteArray) (w : World)
    (hp : 1 ≤ peers) (ht : 1 ≤ torrents) (hi : (i : Int) ≤ 9223372036854775807) (hp1 : (peers : Int) ≤ 9223372036854775807) (ht1 : (torrents : Int) ≤ 9223372036854775807) (hhl : hl ≤ 1048576) (hh : h.size ≤ 1048576) (hn : n ≤ 1048576)
    (hok : Ok w B v n xs) (hB : B ≤ w.heap.size) (hH : Hashes w gh hl (i % peers % torrents) h)
    (hT : TabBelow Tryd.prog B w tabName .u64 pow10Tab) :
    Calls Tryd.prog 17 #[.int .i64 peers, .int .i64 torrents, .slice (some ⟨gh, 0, none⟩) hl hc, v, .int .i64 i] w fun e w' => ∃ v', e = .returned v' ∧ Acc w' B v' n xs (query peers torrents i h.data.toList) ∧ Kept B w w' := by
  have hk0 : Kept B w (w.alloc (.cells #[.int .i64 peers, .int .i64 torrents, .slice (some ⟨gh, 0, none⟩) hl hc] 51)) := (Kept.refl B w).alloc hB _
  have hA := append_any B w.heap.size v n xs i peers torrents gh hl hc h (w.alloc (.cells #[.int .i64 peers, .int .i64 torrents, .slice (some ⟨gh, 0, none⟩) hl hc] 51)) hp ht hi hp1 ht1 hhl hh hn (ok_alloc hok _) (by simp; omega) (heap_alloc_new w _) (hH.kept hk0) (hT.on hk0.1)
  have HA := Lib.hid hA
  have HK := Lib.hid hk0
  clear hA hk0 hH hT hok
  go_enter Tryd.func17, Tryd.ntmps17
  go_wp2_with fail
  go_at_call 27
  refine HA.out.mono ?_
  rintro e w1 ⟨v1, rfl, ha, hk⟩
  go_wp2
  go_ret
  exact ⟨v1, rfl, ha, HK.out.trans hk⟩
end Go.Proofs.Qxb6000062aDoor.pm
