import Derived.Test.Qxb6000062aDoorSplit
/-! The query as a list of key=value fields; what zzSplitAmp and zzKeyVal make of it. -/
namespace Go.Proofs.Qxb6000062aDoor.pm
open Go Go.RowKit Go.Lib Go.Sort
set_option linter.unusedVariables false

def kInfo : List UInt8 := [105, 110, 102, 111, 95, 104, 97, 115, 104]
def kPeer : List UInt8 := [112, 101, 101, 114, 95, 105, 100]
def kPort : List UInt8 := [112, 111, 114, 116]
def kUp : List UInt8 := [117, 112, 108, 111, 97, 100, 101, 100]
def kDown : List UInt8 := [100, 111, 119, 110, 108, 111, 97, 100, 101, 100]
def kLeft : List UInt8 := [108, 101, 102, 116]
def kComp : List UInt8 := [99, 111, 109, 112, 97, 99, 116]
def kNum : List UInt8 := [110, 117, 109, 119, 97, 110, 116]
def kEvent : List UInt8 := [101, 118, 101, 110, 116]
def sTL : List UInt8 := [45, 84, 76, 48, 48, 48, 49, 45]
def sStarted : List UInt8 := [115, 116, 97, 114, 116, 101, 100]

def kvBase (p k : Nat) (left : Int) (h : List UInt8) : List (List UInt8 × List UInt8) :=
  [(kInfo, h), (kPeer, sTL ++ peerText p), (kPort, itoa (1024 + (k : Int) % 60000)), (kUp, [48]), (kDown, [48]), (kLeft, itoa left), (kComp, [49]), (kNum, itoa 50)]
def kvs (p k : Nat) (left : Int) (h : List UInt8) (st : Prop) [Decidable st] : List (List UInt8 × List UInt8) :=
  if st then kvBase p k left h ++ [(kEvent, sStarted)] else kvBase p k left h
/-- a field's text -/
def fld (x : List UInt8 × List UInt8) : List UInt8 := x.1 ++ 61 :: x.2

theorem join_base (p k : Nat) (left : Int) (h : List UInt8) : joinAmp ((kvBase p k left h).map fld) = qBase p k left h := by
  simp only [kvBase, List.map_cons, List.map_nil, joinAmp, fld, qBase]
  simp only [kInfo, kPeer, kPort, kUp, kDown, kLeft, kComp, kNum, sTL, sInfo, sPeer, sPort, sUp, sComp, List.cons_append, List.nil_append, List.append_assoc]
theorem join_event (p k : Nat) (left : Int) (h : List UInt8) : joinAmp ((kvBase p k left h ++ [(kEvent, sStarted)]).map fld) = qBase p k left h ++ sEvent := by
  simp only [kvBase, List.map_cons, List.map_nil, joinAmp, fld, qBase, List.cons_append, List.nil_append]
  simp only [kInfo, kPeer, kPort, kUp, kDown, kLeft, kComp, kNum, sTL, sInfo, sPeer, sPort, sUp, sComp, kEvent, sStarted, sEvent, List.cons_append, List.nil_append, List.append_assoc]
theorem join_kvs (p k : Nat) (left : Int) (h : List UInt8) (st : Prop) [Decidable st] : joinAmp ((kvs p k left h st).map fld) = qText p k left h st := by
  unfold kvs qText
  by_cases hs : st
  · rw [if_pos hs, if_pos hs]; exact join_event p k left h
  · rw [if_neg hs, if_neg hs]; exact join_base p k left h

theorem digit_range (u : Nat) : ∀ b ∈ decDigits u, 48 ≤ b.toNat ∧ b.toNat ≤ 57 := by
  induction u using Nat.strongRecOn with
  | _ u ih =>
    intro b hb
    by_cases h : u < 10
    · rw [decDigits_one h] at hb
      simp at hb
      subst hb
      simp
      omega
    · rw [decDigits, dif_neg h] at hb
      rcases List.mem_append.1 hb with hb | hb
      · exact ih (u / 10) (by omega) b hb
      · simp at hb
        subst hb
        simp
        omega

theorem itoa_range (n : Int) (h : 0 ≤ n) : ∀ b ∈ itoa n, 48 ≤ b.toNat ∧ b.toNat ≤ 57 := by
  obtain ⟨u, rfl⟩ : ∃ u : Nat, n = u := ⟨n.toNat, by omega⟩
  rw [itoa_nonneg]
  exact digit_range u

theorem peer_range (p : Nat) : ∀ b ∈ peerText p, 48 ≤ b.toNat ∧ b.toNat ≤ 57 := by
  intro b hb
  unfold peerText at hb
  rcases List.mem_append.1 hb with hb | hb
  · have := List.eq_of_mem_replicate hb
    subst this
    decide
  · exact itoa_range p (by omega) b hb

theorem ne_of_range {b c : UInt8} (h : 48 ≤ b.toNat ∧ b.toNat ≤ 57) (hc : c.toNat < 48) : b ≠ c := by
  intro e; subst e; omega

theorem leftOf_nonneg (k : Nat) : 0 ≤ leftOf k := by unfold leftOf; split <;> decide

/-- no '&' in a field -/
theorem fld_free (p k : Nat) (left : Int) (hl : 0 ≤ left) (h : List UInt8) (hh : ∀ b ∈ h, b ≠ 38) (st : Prop) [Decidable st] : ∀ F ∈ (kvs p k left h st).map fld, ∀ b ∈ F, b ≠ 38 := by
  have d : ∀ l : List UInt8, (∀ b ∈ l, 48 ≤ b.toNat ∧ b.toNat ≤ 57) → ∀ b ∈ l, b ≠ 38 := fun l hl b hb => ne_of_range (hl b hb) (by decide)
  have e : ∀ (K V : List UInt8), (∀ b ∈ K, b ≠ 38) → (∀ b ∈ V, b ≠ 38) → ∀ b ∈ fld (K, V), b ≠ 38 := by
    intro K V hK hV b hb
    unfold fld at hb
    rcases List.mem_append.1 hb with hb | hb
    · exact hK b hb
    · rcases List.mem_cons.1 hb with rfl | hb
      · decide
      · exact hV b hb
  have base : ∀ x ∈ kvBase p k left h, ∀ b ∈ fld x, b ≠ 38 := by
    intro x hx
    unfold kvBase at hx
    simp only [List.mem_cons, List.not_mem_nil, or_false] at hx
    rcases hx with rfl | rfl | rfl | rfl | rfl | rfl | rfl | rfl
    · exact e _ _ (by decide) hh
    · refine e _ _ (by decide) (fun b hb => ?_)
      rcases List.mem_append.1 hb with hb | hb
      · exact (show ∀ b ∈ sTL, b ≠ 38 by decide) b hb
      · exact d _ (peer_range p) b hb
    · exact e _ _ (by decide) (d _ (itoa_range _ (by omega)))
    · exact e _ _ (by decide) (by decide)
    · exact e _ _ (by decide) (by decide)
    · exact e _ _ (by decide) (d _ (itoa_range _ hl))
    · exact e _ _ (by decide) (by decide)
    · exact e _ _ (by decide) (d _ (itoa_range _ (by decide)))
  intro F hF
  obtain ⟨x, hx, rfl⟩ := List.mem_map.1 hF
  unfold kvs at hx
  by_cases hs : st
  · rw [if_pos hs] at hx
    rcases List.mem_append.1 hx with hx | hx
    · exact base x hx
    · simp at hx
      subst hx
      exact e _ _ (by decide) (by decide)
  · rw [if_neg hs] at hx
    exact base x hx

theorem fld_pos (x : List UInt8 × List UInt8) : 1 ≤ (fld x).length := by unfold fld; simp; omega

/-- zzSplitAmp at a text that is joined fields -/
theorem split_fields (g o c : Nat) (Fs : List (List UInt8)) (w : World) (hne : Fs ≠ []) (hfree : ∀ F ∈ Fs, ∀ b ∈ F, b ≠ 38) (hpos : ∀ F ∈ Fs, 1 ≤ F.length) (hlen : (joinAmp Fs).length ≤ 4194304) (hcap : (joinAmp Fs).length ≤ c) (hcm : c ≤ 9223372036854775807)
    (hc : ∀ j (hj : j < (joinAmp Fs).length), w.cell? ⟨g, o + j, none⟩ = some (.int .u8 ((joinAmp Fs)[j].toNat : Int))) :
    Calls Tryd.prog 18 #[.slice (some ⟨g, o, none⟩) (joinAmp Fs).length c] w fun e w' => ∃ gf cf, e = .returned (.slice (some ⟨gf, 0, none⟩) Fs.length cf) ∧ Below w.heap.size w w' ∧
      ∀ j (hj : j < Fs.length), ∃ s, w'.cell? ⟨gf, j, none⟩ = some (.slice (some ⟨g, o + s, none⟩) Fs[j].length (c - s)) ∧ s + Fs[j].length ≤ (joinAmp Fs).length ∧ (j + 1 < Fs.length → s + Fs[j].length < (joinAmp Fs).length) ∧
        ∀ l (hl : l < Fs[j].length), w'.cell? ⟨g, o + s + l, none⟩ = some (.int .u8 (Fs[j][l].toNat : Int)) := by
  have hseg := segs_join Fs hne hfree 0
  have hlast : ∀ s j : Nat, (s, j) ∈ segs (joinAmp Fs) 0 0 → s < c := by
    intro s j hm
    rw [hseg] at hm
    obtain ⟨k, hk, hk2⟩ := List.mem_iff_getElem.1 hm
    have hk' : k < Fs.length := by rw [spans_length] at hk; exact hk
    obtain ⟨s', h1, h2, _⟩ := spans_field Fs 0 k hk'
    rw [List.getElem?_eq_getElem hk, hk2] at h1
    simp at h1
    have := hpos Fs[k] (List.getElem_mem hk')
    omega
  refine (zzSplitAmp_any g o c (joinAmp Fs) w hlen hcap hcm hlast hc).mono ?_
  rintro e w' ⟨v, rfl, hb, ho⟩
  rw [hseg, spans_length] at ho
  have hn : 1 ≤ Fs.length := by
    cases Fs with
    | nil => exact absurd rfl hne
    | cons _ _ => simp
  rcases ho.2 with ⟨_, h2⟩ | ⟨gf, cf, cur, rfl, _⟩
  · omega
  refine ⟨gf, cf, rfl, hb, fun j hj => ?_⟩
  obtain ⟨s, h1, h2, h3, h4⟩ := spans_field Fs 0 j hj
  refine ⟨s, ?_, h2, h3, fun l hl => ?_⟩
  · rw [ho.cellAt j (by omega), List.getElem?_map, h1]
    simp [mkF]
  · have hlt : s + l < (joinAmp Fs).length := by omega
    have h5 := h4 l hl
    rw [List.getElem?_eq_getElem hlt] at h5
    have h6 := cellLater hb (hc (s + l) hlt)
    simp only [Option.some.injEq] at h5
    rw [h5, ← Nat.add_assoc] at h6
    exact h6

/-- what is known of a field that zzSplitAmp handed back, in a world: where it lies, what zzKeyVal makes of it, its value's bytes -/
def FieldAt (w : World) (v : Value) (K V : List UInt8) : Prop :=
  ∃ g o c, v = .slice (some ⟨g, o, none⟩) (K ++ 61 :: V).length c ∧ (K ++ 61 :: V).length ≤ c ∧ K.length + 1 < c ∧ c ≤ 9223372036854775807 ∧ (K ++ 61 :: V).length ≤ 4194304 ∧ (∀ b ∈ K, b ≠ 61) ∧
    ∀ j (hj : j < (K ++ 61 :: V).length), w.cell? ⟨g, o + j, none⟩ = some (.int .u8 ((K ++ 61 :: V)[j].toNat : Int))

theorem FieldAt.later {w w' : World} {v : Value} {K V : List UInt8} (h : FieldAt w v K V) (hb : Below w.heap.size w w') : FieldAt w' v K V := by
  obtain ⟨g, o, c, h1, h2, h3, h4, h5, h6, h7⟩ := h
  exact ⟨g, o, c, h1, h2, h3, h4, h5, h6, fun j hj => cellLater hb (h7 j hj)⟩

/-- a value's bytes in a row -/
def ValAt (w : World) (g o c : Nat) (V : List UInt8) : Prop := V.length ≤ c ∧ c ≤ 9223372036854775807 ∧ V.length ≤ 4194304 ∧ ∀ j (hj : j < V.length), w.cell? ⟨g, o + j, none⟩ = some (.int .u8 (V[j].toNat : Int))

theorem ValAt.later {w w' : World} {g o c : Nat} {V : List UInt8} (h : ValAt w g o c V) (hb : Below w.heap.size w w') : ValAt w' g o c V :=
  ⟨h.1, h.2.1, h.2.2.1, fun j hj => cellLater hb (h.2.2.2 j hj)⟩

/-- zzKeyVal at such a field -/
theorem keyVal_at {w : World} {v : Value} {K V : List UInt8} (h : FieldAt w v K V) :
    Calls Tryd.prog 19 #[v] w fun e w' => ∃ g o c, e = .returned (.tuple #[.string ⟨K.toArray⟩, .slice (some ⟨g, o, none⟩) V.length c, .bool true]) ∧ Below w.heap.size w w' ∧ ValAt w' g o c V := by
  obtain ⟨g, o, c, rfl, h2, h3, h4, h5, h6, h7⟩ := h
  have hl : (K ++ 61 :: V).length = K.length + 1 + V.length := by simp; omega
  refine (zzKeyVal_any g o c K V w h6 h5 h2 h3 h4 h7).mono ?_
  rintro e w' ⟨rfl, hb⟩
  refine ⟨g, o + (K.length + 1), c - (K.length + 1), rfl, hb, by omega, by omega, by omega, fun j hj => ?_⟩
  have := cellLater hb (h7 (K.length + 1 + j) (by omega))
  rw [List.getElem_append_right (by omega)] at this
  simp only [show K.length + 1 + j - K.length = j + 1 by omega, List.getElem_cons_succ] at this
  rw [Nat.add_assoc]
  exact this

/-- zzSplitAmp at a query -/
theorem kv_split (g o c : Nat) (X : List (List UInt8 × List UInt8)) (w : World) (hne : X ≠ []) (hfree : ∀ F ∈ X.map fld, ∀ b ∈ F, b ≠ 38) (hK : ∀ x ∈ X, ∀ b ∈ x.1, b ≠ 61) (hV : ∀ j (hj : j < X.length), 1 ≤ X[j].2.length ∨ j + 1 < X.length)
    (hlen : (joinAmp (X.map fld)).length ≤ 4194304) (hcap : (joinAmp (X.map fld)).length ≤ c) (hcm : c ≤ 9223372036854775807)
    (hc : ∀ j (hj : j < (joinAmp (X.map fld)).length), w.cell? ⟨g, o + j, none⟩ = some (.int .u8 ((joinAmp (X.map fld))[j].toNat : Int))) :
    Calls Tryd.prog 18 #[.slice (some ⟨g, o, none⟩) (joinAmp (X.map fld)).length c] w fun e w' => ∃ gf cf, e = .returned (.slice (some ⟨gf, 0, none⟩) X.length cf) ∧ Below w.heap.size w w' ∧
      ∀ j (hj : j < X.length), ∃ v, w'.cell? ⟨gf, j, none⟩ = some v ∧ FieldAt w' v X[j].1 X[j].2 := by
  refine (split_fields g o c (X.map fld) w (by simpa using hne) hfree (fun F hF => by obtain ⟨x, _, rfl⟩ := List.mem_map.1 hF; exact fld_pos x) hlen hcap hcm hc).mono ?_
  rintro e w' ⟨gf, cf, rfl, hb, hcell⟩
  rw [List.length_map]
  refine ⟨gf, cf, rfl, hb, fun j hj => ?_⟩
  obtain ⟨s, h1, h2, h3, h4⟩ := hcell j (by rw [List.length_map]; exact hj)
  simp only [List.getElem_map, List.length_map] at h1 h2 h3 h4
  have hl : (fld X[j]).length = X[j].1.length + 1 + X[j].2.length := by unfold fld; simp; omega
  refine ⟨_, h1, g, o + s, c - s, rfl, ?_, ?_, by omega, ?_, hK _ (List.getElem_mem hj), h4⟩
  · show (fld X[j]).length ≤ _; omega
  · rcases hV j hj with h5 | h5
    · omega
    · have := h3 h5; omega
  · show (fld X[j]).length ≤ _; omega

theorem kvs_key (p k : Nat) (left : Int) (h : List UInt8) (st : Prop) [Decidable st] : ∀ x ∈ kvs p k left h st, ∀ b ∈ x.1, b ≠ 61 := by
  have base : ∀ x ∈ kvBase p k left h, ∀ b ∈ x.1, b ≠ 61 := by
    intro x hx
    unfold kvBase at hx
    simp only [List.mem_cons, List.not_mem_nil, or_false] at hx
    rcases hx with rfl | rfl | rfl | rfl | rfl | rfl | rfl | rfl <;> (dsimp only; decide)
  intro x hx
  unfold kvs at hx
  by_cases hs : st
  · rw [if_pos hs] at hx
    rcases List.mem_append.1 hx with hx | hx
    · exact base x hx
    · simp at hx
      subst hx
      show ∀ b ∈ kEvent, b ≠ 61
      decide
  · rw [if_neg hs] at hx
    exact base x hx

theorem acc_row {w : World} {B : Nat} {v : Value} {n : Nat} {xs : List Value} {L : List UInt8} (h : Acc w B v n xs L) (hx : xs.length = n) (h1 : 1 ≤ L.length) :
    ∃ g c, v = .slice (some ⟨g, 0, none⟩) (n + L.length) c ∧ n + L.length ≤ c ∧ c ≤ 9223372036854775807 ∧ (∀ j u, xs[j]? = some u → w.cell? ⟨g, j, none⟩ = some u) ∧ ∀ j (hj : j < L.length), w.cell? ⟨g, n + j, none⟩ = some (.int .u8 (L[j].toNat : Int)) := by
  unfold Acc at h
  rcases h.2 with ⟨_, h2⟩ | ⟨g, cap, cur, rfl, hB, _, h3, h4, _⟩
  · omega
  · refine ⟨g, cap, rfl, h3, by unfold maxLen at h4; omega, fun j u hj => ?_, fun j hj => ?_⟩
    · have hj1 := (List.getElem?_eq_some_iff.1 hj).1
      rw [h.cellAt j (by omega), List.getElem?_append_left hj1]
      exact hj
    · rw [h.cellAt (n + j) (by omega), List.getElem?_append_right (by omega)]
      simp [byteCells, hx, hj]
end Go.Proofs.Qxb6000062aDoor.pm
