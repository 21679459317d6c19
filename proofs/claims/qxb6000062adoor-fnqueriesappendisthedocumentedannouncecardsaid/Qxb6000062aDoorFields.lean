import Derived.Test.Qxb6000062aDoorQuery
/-! Splitting a query at '&': plain. -/
namespace Go.Proofs.Qxb6000062aDoor.pm
open Go Go.Lib

/-- fields joined by '&' -/
def joinAmp : List (List UInt8) → List UInt8
  | [] => []
  | [F] => F
  | F :: G :: Fs => F ++ 38 :: joinAmp (G :: Fs)

/-- where the fields begin and end, the first at j -/
def spans : List (List UInt8) → Nat → List (Nat × Nat)
  | [], _ => []
  | F :: Fs, j => (j, j + F.length) :: spans Fs (j + F.length + 1)

/-- what zzSplitAmp's loop does: position j, the field at hand began at s -/
def segs : List UInt8 → Nat → Nat → List (Nat × Nat)
  | [], j, s => [(s, j)]
  | c :: cs, j, s => if c = 38 then (s, j) :: segs cs (j + 1) (j + 1) else segs cs (j + 1) s

theorem segs_free (F rest : List UInt8) (h : ∀ b ∈ F, b ≠ 38) (j s : Nat) : segs (F ++ rest) j s = segs rest (j + F.length) s := by
  induction F generalizing j with
  | nil => simp
  | cons c F ih =>
    have hc : c ≠ 38 := h c (by simp)
    rw [List.cons_append, segs, if_neg hc, ih (fun b hb => h b (by simp [hb])), List.length_cons]
    congr 1
    omega

theorem segs_join (Fs : List (List UInt8)) (hne : Fs ≠ []) (h : ∀ F ∈ Fs, ∀ b ∈ F, b ≠ 38) (j : Nat) : segs (joinAmp Fs) j j = spans Fs j := by
  match Fs, hne with
  | [F], _ =>
    have := segs_free F [] (h F (by simp)) j j
    rw [List.append_nil] at this
    rw [joinAmp, this]
    simp [segs, spans]
  | F :: G :: Fs, _ =>
    rw [joinAmp, segs_free F _ (h F (by simp)) j j, segs, if_pos rfl, segs_join (G :: Fs) (by simp) (fun X hX => h X (by simp [hX])) (j + F.length + 1)]
    rfl

theorem spans_length (Fs : List (List UInt8)) (j : Nat) : (spans Fs j).length = Fs.length := by
  induction Fs generalizing j with
  | nil => rfl
  | cons F Fs ih => simp [spans, ih]

/-- the k-th field lies where its span says -/
theorem spans_field (Fs : List (List UInt8)) (j k : Nat) (hk : k < Fs.length) :
    ∃ s, (spans Fs j)[k]? = some (j + s, j + s + Fs[k].length) ∧ s + Fs[k].length ≤ (joinAmp Fs).length ∧ (k + 1 < Fs.length → s + Fs[k].length < (joinAmp Fs).length) ∧ ∀ l (hl : l < Fs[k].length), (joinAmp Fs)[s + l]? = some (Fs[k][l]) := by
  induction Fs generalizing j k with
  | nil => simp at hk
  | cons F Fs ih =>
    cases k with
    | zero =>
      refine ⟨0, by simp [spans], ?_, ?_, ?_⟩
      · cases Fs with
        | nil => simp [joinAmp]
        | cons G Fs => simp [joinAmp]
      · intro h1
        cases Fs with
        | nil => simp at h1
        | cons G Fs => simp [joinAmp]
      · intro l hl
        have hl' : l < F.length := hl
        cases Fs with
        | nil => simp [joinAmp, hl']
        | cons G Fs =>
          rw [joinAmp, Nat.zero_add, List.getElem?_append_left hl']
          simp [hl']
    | succ k =>
      cases Fs with
      | nil => simp at hk
      | cons G Fs =>
        obtain ⟨s, h1, h2, h3, h4⟩ := ih (j + F.length + 1) k (by simpa using hk)
        refine ⟨F.length + 1 + s, ?_, ?_, ?_, ?_⟩
        · rw [spans, List.getElem?_cons_succ, h1]
          simp
          omega
        · simp only [joinAmp, List.length_append, List.length_cons] at h2 ⊢
          simp only [List.getElem_cons_succ]
          omega
        · intro hk2
          have := h3 (by simpa using hk2)
          simp only [joinAmp, List.length_append, List.length_cons] at this ⊢
          simp only [List.getElem_cons_succ]
          omega
        · intro l hl
          have := h4 l (by simpa using hl)
          simp only [joinAmp]
          rw [List.getElem?_append_right (by omega), show F.length + 1 + s + l - F.length = (s + l) + 1 by omega, List.getElem?_cons_succ, this]
          simp

theorem joinAmp_pos (Fs : List (List UInt8)) (F0 : List UInt8) (h : F0 ∈ Fs) : F0.length ≤ (joinAmp Fs).length := by
  obtain ⟨k, hk, rfl⟩ := List.mem_iff_getElem.1 h
  obtain ⟨s, _, h2, _⟩ := spans_field Fs 0 k hk
  omega
end Go.Proofs.Qxb6000062aDoor.pm
