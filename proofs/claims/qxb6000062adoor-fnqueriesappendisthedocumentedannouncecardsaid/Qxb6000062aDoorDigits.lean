import Derived.Test.Qxb6000062aDoorKv
/-! Decimal digits read back: plain. -/
namespace Go.Proofs.Qxb6000062aDoor.pm
open Go Go.Lib

/-- the number that a list of digits spells -/
def dval (l : List UInt8) : Nat := l.foldl (fun x c => x * 10 + (c.toNat - 48)) 0

theorem dval_snoc (l : List UInt8) (c : UInt8) : dval (l ++ [c]) = dval l * 10 + (c.toNat - 48) := by
  unfold dval; rw [List.foldl_append]; rfl

theorem dval_dec (u : Nat) : dval (decDigits u) = u := by
  induction u using Nat.strongRecOn with
  | _ u ih =>
    by_cases h : u < 10
    · rw [decDigits_one h]
      unfold dval
      simp
      omega
    · rw [decDigits, dif_neg h, dval_snoc, ih (u / 10) (by omega)]
      simp
      omega

theorem dval_zeros (k : Nat) (l : List UInt8) : dval (List.replicate k 48 ++ l) = dval l := by
  have e : ∀ k : Nat, (List.replicate k (48 : UInt8)).foldl (fun x c => x * 10 + (c.toNat - 48)) 0 = 0 := by
    intro k
    induction k with
    | zero => rfl
    | succ k ih => rw [List.replicate_succ', List.foldl_append, ih]; rfl
  unfold dval
  rw [List.foldl_append, e]

theorem dval_take_succ (l : List UInt8) (j : Nat) (h : j < l.length) : dval (l.take (j + 1)) = dval (l.take j) * 10 + (l[j].toNat - 48) := by
  rw [List.take_succ_eq_append_getElem h, dval_snoc]

theorem dval_take_le (l : List UInt8) (j : Nat) (h : j ≤ l.length) : dval (l.take j) ≤ dval l := by
  have key : ∀ m, m ≤ l.length → ∀ j, j ≤ m → dval (l.take j) ≤ dval (l.take m) := by
    intro m
    induction m with
    | zero => intro _ j hj; have : j = 0 := by omega
              subst this; exact Nat.le_refl _
    | succ m ih =>
      intro hm j hj
      by_cases e : j = m + 1
      · subst e; exact Nat.le_refl _
      · have h1 := ih (by omega) j (by omega)
        rw [dval_take_succ l m (by omega)]
        omega
  have := key l.length (Nat.le_refl _) j h
  rwa [List.take_length] at this

theorem dec_head (u : Nat) (h : 10 ≤ u) : ∀ c, (decDigits u)[0]? = some c → c.toNat ≠ 48 := by
  induction u using Nat.strongRecOn with
  | _ u ih =>
    intro c hc
    rw [decDigits, dif_neg (by omega)] at hc
    have hpos : 0 < (decDigits (u / 10)).length := by rw [decDigits_length]; exact nDigits_pos _
    rw [List.getElem?_append_left hpos] at hc
    by_cases h10 : u / 10 < 10
    · rw [decDigits_one h10] at hc
      simp at hc
      subst hc
      simp
      omega
    · exact ih (u / 10) (by omega) (by omega) c hc

/-- a numeral has one digit, or its first is no '0' -/
theorem dec_canon (u : Nat) : (decDigits u).length = 1 ∨ ∀ c, (decDigits u)[0]? = some c → c.toNat ≠ 48 := by
  by_cases h : u < 10
  · left; rw [decDigits_one h]; rfl
  · right; exact dec_head u (by omega)

theorem peer_dval (p : Nat) : dval (peerText p) = p := by
  unfold peerText; rw [dval_zeros, itoa_nonneg, dval_dec]

theorem peer_canon (p : Nat) : 12 ≤ (peerText p).length ∧ ((peerText p).length = 12 ∨ ∀ c, (peerText p)[0]? = some c → c.toNat ≠ 48) := by
  unfold peerText
  rw [itoa_nonneg]
  by_cases h : (decDigits p).length ≤ 12
  · refine ⟨by simp; omega, .inl (by simp; omega)⟩
  · have e : 12 - (decDigits p).length = 0 := by omega
    rw [e, List.replicate_zero, List.nil_append]
    refine ⟨by omega, .inr ?_⟩
    rcases dec_canon p with h1 | h1
    · omega
    · exact h1
end Go.Proofs.Qxb6000062aDoor.pm
