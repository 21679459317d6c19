import Derived.Test.Qxb6000062aDoorMath
/-! Padded decimals of one width compare bytewise as the numbers do. Plain. -/
namespace Go.Proofs.Qxb6000062aDoor.pm
open Go Go.Lib

def cmpL : List UInt8 → List UInt8 → Int
  | a :: as, b :: bs => if a.toNat < b.toNat then -1 else if b.toNat < a.toNat then 1 else cmpL as bs
  | _, _ => 0

theorem cmpL_snoc : ∀ (as bs : List UInt8) (x y : UInt8), as.length = bs.length → cmpL (as ++ [x]) (bs ++ [y]) = if cmpL as bs = 0 then cmpL [x] [y] else cmpL as bs
  | [], [], x, y, _ => by simp [cmpL]
  | a :: as, b :: bs, x, y, h => by
    have ih := cmpL_snoc as bs x y (by simpa using h)
    simp only [List.cons_append, cmpL]
    split
    · simp
    · split
      · simp
      · exact ih
  | [], _ :: _, _, _, h => by simp at h
  | _ :: _, [], _, _, h => by simp at h

/-- the last W decimal digits of n -/
def rW : Nat → Nat → List UInt8
  | 0, _ => []
  | W + 1, n => rW W (n / 10) ++ [UInt8.ofNat (48 + n % 10)]

theorem rW_length (W n : Nat) : (rW W n).length = W := by
  induction W generalizing n with
  | zero => rfl
  | succ W ih => simp [rW, ih]

theorem rW_zero (W : Nat) : rW W 0 = List.replicate W 48 := by
  induction W with
  | zero => rfl
  | succ W ih => rw [rW, show 0 / 10 = 0 from rfl, ih, List.replicate_succ']; rfl

theorem rW_padded (W n : Nat) (hW : nDigits n ≤ W) : List.replicate (W - nDigits n) 48 ++ decDigits n = rW W n := by
  induction W generalizing n with
  | zero => have := nDigits_pos n; omega
  | succ W ih =>
    by_cases h : n < 10
    · rw [nDigits_small h, decDigits_one h, rW, show n / 10 = 0 by omega, rW_zero, show n % 10 = n by omega]
      simp
    · rw [nDigits_big h] at hW ⊢
      rw [decDigits, dif_neg h, rW, ← ih (n / 10) (by omega), ← List.append_assoc]
      congr 3
      omega

theorem cmpL_digit (a b : Nat) (ha : a < 10) (hb : b < 10) : cmpL [UInt8.ofNat (48 + a)] [UInt8.ofNat (48 + b)] = if a < b then -1 else if b < a then 1 else 0 := by
  have e : ∀ c : Nat, c < 10 → (UInt8.ofNat (48 + c)).toNat = 48 + c := fun c hc => by simp; omega
  simp only [cmpL, e a ha, e b hb, Nat.add_lt_add_iff_left]

theorem cmpL_rW (W n m : Nat) (hn : n < 10 ^ W) (hm : m < 10 ^ W) : cmpL (rW W n) (rW W m) = if n < m then -1 else if m < n then 1 else 0 := by
  induction W generalizing n m with
  | zero =>
    have : n = 0 := by simpa using hn
    have : m = 0 := by simpa using hm
    subst_vars
    simp [rW, cmpL]
  | succ W ih =>
    rw [Nat.pow_succ] at hn hm
    rw [rW, rW, cmpL_snoc _ _ _ _ (by rw [rW_length, rW_length]), ih (n / 10) (m / 10) (by omega) (by omega), cmpL_digit _ _ (by omega) (by omega)]
    by_cases h1 : n / 10 < m / 10
    · rw [if_pos h1, if_neg (by decide), if_pos (by omega)]
    · rw [if_neg h1]
      by_cases h2 : m / 10 < n / 10
      · rw [if_pos h2, if_neg (by decide), if_neg (by omega), if_pos (by omega)]
      · rw [if_neg h2, if_pos rfl]
        have e1 : n % 10 < m % 10 ↔ n < m := by omega
        have e2 : m % 10 < n % 10 ↔ m < n := by omega
        simp only [e1, e2]

theorem cmp_padded (W n m : Nat) (hn : nDigits n ≤ W) (hm : nDigits m ≤ W) :
    cmpL (List.replicate (W - nDigits n) 48 ++ decDigits n) (List.replicate (W - nDigits m) 48 ++ decDigits m) = if n < m then -1 else if m < n then 1 else 0 := by
  rw [rW_padded W n hn, rW_padded W m hm]
  exact cmpL_rW W n m (Nat.lt_of_lt_of_le (lt_pow_nDigits n) (Nat.pow_le_pow_right (by decide) hn)) (Nat.lt_of_lt_of_le (lt_pow_nDigits m) (Nat.pow_le_pow_right (by decide) hm))

theorem cmpL_drop (A B : List UInt8) (j : Nat) (hA : j < A.length) (hB : j < B.length) :
    cmpL (A.drop j) (B.drop j) = if A[j].toNat < B[j].toNat then -1 else if B[j].toNat < A[j].toNat then 1 else cmpL (A.drop (j + 1)) (B.drop (j + 1)) := by
  rw [List.drop_eq_getElem_cons hA, List.drop_eq_getElem_cons hB, cmpL]
end Go.Proofs.Qxb6000062aDoor.pm
