/-
  Plain Lean: the digits of a number times a power of ten.
-/
import Derived.Test.YtmfbgoikekmdkaaDoorEfg
namespace Go.Proofs.YtmfbgoikekmdkaaDoor
open Go Go.Proofs Go.RowKit Go.Sort Go.Lib

theorem nDigits_mul_pow (n : Nat) (h : 1 ≤ n) (j : Nat) : nDigits (n * 10 ^ j) = nDigits n + j := by
  induction j with
  | zero => simp
  | succ j ih =>
    have hp : 1 ≤ 10 ^ j := Nat.one_le_pow _ _ (by decide)
    have h1 : 1 ≤ n * 10 ^ j := Nat.mul_pos h hp
    rw [Nat.pow_succ, ← Nat.mul_assoc, nDigits_big (by omega), Nat.mul_div_cancel _ (by decide), ih]
    omega

theorem dg_mul_hi (n i j : Nat) : dg (n * 10 ^ j) (i + j) = dg n i := by
  unfold dg
  rw [Nat.pow_add, Nat.mul_div_mul_right _ _ (Nat.pow_pos (by decide))]

theorem dg_mul_lo (n i j : Nat) (h : i < j) : dg (n * 10 ^ j) i = 48 := by
  unfold dg
  obtain ⟨t, rfl⟩ : ∃ t, j = i + (t + 1) := ⟨j - i - 1, by omega⟩
  rw [Nat.pow_add, Nat.mul_comm (10 ^ i), ← Nat.mul_assoc, Nat.mul_div_cancel _ (Nat.pow_pos (by decide)), Nat.pow_succ, ← Nat.mul_assoc, Nat.mul_mod_left]
  rfl

theorem nDigits_le {n k : Nat} (h : 1 ≤ n) (h2 : n < 10 ^ k) : nDigits n ≤ k := by
  rcases Nat.lt_or_ge k (nDigits n) with h' | h'
  · exfalso
    have hu : 10 ^ (nDigits n - 1) ≤ n := by
      clear h2 h'
      induction n using Nat.strongRecOn with
      | _ n ih =>
        by_cases h10 : n < 10
        · rw [nDigits_small h10]
          simpa using h
        · rw [nDigits_big h10]
          have := nDigits_pos (n / 10)
          obtain ⟨t, ht⟩ : ∃ t, nDigits (n / 10) = t + 1 := ⟨nDigits (n / 10) - 1, by omega⟩
          have hi := ih (n / 10) (by omega) (by omega)
          rw [ht] at hi ⊢
          simp only [Nat.add_sub_cancel] at hi ⊢
          rw [Nat.pow_succ]
          omega
    have := Nat.pow_le_pow_right (n := 10) (by decide) (show k ≤ nDigits n - 1 by omega)
    omega
  · exact h'

/-- What the two texts share: how many digits are left. -/
structure Kept (n k : Nat) : Prop where
  pos : 1 ≤ k
  le : k ≤ nDigits n
  zeros : ∀ j, k ≤ j → j < nDigits n → dg n (nDigits n - 1 - j) = 48

/-- The text: a digit, a point and the others where there are some, an e, a sign and two digits. -/
def eText (n k : Nat) : List UInt8 :=
  dg n (nDigits n - 1) :: ((if k = 1 then [] else 46 :: (List.range (k - 1)).map fun t => dg n (nDigits n - 1 - (t + 1))) ++ [101, 43, 48, UInt8.ofNat (nDigits n - 1 + 48)])
end Go.Proofs.YtmfbgoikekmdkaaDoor
