/-
  Plain Lean: the arithmetic of the shortest decimal of a whole number from 1 to 2^31: which power of ten is taken, and that the bounds let just the number's own digits through. Each theorem bears its own conditions.
-/
import Derived.Test.YtmfbgoikekmdkaaDoorFloat
import GoSem.PinnedTables
namespace Go.Proofs.YtmfbgoikekmdkaaDoor
open Go Ieee

/-! ### A finite word is known by its value -/

theorem V_inj {a b : Nat} (ha : a < 9218868437227405312) (hb : b < 9218868437227405312) (h : V a = V b) : a = b := by
  have h1 := nearest_exact false (m := mant a) (a := ex a) ha rfl
  have h2 := nearest_exact false (m := mant a) (a := ex a) hb h
  have h3 : W false a = W false b := h1.symm.trans h2
  exact h3

/-- The word of n, E its binary logarithm. -/
def wordN (n E : Nat) : Nat := (E + 1022) * 4503599627370496 + n * 2 ^ (52 - E)

theorem sig_lo {n E : Nat} (hE : E ≤ 31) (h : 2 ^ E ≤ n) : 4503599627370496 ≤ n * 2 ^ (52 - E) := by
  have : 2 ^ E * 2 ^ (52 - E) ≤ n * 2 ^ (52 - E) := Nat.mul_le_mul_right _ h
  rw [← Nat.pow_add, show E + (52 - E) = 52 from by omega] at this
  exact this

theorem sig_hi {n E : Nat} (hE : E ≤ 31) (h : n < 2 ^ (E + 1)) : n * 2 ^ (52 - E) < 9007199254740992 := by
  have : n * 2 ^ (52 - E) < 2 ^ (E + 1) * 2 ^ (52 - E) := Nat.mul_lt_mul_of_pos_right h (Nat.two_pow_pos _)
  rw [← Nat.pow_add, show E + 1 + (52 - E) = 53 from by omega] at this
  exact this

theorem wordN_lt {n E : Nat} (hE : E ≤ 31) (h : n < 2 ^ (E + 1)) : wordN n E < 9218868437227405312 := by
  have := sig_hi hE h
  unfold wordN
  omega

theorem V_wordN {n E : Nat} (hE : E ≤ 31) (h1 : 2 ^ E ≤ n) (h2 : n < 2 ^ (E + 1)) : V (wordN n E) = n * one := by
  have a1 := sig_lo hE h1
  have a2 := sig_hi hE h2
  obtain ⟨M, hM⟩ : ∃ M, M = n * 2 ^ (52 - E) := ⟨_, rfl⟩
  have hw : wordN n E = (E + 1022) * 4503599627370496 + M := by rw [hM]; rfl
  rw [← hM] at a1 a2
  have x1 : ex (wordN n E) = E + 1022 := by
    rw [hw]
    unfold ex
    omega
  have x2 : mant (wordN n E) = M := by
    rw [hw]
    unfold mant
    rw [if_neg (by omega)]
    omega
  have hk := kOne_eq
  obtain ⟨k, hk'⟩ : ∃ k, ex (wordN n E) = k := ⟨_, rfl⟩
  unfold V one
  rw [hk', x2, hM, Nat.mul_assoc, ← Nat.pow_add, show 52 - E + k = kOne from by omega]

theorem word_is {n E r : Nat} (hE : E ≤ 31) (h1 : 2 ^ E ≤ n) (h2 : n < 2 ^ (E + 1)) (hr : r < 9218868437227405312) (hV : V r = n * one) : r = wordN n E :=
  V_inj hr (wordN_lt hE h2) (hV.trans (V_wordN hE h1 h2).symm)

theorem log_of {n : Nat} (h1 : 1 ≤ n) (h2 : n ≤ 2147483648) : ∃ E, E ≤ 31 ∧ 2 ^ E ≤ n ∧ n < 2 ^ (E + 1) := by
  refine ⟨n.log2, ?_, Nat.log2_self_le (by omega), Nat.lt_log2_self⟩
  have : n.log2 < 32 := (Nat.log2_lt (by omega)).2 (by omega)
  omega

/-! ### The power of ten -/

/-- How the text reckons the power: pw: n is a power of two. -/
def powI (pw : Bool) (E : Nat) : Int := if pw then ((E : Int) - 52) * 631305 - 261663 else ((E : Int) - 52) * 78913
def powD (pw : Bool) : Int := if pw then 2097152 else 262144
def pw10 (pw : Bool) (E : Nat) : Nat := (-(powI pw E / powD pw)).toNat
def lg (pw : Bool) (E : Nat) : Nat := pw10 pw E * 108853 / 32768

theorem pow_facts : ∀ pw : Bool, ∀ E, E < 32 → powI pw E / powD pw = -(pw10 pw E : Int) ∧ 7 ≤ pw10 pw E ∧ pw10 pw E ≤ 17 ∧ lg pw E ≤ 63 ∧ E + lg pw E ≤ 60
    ∧ 2 * 2 ^ (61 - E) ≤ 10 ^ pw10 pw E * 2 ^ 10 ∧ 10 ^ pw10 pw E * 2 ^ 10 < 36 * 2 ^ (61 - E) ∧ 2 ^ (61 - E) < 10 ^ pw10 pw E * (if pw then 2 ^ 9 else 2 ^ 10)
    ∧ 2 ^ 63 ≤ 10 ^ pw10 pw E * 2 ^ (63 - lg pw E) ∧ 10 ^ pw10 pw E * 2 ^ (63 - lg pw E) < 2 ^ 64 := by decide +kernel

theorem row_facts : ∀ pw : Bool, ∀ E, E < 32 → Go.Pinned.pow10Rows[pw10 pw E + 348]? = some (10 ^ pw10 pw E * 2 ^ (63 - lg pw E), 0) := by decide +kernel

/-! ### The bounds -/

/-- x times the power, in quarters: what unrounded scaling reckons. -/
theorem scale_eq {pw : Bool} {E : Nat} (hE : E < 32) (x : Nat) :
    x * (10 ^ pw10 pw E * 2 ^ (63 - lg pw E)) / 18446744073709551616 / 2 ^ (60 - E - lg pw E) = x * 10 ^ pw10 pw E / 2 ^ (61 - E) := by
  obtain ⟨_, _, _, h4, h5, _⟩ := pow_facts pw E hE
  have e : (18446744073709551616 : Nat) = 2 ^ 64 := rfl
  rw [e, Nat.div_div_eq_div_mul, ← Nat.pow_add, ← Nat.mul_assoc, show 64 + (60 - E - lg pw E) = (61 - E) + (63 - lg pw E) from by omega, Nat.pow_add, Nat.mul_div_mul_right _ _ (Nat.two_pow_pos _)]

theorem max_eq {D T n : Nat} (hD : 0 < D) : (4 * n * D + 1024) * T / D = 4 * (n * T) + 1024 * T / D := by
  have : (4 * n * D + 1024) * T = 1024 * T + D * (4 * (n * T)) := by
    rw [Nat.add_mul, Nat.add_comm, Nat.mul_right_comm (4 * n) D T, Nat.mul_comm (4 * n * T) D, Nat.mul_assoc 4 n T]
  rw [this, Nat.add_mul_div_left _ _ hD, Nat.add_comm]

theorem min_le {D T n c : Nat} (hD : 0 < D) (hc : D < T * c) (hn : 0 < n) (_hT : 0 < T) : (4 * n * D - c) * T / D + 2 ≤ 4 * (n * T) := by
  have h1 : (4 * n * D - c) * T + (D + 1) ≤ 4 * (n * T) * D ∨ 4 * n * D < c := by
    rcases Nat.lt_or_ge (4 * n * D) c with h | h
    · exact Or.inr h
    · left
      obtain ⟨y, hy⟩ : ∃ y, 4 * n * D = y + c := ⟨4 * n * D - c, by omega⟩
      have e : 4 * (n * T) * D = y * T + T * c := by
        have : 4 * (n * T) * D = (4 * n * D) * T := by
          rw [← Nat.mul_assoc 4 n T, Nat.mul_right_comm]
        rw [this, hy, Nat.add_mul, Nat.mul_comm c T]
      rw [e, hy, Nat.add_sub_cancel]
      omega
  rcases h1 with h1 | h1
  · generalize (4 * n * D - c) * T = X at h1
    have hZ : 0 < 4 * (n * T) := by
      have : 0 < n * T := Nat.mul_pos hn _hT
      omega
    generalize 4 * (n * T) = Z at h1 hZ
    obtain ⟨Q, rfl⟩ : ∃ Q, Z = Q + 1 := ⟨Z - 1, by omega⟩
    rw [Nat.add_mul, Nat.one_mul] at h1
    have h2 : X / D < Q := by
      rw [Nat.div_lt_iff_lt_mul hD]
      omega
    omega
  · rw [Nat.sub_eq_zero_of_le (Nat.le_of_lt h1), Nat.zero_mul, Nat.zero_div]
    have : 0 < n * T := Nat.mul_pos hn _hT
    omega

/-- What shortFloat hands back: the number itself with one power of ten less. -/
theorem short_ok {pw : Bool} {E n U1 U2 o c : Nat} (hE : E < 32) (hn : 0 < n) (ho : o ≤ 1) (hc : c = if pw then 512 else 1024)
    (hmax1 : (4 * n * 2 ^ (61 - E) + 1024) * 10 ^ pw10 pw E / 2 ^ (61 - E) ≤ U2) (hmax2 : U2 ≤ (4 * n * 2 ^ (61 - E) + 1024) * 10 ^ pw10 pw E / 2 ^ (61 - E) + 1)
    (hmin2 : U1 ≤ (4 * n * 2 ^ (61 - E) - c) * 10 ^ pw10 pw E / 2 ^ (61 - E) + 1) :
    (U2 - o) / 4 / 10 = n * 10 ^ (pw10 pw E - 1) ∧ (U1 + o + 3) / 4 ≤ n * 10 ^ (pw10 pw E - 1) * 10 ∧ 2 ≤ U2 := by
  obtain ⟨_, h2, _, _, _, h6, h7, h8, _⟩ := pow_facts pw E hE
  obtain ⟨T, hT⟩ : ∃ T, T = 10 ^ pw10 pw E := ⟨_, rfl⟩
  obtain ⟨D, hD⟩ : ∃ D, D = 2 ^ (61 - E) := ⟨_, rfl⟩
  have hDp : 0 < D := by rw [hD]; exact Nat.two_pow_pos _
  have hTp : 0 < T := by rw [hT]; exact Nat.pow_pos (by omega)
  have hS : T = 10 ^ (pw10 pw E - 1) * 10 := by
    obtain ⟨k, hk⟩ : ∃ k, pw10 pw E = k + 1 := ⟨pw10 pw E - 1, by omega⟩
    rw [hT, hk, Nat.pow_succ, Nat.add_sub_cancel]
  obtain ⟨S, hS'⟩ : ∃ S, S = 10 ^ (pw10 pw E - 1) := ⟨_, rfl⟩
  rw [← hS'] at hS
  rw [← hT, ← hD] at hmax1 hmax2 hmin2 h6 h7 h8
  rw [← hS']
  rw [max_eq hDp] at hmax1 hmax2
  have hmin := min_le (D := D) (T := T) (n := n) (c := c) hDp (by
    rw [hc]
    cases pw <;> simpa using h8) hn hTp
  have k1 : 2 ≤ 1024 * T / D := by
    rw [Nat.le_div_iff_mul_le hDp]
    omega
  have k2 : 1024 * T / D < 36 := by
    rw [Nat.div_lt_iff_lt_mul hDp]
    omega
  have hnT : n * T = n * S * 10 := by rw [hS, Nat.mul_assoc]
  rw [hnT] at hmax1 hmax2 hmin
  obtain ⟨A, hA⟩ : ∃ A, A = n * S := ⟨_, rfl⟩
  rw [← hA] at hmax1 hmax2 hmin
  rw [← hA]
  generalize 1024 * T / D = k at k1 k2 hmax1 hmax2
  generalize (4 * n * D - c) * T / D = q at hmin hmin2
  omega
end Go.Proofs.YtmfbgoikekmdkaaDoor
