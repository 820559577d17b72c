/-
  Plain Lean: what words of 64 bits stand for as whole numbers of units of two to the power -1074; when sums, differences and roundings are exact. Each theorem bears its own conditions.
-/
import Derived.WalkKit
import Derived.Laws.FloatArith
namespace Go.Proofs.YtmfbgoikekmdkaaDoor
open Go Ieee

def mant (r : Nat) : Nat := if r < 4503599627370496 then r else 4503599627370496 + r % 4503599627370496
def ex (r : Nat) : Nat := r / 4503599627370496 - 1
/-- The value of a finite word without a sign, in units of 2^-1074. -/
def V (r : Nat) : Nat := mant r * 2 ^ ex r
/-- A word: its sign, the rest. -/
def W (s : Bool) (r : Nat) : Nat := if s then 9223372036854775808 + r else r
def sg (s : Bool) (n : Nat) : Int := if s then -(n : Int) else (n : Int)
def kOne : Nat := 1074
theorem kOne_eq : kOne = 1074 := rfl
def kTop : Nat := 2098
theorem kTop_eq : kTop = 2098 := rfl
/-- One, in units. -/
def one : Nat := 2 ^ kOne

theorem one_pos : 0 < one := Nat.two_pow_pos _
theorem d_sign : double.signWeight = 9223372036854775808 := by decide
theorem d_least : double.leastPlace = -1074 := by decide
theorem d_inf : double.infRung = 9218868437227405312 := by decide
theorem d_bin : double.binade = 4503599627370496 := by decide
theorem d_frac : double.fractionBits = 52 := rfl

theorem mant_lt (r : Nat) : mant r < 9007199254740992 := by
  unfold mant
  split <;> omega
theorem mant_ge {r : Nat} (h : 4503599627370496 ≤ r) : 4503599627370496 ≤ mant r := by
  unfold mant
  rw [if_neg (by omega)]
  omega
theorem mant_pos {r : Nat} (h : r ≠ 0) : 0 < mant r := by
  unfold mant
  split <;> omega
theorem ex_lt {r : Nat} (h : r < 9218868437227405312) : ex r ≤ 2045 := by
  unfold ex
  omega
theorem ex_sub {r : Nat} (h : r < 4503599627370496) : ex r = 0 := by
  unfold ex
  omega
theorem word_of {r : Nat} (h : 4503599627370496 ≤ r) : r = ex r * 4503599627370496 + mant r := by
  unfold ex mant
  rw [if_neg (by omega)]
  omega
theorem V_pos {r : Nat} (h : r ≠ 0) : 0 < V r := Nat.mul_pos (mant_pos h) (Nat.two_pow_pos _)
theorem V_zero : V 0 = 0 := by
  unfold V mant
  simp
theorem V_eq_zero {r : Nat} : V r = 0 ↔ r = 0 := by
  constructor
  · intro h
    by_cases e : r = 0
    · exact e
    · have := V_pos e
      omega
  · intro h
    subst h
    exact V_zero

/-- Every finite value is at most the greatest. -/
theorem V_le_max {r : Nat} (h : r < 9218868437227405312) : V r ≤ V 9218868437227405311 := by
  have h1 := mant_lt r
  have h2 := ex_lt h
  have e1 : mant 9218868437227405311 = 9007199254740991 := by decide
  obtain ⟨k, hk⟩ : ∃ k, ex 9218868437227405311 = k := ⟨_, rfl⟩
  have e2 : 2045 ≤ k := by
    rw [← hk]
    decide
  unfold V
  rw [e1, hk]
  exact Nat.mul_le_mul (by omega) (Nat.pow_le_pow_right (by omega) (by omega))

theorem V_lt_top {r : Nat} (h : r < 9218868437227405312) : V r < 2 ^ kTop := by
  have h1 := mant_lt r
  have h2 := ex_lt h
  have hk := kTop_eq
  obtain ⟨k, hk'⟩ : ∃ k, kTop = 53 + k := ⟨2045, rfl⟩
  have : V r < 2 ^ 53 * 2 ^ k := by
    unfold V
    exact Nat.mul_lt_mul_of_lt_of_le (by omega) (Nat.pow_le_pow_right (by omega) (by omega)) (Nat.two_pow_pos _)
  rwa [← Nat.pow_add, ← hk'] at this

theorem read_W (s : Bool) {r : Nat} (h : r < 9218868437227405312) : double.read (W s r) = .number s (mant r) (-1074 + (ex r : Int)) := by
  unfold Format.read
  simp only [d_sign, d_bin, d_inf, d_least]
  have hneg : (W s r / 9223372036854775808 % 2 == 1) = s := by
    cases s
    · have e : W false r = r := rfl
      rw [e, Nat.div_eq_of_lt (by omega)]
      rfl
    · have e : W true r / 9223372036854775808 = 1 := by
        unfold W
        simp
        omega
      rw [e]
      rfl
  have hr : W s r % 9223372036854775808 = r := by
    cases s
    · unfold W
      simp
      omega
    · unfold W
      simp
      omega
  rw [hneg, hr]
  by_cases h1 : r < 4503599627370496
  · rw [if_pos h1, ex_sub h1]
    unfold mant
    rw [if_pos h1]
    rfl
  · rw [if_neg h1, if_pos h]
    unfold mant ex
    rw [if_neg h1]

theorem read_inf (s : Bool) : double.read (W s 9218868437227405312) = .infinity s := by
  cases s <;> decide

theorem read_nan (s : Bool) {r : Nat} (h : 9218868437227405312 < r) (h' : r < 9223372036854775808) : double.read (W s r) = .nan s (r - 9218868437227405312) := by
  unfold Format.read
  simp only [d_sign, d_bin, d_inf, d_least]
  have hneg : (W s r / 9223372036854775808 % 2 == 1) = s := by
    cases s
    · have e : W false r = r := rfl
      rw [e, Nat.div_eq_of_lt (by omega)]
      rfl
    · have e : W true r / 9223372036854775808 = 1 := by
        unfold W
        simp
        omega
      rw [e]
      rfl
  have hr : W s r % 9223372036854775808 = r := by
    cases s
    · unfold W
      simp
      omega
    · unfold W
      simp
      omega
  rw [hneg, hr, if_neg (by omega), if_neg (by omega), if_neg (by omega)]

/-! ### Which words there are -/

theorem W_cases (b : Nat) (h : b < 18446744073709551616) : ∃ s r, b = W s r ∧ r < 9223372036854775808 := by
  by_cases hb : b < 9223372036854775808
  · exact ⟨false, b, rfl, hb⟩
  · exact ⟨true, b - 9223372036854775808, by unfold W; simp; omega, by omega⟩

/-- A number of at most 53 digits at whatever place has a word, where it is not too great. -/
theorem rep (n k : Nat) (hn : n < 9007199254740992) (ht : n * 2 ^ k < 2 ^ kTop) : ∃ q, q < 9218868437227405312 ∧ V q = n * 2 ^ k := by
  obtain ⟨T, hT⟩ : ∃ T, T = n * 2 ^ k := ⟨_, rfl⟩
  rw [← hT] at ht
  rw [← hT]
  by_cases hs : T < 4503599627370496
  · refine ⟨T, by omega, ?_⟩
    unfold V mant
    rw [ex_sub hs, if_pos hs]
    simp
  · have hT0 : T ≠ 0 := by omega
    have hn0 : n ≠ 0 := by
      intro e
      subst e
      simp at hT
      omega
    have hL1 : 52 ≤ T.log2 := (Nat.le_log2 hT0).2 (by omega)
    have hL2 : T.log2 < kTop := (Nat.log2_lt hT0).2 ht
    have hkt := kTop_eq
    have hLn : n.log2 < 53 := (Nat.log2_lt hn0).2 (by omega)
    have hLT : T.log2 = n.log2 + k := by
      rw [Nat.log2_eq_iff hT0, hT]
      refine ⟨?_, ?_⟩
      · rw [Nat.pow_add]
        exact Nat.mul_le_mul_right _ (Nat.log2_self_le hn0)
      · rw [show n.log2 + k + 1 = (n.log2 + 1) + k from by omega, Nat.pow_add]
        exact Nat.mul_lt_mul_of_pos_right Nat.lt_log2_self (Nat.two_pow_pos _)
    obtain ⟨e, he⟩ : ∃ e, T.log2 = 52 + e := ⟨T.log2 - 52, by omega⟩
    obtain ⟨d, hd⟩ : ∃ d, k = e + d := ⟨k - e, by omega⟩
    have hM : T = (n * 2 ^ d) * 2 ^ e := by
      rw [hT, hd, Nat.add_comm e d, Nat.pow_add, Nat.mul_assoc]
    have h1 : 2 ^ 52 * 2 ^ e ≤ (n * 2 ^ d) * 2 ^ e := by
      rw [← hM, ← Nat.pow_add, ← he]
      exact Nat.log2_self_le hT0
    have h2 : (n * 2 ^ d) * 2 ^ e < 2 ^ 53 * 2 ^ e := by
      rw [← hM, ← Nat.pow_add, show 53 + e = T.log2 + 1 from by omega]
      exact Nat.lt_log2_self
    have h3 := Nat.le_of_mul_le_mul_right h1 (Nat.two_pow_pos _)
    have h4 := Nat.lt_of_mul_lt_mul_right h2
    obtain ⟨M, hMM⟩ : ∃ M, M = n * 2 ^ d := ⟨_, rfl⟩
    rw [← hMM] at h3 h4 hM
    have h3' : 4503599627370496 ≤ M := h3
    have h4' : M < 9007199254740992 := h4
    refine ⟨e * 4503599627370496 + M, by omega, ?_⟩
    have x1 : ex (e * 4503599627370496 + M) = e := by unfold ex; omega
    have x2 : mant (e * 4503599627370496 + M) = M := by
      unfold mant
      rw [if_neg (by omega)]
      omega
    unfold V
    rw [x1, x2, hM]

/-! ### Writing what has a word -/

theorem cut_exact (way : Toward) (s : Bool) (m k : Nat) : way.cut s (m * 2 ^ k) k = m := by
  unfold Toward.cut
  by_cases hm : m = 0
  · subst hm
    simp
    cases way <;> simp
    all_goals try
      have : 0 < 1 <<< min k (Nat.log2 0 + 2) := by rw [Nat.one_shiftLeft]; exact Nat.two_pow_pos _
      omega
  · have hne : m * 2 ^ k ≠ 0 := Nat.mul_ne_zero hm (Nat.ne_of_gt (Nat.two_pow_pos _))
    have hk : k ≤ (m * 2 ^ k).log2 := (Nat.le_log2 hne).2 (Nat.le_mul_of_pos_left _ (by omega))
    rw [show min k ((m * 2 ^ k).log2 + 2) = k from by omega, Nat.one_shiftLeft]
    have hp := Nat.two_pow_pos k
    simp only [Nat.mul_div_cancel m hp, Nat.mul_mod_left]
    cases way <;> simp

theorem min_word {a c r : Nat} (h : r = a) (h' : r < c) : min a c = r := by
  rw [← h]
  exact Nat.min_eq_left (Nat.le_of_lt h')

theorem nearest_exact (s : Bool) {m a r : Nat} (hr : r < 9218868437227405312) (h : m * 2 ^ a = V r) : double.nearest s m (-1074 + (a : Int)) = W s r := by
  unfold Format.nearest
  have hword : ∀ x, double.word s x = W s x := fun x => by
    unfold Format.word W
    rw [d_sign]
  by_cases hm : m = 0
  · subst hm
    rw [if_pos rfl, hword]
    simp at h
    rw [V_eq_zero.1 h.symm]
  · rw [if_neg hm]
    have hr0 : r ≠ 0 := by
      intro e
      subst e
      rw [V_zero] at h
      rcases Nat.mul_eq_zero.1 h with h | h
      · exact hm h
      · exact absurd h (Nat.ne_of_gt (Nat.two_pow_pos _))
    have c52 : ((52 : Nat) : Int) = 52 := rfl
    simp only [d_least, d_frac, d_bin, d_inf, hword, c52]
    have hma : m * 2 ^ a ≠ 0 := Nat.mul_ne_zero hm (Nat.ne_of_gt (Nat.two_pow_pos _))
    have hlog : (m * 2 ^ a).log2 = m.log2 + a := by
      rw [Nat.log2_eq_iff hma]
      refine ⟨?_, ?_⟩
      · rw [Nat.pow_add]
        exact Nat.mul_le_mul_right _ (Nat.log2_self_le hm)
      · rw [show m.log2 + a + 1 = (m.log2 + 1) + a from by omega, Nat.pow_add]
        exact Nat.mul_lt_mul_of_pos_right Nat.lt_log2_self (Nat.two_pow_pos _)
    by_cases hs : r < 4503599627370496
    · have hV : V r = r := by
        unfold V mant
        rw [ex_sub hs, if_pos hs]
        simp
      rw [hV] at h
      have hl : m.log2 + a < 52 := by
        rw [← hlog, Nat.log2_lt hma, h]
        omega
      rw [show max (-1074 + (a : Int) + (m.log2 : Int) - 52) (-1074) = -1074 from by omega]
      rw [show (-1074 + (a : Int) - -1074).toNat = a from by omega, show (-1074 - (-1074 + (a : Int))).toNat = 0 from by omega, show ((-1074 : Int) - -1074).toNat = 0 from by omega]
      rw [Nat.shiftLeft_eq, h]
      have := cut_exact .even s r 0
      simp only [Nat.pow_zero, Nat.mul_one] at this
      rw [this]
      rw [show min (0 * 4503599627370496 + r) 9218868437227405312 = r from by omega]
    · have hs' : 4503599627370496 ≤ r := by omega
      have m1 := mant_lt r
      have m2 := mant_ge hs'
      have hne : mant r ≠ 0 := by omega
      have hlr : (V r).log2 = 52 + ex r := by
        have : V r ≠ 0 := by rw [← h]; exact hma
        rw [Nat.log2_eq_iff this]
        unfold V
        refine ⟨?_, ?_⟩
        · rw [Nat.pow_add]
          exact Nat.mul_le_mul_right _ (by omega)
        · rw [show 52 + ex r + 1 = 53 + ex r from by omega, Nat.pow_add]
          exact Nat.mul_lt_mul_of_pos_right (by omega) (Nat.two_pow_pos _)
      have hle : m.log2 + a = 52 + ex r := by rw [← hlog, h, hlr]
      have he := ex_lt hr
      rw [show max (-1074 + (a : Int) + (m.log2 : Int) - 52) (-1074) = -1074 + (ex r : Int) from by omega]
      rw [show (-1074 + (ex r : Int) - -1074).toNat = ex r from by omega]
      rw [show (-1074 + (a : Int) - (-1074 + (ex r : Int))).toNat = a - ex r from by omega, show (-1074 + (ex r : Int) - (-1074 + (a : Int))).toNat = ex r - a from by omega]
      have hcut : Toward.even.cut s (m <<< (a - ex r)) (ex r - a) = mant r := by
        rw [Nat.shiftLeft_eq]
        by_cases hae : ex r ≤ a
        · obtain ⟨d, hd⟩ : ∃ d, a = ex r + d := ⟨a - ex r, by omega⟩
          have : m * 2 ^ d = mant r := by
            apply Nat.eq_of_mul_eq_mul_right (Nat.two_pow_pos (ex r))
            rw [Nat.mul_assoc, ← Nat.pow_add, Nat.add_comm d, ← hd, h]
            rfl
          rw [show a - ex r = d from by omega, show ex r - a = 0 from by omega, this]
          have := cut_exact .even s (mant r) 0
          simp only [Nat.pow_zero, Nat.mul_one] at this
          exact this
        · obtain ⟨d, hd⟩ : ∃ d, ex r = a + d := ⟨ex r - a, by omega⟩
          have : m = mant r * 2 ^ d := by
            apply Nat.eq_of_mul_eq_mul_right (Nat.two_pow_pos a)
            rw [h, Nat.mul_assoc, ← Nat.pow_add, Nat.add_comm d, ← hd]
            rfl
          rw [show a - ex r = 0 from by omega, show ex r - a = d from by omega, this]
          simp only [Nat.pow_zero, Nat.mul_one]
          exact cut_exact .even s (mant r) d
      rw [hcut]
      have hw := word_of hs'
      rw [min_word hw hr]

/-! ### Order -/

theorem signed_sg (s : Bool) (m k : Nat) : signed s m k = sg s (m * 2 ^ k) := by
  unfold signed sg
  rw [Nat.shiftLeft_eq]

theorem sg_mul (s : Bool) (m k : Nat) : sg s (m * k) = sg s m * (k : Int) := by
  unfold sg
  cases s
  · simp
  · simp
    rw [Int.neg_mul]

theorem compare_scale (u v : Int) {k : Nat} (hk : 0 < k) : compare (u * (k : Int)) (v * (k : Int)) = compare u v := by
  have hk' : (0 : Int) < k := by omega
  have h1 : u * (k : Int) < v * (k : Int) ↔ u < v := ⟨fun h => Int.lt_of_mul_lt_mul_right h (by omega), fun h => Int.mul_lt_mul_of_pos_right h hk'⟩
  have h2 : u * (k : Int) = v * (k : Int) ↔ u = v := ⟨fun h => Int.eq_of_mul_eq_mul_right (by omega) h, fun h => by rw [h]⟩
  simp only [compare, compareOfLessAndEq, h1, h2]

theorem order_fin (s t : Bool) {a b : Nat} (ha : a < 9218868437227405312) (hb : b < 9218868437227405312) :
    double.order (W s a) (W t b) = some (compare (sg s (V a)) (sg t (V b))) := by
  unfold Format.order
  rw [read_W s ha, read_W t hb]
  simp only [Datum.order]
  congr 1
  obtain ⟨c, hc⟩ : ∃ c, c = min (ex a) (ex b) := ⟨_, rfl⟩
  rw [show min (-1074 + (ex a : Int)) (-1074 + (ex b : Int)) = -1074 + (c : Int) from by omega]
  rw [show (-1074 + (ex a : Int) - (-1074 + (c : Int))).toNat = ex a - c from by omega, show (-1074 + (ex b : Int) - (-1074 + (c : Int))).toNat = ex b - c from by omega]
  rw [signed_sg, signed_sg]
  have e1 : V a = mant a * 2 ^ (ex a - c) * 2 ^ c := by
    unfold V
    rw [Nat.mul_assoc, ← Nat.pow_add, show ex a - c + c = ex a from by omega]
  have e2 : V b = mant b * 2 ^ (ex b - c) * 2 ^ c := by
    unfold V
    rw [Nat.mul_assoc, ← Nat.pow_add, show ex b - c + c = ex b from by omega]
  rw [e1, e2, sg_mul s _ (2 ^ c), sg_mul t _ (2 ^ c), compare_scale _ _ (Nat.two_pow_pos c)]

theorem order_lt (s t : Bool) {a b : Nat} (ha : a < 9218868437227405312) (hb : b < 9218868437227405312) :
    (double.order (W s a) (W t b) == some .lt) = decide (sg s (V a) < sg t (V b)) := by
  rw [order_fin s t ha hb, Bool.eq_iff_iff]
  simp only [compare, compareOfLessAndEq]
  by_cases h : sg s (V a) < sg t (V b)
  · simp [h]
  · rw [if_neg h]
    by_cases h' : sg s (V a) = sg t (V b)
    · rw [if_pos h']
      simp [h]
    · rw [if_neg h']
      simp [h]

theorem order_gt (s t : Bool) {a b : Nat} (ha : a < 9218868437227405312) (hb : b < 9218868437227405312) :
    (double.order (W s a) (W t b) == some .gt) = decide (sg t (V b) < sg s (V a)) := by
  rw [order_fin s t ha hb, Bool.eq_iff_iff]
  simp only [compare, compareOfLessAndEq]
  by_cases h : sg s (V a) < sg t (V b)
  · rw [if_pos h]
    simp
    omega
  · rw [if_neg h]
    by_cases h' : sg s (V a) = sg t (V b)
    · rw [if_pos h']
      simp
      omega
    · rw [if_neg h']
      simp
      omega

theorem order_eq (s t : Bool) {a b : Nat} (ha : a < 9218868437227405312) (hb : b < 9218868437227405312) :
    (double.order (W s a) (W t b) == some .eq) = decide (sg s (V a) = sg t (V b)) := by
  rw [order_fin s t ha hb, Bool.eq_iff_iff]
  simp only [compare, compareOfLessAndEq]
  by_cases h : sg s (V a) < sg t (V b)
  · rw [if_pos h]
    simp
    omega
  · rw [if_neg h]
    by_cases h' : sg s (V a) = sg t (V b)
    · rw [if_pos h']
      simp [h']
    · rw [if_neg h']
      simp [h']

/-! ### Sums -/

theorem sum_fin (s t : Bool) {a b q : Nat} (ha : a < 9218868437227405312) (hb : b < 9218868437227405312) (hq : q < 9218868437227405312) (z : Bool)
    (h : sg s (V a) + sg t (V b) = sg z (V q)) (hz : q = 0 → z = (s && t)) :
    (((double.read (W s a)).sum (double.read (W t b))).map double.write) = some (W z q) := by
  rw [read_W s ha, read_W t hb]
  simp only [Datum.sum, Option.map_some, Format.write]
  congr 1
  obtain ⟨c, hc⟩ : ∃ c, c = min (ex a) (ex b) := ⟨_, rfl⟩
  rw [show min (-1074 + (ex a : Int)) (-1074 + (ex b : Int)) = -1074 + (c : Int) from by omega]
  rw [show (-1074 + (ex a : Int) - (-1074 + (c : Int))).toNat = ex a - c from by omega, show (-1074 + (ex b : Int) - (-1074 + (c : Int))).toNat = ex b - c from by omega]
  rw [signed_sg, signed_sg]
  have e1 : V a = mant a * 2 ^ (ex a - c) * 2 ^ c := by
    unfold V
    rw [Nat.mul_assoc, ← Nat.pow_add, show ex a - c + c = ex a from by omega]
  have e2 : V b = mant b * 2 ^ (ex b - c) * 2 ^ c := by
    unfold V
    rw [Nat.mul_assoc, ← Nat.pow_add, show ex b - c + c = ex b from by omega]
  obtain ⟨t1, ht1⟩ : ∃ t1, t1 = sg s (mant a * 2 ^ (ex a - c)) + sg t (mant b * 2 ^ (ex b - c)) := ⟨_, rfl⟩
  rw [← ht1]
  have hsum : t1 * ((2 ^ c : Nat) : Int) = sg z (V q) := by
    rw [← h, e1, e2, sg_mul s _ (2 ^ c), sg_mul t _ (2 ^ c), ht1, Int.add_mul]
  have hp : (0 : Int) < ((2 ^ c : Nat) : Int) := by
    have := Nat.two_pow_pos c
    omega
  have habs : t1.natAbs * 2 ^ c = V q := by
    have := congrArg Int.natAbs hsum
    rw [Int.natAbs_mul, Int.natAbs_natCast] at this
    rw [this]
    unfold sg
    cases z <;> simp
  have hsign : (if t1 = 0 then (s && t) else decide (t1 < 0)) = z := by
    by_cases h0 : t1 = 0
    · rw [if_pos h0]
      rw [h0] at habs
      simp at habs
      exact (hz (V_eq_zero.1 habs.symm)).symm
    · rw [if_neg h0]
      have hV : 0 < V q := by
        rw [← habs]
        exact Nat.mul_pos (by omega) (Nat.two_pow_pos c)
      have hVi : (0 : Int) < (V q : Int) := by omega
      unfold sg at hsum
      cases z
      · simp only [Bool.false_eq_true, if_false] at hsum
        have : ¬ t1 < 0 := by
          intro hneg
          have := Int.mul_neg_of_neg_of_pos hneg hp
          omega
        simp [this]
      · simp only [if_true] at hsum
        have : t1 < 0 := by
          rcases Int.lt_or_le t1 0 with h1 | h1
          · exact h1
          · have := Int.mul_nonneg h1 (Int.le_of_lt hp)
            omega
        simp [this]
  rw [hsign]
  exact nearest_exact z hq habs

theorem add_fin (s t z : Bool) {a b q : Nat} (ha : a < 9218868437227405312) (hb : b < 9218868437227405312) (hq : q < 9218868437227405312)
    (h : sg s (V a) + sg t (V b) = sg z (V q)) (hz : q = 0 → z = (s && t)) : double.add (W s a) (W t b) = some (W z q) :=
  sum_fin s t ha hb hq z h hz

theorem sub_fin (s t z : Bool) {a b q : Nat} (ha : a < 9218868437227405312) (hb : b < 9218868437227405312) (hq : q < 9218868437227405312)
    (h : sg s (V a) - sg t (V b) = sg z (V q)) (hz : q = 0 → z = (s && !t)) : double.sub (W s a) (W t b) = some (W z q) := by
  have e : (double.read (W t b)).opposite = double.read (W (!t) b) := by
    rw [read_W t hb, read_W (!t) hb]
    rfl
  unfold Format.sub
  rw [e]
  refine sum_fin s (!t) ha hb hq z ?_ hz
  rw [← h]
  unfold sg
  cases s <;> cases t <;> simp <;> omega

/-! ### Whole parts -/

/-- The whole part of a finite word without a sign. -/
def whole (r : Nat) : Nat := V r / one

theorem cut_zero (s : Bool) (n k : Nat) : Toward.zero.cut s n k = n / 2 ^ k := by
  unfold Toward.cut
  simp only [Bool.toNat_false, Nat.add_zero, Nat.one_shiftLeft]
  by_cases h : k ≤ n.log2 + 2
  · rw [show min k (n.log2 + 2) = k from by omega]
  · rw [show min k (n.log2 + 2) = n.log2 + 2 from by omega]
    have h1 : n < 2 ^ (n.log2 + 2) := Nat.lt_of_lt_of_le Nat.lt_log2_self (Nat.pow_le_pow_right (by omega) (by omega))
    have h2 : n < 2 ^ k := Nat.lt_of_lt_of_le h1 (Nat.pow_le_pow_right (by omega) (by omega))
    rw [Nat.div_eq_of_lt h1, Nat.div_eq_of_lt h2]

theorem cut_whole (s : Bool) {r : Nat} (_h : r < 9218868437227405312) :
    Toward.zero.cut s (mant r <<< (-1074 + (ex r : Int)).toNat) (-(-1074 + (ex r : Int))).toNat = whole r := by
  rw [cut_zero, Nat.shiftLeft_eq]
  unfold whole V one
  have hk := kOne_eq
  by_cases he : kOne ≤ ex r
  · obtain ⟨d, hd⟩ : ∃ d, ex r = kOne + d := ⟨ex r - kOne, by omega⟩
    rw [show (-1074 + (ex r : Int)).toNat = d from by omega, show (-(-1074 + (ex r : Int))).toNat = 0 from by omega, hd, Nat.pow_zero, Nat.div_one, Nat.pow_add, Nat.mul_comm (2 ^ kOne), ← Nat.mul_assoc, Nat.mul_div_cancel _ (Nat.two_pow_pos _)]
  · obtain ⟨d, hd⟩ : ∃ d, kOne = ex r + d := ⟨kOne - ex r, by omega⟩
    rw [show (-1074 + (ex r : Int)).toNat = 0 from by omega, show (-(-1074 + (ex r : Int))).toNat = d from by omega, hd, Nat.pow_zero, Nat.mul_one, Nat.pow_add, Nat.mul_comm (2 ^ ex r) (2 ^ d), Nat.mul_div_mul_right _ _ (Nat.two_pow_pos _)]

theorem toInt_fin (s : Bool) {r : Nat} (h : r < 9218868437227405312) : (double.read (W s r)).toInt .zero = some (sg s (whole r)) := by
  rw [read_W s h]
  simp only [Datum.toInt, Datum.integral]
  rw [cut_whole s h, signed_sg, Nat.pow_zero, Nat.mul_one]

theorem int_rep (n : Nat) (h : n < 9007199254740992) : ∃ q, q < 9218868437227405312 ∧ V q = n * one := by
  refine rep n kOne h ?_
  have : n * 2 ^ kOne < 2 ^ 53 * 2 ^ kOne := Nat.mul_lt_mul_of_pos_right h (Nat.two_pow_pos _)
  rw [← Nat.pow_add] at this
  have hk := kOne_eq
  have hk' := kTop_eq
  exact Nat.lt_of_lt_of_le this (Nat.pow_le_pow_right (by omega) (by omega))

theorem whole_rep {r : Nat} (h : r < 9218868437227405312) : ∃ q, q < 9218868437227405312 ∧ V q = whole r * one := by
  unfold whole
  have hk := kOne_eq
  by_cases he : kOne ≤ ex r
  · refine ⟨r, h, ?_⟩
    obtain ⟨d, hd⟩ : ∃ d, ex r = kOne + d := ⟨ex r - kOne, by omega⟩
    have : V r = mant r * 2 ^ d * one := by
      unfold V one
      rw [hd, Nat.mul_assoc, ← Nat.pow_add, Nat.add_comm d]
    rw [this, Nat.mul_div_cancel _ one_pos]
  · obtain ⟨d, hd⟩ : ∃ d, kOne = ex r + d := ⟨kOne - ex r, by omega⟩
    have hm := mant_lt r
    have e : V r / one = mant r / 2 ^ d := by
      unfold V one
      rw [hd, Nat.pow_add, Nat.mul_comm (2 ^ ex r) (2 ^ d), Nat.mul_div_mul_right _ _ (Nat.two_pow_pos _)]
    have h1 : mant r / 2 ^ d < 9007199254740992 := Nat.lt_of_le_of_lt (Nat.div_le_self _ _) hm
    rw [e]
    exact int_rep _ h1

theorem trunc_word (s : Bool) {r q : Nat} (h : r < 9218868437227405312) (hq : q < 9218868437227405312) (hV : V q = whole r * one) :
    double.write ((double.read (W s r)).integral .zero) = W s q := by
  rw [read_W s h]
  simp only [Datum.integral, Format.write]
  rw [cut_whole s h]
  have := nearest_exact s (m := whole r) (a := kOne) hq (by rw [hV]; rfl)
  rw [kOne_eq] at this
  simpa using this

/-! ### Whole numbers as words -/

theorem nearest_int (n : Int) (h : n.natAbs < 9007199254740992) : ∃ q, q < 9218868437227405312 ∧ V q = n.natAbs * one ∧ FloatKind.f64.nearest n = W (decide (n < 0)) q := by
  obtain ⟨q, hq, hV⟩ := int_rep n.natAbs h
  refine ⟨q, hq, hV, ?_⟩
  have := nearest_exact (decide (n < 0)) (m := n.natAbs) (a := kOne) hq (by rw [hV]; rfl)
  rw [kOne_eq] at this
  have e : FloatKind.f64.nearest n = double.nearest (decide (n < 0)) n.natAbs 0 := rfl
  rw [e]
  simpa using this
end Go.Proofs.YtmfbgoikekmdkaaDoor
