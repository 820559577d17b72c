/-
  The law FnNumberText at every word and base.
-/
import Derived.Test.YtmfbgoikekmdkaaDoorLaw
namespace Go.Proofs.YtmfbgoikekmdkaaDoor
open Go Go.Proofs Go.RowKit Go.Lib Go.Sort Ieee

theorem is32_sign {s : Bool} {r : Nat} {i : Int} (h : Is32 s r i) : (i = 0 ∧ r = 0) ∨ (0 < i ∧ s = false) ∨ (i < 0 ∧ s = true) := by
  obtain ⟨hr, hV, hsg, _, _⟩ := h
  rcases Int.lt_trichotomy i 0 with h | h | h
  · right; right
    refine ⟨h, ?_⟩
    cases s
    · unfold sg at hsg
      simp at hsg
      omega
    · rfl
  · left
    refine ⟨h, ?_⟩
    subst h
    rw [Int.natAbs_zero, Nat.zero_mul] at hV
    exact V_eq_zero.1 hV
  · right; left
    refine ⟨h, ?_⟩
    cases s
    · rfl
    · unfold sg at hsg
      simp at hsg
      omega

theorem itoa_pos {i : Int} (h : 0 ≤ i) : itoa i = decDigits i.natAbs := by
  unfold itoa
  rw [if_neg (by omega)]
  congr 1
  omega

theorem itoa_below {i : Int} (h : i < 0) : itoa i = 45 :: decDigits i.natAbs := by
  unfold itoa
  rw [if_pos h]

theorem dec_zero : decDigits 0 = [48] := by
  rw [decDigits, dif_pos (by decide)]
  rfl

theorem spec_is (s : Bool) (r : Nat) (i : Int) (h : Is32 s r i) (w : World) (ht : Tabs w) :
    Calls Tryd.prog 10 #[.float .f64 (W s r)] w fun e w' => e = .returned (.tuple #[.string ⟨(itoa i).toArray⟩, .bool true]) ∧ Below w.heap.size w w' := by
  have hs := is32_sign h
  obtain ⟨hr, hV, hsg, h1, h2⟩ := h
  rcases hs with ⟨rfl, rfl⟩ | ⟨hi, rfl⟩ | ⟨hi, rfl⟩
  · rw [itoa_pos (by decide), show (0 : Int).natAbs = 0 from rfl, dec_zero]
    refine (spec_zero s w).mono ?_
    rintro e w' ⟨rfl, rfl⟩
    exact ⟨rfl, Below.refl _ _⟩
  · rw [itoa_pos (by omega)]
    exact spec_pos i.natAbs r (by omega) (by omega) hr hV w ht.big ht.p10
  · rw [itoa_below hi]
    exact spec_neg i.natAbs r (by omega) (by omega) hr hV w ht.big ht.p10

theorem radix_is (s : Bool) (r : Nat) (i : Int) (h : Is32 s r i) (b : Nat) (hb1 : 2 ≤ b) (hb2 : b ≤ 36) (w : World) :
    Calls Tryd.prog 13 #[.float .f64 (W s r), .int .i64 b] w fun e w' => e = .returned (.string ⟨(radI b i).toArray⟩) ∧ w = w' := by
  have hs := is32_sign h
  obtain ⟨hr, hV, hsg, h1, h2⟩ := h
  rcases hs with ⟨rfl, rfl⟩ | ⟨hi, rfl⟩ | ⟨hi, rfl⟩
  · have e : radI b 0 = rad b 0 := by
      unfold radI
      rw [if_neg (by decide)]
      rfl
    rw [e]
    cases s
    · exact radix_pos 0 b 0 (by omega) hb1 hb2 hr (by rw [V_zero, Nat.zero_mul]) w
    · exact radix_nzero b hb1 hb2 w
  · have e : radI b i = rad b i.natAbs := by
      unfold radI
      rw [if_neg (by omega)]
    rw [e]
    exact radix_pos i.natAbs b r (by omega) hb1 hb2 hr hV w
  · have e : radI b i = 45 :: rad b i.natAbs := by
      unfold radI
      rw [if_pos hi]
    rw [e]
    exact radix_neg i.natAbs b r (by omega) (by omega) hb1 hb2 hr hV w

theorem law_is (B : Int) (s : Bool) (r : Nat) (i : Int) (h : Is32 s r i) (b : Nat) (hb1 : 2 ≤ b) (hb2 : b ≤ 36) (hx : B.toNat = W s r) (w : World) (ht : Tabs w) :
    Calls Tryd.prog 4 #[.int .u64 B, .int .i64 b] w fun e w' => e = .returned (.bool true) ∧ Below w.heap.size w w' := by
  have h8 := impl_any B b _ _ w (by rw [hx]; exact try_yes s r i h b hb1 hb2 w ht)
  by_cases h10 : b = 10
  · subst h10
    rw [radI_ten] at h8
    exact law_ten B (W s r) _ w hx ht h8 fun w ht => spec_is s r i h w ht
  · have hr := h.1
    have hV := h.2.1
    have hw := whole_of hV
    have hn : i.natAbs ≤ 2147483648 := by
      have := h.2.2.2.1
      have := h.2.2.2.2
      omega
    refine law_rad B (W s r) r b _ _ w hx hb1 hb2 h10 ht h8 (fun w ht => spec_is s r i h w ht) (fun w => trunc_any _ _ w w (trunc_run s hr hr (by rw [hw]; exact hV) w)) (order_self s hr) (fun w => abs_any s r (by omega) w) (abs_small hr hV hn).1 (abs_small hr hV hn).2 (fun w => radix_is s r i h b hb1 hb2 w)

theorem law_none32 (B : Int) (s : Bool) (r : Nat) (hr : r < 9218868437227405312) (h : ¬ ∃ i, Is32 s r i) (b : Nat) (hb1 : 2 ≤ b) (hb2 : b ≤ 36) (hx : B.toNat = W s r) (w : World) (ht : Tabs w) :
    Calls Tryd.prog 4 #[.int .u64 B, .int .i64 b] w fun e w' => e = .returned (.bool true) ∧ Below w.heap.size w w' := by
  have h17 := try_other (W s r) false false false (b : Int) w (fun i h1 h2 => by
    rw [eq_only s hr h1 h2, decide_eq_false_iff_not]
    rintro ⟨e1, e2⟩
    have e3 : i.natAbs = whole r := by rw [← e2, natAbs_sg]
    exact h ⟨i, hr, by rw [e3]; exact e1, by rw [e3]; exact e2, h1, h2⟩) (fun w => isNaN_fin s hr w) (fun w => isInf_fin s hr w) (fun w => isInfN_fin s hr w)
  exact law_none B b _ w hb1 hb2 ht (impl_any B b (.string ⟨#[]⟩) (.bool false) w (by rw [hx]; exact h17))

theorem law_infs (B : Int) (s : Bool) (b : Nat) (hb1 : 2 ≤ b) (hb2 : b ≤ 36) (hx : B.toNat = W s 9218868437227405312) (w : World) (ht : Tabs w) :
    Calls Tryd.prog 4 #[.int .u64 B, .int .i64 b] w fun e w' => e = .returned (.bool true) ∧ Below w.heap.size w w' := by
  have h17 := try_other (W s 9218868437227405312) false (!s) s (b : Int) w (fun i h1 h2 => eq_inf s h1 h2) (fun w => isNaN_inf s w) (fun w => isInf_inf s w) (fun w => isInfN_inf s w)
  have h17' : Calls Tryd.prog 17 #[.float .f64 (W s 9218868437227405312), .int .i64 b] w fun e w' => e = .returned (.tuple #[.string (infB s), .bool true]) ∧ Below w.heap.size w w' := by
    cases s
    · exact h17
    · exact h17
  have h8 := impl_any B b _ _ w (by rw [hx]; exact h17')
  have hs : ∀ w, Tabs w → Calls Tryd.prog 10 #[.float .f64 (W s 9218868437227405312)] w fun e w' => e = .returned (.tuple #[.string (infB s), .bool true]) ∧ Below w.heap.size w w' := fun w _ => by
    refine (spec_inf s w).mono ?_
    rintro e w' ⟨rfl, rfl⟩
    exact ⟨rfl, Below.refl _ _⟩
  by_cases h10 : b = 10
  · subst h10
    exact law_ten B _ _ w hx ht h8 hs
  · exact law_inf B _ _ b _ _ w hx hb1 hb2 h10 ht h8 hs (fun w => trunc_any _ _ w w (trunc_inf s w)) (inf_self s) (fun w => abs_any s _ (by omega) w) inf_big

theorem law_nans (B : Int) (s : Bool) (r : Nat) (h : 9218868437227405312 < r) (h' : r < 9223372036854775808) (b : Nat) (hb1 : 2 ≤ b) (hb2 : b ≤ 36) (hx : B.toNat = W s r) (w : World) (ht : Tabs w) :
    Calls Tryd.prog 4 #[.int .u64 B, .int .i64 b] w fun e w' => e = .returned (.bool true) ∧ Below w.heap.size w w' := by
  have hn : ∀ y, (FloatKind.f64.format.order (W s r) y == some Ordering.gt) = false := fun y => by rw [nan_any s h h']; rfl
  have hneg : ∀ w, Calls Tryd.prog 19 #[.float .f64 (W s r), .int .i64 (-1)] w fun e w' => e = .returned (.bool false) ∧ w = w' := fun w => by
    have := isInf_neg (W s r) _ w (neg_W s h')
    rwa [nan_any _ h h'] at this
  have hpos : ∀ w, Calls Tryd.prog 19 #[.float .f64 (W s r), .int .i64 1] w fun e w' => e = .returned (.bool false) ∧ w = w' := fun w => by
    have := isInf_pos (W s r) w
    rwa [hn] at this
  have h17 := try_other (W s r) true false false (b : Int) w (fun i h1 h2 => eq_nan s h h' h1 h2) (fun w => isNaN_nan s h h' w) hpos hneg
  have h8 := impl_any B b (.string ⟨#[78, 97, 78]⟩) (.bool true) w (by rw [hx]; exact h17)
  have hs : ∀ w, Tabs w → Calls Tryd.prog 10 #[.float .f64 (W s r)] w fun e w' => e = .returned (.tuple #[.string ⟨#[78, 97, 78]⟩, .bool true]) ∧ Below w.heap.size w w' := fun w _ => by
    refine (spec_nan s h h' w).mono ?_
    rintro e w' ⟨rfl, rfl⟩
    exact ⟨rfl, Below.refl _ _⟩
  by_cases h10 : b = 10
  · subst h10
    exact law_ten B _ _ w hx ht h8 hs
  · refine law_nan B _ b _ _ w hx hb1 hb2 h10 ht h8 hs fun w => ?_
    obtain ⟨y, w1, hrun, hb⟩ := trunc_nan s h h' w
    refine ⟨y, by rw [nan_any s h h']; rfl, (trunc_any _ _ w w1 hrun).mono ?_⟩
    rintro e w' ⟨rfl, rfl⟩
    exact ⟨rfl, hb⟩

/-- THE LAW, at every input. -/
theorem law_all (B R : Int) (hB0 : 0 ≤ B) (hB1 : B < 18446744073709551616) (w : World) (ht : Tabs w) :
    Calls Tryd.prog 4 #[.int .u64 B, .int .i64 R] w fun e w' => e = .returned (.bool true) ∧ Below w.heap.size w w' := by
  by_cases hR : R < 2 ∨ 36 < R
  · exact law_out B R w hR
  · obtain ⟨b, rfl⟩ : ∃ b : Nat, R = (b : Int) := ⟨R.toNat, by omega⟩
    have hb1 : 2 ≤ b := by omega
    have hb2 : b ≤ 36 := by omega
    obtain ⟨s, r, hx, hr⟩ := W_cases B.toNat (by omega)
    rcases Nat.lt_trichotomy r 9218868437227405312 with h | h | h
    · by_cases hI : ∃ i, Is32 s r i
      · obtain ⟨i, hi⟩ := hI
        exact law_is B s r i hi b hb1 hb2 hx w ht
      · exact law_none32 B s r h hI b hb1 hb2 hx w ht
    · subst h
      exact law_infs B s b hb1 hb2 hx w ht
    · exact law_nans B s r h hr b hb1 hb2 hx w ht
end Go.Proofs.YtmfbgoikekmdkaaDoor
