/-
  The walks of package math's functions that FnNumberText reaches, and what the conversions between numbers answer.
-/
import Derived.Test.YtmfbgoikekmdkaaDoorFmt
import Derived.Laws.Externs
import Derived.Laws.BitsAllLaws
namespace Go.Proofs.YtmfbgoikekmdkaaDoor
open Go Go.Proofs Go.RowKit Ieee

@[go_sem] theorem run_f64bits (x : Nat) (w : World) : (callFunc 9 #[.float .f64 x]).run Tryd.prog w = .ok (.value (.int .u64 x)) w := by
  rw [run_callFunc_extern Tryd.func9 (by kernel_rfl) (by kernel_rfl) (by kernel_rfl) (e := Extern.MathFloatBits.float64bits) (by kernel_rfl)]
  rfl
@[go_sem] theorem run_f64from (n : Int) (w : World) : (callFunc 7 #[.int .u64 n]).run Tryd.prog w = .ok (.value (.float .f64 n.toNat)) w := by
  rw [run_callFunc_extern Tryd.func7 (by kernel_rfl) (by kernel_rfl) (by kernel_rfl) (e := Extern.MathFloatBits.float64frombits) (by kernel_rfl)]
  rfl
@[go_sem] theorem run_archTrunc_fin (x : Nat) (w : World) : (callFunc 23 #[.float .f64 x]).run Tryd.prog w = ((Extern.MathFloor.toIntegral "math.archTrunc" .zero #[.float .f64 x]).run Tryd.prog w).andThen fun v w' => .ok (.value v) w' := by
  rw [run_callFunc_extern Tryd.func23 (by kernel_rfl) (by kernel_rfl) (by kernel_rfl) (e := Extern.MathFloor.toIntegral "math.archTrunc" .zero) (by kernel_rfl)]

theorem f64_format : FloatKind.f64.format = double := rfl

theorem W_false (r : Nat) : W false r = r := rfl

theorem abs_bits (s : Bool) {r : Nat} (h : r < 9223372036854775808) : bits .andNot .u64 ((W s r : Nat) : Int) 9223372036854775808 = (r : Int) := by
  have hw : W s r < 18446744073709551616 := by
    unfold W
    split <;> omega
  have := u64_andNot_nat (W s r) 9223372036854775808 hw (by omega)
  rw [show ((9223372036854775808 : Nat) : Int) = 9223372036854775808 from rfl] at this
  rw [this]
  have e : W s r &&& (18446744073709551615 - 9223372036854775808) = W s r % 9223372036854775808 := Nat.and_two_pow_sub_one_eq_mod _ 63
  rw [e]
  have : W s r % 9223372036854775808 = r := by
    unfold W
    split <;> omega
  rw [this]

theorem abs_any (s : Bool) (r : Nat) (h : r < 9223372036854775808) (w : World) : Calls Tryd.prog 12 #[.float .f64 (W s r)] w fun e w' => e = .returned (.float .f64 r) ∧ w = w' := by
  have hb := abs_bits s h
  go_enter Tryd.func12, Tryd.ntmps12
  go_wp2
  go_ret
  exact ⟨rfl, rfl⟩

theorem isNaN_any (x : Nat) (w : World) : Calls Tryd.prog 18 #[.float .f64 x] w fun e w' => e = .returned (.bool (FloatKind.f64.format.order x x != some Ordering.eq)) ∧ w = w' := by
  go_enter Tryd.func18, Tryd.ntmps18
  go_wp2
  go_ret
  exact ⟨rfl, rfl⟩

theorem isNaN_fin (s : Bool) {r : Nat} (h : r < 9218868437227405312) (w : World) : Calls Tryd.prog 18 #[.float .f64 (W s r)] w fun e w' => e = .returned (.bool false) ∧ w = w' := by
  have := isNaN_any (W s r) w
  rw [f64_format, bne, order_eq s s h h] at this
  simpa using this

theorem isNaN_inf (s : Bool) (w : World) : Calls Tryd.prog 18 #[.float .f64 (W s 9218868437227405312)] w fun e w' => e = .returned (.bool false) ∧ w = w' := by
  have := isNaN_any (W s 9218868437227405312) w
  have e : (double.order (W s 9218868437227405312) (W s 9218868437227405312) != some Ordering.eq) = false := by cases s <;> decide
  rw [f64_format, e] at this
  exact this

theorem isNaN_nan (s : Bool) {r : Nat} (h : 9218868437227405312 < r) (h' : r < 9223372036854775808) (w : World) : Calls Tryd.prog 18 #[.float .f64 (W s r)] w fun e w' => e = .returned (.bool true) ∧ w = w' := by
  have := isNaN_any (W s r) w
  have e : (double.order (W s r) (W s r) != some Ordering.eq) = true := by
    unfold Format.order
    rw [read_nan s h h']
    rfl
  rw [f64_format, e] at this
  exact this

theorem xor_sign {r : Nat} (h : r < 9223372036854775808) : r ^^^ 9223372036854775808 = 9223372036854775808 + r := by
  have e : (9223372036854775808 : Nat) = 2 ^ 63 := rfl
  have e1 : 9223372036854775808 + r = 9223372036854775808 ||| r := (nat_join 63 9223372036854775808 r (by decide) (by rw [← e]; exact h)).symm
  rw [e1]
  rw [e] at h
  rw [e]
  apply Nat.eq_of_testBit_eq
  intro i
  rw [Nat.testBit_xor, Nat.testBit_or, Nat.testBit_two_pow]
  by_cases hi : 63 = i
  · subst hi
    rw [Nat.testBit_lt_two_pow h]
    simp
  · simp [hi]

theorem neg_to {r : Nat} (h : r < 9223372036854775808) (w : World) : (Op.unary .neg (.float .f64 r)).run Tryd.prog w = .ok (.float .f64 (W true r)) w := by
  have e : Op.negFloat .f64 r = W true r := xor_sign h
  rw [← e]
  rfl

theorem neg_of {r : Nat} (h : r < 9223372036854775808) (w : World) : (Op.unary .neg (.float .f64 (W true r))).run Tryd.prog w = .ok (.float .f64 r) w := by
  have e : Op.negFloat .f64 (W true r) = r := by
    have e1 : W true r = r ^^^ 9223372036854775808 := (xor_sign h).symm
    rw [e1]
    show (r ^^^ 9223372036854775808) ^^^ 9223372036854775808 = r
    rw [Nat.xor_assoc, Nat.xor_self, Nat.xor_zero]
  have : (Op.unary .neg (.float .f64 (W true r))).run Tryd.prog w = .ok (.float .f64 (Op.negFloat .f64 (W true r))) w := rfl
  rw [this, e]

theorem whole_of {q n : Nat} (h : V q = n * one) : whole q = n := by
  unfold whole
  rw [h, Nat.mul_div_cancel _ one_pos]

theorem conv_any (x : Nat) (w : World) : ∃ i w1, -2147483648 ≤ i ∧ i ≤ 2147483647 ∧ (convert 26 21 (.float .f64 x)).run Tryd.prog w = .ok (.int .i32 i) w1 ∧ Below w.heap.size w w1 := by
  have e : (convert 26 21 (.float .f64 x)).run Tryd.prog w = (Conv.floatToInt .f64 x .i32).run Tryd.prog w := by
    simp [convert, run_underlying Tryd.underlying26, run_underlying Tryd.underlying21]
  have any : ∃ i w1, -2147483648 ≤ i ∧ i ≤ 2147483647 ∧ (do pure (.int .i32 (IntKind.i32.wrap (← choose (.floatToInt .f64 x .i32)))) : Sem Value).run Tryd.prog w = .ok (.int .i32 i) w1 ∧ Below w.heap.size w w1 := by
    have hf : (Question.floatToInt .f64 x .i32).forced = false := rfl
    simp only [Sem.run_bind, run_choose_drew, hf, Result.andThen, Sem.run_pure]
    refine ⟨_, _, ?_, ?_, rfl, (Below.refl _ _).drew⟩
    · unfold IntKind.wrap
      simp [IntKind.bits, IntKind.signed]
      omega
    · unfold IntKind.wrap
      simp [IntKind.bits, IntKind.signed]
      omega
  rw [e]
  unfold Conv.floatToInt
  simp only
  split
  · rename_i n _
    by_cases hb : IntKind.i32.min ≤ n ∧ n ≤ IntKind.i32.max
    · rw [if_pos hb]
      exact ⟨n, w, hb.1, hb.2, rfl, Below.refl _ _⟩
    · rw [if_neg hb]
      exact any
  · exact any

theorem conv_in (s : Bool) {r : Nat} (h : r < 9218868437227405312) (h1 : -2147483648 ≤ sg s (whole r)) (h2 : sg s (whole r) ≤ 2147483647) (w : World) :
    (convert 26 21 (.float .f64 (W s r))).run Tryd.prog w = .ok (.int .i32 (sg s (whole r))) w := by
  refine run_convert_float_int w 26 21 .f64 .i32 _ _ (by rw [Tryd.underlying26]; rfl) Tryd.underlying21 ?_
  unfold floatToIntVal
  have e : (FloatKind.f64.decode (W s r)).toInt .zero = some (sg s (whole r)) := toInt_fin s h
  rw [e]
  simp only
  rw [if_pos ⟨h1, h2⟩]

theorem natAbs_sg (s : Bool) (n : Nat) : (sg s n).natAbs = n := by
  unfold sg
  cases s <;> simp

theorem sg_same {s : Bool} {i : Int} {t : Nat} (ht : 0 < t) (e : sg (decide (i < 0)) t = sg s t) : sg s i.natAbs = i := by
  unfold sg at e
  unfold sg
  by_cases hi : i < 0
  · cases s
    · simp [hi] at e
      omega
    · simp
      omega
  · cases s
    · simp
      omega
    · simp [hi] at e
      omega

theorem eq_sg (s : Bool) (i : Int) (u v w : Nat) (hu : 0 < u) (hw : w = v / u) : (sg (decide (i < 0)) (i.natAbs * u) = sg s v) ↔ (v = w * u ∧ sg s w = i) := by
  constructor
  · intro e
    have e1 : i.natAbs * u = v := by
      have := congrArg Int.natAbs e
      rwa [natAbs_sg, natAbs_sg] at this
    have hw' : w = i.natAbs := by
      rw [hw, ← e1, Nat.mul_div_cancel _ hu]
    refine ⟨by rw [hw', e1], ?_⟩
    rw [hw']
    by_cases h0 : i.natAbs = 0
    · have : i = 0 := Int.natAbs_eq_zero.1 h0
      subst this
      unfold sg
      cases s <;> rfl
    · rw [← e1] at e
      exact sg_same (Nat.mul_pos (Nat.pos_of_ne_zero h0) hu) e
  · rintro ⟨e1, e2⟩
    have e3 : i.natAbs = w := by rw [← e2, natAbs_sg]
    rw [e3, ← e1, ← e2]
    have : (decide (sg s w < 0)) = (s && decide (w ≠ 0)) := by
      unfold sg
      cases s
      · have : ¬ ((w : Nat) : Int) < 0 := by omega
        simp [this]
      · by_cases h0 : w = 0
        · subst h0
          simp
        · have : 0 < w := by omega
          simp [this, h0]
    rw [this]
    by_cases h0 : w = 0
    · have : v = 0 := by rw [e1, h0, Nat.zero_mul]
      rw [this]
      unfold sg
      cases s <;> simp
    · simp [h0]

theorem eq_only (s : Bool) {r : Nat} (h : r < 9218868437227405312) {i : Int} (h1 : -2147483648 ≤ i) (h2 : i ≤ 2147483647) :
    (FloatKind.f64.format.order (FloatKind.f64.nearest i) (W s r) == some Ordering.eq) = decide (V r = whole r * one ∧ sg s (whole r) = i) := by
  obtain ⟨q, hq, hV, hn⟩ := nearest_int i (by omega)
  rw [hn, f64_format, order_eq _ s hq h, hV]
  exact decide_eq_decide.2 (eq_sg s i one (V r) (whole r) one_pos rfl)

theorem eq_inf (t : Bool) {i : Int} (h1 : -2147483648 ≤ i) (h2 : i ≤ 2147483647) : (FloatKind.f64.format.order (FloatKind.f64.nearest i) (W t 9218868437227405312) == some Ordering.eq) = false := by
  obtain ⟨q, hq, hV, hn⟩ := nearest_int i (by omega)
  rw [hn, f64_format]
  unfold Format.order
  rw [read_W _ hq, read_inf]
  cases t <;> rfl

theorem eq_nan (t : Bool) {r : Nat} (h : 9218868437227405312 < r) (h' : r < 9223372036854775808) {i : Int} (h1 : -2147483648 ≤ i) (h2 : i ≤ 2147483647) : (FloatKind.f64.format.order (FloatKind.f64.nearest i) (W t r) == some Ordering.eq) = false := by
  obtain ⟨q, hq, hV, hn⟩ := nearest_int i (by omega)
  rw [hn, f64_format]
  unfold Format.order
  rw [read_W _ hq, read_nan t h h']
  rfl

theorem trunc_run (s : Bool) {r q : Nat} (h : r < 9218868437227405312) (hq : q < 9218868437227405312) (hV : V q = whole r * one) (w : World) :
    (Extern.MathFloor.toIntegral "math.archTrunc" .zero #[.float .f64 (W s r)]).run Tryd.prog w = .ok (.float .f64 (W s q)) w := by
  have e := trunc_word s h hq hV
  have hr := read_W s h
  have hd : FloatKind.f64.decode (W s r) = .number s (mant r) (-1074 + (ex r : Int)) := hr
  have key : ∃ f : Bool → Nat → Sem Value, Extern.MathFloor.toIntegral "math.archTrunc" .zero #[.float .f64 (W s r)] = (match FloatKind.f64.decode (W s r) with | .nan a b => f a b | d => pure (.float .f64 (FloatKind.f64.encode (d.integral .zero)))) := ⟨_, rfl⟩
  obtain ⟨f, hf⟩ := key
  rw [hf, hd]
  rw [hr] at e
  have e' : FloatKind.f64.encode (Datum.integral .zero (.number s (mant r) (-1074 + (ex r : Int)))) = W s q := e
  show (pure (.float .f64 (FloatKind.f64.encode (Datum.integral .zero (.number s (mant r) (-1074 + (ex r : Int)))))) : Sem Value).run Tryd.prog w = _
  rw [e']
  rfl

theorem lt_zero (s : Bool) {q : Nat} (h : q < 9218868437227405312) : (FloatKind.f64.format.order (W s q) 0 == some Ordering.lt) = (s && decide (q ≠ 0)) := by
  have e1 := order_lt s false h (show (0 : Nat) < 9218868437227405312 by omega)
  rw [W_false] at e1
  rw [f64_format, e1, V_zero]
  unfold sg
  cases s
  · simp
  · by_cases h0 : q = 0
    · subst h0
      simp [V_zero]
    · have := V_pos h0
      simp [h0]
      exact this

set_option maxHeartbeats 400000 in
theorem isInf_pos (x : Nat) (w : World) : Calls Tryd.prog 19 #[.float .f64 x, .int .i64 1] w fun e w' => e = .returned (.bool (FloatKind.f64.format.order x 9218868437227405311 == some Ordering.gt)) ∧ w = w' := by
  go_enter Tryd.func19, Tryd.ntmps19
  go_wp2
  go_ret
  exact ⟨rfl, rfl⟩

set_option maxHeartbeats 400000 in
theorem isInf_neg (x y : Nat) (w : World) (h : ∀ w, (Op.unary .neg (.float .f64 x)).run Tryd.prog w = .ok (.float .f64 y) w) : Calls Tryd.prog 19 #[.float .f64 x, .int .i64 (-1)] w fun e w' => e = .returned (.bool (FloatKind.f64.format.order y 9218868437227405311 == some Ordering.gt)) ∧ w = w' := by
  go_enter Tryd.func19, Tryd.ntmps19
  go_wp2
  go_ret
  exact ⟨rfl, rfl⟩

theorem neg_W (s : Bool) {r : Nat} (h : r < 9223372036854775808) (w : World) : (Op.unary .neg (.float .f64 (W s r))).run Tryd.prog w = .ok (.float .f64 (W (!s) r)) w := by
  cases s
  · exact neg_to h w
  · exact neg_of h w

theorem gt_fin (s : Bool) {r : Nat} (h : r < 9218868437227405312) : (FloatKind.f64.format.order (W s r) 9218868437227405311 == some Ordering.gt) = false := by
  have e := order_gt s false h (show (9218868437227405311 : Nat) < 9218868437227405312 by omega)
  rw [W_false] at e
  rw [f64_format, e]
  have := V_le_max h
  unfold sg
  cases s
  · simp only [Bool.false_eq_true, if_false, decide_eq_false_iff_not]
    omega
  · simp only [Bool.false_eq_true, if_false, if_true, decide_eq_false_iff_not]
    omega

theorem gt_inf (s : Bool) : (FloatKind.f64.format.order (W s 9218868437227405312) 9218868437227405311 == some Ordering.gt) = !s := by cases s <;> decide

theorem isInf_fin (s : Bool) {r : Nat} (h : r < 9218868437227405312) (w : World) : Calls Tryd.prog 19 #[.float .f64 (W s r), .int .i64 1] w fun e w' => e = .returned (.bool false) ∧ w = w' := by
  have := isInf_pos (W s r) w
  rwa [gt_fin s h] at this

theorem isInfN_fin (s : Bool) {r : Nat} (h : r < 9218868437227405312) (w : World) : Calls Tryd.prog 19 #[.float .f64 (W s r), .int .i64 (-1)] w fun e w' => e = .returned (.bool false) ∧ w = w' := by
  have := isInf_neg (W s r) _ w (neg_W s (by omega))
  rwa [gt_fin _ h] at this

theorem isInf_inf (s : Bool) (w : World) : Calls Tryd.prog 19 #[.float .f64 (W s 9218868437227405312), .int .i64 1] w fun e w' => e = .returned (.bool (!s)) ∧ w = w' := by
  have := isInf_pos (W s 9218868437227405312) w
  rwa [gt_inf] at this

theorem isInfN_inf (s : Bool) (w : World) : Calls Tryd.prog 19 #[.float .f64 (W s 9218868437227405312), .int .i64 (-1)] w fun e w' => e = .returned (.bool s) ∧ w = w' := by
  have := isInf_neg (W s 9218868437227405312) _ w (neg_W s (by omega))
  rwa [gt_inf, Bool.not_not] at this

theorem eq_zero (s : Bool) {r : Nat} (h : r < 9218868437227405312) : (FloatKind.f64.format.order (W s r) 0 == some Ordering.eq) = decide (r = 0) := by
  have e1 := order_eq s false h (show (0 : Nat) < 9218868437227405312 by omega)
  rw [W_false] at e1
  rw [f64_format, e1, V_zero]
  by_cases h0 : r = 0
  · subst h0
    cases s <;> simp [sg, V_zero]
  · have := V_pos h0
    cases s <;> simp [sg, h0] <;> omega

theorem inf_zero (s : Bool) : (FloatKind.f64.format.order (W s 9218868437227405312) 0 == some Ordering.eq) = false := by cases s <;> decide

/-- A word's comparison with itself and with zero, at what is no number. -/
theorem nan_any (s : Bool) {r : Nat} (h : 9218868437227405312 < r) (h' : r < 9223372036854775808) (y : Nat) : FloatKind.f64.format.order (W s r) y = none := by
  rw [f64_format]
  unfold Format.order
  rw [read_nan s h h']
  rfl

end Go.Proofs.YtmfbgoikekmdkaaDoor
