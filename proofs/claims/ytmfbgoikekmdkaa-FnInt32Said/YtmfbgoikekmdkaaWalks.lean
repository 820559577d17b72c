/-
  The walks of FnInt32's own functions: ToInt32 and the reference answer the whole part of a finite number, cut to 32 bits, and 0 of all else. The conditions stand in each theorem.
-/
import Derived.Test.YtmfbgoikekmdkaaMath
namespace Go.Proofs.Ytmfbgoikekmdkaa
open Go Go.Proofs Go.RowKit Ieee

/-- ToInt32 of a word, given by its sign and the rest. -/
def ansI (s : Bool) (r : Nat) : Int := if r < 9218868437227405312 then wrap32 (sg s (whole r)) else 0

theorem Y_one : Y = 4294967296 * one := by
  obtain ⟨k, hk⟩ : ∃ k, ex 4751297606875873280 = k := ⟨_, rfl⟩
  have h1 := ex_y
  have h2 := kOne_eq
  rw [Y_eq, hk]
  unfold one
  rw [show kOne = 20 + k from by omega, Nat.pow_add, ← Nat.mul_assoc]

theorem whole_of {q n : Nat} (h : V q = n * one) : whole q = n := by
  unfold whole
  rw [h, Nat.mul_div_cancel _ one_pos]

/-- The rest by 2^32 of a value, and its whole part. -/
theorem whole_mod {q r : Nat} (h : V q = V r % Y) : whole q = whole r % 4294967296 := by
  unfold whole
  rw [h, Y_one, Nat.mul_comm, Nat.mod_mul_right_div_self]

theorem conv_any (x : Nat) (w : World) : ∃ i w1, -2147483648 ≤ i ∧ i ≤ 2147483647 ∧ (convert 23 21 (.float .f64 x)).run Try.prog w = .ok (.int .i32 i) w1 ∧ Below w.heap.size w w1 := by
  have e : (convert 23 21 (.float .f64 x)).run Try.prog w = (Conv.floatToInt .f64 x .i32).run Try.prog w := by
    simp [convert, run_underlying Try.underlying23, run_underlying Try.underlying21]
  have any : ∃ i w1, -2147483648 ≤ i ∧ i ≤ 2147483647 ∧ (do pure (.int .i32 (IntKind.i32.wrap (← choose (.floatToInt .f64 x .i32)))) : Sem Value).run Try.prog w = .ok (.int .i32 i) w1 ∧ Below w.heap.size w w1 := by
    have hf : (Question.floatToInt .f64 x .i32).forced = false := rfl
    simp only [Sem.run_bind, run_choose_drew, hf, Result.andThen, Sem.run_pure]
    refine ⟨_, _, ?_, ?_, rfl, (Below.refl _ _).drew⟩
    · unfold IntKind.wrap
      simp [IntKind.bits, IntKind.signed]
      omega
    · unfold IntKind.wrap
      simp [IntKind.bits, IntKind.signed]
      omega
  rw [e]
  unfold Conv.floatToInt
  simp only
  split
  · rename_i n _
    by_cases hb : IntKind.i32.min ≤ n ∧ n ≤ IntKind.i32.max
    · rw [if_pos hb]
      exact ⟨n, w, hb.1, hb.2, rfl, Below.refl _ _⟩
    · rw [if_neg hb]
      exact any
  · exact any

/-- In range, the conversion cuts. -/
theorem conv_in (s : Bool) {r : Nat} (h : r < 9218868437227405312) (h1 : -2147483648 ≤ sg s (whole r)) (h2 : sg s (whole r) ≤ 2147483647) (w : World) :
    (convert 23 21 (.float .f64 (W s r))).run Try.prog w = .ok (.int .i32 (sg s (whole r))) w := by
  refine run_convert_float_int w 23 21 .f64 .i32 _ _ (by rw [Try.underlying23]; rfl) Try.underlying21 ?_
  unfold floatToIntVal
  have e : (FloatKind.f64.decode (W s r)).toInt .zero = some (sg s (whole r)) := toInt_fin s h
  rw [e]
  simp only
  rw [if_pos ⟨h1, h2⟩]

theorem conv_u32 (s : Bool) {r : Nat} (h : r < 9218868437227405312) (h1 : 0 ≤ sg s (whole r)) (h2 : sg s (whole r) ≤ 4294967295) (w : World) :
    (convert 23 27 (.float .f64 (W s r))).run Try.prog w = .ok (.int .u32 (sg s (whole r))) w := by
  refine run_convert_float_int w 23 27 .f64 .u32 _ _ (by rw [Try.underlying23]; rfl) Try.underlying27 ?_
  unfold floatToIntVal
  have e : (FloatKind.f64.decode (W s r)).toInt .zero = some (sg s (whole r)) := toInt_fin s h
  rw [e]
  simp only
  rw [if_pos ⟨h1, h2⟩]

theorem natAbs_sg (s : Bool) (n : Nat) : (sg s n).natAbs = n := by
  unfold sg
  cases s <;> simp

theorem sg_same {s : Bool} {i : Int} {t : Nat} (ht : 0 < t) (e : sg (decide (i < 0)) t = sg s t) : sg s i.natAbs = i := by
  unfold sg at e
  unfold sg
  by_cases hi : i < 0
  · cases s
    · simp [hi] at e
      omega
    · simp
      omega
  · cases s
    · simp
      omega
    · simp [hi] at e
      omega

theorem eq_sg (s : Bool) (i : Int) (u v w : Nat) (hu : 0 < u) (hw : w = v / u) : (sg (decide (i < 0)) (i.natAbs * u) = sg s v) ↔ (v = w * u ∧ sg s w = i) := by
  constructor
  · intro e
    have e1 : i.natAbs * u = v := by
      have := congrArg Int.natAbs e
      rwa [natAbs_sg, natAbs_sg] at this
    have hw' : w = i.natAbs := by
      rw [hw, ← e1, Nat.mul_div_cancel _ hu]
    refine ⟨by rw [hw', e1], ?_⟩
    rw [hw']
    by_cases h0 : i.natAbs = 0
    · have : i = 0 := Int.natAbs_eq_zero.1 h0
      subst this
      unfold sg
      cases s <;> rfl
    · rw [← e1] at e
      exact sg_same (Nat.mul_pos (Nat.pos_of_ne_zero h0) hu) e
  · rintro ⟨e1, e2⟩
    have e3 : i.natAbs = w := by rw [← e2, natAbs_sg]
    rw [e3, ← e1, ← e2]
    have : (decide (sg s w < 0)) = (s && decide (w ≠ 0)) := by
      unfold sg
      cases s
      · have : ¬ ((w : Nat) : Int) < 0 := by omega
        simp [this]
      · by_cases h0 : w = 0
        · subst h0
          simp
        · have : 0 < w := by omega
          simp [this, h0]
    rw [this]
    by_cases h0 : w = 0
    · have : v = 0 := by rw [e1, h0, Nat.zero_mul]
      rw [this]
      unfold sg
      cases s <;> simp
    · simp [h0]

/-- The float of a whole number of 32 bits is a finite number only where that number is it. -/
theorem eq_only (s : Bool) {r : Nat} (h : r < 9218868437227405312) {i : Int} (h1 : -2147483648 ≤ i) (h2 : i ≤ 2147483647) :
    (FloatKind.f64.format.order (FloatKind.f64.nearest i) (W s r) == some Ordering.eq) = decide (V r = whole r * one ∧ sg s (whole r) = i) := by
  obtain ⟨q, hq, hV, hn⟩ := nearest_int i (by omega)
  rw [hn, f64_format, order_eq _ s hq h, hV]
  exact decide_eq_decide.2 (eq_sg s i one (V r) (whole r) one_pos rfl)

theorem eq_inf (t : Bool) {i : Int} (h1 : -2147483648 ≤ i) (h2 : i ≤ 2147483647) : (FloatKind.f64.format.order (FloatKind.f64.nearest i) (W t 9218868437227405312) == some Ordering.eq) = false := by
  obtain ⟨q, hq, hV, hn⟩ := nearest_int i (by omega)
  rw [hn, f64_format]
  unfold Format.order
  rw [read_W _ hq, read_inf]
  cases t <;> rfl

theorem eq_nan (t : Bool) {r : Nat} (h : 9218868437227405312 < r) (h' : r < 9223372036854775808) {i : Int} (h1 : -2147483648 ≤ i) (h2 : i ≤ 2147483647) : (FloatKind.f64.format.order (FloatKind.f64.nearest i) (W t r) == some Ordering.eq) = false := by
  obtain ⟨q, hq, hV, hn⟩ := nearest_int i (by omega)
  rw [hn, f64_format]
  unfold Format.order
  rw [read_W _ hq, read_nan t h h']
  rfl

theorem wrap32_in {n : Int} (h1 : -2147483648 ≤ n) (h2 : n ≤ 2147483647) : wrap32 n = n := by
  unfold wrap32
  omega

/-- The hard way: by the rest by 2^32. -/
theorem hard_pos (n : Nat) : wrap32 ((n % 4294967296 : Nat) : Int) = wrap32 (sg false n) := by
  unfold wrap32 sg
  simp
theorem hard_neg (n : Nat) : wrap32 (-(wrap32 ((n % 4294967296 : Nat) : Int))) = wrap32 (sg true n) := by
  unfold wrap32 sg
  simp
  omega
theorem ret_i32 {a b : Int} (h : a = b) : Ending.returned (.int .i32 a) = .returned (.int .i32 b) := by rw [h]

set_option maxRecDepth 100000 in
set_option maxHeartbeats 1000000 in
theorem toInt32_fin (s : Bool) {r : Nat} (h : r < 9218868437227405312) (w : World) :
    Calls Try.prog 9 #[.float .f64 (W s r)] w fun e w' => e = .returned (.int .i32 (ansI s r)) ∧ Below w.heap.size w w' := by
  have hans : ansI s r = wrap32 (sg s (whole r)) := by
    unfold ansI
    rw [if_pos h]
  rw [hans]
  by_cases hin : V r = whole r * one ∧ -2147483648 ≤ sg s (whole r) ∧ sg s (whole r) ≤ 2147483647
  · obtain ⟨hv, h1, h2⟩ := hin
    have hc := wrap32_in h1 h2
    rw [hc]
    have hconv := conv_in s h h1 h2 w
    have he := eq_only s h h1 h2
    rw [decide_eq_true ⟨hv, rfl⟩] at he
    have he' : (FloatKind.f64.format.order (floatOfInt .f64 (sg s (whole r))) (W s r) == some Ordering.eq) = true := he
    obtain ⟨i, hi⟩ : ∃ i, i = sg s (whole r) := ⟨_, rfl⟩
    rw [← hi] at hconv he' h1 h2
    rw [← hi]
    clear hi he hc hv hans
    go_enter Try.func9, Try.ntmps9
    go_wp2_with fail
    go_ret
    exact ⟨rfl, Below.refl _ _⟩
  · obtain ⟨i, w1, h1, h2, hconv, hb⟩ := conv_any (W s r) w
    have he := eq_only s h h1 h2
    rw [decide_eq_false (by
      rintro ⟨e1, e2⟩
      exact hin ⟨e1, by rw [e2]; exact h1, by rw [e2]; exact h2⟩)] at he
    have he' : (FloatKind.f64.format.order (floatOfInt .f64 i) (W s r) == some Ordering.eq) = false := he
    clear he hin
    have HP := Lib.hid (hard_pos (whole r))
    have HN := Lib.hid (hard_neg (whole r))
    have A := Lib.hid (isNaN_fin s h)
    have I := Lib.hid (isInf_fin s h)
    have B := Lib.hid (abs_any s r (by omega))
    have S := Lib.hid (signbit_any s r (by omega))
    have M : Hid (∀ w, Calls Try.prog 12 #[.float .f64 r, .float .f64 4751297606875873280] w (ModAns false r w)) := Lib.hid (Mod_any false r h)
    clear hans
    go_enter Try.func9, Try.ntmps9
    go_wp2_with fail
    refine (A.out _).mono ?_
    rintro e w' ⟨rfl, rfl⟩
    go_wp2_with fail
    refine (I.out _).mono ?_
    rintro e w' ⟨rfl, rfl⟩
    go_wp2_with fail
    refine (B.out _).mono ?_
    rintro e w' ⟨rfl, rfl⟩
    go_wp2_with fail
    refine (M.out _).mono ?_
    rintro e w' ⟨⟨q, hq, hV, rfl⟩, rfl⟩
    have hwq := whole_mod hV
    have hcu := conv_u32 false hq (by unfold sg; simp) (by unfold sg; simp; omega)
    have hsg : sg false (whole q) = ((whole r % 4294967296 : Nat) : Int) := by
      rw [hwq]
      rfl
    rw [hsg] at hcu
    obtain ⟨n, hn⟩ : ∃ n, n = whole r % 4294967296 := ⟨_, rfl⟩
    rw [← hn] at hcu HP HN
    have hn2 : n < 4294967296 := by omega
    clear hV hwq hsg hn
    go_wp2_with fail
    refine (S.out _).mono ?_
    rintro e w' ⟨rfl, rfl⟩
    cases s
    · go_wp2_with fail
      go_ret
      exact ⟨ret_i32 HP.out, hb⟩
    · go_wp2_with fail
      go_ret
      exact ⟨ret_i32 HN.out, hb⟩

set_option maxRecDepth 100000 in
set_option maxHeartbeats 1000000 in
theorem toInt32_nan (s : Bool) {r : Nat} (h : 9218868437227405312 < r) (h' : r < 9223372036854775808) (w : World) :
    Calls Try.prog 9 #[.float .f64 (W s r)] w fun e w' => e = .returned (.int .i32 0) ∧ Below w.heap.size w w' := by
  obtain ⟨i, w1, h1, h2, hconv, hb⟩ := conv_any (W s r) w
  have he' : (FloatKind.f64.format.order (floatOfInt .f64 i) (W s r) == some Ordering.eq) = false := eq_nan s h h' h1 h2
  have A := Lib.hid (isNaN_nan s h h')
  go_enter Try.func9, Try.ntmps9
  go_wp2_with fail
  refine (A.out _).mono ?_
  rintro e w' ⟨rfl, rfl⟩
  go_wp2_with fail
  go_ret
  exact ⟨rfl, hb⟩

set_option maxRecDepth 100000 in
set_option maxHeartbeats 1000000 in
theorem toInt32_inf (s : Bool) (w : World) :
    Calls Try.prog 9 #[.float .f64 (W s 9218868437227405312)] w fun e w' => e = .returned (.int .i32 0) ∧ Below w.heap.size w w' := by
  obtain ⟨i, w1, h1, h2, hconv, hb⟩ := conv_any (W s 9218868437227405312) w
  have he' : (FloatKind.f64.format.order (floatOfInt .f64 i) (W s 9218868437227405312) == some Ordering.eq) = false := eq_inf s h1 h2
  have A := Lib.hid (isNaN_inf s)
  have I := Lib.hid (isInf_inf s)
  obtain ⟨X, hX⟩ : ∃ X, X = W s 9218868437227405312 := ⟨_, rfl⟩
  rw [← hX] at A I he' hconv
  rw [← hX]
  clear hX
  go_enter Try.func9, Try.ntmps9
  go_wp2_with fail
  refine (A.out _).mono ?_
  rintro e w' ⟨rfl, rfl⟩
  go_wp2_with fail
  refine (I.out _).mono ?_
  rintro e w' ⟨rfl, rfl⟩
  go_wp2_with fail
  go_ret
  exact ⟨rfl, hb⟩

theorem toInt32_any (s : Bool) {r : Nat} (h : r < 9223372036854775808) (w : World) :
    Calls Try.prog 9 #[.float .f64 (W s r)] w fun e w' => e = .returned (.int .i32 (ansI s r)) ∧ Below w.heap.size w w' := by
  by_cases h1 : r < 9218868437227405312
  · exact toInt32_fin s h1 w
  · have : ansI s r = 0 := by
      unfold ansI
      rw [if_neg h1]
    rw [this]
    by_cases h2 : r = 9218868437227405312
    · subst h2
      exact toInt32_inf s w
    · exact toInt32_nan s (by omega) h w

/-! ### The reference -/

@[go_sem] theorem run_archTrunc_fin (x : Nat) (w : World) : (callFunc 19 #[.float .f64 x]).run Try.prog w = ((Extern.MathFloor.toIntegral "math.archTrunc" .zero #[.float .f64 x]).run Try.prog w).andThen fun v w' => .ok (.value v) w' := by
  rw [run_callFunc_extern Try.func19 (by kernel_rfl) (by kernel_rfl) (by kernel_rfl) (e := Extern.MathFloor.toIntegral "math.archTrunc" .zero) (by kernel_rfl)]

theorem trunc_run (s : Bool) {r q : Nat} (h : r < 9218868437227405312) (hq : q < 9218868437227405312) (hV : V q = whole r * one) (w : World) :
    (Extern.MathFloor.toIntegral "math.archTrunc" .zero #[.float .f64 (W s r)]).run Try.prog w = .ok (.float .f64 (W s q)) w := by
  have e := trunc_word s h hq hV
  have hr := read_W s h
  have hd : FloatKind.f64.decode (W s r) = .number s (mant r) (-1074 + (ex r : Int)) := hr
  have key : ∃ f : Bool → Nat → Sem Value, Extern.MathFloor.toIntegral "math.archTrunc" .zero #[.float .f64 (W s r)] = (match FloatKind.f64.decode (W s r) with | .nan a b => f a b | d => pure (.float .f64 (FloatKind.f64.encode (d.integral .zero)))) := ⟨_, rfl⟩
  obtain ⟨f, hf⟩ := key
  rw [hf, hd]
  rw [hr] at e
  have e' : FloatKind.f64.encode (Datum.integral .zero (.number s (mant r) (-1074 + (ex r : Int)))) = W s q := e
  show (pure (.float .f64 (FloatKind.f64.encode (Datum.integral .zero (.number s (mant r) (-1074 + (ex r : Int)))))) : Sem Value).run Try.prog w = _
  rw [e']
  rfl

theorem lt_zero (s : Bool) {q : Nat} (h : q < 9218868437227405312) : (FloatKind.f64.format.order (W s q) 0 == some Ordering.lt) = (s && decide (q ≠ 0)) := by
  have e1 := order_lt s false h (show (0 : Nat) < 9218868437227405312 by omega)
  rw [W_false] at e1
  rw [f64_format, e1, V_zero]
  unfold sg
  cases s
  · simp
  · by_cases h0 : q = 0
    · subst h0
      simp [V_zero]
    · have := V_pos h0
      simp [h0]
      exact this

theorem spec_neg (n : Nat) : wrap32 ((4294967296 - n % 4294967296 : Nat) : Int) = wrap32 (sg true n) := by
  unfold wrap32 sg
  simp
  omega

set_option maxHeartbeats 400000 in
theorem trunc_fin (s : Bool) {r q : Nat} (h : r < 9218868437227405312) (hq : q < 9218868437227405312) (hV : V q = whole r * one) (w : World) :
    Calls Try.prog 13 #[.float .f64 (W s r)] w fun e w' => e = .returned (.float .f64 (W s q)) ∧ w = w' := by
  have hrun := trunc_run s h hq hV
  clear hV
  go_enter Try.func13, Try.ntmps13
  go_wp2_with fail
  go_ret
  exact ⟨rfl, rfl⟩

set_option maxRecDepth 100000 in
set_option maxHeartbeats 1000000 in
theorem spec_nan (s : Bool) {r : Nat} (h : 9218868437227405312 < r) (h' : r < 9223372036854775808) (w : World) :
    Calls Try.prog 6 #[.float .f64 (W s r)] w fun e w' => e = .returned (.int .i32 0) ∧ w = w' := by
  have A := Lib.hid (isNaN_nan s h h')
  go_enter Try.func6, Try.ntmps6
  go_wp2_with fail
  refine (A.out _).mono ?_
  rintro e w' ⟨rfl, rfl⟩
  go_wp2_with fail
  go_ret
  exact ⟨rfl, rfl⟩

set_option maxRecDepth 100000 in
set_option maxHeartbeats 1000000 in
theorem spec_inf (s : Bool) (w : World) :
    Calls Try.prog 6 #[.float .f64 (W s 9218868437227405312)] w fun e w' => e = .returned (.int .i32 0) ∧ w = w' := by
  have A := Lib.hid (isNaN_inf s)
  have I := Lib.hid (isInf_inf s)
  obtain ⟨X, hX⟩ : ∃ X, X = W s 9218868437227405312 := ⟨_, rfl⟩
  rw [← hX] at A I
  rw [← hX]
  clear hX
  go_enter Try.func6, Try.ntmps6
  go_wp2_with fail
  refine (A.out _).mono ?_
  rintro e w' ⟨rfl, rfl⟩
  go_wp2_with fail
  refine (I.out _).mono ?_
  rintro e w' ⟨rfl, rfl⟩
  go_wp2_with fail
  go_ret
  exact ⟨rfl, rfl⟩

set_option maxRecDepth 100000 in
set_option maxHeartbeats 1000000 in
theorem spec_fin (s : Bool) {r : Nat} (h : r < 9218868437227405312) (w : World) :
    Calls Try.prog 6 #[.float .f64 (W s r)] w fun e w' => e = .returned (.int .i32 (wrap32 (sg s (whole r)))) ∧ w = w' := by
  obtain ⟨t, ht, hVt⟩ := whole_rep h
  have A := Lib.hid (isNaN_fin s h)
  have I := Lib.hid (isInf_fin s h)
  have T := Lib.hid (trunc_fin s h ht hVt)
  have M := Lib.hid (Mod_any s t ht)
  have hwt : whole t = whole r := whole_of hVt
  have Hwt := Lib.hid hwt
  have HVt := Lib.hid hVt
  clear hVt hwt
  go_enter Try.func6, Try.ntmps6
  go_wp2_with fail
  refine (A.out _).mono ?_
  rintro e w' ⟨rfl, rfl⟩
  go_wp2_with fail
  refine (I.out _).mono ?_
  rintro e w' ⟨rfl, rfl⟩
  go_wp2_with fail
  refine (T.out _).mono ?_
  rintro e w' ⟨rfl, rfl⟩
  go_wp2_with fail
  refine (M.out _).mono ?_
  rintro e w' ⟨⟨q, hq, hV, rfl⟩, rfl⟩
  have hVq : Hid (V q = (whole r % 4294967296) * one) := by
    have : V q = V t % Y := hV
    have h2 : V q = (whole r * one) % (4294967296 * one) := by
      rw [this, HVt.out, Y_one]
    rwa [Nat.mul_mod_mul_right] at h2
  have hwq : Hid (whole q = whole r % 4294967296) := Lib.hid (whole_of hVq.out)
  clear hV
  have hlt := lt_zero s hq
  by_cases hneg : s = true ∧ q ≠ 0
  · obtain ⟨rfl, hq0⟩ := hneg
    have hlt' : (FloatKind.f64.format.order (W true q) 0 == some Ordering.lt) = true := by
      rw [hlt]
      simp [hq0]
    have hpos : 0 < whole r % 4294967296 := by
      rcases Nat.eq_zero_or_pos (whole r % 4294967296) with h0 | h0
      · have h1 := hVq.out
        rw [h0, Nat.zero_mul] at h1
        exact absurd (V_eq_zero.1 h1) hq0
      · exact h0
    obtain ⟨n, hn⟩ : ∃ n, n = 4294967296 - whole r % 4294967296 := ⟨_, rfl⟩
    obtain ⟨q3, hq3, hV3⟩ := int_rep n (by omega)
    have hadd : double.add (W true q) 4751297606875873280 = some (W false q3) := by
      refine add_fin true false false hq (show (4751297606875873280 : Nat) < 9218868437227405312 by omega) hq3 ?_ (fun _ => rfl)
      have e1 : V 4751297606875873280 = 4294967296 * one := Y_one
      rw [e1, hVq.out, hV3]
      have e2 : (whole r % 4294967296) * one + n * one = 4294967296 * one := by
        rw [← Nat.add_mul, show whole r % 4294967296 + n = 4294967296 from by omega]
      obtain ⟨a, ha⟩ : ∃ a, a = (whole r % 4294967296) * one := ⟨_, rfl⟩
      obtain ⟨b, hb⟩ : ∃ b, b = n * one := ⟨_, rfl⟩
      obtain ⟨c, hc⟩ : ∃ c, c = 4294967296 * one := ⟨_, rfl⟩
      rw [← ha, ← hb, ← hc] at e2
      rw [← ha, ← hb, ← hc]
      unfold sg
      simp
      omega
    have hrun : ∀ w, (binOp .add 23 (.float .f64 (W true q)) (.float .f64 4751297606875873280)).run Try.prog w = .ok (.float .f64 (W false q3)) w := fun w => run_float_arith w .add 23 .f64 _ _ _ hadd
    have hw3 : whole q3 = n := whole_of hV3
    have hcu := conv_u32 false hq3 (by unfold sg; simp) (by unfold sg; simp; omega)
    have hsg : sg false (whole q3) = (n : Int) := by
      rw [hw3]
      rfl
    rw [hsg] at hcu
    have hn2 : n < 4294967296 := by omega
    have HF : Hid (wrap32 (n : Int) = wrap32 (sg true (whole r))) := Lib.hid (by rw [hn]; exact spec_neg _)
    clear hlt hpos hn hV3 hadd hw3 hsg
    go_wp2_with fail
    go_ret
    exact ⟨ret_i32 HF.out, rfl⟩
  · have hlt' : (FloatKind.f64.format.order (W s q) 0 == some Ordering.lt) = false := by
      rw [hlt]
      cases s
      · rfl
      · have : q = 0 := by
          rcases Nat.eq_zero_or_pos q with h0 | h0
          · exact h0
          · exact absurd ⟨rfl, by omega⟩ hneg
        simp [this]
    obtain ⟨n, hn⟩ : ∃ n, n = whole r % 4294967296 := ⟨_, rfl⟩
    have hsn : s = true → n = 0 := by
      rintro rfl
      have hq0 : q = 0 := by
        rcases Nat.eq_zero_or_pos q with h0 | h0
        · exact h0
        · exact absurd ⟨rfl, by omega⟩ hneg
      have h1 := hwq.out
      rw [hq0] at h1
      rw [hn, ← h1]
      unfold whole
      rw [V_zero, Nat.zero_div]
    have hsg : sg s (whole q) = (n : Int) := by
      rw [hwq.out, ← hn]
      cases s
      · rfl
      · rw [hsn rfl]
        rfl
    have hn2 : n < 4294967296 := by omega
    have hcu := conv_u32 s hq (by rw [hsg]; omega) (by rw [hsg]; omega)
    rw [hsg] at hcu
    have HF : Hid (wrap32 (n : Int) = wrap32 (sg s (whole r))) := Lib.hid (by
      cases s
      · rw [hn]
        exact hard_pos _
      · have h0 := hsn rfl
        have h1 := spec_neg (whole r)
        rw [← h1, ← hn, h0]
        unfold wrap32
        decide)
    clear hlt hneg hsn hsg hn
    go_wp2_with fail
    go_ret
    exact ⟨ret_i32 HF.out, rfl⟩

theorem spec_any (s : Bool) {r : Nat} (h : r < 9223372036854775808) (w : World) :
    Calls Try.prog 6 #[.float .f64 (W s r)] w fun e w' => e = .returned (.int .i32 (ansI s r)) ∧ w = w' := by
  by_cases h1 : r < 9218868437227405312
  · have : ansI s r = wrap32 (sg s (whole r)) := by
      unfold ansI
      rw [if_pos h1]
    rw [this]
    exact spec_fin s h1 w
  · have : ansI s r = 0 := by
      unfold ansI
      rw [if_neg h1]
    rw [this]
    by_cases h2 : r = 9218868437227405312
    · subst h2
      exact spec_inf s w
    · exact spec_nan s (by omega) h w

/-! ### The law -/

theorem ansI_range (s : Bool) (r : Nat) : -2147483648 ≤ ansI s r ∧ ansI s r ≤ 2147483647 := by
  unfold ansI
  split
  · unfold wrap32
    omega
  · omega

theorem three : ansI true 4613937818241073152 = -3 := by
  have h1 : ex 4613937818241073152 = 1023 := by decide
  have h2 : mant 4613937818241073152 = 3 * 2 ^ 51 := by decide
  obtain ⟨k, hk⟩ : ∃ k, ex 4613937818241073152 = k := ⟨_, rfl⟩
  have h3 := kOne_eq
  have hV : V 4613937818241073152 = 3 * one := by
    unfold V one
    rw [h2, hk, show kOne = 51 + k from by omega, Nat.pow_add, ← Nat.mul_assoc]
  unfold ansI
  rw [if_pos (by omega), whole_of hV]
  unfold sg wrap32
  decide

set_option maxHeartbeats 400000 in
theorem implInt32_any (s : Bool) {r : Nat} (h : r < 9223372036854775808) (w : World) :
    Calls Try.prog 5 #[.int .u64 ((W s r : Nat) : Int)] w fun e w' => e = .returned (.int .i32 (ansI s r)) ∧ Below w.heap.size w w' := by
  have T := Lib.hid (fun w => toInt32_any s h w)
  obtain ⟨X, hX⟩ : ∃ X, X = W s r := ⟨_, rfl⟩
  rw [← hX] at T
  rw [← hX]
  clear hX
  go_enter Try.func5, Try.ntmps5
  go_wp2_with fail
  refine (T.out _).mono ?_
  rintro e w1 ⟨rfl, hb⟩
  go_wp2_with fail
  go_ret
  exact ⟨rfl, hb⟩

set_option maxHeartbeats 400000 in
theorem toUint32_any (s : Bool) {r : Nat} (h : r < 9223372036854775808) (w : World) :
    Calls Try.prog 14 #[.float .f64 (W s r)] w fun e w' => e = .returned (.int .u32 (ansI s r % 4294967296)) ∧ Below w.heap.size w w' := by
  have T := Lib.hid (fun w => toInt32_any s h w)
  obtain ⟨X, hX⟩ : ∃ X, X = W s r := ⟨_, rfl⟩
  rw [← hX] at T
  rw [← hX]
  clear hX
  go_enter Try.func14, Try.ntmps14
  go_wp2_with fail
  refine (T.out _).mono ?_
  rintro e w1 ⟨rfl, hb⟩
  go_wp2_with fail
  go_ret
  exact ⟨rfl, hb⟩

set_option maxHeartbeats 400000 in
theorem implUint32_any (s : Bool) {r : Nat} (h : r < 9223372036854775808) (w : World) :
    Calls Try.prog 7 #[.int .u64 ((W s r : Nat) : Int)] w fun e w' => e = .returned (.int .u32 (ansI s r % 4294967296)) ∧ Below w.heap.size w w' := by
  have T := Lib.hid (fun w => toUint32_any s h w)
  obtain ⟨X, hX⟩ : ∃ X, X = W s r := ⟨_, rfl⟩
  obtain ⟨A, hA⟩ : ∃ A, A = ansI s r % 4294967296 := ⟨_, rfl⟩
  rw [← hX, ← hA] at T
  rw [← hX, ← hA]
  clear hX hA
  go_enter Try.func7, Try.ntmps7
  go_wp2_with fail
  refine (T.out _).mono ?_
  rintro e w1 ⟨rfl, hb⟩
  go_wp2_with fail
  go_ret
  exact ⟨rfl, hb⟩

theorem minus3 (w : World) : Calls Try.prog 5 #[.int .u64 13837309855095848960] w fun e w' => e = .returned (.int .i32 (-3)) ∧ Below w.heap.size w w' := by
  have h := implInt32_any true (r := 4613937818241073152) (by omega) w
  rw [three] at h
  have e : ((W true 4613937818241073152 : Nat) : Int) = 13837309855095848960 := rfl
  rw [e] at h
  exact h

set_option maxHeartbeats 400000 in
theorem law_word (s : Bool) {r : Nat} (h : r < 9223372036854775808) (w : World) :
    Calls Try.prog 3 #[.int .u64 ((W s r : Nat) : Int)] w fun e w' => e = .returned (.bool true) ∧ Below w.heap.size w w' := by
  have T := Lib.hid (fun w => implInt32_any s h w)
  have U := Lib.hid (fun w => implUint32_any s h w)
  have S := Lib.hid (fun w => spec_any s h w)
  have M := Lib.hid minus3
  have hr := ansI_range s r
  obtain ⟨X, hX⟩ : ∃ X, X = W s r := ⟨_, rfl⟩
  obtain ⟨A, hA⟩ : ∃ A, A = ansI s r := ⟨_, rfl⟩
  rw [← hX, ← hA] at T U S
  rw [← hX]
  rw [← hA] at hr
  obtain ⟨hr1, hr2⟩ := hr
  clear hX hA
  go_enter Try.func3, Try.ntmps3
  go_wp2_with fail
  refine (T.out _).mono ?_
  rintro e w1 ⟨rfl, hb1⟩
  go_wp2_with fail
  refine (S.out _).mono ?_
  rintro e w' ⟨rfl, rfl⟩
  go_wp2_with fail
  refine (U.out _).mono ?_
  rintro e w2 ⟨rfl, hb2⟩
  go_wp2_with fail
  refine (S.out _).mono ?_
  rintro e w' ⟨rfl, rfl⟩
  go_wp2_with fail
  refine (M.out _).mono ?_
  rintro e w3 ⟨rfl, hb3⟩
  go_wp2_with fail
  go_ret
  have s1 := hb1.size
  have s2 := hb2.size
  exact ⟨rfl, (hb1.trans (hb2.mono s1)).trans (hb3.mono (by omega))⟩

theorem law_any (b : Int) (h0 : 0 ≤ b) (h1 : b < 18446744073709551616) (w : World) :
    Calls Try.prog 3 #[.int .u64 b] w fun e w' => e = .returned (.bool true) ∧ Below w.heap.size w w' := by
  obtain ⟨n, rfl⟩ := Int.eq_ofNat_of_zero_le h0
  obtain ⟨s, r, rfl, hr⟩ := W_cases n (by omega)
  exact law_word s hr w

end Go.Proofs.Ytmfbgoikekmdkaa
