/-
  The walks of package math's functions that FnInt32 reaches: what each answers. The conditions stand in each theorem.
-/
import Derived.Test.YtmfbgoikekmdkaaProg
import Derived.Test.YtmfbgoikekmdkaaFloat
import Derived.WalkKit
import Derived.WalkLawsBesides
import Derived.WalkSpells
import Derived.Lib.Hide
import Derived.Laws.Externs
import Derived.Laws.BitsAllLaws
namespace Go.Proofs.Ytmfbgoikekmdkaa
open Go Go.Proofs Go.RowKit Ieee

@[go_sem] theorem run_f64bits (x : Nat) (w : World) : (callFunc 8 #[.float .f64 x]).run Try.prog w = .ok (.value (.int .u64 x)) w := by
  rw [run_callFunc_extern Try.func8 (by kernel_rfl) (by kernel_rfl) (by kernel_rfl) (e := Extern.MathFloatBits.float64bits) (by kernel_rfl)]
  rfl
@[go_sem] theorem run_f64from (n : Int) (w : World) : (callFunc 4 #[.int .u64 n]).run Try.prog w = .ok (.value (.float .f64 n.toNat)) w := by
  rw [run_callFunc_extern Try.func4 (by kernel_rfl) (by kernel_rfl) (by kernel_rfl) (e := Extern.MathFloatBits.float64frombits) (by kernel_rfl)]
  rfl

theorem f64_format : FloatKind.f64.format = double := rfl

theorem abs_bits (s : Bool) {r : Nat} (h : r < 9223372036854775808) : bits .andNot .u64 ((W s r : Nat) : Int) 9223372036854775808 = (r : Int) := by
  have hw : W s r < 18446744073709551616 := by
    unfold W
    split <;> omega
  have := u64_andNot_nat (W s r) 9223372036854775808 hw (by omega)
  rw [show ((9223372036854775808 : Nat) : Int) = 9223372036854775808 from rfl] at this
  rw [this]
  have e : W s r &&& (18446744073709551615 - 9223372036854775808) = W s r % 9223372036854775808 := Nat.and_two_pow_sub_one_eq_mod _ 63
  rw [e]
  have : W s r % 9223372036854775808 = r := by
    unfold W
    split <;> omega
  rw [this]

set_option maxHeartbeats 400000 in
theorem abs_any (s : Bool) (r : Nat) (h : r < 9223372036854775808) (w : World) : Calls Try.prog 15 #[.float .f64 (W s r)] w fun e w' => e = .returned (.float .f64 r) ∧ w = w' := by
  have hb := abs_bits s h
  go_enter Try.func15, Try.ntmps15
  go_wp2
  go_ret
  exact ⟨rfl, rfl⟩

set_option maxHeartbeats 400000 in
theorem isNaN_any (x : Nat) (w : World) : Calls Try.prog 10 #[.float .f64 x] w fun e w' => e = .returned (.bool (FloatKind.f64.format.order x x != some Ordering.eq)) ∧ w = w' := by
  go_enter Try.func10, Try.ntmps10
  go_wp2
  go_ret
  exact ⟨rfl, rfl⟩

theorem isNaN_fin (s : Bool) {r : Nat} (h : r < 9218868437227405312) (w : World) : Calls Try.prog 10 #[.float .f64 (W s r)] w fun e w' => e = .returned (.bool false) ∧ w = w' := by
  have := isNaN_any (W s r) w
  rw [f64_format, bne, order_eq s s h h] at this
  simpa using this

theorem isNaN_inf (s : Bool) (w : World) : Calls Try.prog 10 #[.float .f64 (W s 9218868437227405312)] w fun e w' => e = .returned (.bool false) ∧ w = w' := by
  have := isNaN_any (W s 9218868437227405312) w
  have e : (double.order (W s 9218868437227405312) (W s 9218868437227405312) != some Ordering.eq) = false := by cases s <;> decide
  rw [f64_format, e] at this
  exact this

theorem isNaN_nan (s : Bool) {r : Nat} (h : 9218868437227405312 < r) (h' : r < 9223372036854775808) (w : World) : Calls Try.prog 10 #[.float .f64 (W s r)] w fun e w' => e = .returned (.bool true) ∧ w = w' := by
  have := isNaN_any (W s r) w
  have e : (double.order (W s r) (W s r) != some Ordering.eq) = true := by
    unfold Format.order
    rw [read_nan s h h']
    rfl
  rw [f64_format, e] at this
  exact this

set_option maxHeartbeats 400000 in
theorem isInf_any (s : Bool) (r : Nat) (h : r < 9223372036854775808) (w : World) : Calls Try.prog 11 #[.float .f64 (W s r), .int .i64 0] w fun e w' => e = .returned (.bool (FloatKind.f64.format.order r 9218868437227405311 == some Ordering.gt)) ∧ w = w' := by
  go_enter Try.func11, Try.ntmps11
  go_wp2_with (go_at_call 15; refine (abs_any _ _ h _).mono ?_; rintro e w' ⟨rfl, rfl⟩)
  go_ret
  exact ⟨rfl, rfl⟩

theorem isInf_fin (s : Bool) {r : Nat} (h : r < 9218868437227405312) (w : World) : Calls Try.prog 11 #[.float .f64 (W s r), .int .i64 0] w fun e w' => e = .returned (.bool false) ∧ w = w' := by
  have := isInf_any s r (by omega) w
  have e := order_gt false false h (show (9218868437227405311 : Nat) < 9218868437227405312 by omega)
  have hV := V_le_max h
  have e2 : decide (sg false (V 9218868437227405311) < sg false (V r)) = false := by
    unfold sg
    simp
    exact hV
  rw [e2] at e
  have e3 : (FloatKind.f64.format.order r 9218868437227405311 == some Ordering.gt) = false := e
  rw [e3] at this
  exact this

theorem isInf_inf (s : Bool) (w : World) : Calls Try.prog 11 #[.float .f64 (W s 9218868437227405312), .int .i64 0] w fun e w' => e = .returned (.bool true) ∧ w = w' := by
  have := isInf_any s 9218868437227405312 (by omega) w
  have e : (FloatKind.f64.format.order 9218868437227405312 9218868437227405311 == some Ordering.gt) = true := by
    have h1 : double.read 9218868437227405312 = .infinity false := read_inf false
    have h2 : double.read 9218868437227405311 = _ := read_W false (show (9218868437227405311 : Nat) < 9218868437227405312 by omega)
    rw [f64_format]
    unfold Format.order
    rw [h1, h2]
    rfl
  rw [e] at this
  exact this

set_option maxHeartbeats 400000 in
theorem signbit_any (s : Bool) (r : Nat) (h : r < 9223372036854775808) (w : World) : Calls Try.prog 16 #[.float .f64 (W s r)] w fun e w' => e = .returned (.bool s) ∧ w = w' := by
  have hw : decide (wrap64 ((W s r : Nat) : Int) < 0) = s := by
    unfold wrap64 W
    cases s <;> simp <;> omega
  go_enter Try.func16, Try.ntmps16
  go_wp2
  go_ret
  exact ⟨rfl, rfl⟩

/-! ### Frexp of a normal word without a sign -/

theorem exp_bits {r : Nat} (h : r < 9223372036854775808) : bits .and .u64 ((r : Int) / 4503599627370496) 2047 = ((r / 4503599627370496 : Nat) : Int) := by
  have h1 : r / 4503599627370496 < 2048 := by omega
  have := u64_and_nat (r / 4503599627370496) 2047 (by omega) (by omega)
  rw [nat_mask11, Nat.mod_eq_of_lt h1] at this
  rw [← this]
  rfl

theorem frac_bits {r : Nat} (h : r < 9223372036854775808) : bits .andNot .u64 (r : Int) 9218868437227405312 = ((r % 4503599627370496 : Nat) : Int) := by
  have := u64_andNot_nat r 9218868437227405312 (by omega) (by omega)
  rw [show ((9218868437227405312 : Nat) : Int) = 9218868437227405312 from rfl] at this
  rw [this]
  have e : (18446744073709551615 - 9218868437227405312 : Nat) = 9223372036854775808 ||| 4503599627370495 := by decide
  rw [e, Nat.and_or_distrib_left]
  have e1 : r &&& 9223372036854775808 = 0 := by
    have := nat_bit 63 r
    rw [show (2 ^ 63 : Nat) = 9223372036854775808 from rfl, Nat.div_eq_of_lt h] at this
    simpa using this
  have e2 : r &&& 4503599627370495 = r % 4503599627370496 := Nat.and_two_pow_sub_one_eq_mod _ 52
  rw [e1, e2, Nat.zero_or]

theorem half_bits {f : Nat} (h : f < 4503599627370496) : bits .or .u64 (f : Int) 4602678819172646912 = ((4602678819172646912 + f : Nat) : Int) := by
  have := u64_or_nat f 4602678819172646912 (by omega) (by omega)
  rw [show ((4602678819172646912 : Nat) : Int) = 4602678819172646912 from rfl] at this
  rw [this, Nat.or_comm, nat_join 52 4602678819172646912 f (by decide) (by simpa using h)]

set_option maxHeartbeats 400000 in
theorem normalize_normal (r : Nat) (h : r < 9218868437227405312) (hn : 4503599627370496 ≤ r) (w : World) : Calls Try.prog 29 #[.float .f64 r] w fun e w' => e = .returned (.tuple #[.float .f64 r, .int .i64 0]) ∧ w = w' := by
  have e0 := order_lt false false h (show (4503599627370496 : Nat) < 9218868437227405312 by omega)
  have hlt : (FloatKind.f64.format.order r 4503599627370496 == some Ordering.lt) = false := by
    have e1 : mant 4503599627370496 = 4503599627370496 := by decide
    have e2 : ex 4503599627370496 = 0 := by decide
    have hm := mant_ge hn
    have hp := Nat.two_pow_pos (ex r)
    have hV : V 4503599627370496 ≤ V r := by
      unfold V
      rw [e1, e2]
      exact Nat.mul_le_mul hm hp
    have : decide (sg false (V r) < sg false (V 4503599627370496)) = false := by
      unfold sg
      simp
      exact hV
    rw [this] at e0
    exact e0
  clear e0
  have habs := fun w => abs_any false r (by omega) w
  have hW : W false r = r := rfl
  rw [hW] at habs
  have H := Lib.hid habs
  clear habs hW
  go_enter Try.func29, Try.ntmps29
  go_wp2_with (go_at_call 15; refine (H.out _).mono ?_; rintro e w' ⟨rfl, rfl⟩)
  go_ret2
  exact ⟨rfl, rfl⟩

theorem order_zero {r : Nat} (h : r < 9218868437227405312) (h0 : r ≠ 0) : (FloatKind.f64.format.order r 0 == some Ordering.eq) = false := by
  have e0 := order_eq false false h (show (0 : Nat) < 9218868437227405312 by omega)
  have : decide (sg false (V r) = sg false (V 0)) = false := by
    have := V_pos h0
    rw [V_zero]
    unfold sg
    simp
    omega
  rw [this] at e0
  exact e0

set_option maxHeartbeats 1000000 in
theorem frexp_normal (r : Nat) (h : r < 9218868437227405312) (hn : 4503599627370496 ≤ r) (w : World) :
    Calls Try.prog 26 #[.float .f64 r] w fun e w' => e = .returned (.tuple #[.float .f64 (4602678819172646912 + r % 4503599627370496), .int .i64 ((r / 4503599627370496 : Nat) - 1023 + 1)]) ∧ w = w' := by
  have h0 := order_zero h (by omega)
  obtain ⟨E, hE⟩ : ∃ E, E = r / 4503599627370496 := ⟨_, rfl⟩
  obtain ⟨F, hF⟩ : ∃ F, F = r % 4503599627370496 := ⟨_, rfl⟩
  obtain ⟨G, hG⟩ : ∃ G, G = 4602678819172646912 + F := ⟨_, rfl⟩
  have b1 := exp_bits (show r < 9223372036854775808 by omega)
  have b2 := frac_bits (show r < 9223372036854775808 by omega)
  have b3 := half_bits (show F < 4503599627370496 by omega)
  have hE1 : E ≤ 2047 := by omega
  rw [← hE] at b1
  rw [← hF] at b2
  rw [← hG] at b3
  rw [← hF, ← hE, ← hG]
  clear hE hF hG
  have N := Lib.hid (fun w => normalize_normal r h hn w)
  have I := Lib.hid (fun w => isInf_fin false h w)
  have A := Lib.hid (fun w => isNaN_fin false h w)
  go_enter Try.func26, Try.ntmps26
  go_wp2_with ((first | (go_at_call 11; refine (I.out _).mono ?_) | (go_at_call 10; refine (A.out _).mono ?_) | (go_at_call 29; refine (N.out _).mono ?_)); rintro e w' ⟨rfl, rfl⟩)
  go_ret2
  exact ⟨rfl, rfl⟩

set_option maxHeartbeats 400000 in
theorem Frexp_normal (r : Nat) (h : r < 9218868437227405312) (hn : 4503599627370496 ≤ r) (w : World) :
    Calls Try.prog 22 #[.float .f64 r] w fun e w' => e = .returned (.tuple #[.float .f64 (4602678819172646912 + r % 4503599627370496), .int .i64 ((r / 4503599627370496 : Nat) - 1023 + 1)]) ∧ w = w' := by
  have N := Lib.hid (fun w => frexp_normal r h hn w)
  obtain ⟨E, hE⟩ : ∃ E, E = r / 4503599627370496 := ⟨_, rfl⟩
  obtain ⟨G, hG⟩ : ∃ G, G = 4602678819172646912 + r % 4503599627370496 := ⟨_, rfl⟩
  rw [← hE, ← hG] at N
  rw [← hE, ← hG]
  have hE1 : E ≤ 2047 := by omega
  clear hE hG
  go_enter Try.func22, Try.ntmps22
  go_wp2_with (go_at_call 26; refine (N.out _).mono ?_; rintro e w' ⟨rfl, rfl⟩)
  go_ret2
  exact ⟨rfl, rfl⟩

/-! ### Ldexp of 2^32 -/

theorem order_zero_y : (FloatKind.f64.format.order 4751297606875873280 0 == some Ordering.eq) = false := order_zero (by omega) (by omega)
theorem clear_y : bits .andNot .u64 4751297606875873280 9218868437227405312 = 0 := frac_bits (r := 4751297606875873280) (by omega)
theorem exp_y : bits .and .i64 1055 2047 = 1055 := by decide
theorem W_false (r : Nat) : W false r = r := rfl
theorem isInf_y (w : World) : Calls Try.prog 11 #[.float .f64 4751297606875873280, .int .i64 0] w fun e w' => e = .returned (.bool false) ∧ w = w' := by
  have h := isInf_fin false (r := 4751297606875873280) (by omega) w
  rw [W_false] at h
  exact h
theorem isNaN_y (w : World) : Calls Try.prog 10 #[.float .f64 4751297606875873280] w fun e w' => e = .returned (.bool false) ∧ w = w' := by
  have h := isNaN_fin false (r := 4751297606875873280) (by omega) w
  rw [W_false] at h
  exact h
theorem or_zero {x : Nat} (h : x < 18446744073709551616) : bits .or .u64 0 (x : Int) = (x : Int) := by
  have := u64_or_nat 0 x (by omega) h
  rw [Nat.zero_or] at this
  exact this
theorem mul_one_word {e : Nat} (h : 1000 ≤ e) (h' : e ≤ 2046) : floatBits .mul .f64 4607182418800017408 (e * 4503599627370496) = some (e * 4503599627370496) := by
  show double.mul 4607182418800017408 (e * 4503599627370496) = _
  have h1 : double.read 4607182418800017408 = _ := read_W false (show (4607182418800017408 : Nat) < 9218868437227405312 by omega)
  have h2 : double.read (e * 4503599627370496) = _ := read_W false (show e * 4503599627370496 < 9218868437227405312 by omega)
  unfold Format.mul
  rw [h1, h2]
  simp only [Datum.product, Option.map_some, Format.write]
  congr 1
  have x1 : ex 4607182418800017408 = 1022 := by decide
  have x2 : ex (e * 4503599627370496) = e - 1 := by unfold ex; omega
  have m1 : mant 4607182418800017408 = 4503599627370496 := by decide
  have m2 : mant (e * 4503599627370496) = 4503599627370496 := by
    unfold mant
    rw [if_neg (by omega)]
    omega
  rw [x1, x2, m1, m2]
  obtain ⟨a, ha⟩ : ∃ a, e = a + 53 := ⟨e - 53, by omega⟩
  have hp : (-1074 + ((1022 : Nat) : Int) + (-1074 + ((e - 1 : Nat) : Int))) = -1074 + (a : Int) := by omega
  rw [hp]
  have := nearest_exact false (m := 4503599627370496 * 4503599627370496) (a := a) (r := e * 4503599627370496) (by omega) ?_
  · exact this
  · unfold V
    rw [m2, x2, show e - 1 = 52 + a from by omega, Nat.pow_add, ← Nat.mul_assoc]

set_option maxRecDepth 100000 in
set_option maxHeartbeats 1000000 in
theorem ldexp_y (k : Nat) (hk : k ≤ 991) (w : World) :
    Calls Try.prog 28 #[.float .f64 4751297606875873280, .int .i64 k] w fun e w' => e = .returned (.float .f64 ((k + 1055) * 4503599627370496)) ∧ w = w' := by
  have h0 := order_zero_y
  have hc := clear_y
  have he := exp_y
  obtain ⟨X, hX⟩ : ∃ X, X = (k + 1055) * 4503599627370496 := ⟨_, rfl⟩
  have ho : bits .or .u64 0 (((k : Int) + 32 + 1023) * 4503599627370496) = (X : Int) := by
    have h := or_zero (x := X) (by omega)
    rw [show ((k : Int) + 32 + 1023) * 4503599627370496 = (X : Int) from by omega]
    exact h
  have hm := mul_one_word (e := k + 1055) (by omega) (by omega)
  rw [← hX] at hm
  rw [← hX]
  have N := Lib.hid (fun w => normalize_normal 4751297606875873280 (by omega) (by omega) w)
  have I : Hid (∀ w, Calls Try.prog 11 #[.float .f64 4751297606875873280, .int .i64 0] w fun e w' => e = .returned (.bool false) ∧ w = w') := Lib.hid isInf_y
  have A : Hid (∀ w, Calls Try.prog 10 #[.float .f64 4751297606875873280] w fun e w' => e = .returned (.bool false) ∧ w = w') := Lib.hid isNaN_y
  have hmul : ∀ w, (binOp .mul 23 (.float .f64 4607182418800017408) (.float .f64 X)).run Try.prog w = .ok (.float .f64 X) w := fun w => run_float_arith w .mul 23 .f64 _ _ _ hm
  clear hX hm
  go_enter Try.func28, Try.ntmps28
  go_wp2_with ((first | (go_at_call 11; refine (I.out _).mono ?_) | (go_at_call 10; refine (A.out _).mono ?_) | (go_at_call 29; refine (N.out _).mono ?_)); rintro e w' ⟨rfl, rfl⟩)
  go_ret
  exact ⟨rfl, rfl⟩

set_option maxHeartbeats 400000 in
theorem Ldexp_y (k : Nat) (hk : k ≤ 991) (w : World) :
    Calls Try.prog 23 #[.float .f64 4751297606875873280, .int .i64 k] w fun e w' => e = .returned (.float .f64 ((k + 1055) * 4503599627370496)) ∧ w = w' := by
  have N := Lib.hid (fun w => ldexp_y k hk w)
  obtain ⟨X, hX⟩ : ∃ X, X = (k + 1055) * 4503599627370496 := ⟨_, rfl⟩
  rw [← hX] at N
  rw [← hX]
  clear hX
  go_enter Try.func23, Try.ntmps23
  go_wp2_with (go_at_call 28; refine (N.out _).mono ?_; rintro e w' ⟨rfl, rfl⟩)
  go_ret
  exact ⟨rfl, rfl⟩

/-! ### mod by 2^32 -/

/-- 2^32, in units. -/
def Y : Nat := V 4751297606875873280
theorem ex_y : ex 4751297606875873280 = 1054 := by decide
theorem mant_y : mant 4751297606875873280 = 4503599627370496 := by decide
theorem Y_eq : Y = 4503599627370496 * 2 ^ ex 4751297606875873280 := by
  unfold Y V
  rw [mant_y]
theorem Y_pos : 0 < Y := V_pos (by omega)

/-- A word of at least 2^32 is normal, of at least that exponent. -/
theorem ex_of_ge {r : Nat} (h : Y ≤ V r) : 1054 ≤ ex r := by
  have hm := mant_lt r
  rcases Nat.lt_or_ge (ex r) 1054 with hlt | hge
  · exfalso
    obtain ⟨c, hc⟩ : ∃ c, ex 4751297606875873280 = c + 1 := ⟨1053, by decide⟩
    have hc' : c = 1053 := by
      have := ex_y
      omega
    have h1 : V r < 9007199254740992 * 2 ^ c := by
      unfold V
      have h2 : 2 ^ ex r ≤ 2 ^ c := Nat.pow_le_pow_right (by omega) (by omega)
      exact Nat.lt_of_le_of_lt (Nat.mul_le_mul_left _ h2) (Nat.mul_lt_mul_of_pos_right hm (Nat.two_pow_pos _))
    rw [Y_eq, hc, Nat.pow_succ] at h
    have h3 : 4503599627370496 * (2 ^ c * 2) = 9007199254740992 * 2 ^ c := by
      rw [Nat.mul_comm (2 ^ c) 2, ← Nat.mul_assoc]
    omega
  · exact hge

/-- One round: the first digit goes. -/
theorem round_step {r : Nat} (hr : r < 9218868437227405312) (h : Y ≤ V r) :
    ∃ q, q < 9218868437227405312 ∧ double.sub r ((ex r - 1054 + 1055) * 4503599627370496) = some q ∧ V q < V r ∧ V q % Y = V r % Y := by
  have he := ex_of_ge h
  have hn : 4503599627370496 ≤ r := by
    unfold ex at he
    omega
  have h1 := mant_lt r
  have h2 := mant_ge hn
  have h3 := ex_lt hr
  obtain ⟨L, hL⟩ : ∃ L, L = (ex r - 1054 + 1055) * 4503599627370496 := ⟨_, rfl⟩
  rw [← hL]
  have hLf : L < 9218868437227405312 := by omega
  have hLe : ex L = ex r := by
    have : ex L = L / 4503599627370496 - 1 := rfl
    omega
  have hLm : mant L = 4503599627370496 := by
    unfold mant
    rw [if_neg (by omega)]
    omega
  have hVL : V L = 4503599627370496 * 2 ^ ex r := by
    unfold V
    rw [hLe, hLm]
  have htop : (mant r - 4503599627370496) * 2 ^ ex r < 2 ^ kTop := by
    refine Nat.lt_of_le_of_lt ?_ (V_lt_top hr)
    unfold V
    exact Nat.mul_le_mul_right _ (by omega)
  obtain ⟨q, hq, hV⟩ := rep (mant r - 4503599627370496) (ex r) (by omega) htop
  have hsum : V r = V L + V q := by
    rw [hVL, hV, ← Nat.add_mul]
    unfold V
    rw [show 4503599627370496 + (mant r - 4503599627370496) = mant r from by omega]
  have hLpos : 0 < V L := by
    rw [hVL]
    exact Nat.mul_pos (by omega) (Nat.two_pow_pos _)
  refine ⟨q, hq, ?_, by omega, ?_⟩
  · have := sub_fin false false false hr hLf hq ?_ (fun _ => rfl)
    · exact this
    · unfold sg
      simp
      omega
  · have hdvd : Y ∣ V L := by
      rw [hVL, Y_eq]
      have hle : ex 4751297606875873280 ≤ ex r := by
        have := ex_y
        omega
      exact Nat.mul_dvd_mul_left _ (Nat.pow_dvd_pow 2 hle)
    obtain ⟨c, hc⟩ := hdvd
    rw [hsum, hc, Nat.mul_add_mod]

theorem geq_order {r : Nat} (h : r < 9218868437227405312) :
    (FloatKind.f64.format.order r 4751297606875873280 == some Ordering.gt || FloatKind.f64.format.order r 4751297606875873280 == some Ordering.eq) = decide (Y ≤ V r) := by
  have e1 := order_gt false false h (show (4751297606875873280 : Nat) < 9218868437227405312 by omega)
  have e2 := order_eq false false h (show (4751297606875873280 : Nat) < 9218868437227405312 by omega)
  rw [W_false, W_false] at e1 e2
  rw [f64_format, e1, e2, Bool.eq_iff_iff]
  unfold sg Y
  simp
  omega

theorem lt_half {r : Nat} : (FloatKind.f64.format.order (4602678819172646912 + r % 4503599627370496) 4602678819172646912 == some Ordering.lt) = false := by
  have hf : r % 4503599627370496 < 4503599627370496 := Nat.mod_lt _ (by omega)
  obtain ⟨f, hf'⟩ : ∃ f, f = r % 4503599627370496 := ⟨_, rfl⟩
  rw [← hf'] at hf
  rw [← hf']
  have e1 := order_lt false false (show 4602678819172646912 + f < 9218868437227405312 by omega) (show (4602678819172646912 : Nat) < 9218868437227405312 by omega)
  rw [W_false, W_false] at e1
  rw [f64_format, e1]
  have x1 : ex (4602678819172646912 + f) = 1021 := by unfold ex; omega
  have x2 : ex 4602678819172646912 = 1021 := by decide
  have m1 : mant (4602678819172646912 + f) = 4503599627370496 + f := by
    unfold mant
    rw [if_neg (by omega)]
    omega
  have m2 : mant 4602678819172646912 = 4503599627370496 := by decide
  have : V 4602678819172646912 ≤ V (4602678819172646912 + f) := by
    unfold V
    rw [x1.trans x2.symm, m1, m2]
    exact Nat.mul_le_mul_right _ (by omega)
  unfold sg
  simp
  exact this

/-- The bits in a slot. -/
def flOf : Value → Nat
  | .float _ b => b
  | _ => 0
/-- The same rest by 2^32. -/
def Same (p r : Nat) : Prop := V p % Y = V r % Y
theorem ret_fl {a b : Nat} (h : a = b) : Ending.returned (.float .f64 a) = .returned (.float .f64 b) := by rw [h]
/-- What mod answers. -/
def ModAns (s : Bool) (r : Nat) (w : World) (e : Ending) (w' : World) : Prop := (∃ q, q < 9218868437227405312 ∧ V q = V r % Y ∧ e = .returned (.float .f64 (W s q))) ∧ w = w'

theorem xor_sign {r : Nat} (h : r < 9223372036854775808) : r ^^^ 9223372036854775808 = 9223372036854775808 + r := by
  have e : (9223372036854775808 : Nat) = 2 ^ 63 := rfl
  have e1 : 9223372036854775808 + r = 9223372036854775808 ||| r := (nat_join 63 9223372036854775808 r (by decide) (by rw [← e]; exact h)).symm
  rw [e1]
  rw [e] at h
  rw [e]
  apply Nat.eq_of_testBit_eq
  intro i
  rw [Nat.testBit_xor, Nat.testBit_or, Nat.testBit_two_pow]
  by_cases hi : 63 = i
  · subst hi
    rw [Nat.testBit_lt_two_pow h]
    simp
  · simp [hi]

theorem neg_to {r : Nat} (h : r < 9223372036854775808) (w : World) : (Op.unary .neg (.float .f64 r)).run Try.prog w = .ok (.float .f64 (W true r)) w := by
  have e : Op.negFloat .f64 r = W true r := xor_sign h
  rw [← e]
  rfl

theorem neg_of {r : Nat} (h : r < 9223372036854775808) (w : World) : (Op.unary .neg (.float .f64 (W true r))).run Try.prog w = .ok (.float .f64 r) w := by
  have e : Op.negFloat .f64 (W true r) = r := by
    have e1 : W true r = r ^^^ 9223372036854775808 := (xor_sign h).symm
    rw [e1]
    show (r ^^^ 9223372036854775808) ^^^ 9223372036854775808 = r
    rw [Nat.xor_assoc, Nat.xor_self, Nat.xor_zero]
  have : (Op.unary .neg (.float .f64 (W true r))).run Try.prog w = .ok (.float .f64 (Op.negFloat .f64 (W true r))) w := rfl
  rw [this, e]

set_option maxRecDepth 100000 in
set_option maxHeartbeats 1000000 in
theorem mod_pos (r : Nat) (hr : r < 9218868437227405312) (w : World) : Calls Try.prog 18 #[.float .f64 r, .float .f64 4751297606875873280] w (ModAns false r w) := by
  have h0 := order_zero_y
  have hlt0 : (FloatKind.f64.format.order r 0 == some Ordering.lt) = false := by
    have e1 := order_lt false false hr (show (0 : Nat) < 9218868437227405312 by omega)
    rw [W_false, W_false] at e1
    rw [f64_format, e1, V_zero]
    unfold sg
    simp
  have I : Hid (∀ w, Calls Try.prog 11 #[.float .f64 r, .int .i64 0] w fun e w' => e = .returned (.bool false) ∧ w = w') := Lib.hid (isInf_fin false hr)
  have A : Hid (∀ w, Calls Try.prog 10 #[.float .f64 r] w fun e w' => e = .returned (.bool false) ∧ w = w') := Lib.hid (isNaN_fin false hr)
  have A2 : Hid (∀ w, Calls Try.prog 10 #[.float .f64 4751297606875873280] w fun e w' => e = .returned (.bool false) ∧ w = w') := Lib.hid isNaN_y
  have B : Hid (∀ w, Calls Try.prog 15 #[.float .f64 4751297606875873280] w fun e w' => e = .returned (.float .f64 4751297606875873280) ∧ w = w') := Lib.hid (abs_any false 4751297606875873280 (by omega))
  have F : Hid (∀ w, Calls Try.prog 22 #[.float .f64 4751297606875873280] w fun e w' => e = .returned (.tuple #[.float .f64 4602678819172646912, .int .i64 33]) ∧ w = w') := Lib.hid (Frexp_normal 4751297606875873280 (by omega) (by omega))
  go_enter Try.func18, Try.ntmps18
  go_wp2_with fail
  refine (I.out _).mono ?_
  rintro e w' ⟨rfl, rfl⟩
  go_wp2_with fail
  refine (A.out _).mono ?_
  rintro e w' ⟨rfl, rfl⟩
  go_wp2_with fail
  refine (A2.out _).mono ?_
  rintro e w' ⟨rfl, rfl⟩
  go_wp2_with fail
  refine (B.out _).mono ?_
  rintro e w' ⟨rfl, rfl⟩
  go_wp2_with fail
  refine (F.out _).mono ?_
  rintro e w' ⟨rfl, rfl⟩
  go_wp2_with fail
  go_loop [7] (fun v => ∃ p, p < 9218868437227405312 ∧ v = .float .f64 p ∧ Same p r) (fun v => V (flOf v))
  case atStart => exact ⟨r, hr, rfl, rfl⟩
  case round =>
    clear h0 I A A2 B F
    obtain ⟨p, hp, rfl, hs⟩ := hrel
    by_cases hge : Y ≤ V p
    · have hg := geq_order hp
      rw [decide_eq_true hge] at hg
      have he := ex_of_ge hge
      have he2 := ex_lt hp
      obtain ⟨q, hq, hsub, hVlt, hVm⟩ := round_step hp hge
      obtain ⟨k, hk⟩ : ∃ k, ex p = k + 1054 := ⟨ex p - 1054, by omega⟩
      have hn : 4503599627370496 ≤ p := by
        unfold ex at he
        omega
      have hE : ((p / 4503599627370496 : Nat) : Int) - 1023 + 1 = (k : Int) + 33 := by
        unfold ex at hk
        omega
      have N := Frexp_normal p hp hn
      have hl := lt_half (r := p)
      obtain ⟨G, hG⟩ : ∃ G, G = 4602678819172646912 + p % 4503599627370496 := ⟨_, rfl⟩
      rw [hE, ← hG] at N
      rw [← hG] at hl
      have L := Ldexp_y k (by omega)
      rw [show ex p - 1054 = k from by omega] at hsub
      obtain ⟨X, hX⟩ : ∃ X, X = (k + 1055) * 4503599627370496 := ⟨_, rfl⟩
      rw [← hX] at L hsub
      have hrun : ∀ w, (binOp .sub 23 (.float .f64 p) (.float .f64 X)).run Try.prog w = .ok (.float .f64 q) w := fun w => run_float_arith w .sub 23 .f64 _ _ _ hsub
      have HN := Lib.hid N
      have HL := Lib.hid L
      have Hs : Same q r := hVm.trans hs
      have HV := Lib.hid hVlt
      have hk2 : k ≤ 991 := by omega
      clear N L hG hX hE hk he he2 hsub hge hVlt hVm hs
      go_wp2_with fail
      refine (HN.out _).mono ?_
      rintro e w' ⟨rfl, rfl⟩
      go_wp2_with fail
      refine (HL.out _).mono ?_
      rintro e w' ⟨rfl, rfl⟩
      go_wp2_with fail
      go_round
      case rel => exact ⟨q, hq, rfl, Hs⟩
      case measure => exact HV.out
    · have hg := geq_order hp
      rw [decide_eq_false hge] at hg
      have hV : Hid (V p = V r % Y) := by
        have : V p % Y = V r % Y := hs
        rwa [Nat.mod_eq_of_lt (by omega)] at this
      clear hge
      go_wp2_with fail
      go_ret
      exact ⟨⟨p, hp, hV.out, rfl⟩, rfl⟩

set_option maxRecDepth 100000 in
set_option maxHeartbeats 1000000 in
theorem mod_neg (r : Nat) (hr : r < 9218868437227405312) (h0r : r ≠ 0) (w : World) : Calls Try.prog 18 #[.float .f64 (W true r), .float .f64 4751297606875873280] w (ModAns true r w) := by
  have h0 := order_zero_y
  have hlt0 : (FloatKind.f64.format.order (W true r) 0 == some Ordering.lt) = true := by
    have e1 := order_lt true false hr (show (0 : Nat) < 9218868437227405312 by omega)
    rw [W_false] at e1
    rw [f64_format, e1, V_zero]
    have := V_pos h0r
    unfold sg
    simp
    exact this
  have hn1 : ∀ w, (Op.unary .neg (.float .f64 (W true r))).run Try.prog w = .ok (.float .f64 r) w := neg_of (by omega)
  have I : Hid (∀ w, Calls Try.prog 11 #[.float .f64 (W true r), .int .i64 0] w fun e w' => e = .returned (.bool false) ∧ w = w') := Lib.hid (isInf_fin true hr)
  have A : Hid (∀ w, Calls Try.prog 10 #[.float .f64 (W true r)] w fun e w' => e = .returned (.bool false) ∧ w = w') := Lib.hid (isNaN_fin true hr)
  have A2 : Hid (∀ w, Calls Try.prog 10 #[.float .f64 4751297606875873280] w fun e w' => e = .returned (.bool false) ∧ w = w') := Lib.hid isNaN_y
  have B : Hid (∀ w, Calls Try.prog 15 #[.float .f64 4751297606875873280] w fun e w' => e = .returned (.float .f64 4751297606875873280) ∧ w = w') := Lib.hid (abs_any false 4751297606875873280 (by omega))
  have F : Hid (∀ w, Calls Try.prog 22 #[.float .f64 4751297606875873280] w fun e w' => e = .returned (.tuple #[.float .f64 4602678819172646912, .int .i64 33]) ∧ w = w') := Lib.hid (Frexp_normal 4751297606875873280 (by omega) (by omega))
  go_enter Try.func18, Try.ntmps18
  go_wp2_with fail
  refine (I.out _).mono ?_
  rintro e w' ⟨rfl, rfl⟩
  go_wp2_with fail
  refine (A.out _).mono ?_
  rintro e w' ⟨rfl, rfl⟩
  go_wp2_with fail
  refine (A2.out _).mono ?_
  rintro e w' ⟨rfl, rfl⟩
  go_wp2_with fail
  refine (B.out _).mono ?_
  rintro e w' ⟨rfl, rfl⟩
  go_wp2_with fail
  refine (F.out _).mono ?_
  rintro e w' ⟨rfl, rfl⟩
  go_wp2_with fail
  go_loop [7] (fun v => ∃ p, p < 9218868437227405312 ∧ v = .float .f64 p ∧ Same p r) (fun v => V (flOf v))
  case atStart => exact ⟨r, hr, rfl, rfl⟩
  case round =>
    clear h0 I A A2 B F
    obtain ⟨p, hp, rfl, hs⟩ := hrel
    by_cases hge : Y ≤ V p
    · have hg := geq_order hp
      rw [decide_eq_true hge] at hg
      have he := ex_of_ge hge
      have he2 := ex_lt hp
      obtain ⟨q, hq, hsub, hVlt, hVm⟩ := round_step hp hge
      obtain ⟨k, hk⟩ : ∃ k, ex p = k + 1054 := ⟨ex p - 1054, by omega⟩
      have hn : 4503599627370496 ≤ p := by
        unfold ex at he
        omega
      have hE : ((p / 4503599627370496 : Nat) : Int) - 1023 + 1 = (k : Int) + 33 := by
        unfold ex at hk
        omega
      have N := Frexp_normal p hp hn
      have hl := lt_half (r := p)
      obtain ⟨G, hG⟩ : ∃ G, G = 4602678819172646912 + p % 4503599627370496 := ⟨_, rfl⟩
      rw [hE, ← hG] at N
      rw [← hG] at hl
      have L := Ldexp_y k (by omega)
      rw [show ex p - 1054 = k from by omega] at hsub
      obtain ⟨X, hX⟩ : ∃ X, X = (k + 1055) * 4503599627370496 := ⟨_, rfl⟩
      rw [← hX] at L hsub
      have hrun : ∀ w, (binOp .sub 23 (.float .f64 p) (.float .f64 X)).run Try.prog w = .ok (.float .f64 q) w := fun w => run_float_arith w .sub 23 .f64 _ _ _ hsub
      have HN := Lib.hid N
      have HL := Lib.hid L
      have Hs : Same q r := hVm.trans hs
      have HV := Lib.hid hVlt
      have hk2 : k ≤ 991 := by omega
      clear N L hG hX hE hk he he2 hsub hge hVlt hVm hs
      go_wp2_with fail
      refine (HN.out _).mono ?_
      rintro e w' ⟨rfl, rfl⟩
      go_wp2_with fail
      refine (HL.out _).mono ?_
      rintro e w' ⟨rfl, rfl⟩
      go_wp2_with fail
      go_round
      case rel => exact ⟨q, hq, rfl, Hs⟩
      case measure => exact HV.out
    · have hg := geq_order hp
      rw [decide_eq_false hge] at hg
      have hV : Hid (V p = V r % Y) := by
        have : V p % Y = V r % Y := hs
        rwa [Nat.mod_eq_of_lt (by omega)] at this
      have hn2 : ∀ w, (Op.unary .neg (.float .f64 p)).run Try.prog w = .ok (.float .f64 (W true p)) w := neg_to (by omega)
      clear hge
      go_wp2_with fail
      go_ret
      exact ⟨⟨p, hp, hV.out, rfl⟩, rfl⟩

set_option maxRecDepth 100000 in
set_option maxHeartbeats 1000000 in
theorem mod_negzero (w : World) : Calls Try.prog 18 #[.float .f64 (W true 0), .float .f64 4751297606875873280] w (ModAns true 0 w) := by
  have h0 := order_zero_y
  have hlt0 : (FloatKind.f64.format.order (W true 0) 0 == some Ordering.lt) = false := by decide
  have hg : (FloatKind.f64.format.order (W true 0) 4751297606875873280 == some Ordering.gt || FloatKind.f64.format.order (W true 0) 4751297606875873280 == some Ordering.eq) = false := by
    have e1 := order_gt true false (show (0 : Nat) < 9218868437227405312 by omega) (show (4751297606875873280 : Nat) < 9218868437227405312 by omega)
    have e2 := order_eq true false (show (0 : Nat) < 9218868437227405312 by omega) (show (4751297606875873280 : Nat) < 9218868437227405312 by omega)
    have := Y_pos
    rw [W_false] at e1 e2
    rw [f64_format, e1, e2, V_zero]
    unfold Y at this
    unfold sg
    simp
    omega
  have I : Hid (∀ w, Calls Try.prog 11 #[.float .f64 (W true 0), .int .i64 0] w fun e w' => e = .returned (.bool false) ∧ w = w') := Lib.hid (isInf_fin true (by omega))
  have A : Hid (∀ w, Calls Try.prog 10 #[.float .f64 (W true 0)] w fun e w' => e = .returned (.bool false) ∧ w = w') := Lib.hid (isNaN_fin true (by omega))
  have A2 : Hid (∀ w, Calls Try.prog 10 #[.float .f64 4751297606875873280] w fun e w' => e = .returned (.bool false) ∧ w = w') := Lib.hid isNaN_y
  have B : Hid (∀ w, Calls Try.prog 15 #[.float .f64 4751297606875873280] w fun e w' => e = .returned (.float .f64 4751297606875873280) ∧ w = w') := Lib.hid (abs_any false 4751297606875873280 (by omega))
  have F : Hid (∀ w, Calls Try.prog 22 #[.float .f64 4751297606875873280] w fun e w' => e = .returned (.tuple #[.float .f64 4602678819172646912, .int .i64 33]) ∧ w = w') := Lib.hid (Frexp_normal 4751297606875873280 (by omega) (by omega))
  obtain ⟨Z, hZ⟩ : ∃ Z, Z = W true 0 := ⟨_, rfl⟩
  have HZ := Lib.hid hZ
  rw [← hZ] at hlt0 hg I A
  rw [← hZ]
  clear hZ
  go_enter Try.func18, Try.ntmps18
  go_wp2_with fail
  refine (I.out _).mono ?_
  rintro e w' ⟨rfl, rfl⟩
  go_wp2_with fail
  refine (A.out _).mono ?_
  rintro e w' ⟨rfl, rfl⟩
  go_wp2_with fail
  refine (A2.out _).mono ?_
  rintro e w' ⟨rfl, rfl⟩
  go_wp2_with fail
  refine (B.out _).mono ?_
  rintro e w' ⟨rfl, rfl⟩
  go_wp2_with fail
  refine (F.out _).mono ?_
  rintro e w' ⟨rfl, rfl⟩
  go_wp2_with fail
  go_loop [7] (fun v => v = .float .f64 Z) (fun _ => 0)
  case atStart => rfl
  case round =>
    obtain rfl := hrel
    go_wp2_with fail
    go_ret
    exact ⟨⟨0, by omega, by rw [V_zero, Nat.zero_mod], ret_fl HZ.out⟩, rfl⟩

theorem mod_any (s : Bool) (r : Nat) (hr : r < 9218868437227405312) (w : World) : Calls Try.prog 18 #[.float .f64 (W s r), .float .f64 4751297606875873280] w (ModAns s r w) := by
  cases s
  · exact mod_pos r hr w
  · by_cases h : r = 0
    · subst h
      exact mod_negzero w
    · exact mod_neg r hr h w

set_option maxHeartbeats 400000 in
theorem Mod_any (s : Bool) (r : Nat) (hr : r < 9218868437227405312) (w : World) : Calls Try.prog 12 #[.float .f64 (W s r), .float .f64 4751297606875873280] w (ModAns s r w) := by
  have M := Lib.hid (mod_any s r hr)
  go_enter Try.func12, Try.ntmps12
  go_wp2_with fail
  refine (M.out _).mono ?_
  rintro e w' ⟨⟨q, hq, hV, rfl⟩, rfl⟩
  have HV := Lib.hid hV
  clear hV
  go_wp2_with fail
  go_ret
  exact ⟨⟨q, hq, HV.out, rfl⟩, rfl⟩
end Go.Proofs.Ytmfbgoikekmdkaa
