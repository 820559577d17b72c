/-
  Trunc and Abs, as the law asks them.
-/
import Derived.Test.YtmfbgoikekmdkaaDoorTry
namespace Go.Proofs.YtmfbgoikekmdkaaDoor
open Go Go.Proofs Go.RowKit Go.Lib Go.Sort Ieee

theorem trunc_inf (s : Bool) (w : World) : (Extern.MathFloor.toIntegral "math.archTrunc" .zero #[.float .f64 (W s 9218868437227405312)]).run Tryd.prog w = .ok (.float .f64 (W s 9218868437227405312)) w := by
  have hd : FloatKind.f64.decode (W s 9218868437227405312) = .infinity s := read_inf s
  have key : ∃ f : Bool → Nat → Sem Value, Extern.MathFloor.toIntegral "math.archTrunc" .zero #[.float .f64 (W s 9218868437227405312)] = (match FloatKind.f64.decode (W s 9218868437227405312) with | .nan a b => f a b | d => pure (.float .f64 (FloatKind.f64.encode (d.integral .zero)))) := ⟨_, rfl⟩
  obtain ⟨f, hf⟩ := key
  rw [hf, hd]
  have e' : FloatKind.f64.encode (Datum.integral .zero (.infinity s)) = W s 9218868437227405312 := by cases s <;> decide
  show (pure (.float .f64 (FloatKind.f64.encode (Datum.integral .zero (.infinity s)))) : Sem Value).run Tryd.prog w = _
  rw [e']
  rfl

theorem trunc_nan (s : Bool) {r : Nat} (h : 9218868437227405312 < r) (h' : r < 9223372036854775808) (w : World) : ∃ y w1, (Extern.MathFloor.toIntegral "math.archTrunc" .zero #[.float .f64 (W s r)]).run Tryd.prog w = .ok (.float .f64 y) w1 ∧ Below w.heap.size w w1 := by
  have hd : FloatKind.f64.decode (W s r) = .nan s (r - 9218868437227405312) := read_nan s h h'
  obtain ⟨x, hx⟩ : ∃ x, x = W s r := ⟨_, rfl⟩
  rw [← hx] at hd ⊢
  have key : ∃ (p : Nat → Prop) (_ : ∀ t, Decidable (p t)) (q : Question) (f : Nat → Nat → Nat), Extern.MathFloor.toIntegral "math.archTrunc" .zero #[.float .f64 x] = (match FloatKind.f64.decode x with | .nan _ t => if p t then pure (.float .f64 x) else (do let kept ← choose q; pure (.float .f64 (f t kept))) | d => pure (.float .f64 (FloatKind.f64.encode (d.integral .zero)))) := by
    refine ⟨fun t => FloatKind.f64.format.quiet t = t, fun t => inferInstance, .extern "math.Floor,Ceil,Trunc,RoundToEven.signallingNaN kept" 2, fun t kept => if kept == 1 then x else FloatKind.f64.encode (.nan s (FloatKind.f64.format.quiet t)), ?_⟩
    show (match FloatKind.f64.decode x with | .nan _ _ => _ | d => _) = _
    rw [hd]
  obtain ⟨p, dp, q, f, hf⟩ := key
  rw [hf, hd]
  show ∃ y w1, (if p (r - 9218868437227405312) then pure (.float .f64 x) else (do let kept ← choose q; pure (.float .f64 (f (r - 9218868437227405312) kept))) : Sem Value).run Tryd.prog w = _ ∧ _
  by_cases hp : p (r - 9218868437227405312)
  · rw [if_pos hp]
    exact ⟨_, _, rfl, Below.refl _ _⟩
  · rw [if_neg hp]
    simp only [Sem.run_bind, run_choose_drew]
    split
    · exact ⟨_, _, rfl, Below.refl _ _⟩
    · exact ⟨_, _, rfl, (Below.refl _ _).drew⟩

set_option maxHeartbeats 400000 in
theorem trunc_any (x y : Nat) (w w1 : World) (h : (Extern.MathFloor.toIntegral "math.archTrunc" .zero #[.float .f64 x]).run Tryd.prog w = .ok (.float .f64 y) w1) : Calls Tryd.prog 11 #[.float .f64 x] w fun e w' => e = .returned (.float .f64 y) ∧ w' = w1 := by
  go_enter Tryd.func11, Tryd.ntmps11
  go_wp2
  go_ret
  exact ⟨rfl, rfl⟩

/-- Below 2^53. -/
theorem abs_small {r n : Nat} (hr : r < 9218868437227405312) (hV : V r = n * one) (hn : n ≤ 2147483648) : (FloatKind.f64.format.order r 4845873199050653696 == some Ordering.gt) = false ∧ (FloatKind.f64.format.order r 4845873199050653696 == some Ordering.eq) = false := by
  have hV2 : V 4845873199050653696 = 9007199254740992 * one := by
    have e1 : ex 4845873199050653696 = 1075 := by decide
    have e2 : mant 4845873199050653696 = 4503599627370496 := by decide
    obtain ⟨k, hk⟩ : ∃ k, ex 4845873199050653696 = k := ⟨_, rfl⟩
    have h2 := kOne_eq
    unfold V
    rw [hk, e2]
    unfold one
    rw [show k = kOne + 1 from by omega, Nat.pow_succ, Nat.mul_comm (2 ^ kOne) 2, ← Nat.mul_assoc]
  have hlt : V r < V 4845873199050653696 := by
    rw [hV, hV2]
    exact Nat.mul_lt_mul_of_pos_right (by omega) one_pos
  have a := order_gt false false hr (show (4845873199050653696 : Nat) < 9218868437227405312 by omega)
  have b := order_eq false false hr (show (4845873199050653696 : Nat) < 9218868437227405312 by omega)
  rw [W_false, W_false] at a b
  rw [f64_format, a, b]
  constructor
  · simp only [sg, Bool.false_eq_true, if_false, decide_eq_false_iff_not]
    omega
  · simp only [sg, Bool.false_eq_true, if_false, decide_eq_false_iff_not]
    omega

theorem order_self (s : Bool) {r : Nat} (hr : r < 9218868437227405312) : (FloatKind.f64.format.order (W s r) (W s r) == some Ordering.eq) = true := by
  rw [f64_format, order_eq s s hr hr]
  simp

theorem inf_self (s : Bool) : (FloatKind.f64.format.order (W s 9218868437227405312) (W s 9218868437227405312) == some Ordering.eq) = true := by cases s <;> decide
theorem inf_big : (FloatKind.f64.format.order 9218868437227405312 4845873199050653696 == some Ordering.gt) = true := by decide

/-- Three. -/
theorem is_three : Is32 false 4613937818241073152 3 := by
  have h : wordN 3 1 = 4613937818241073152 := by decide
  refine ⟨by decide, ?_, by decide, by decide, by decide⟩
  rw [← h, show ((3 : Int).natAbs) = 3 from rfl]
  exact V_wordN (n := 3) (E := 1) (by decide) (by decide) (by decide)
end Go.Proofs.YtmfbgoikekmdkaaDoor
