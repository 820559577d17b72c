/-
  The reference's Radix: the digits of a whole number to a base.
-/
import Derived.Test.YtmfbgoikekmdkaaDoorRadP
namespace Go.Proofs.YtmfbgoikekmdkaaDoor
open Go Go.Proofs Go.RowKit Go.Lib Go.Sort Ieee

theorem conv_u64 (s : Bool) {r : Nat} (h : r < 9218868437227405312) (h1 : 0 ≤ sg s (whole r)) (h2 : sg s (whole r) ≤ 2147483648) (w : World) :
    (convert 26 25 (.float .f64 (W s r))).run Tryd.prog w = .ok (.int .u64 (sg s (whole r))) w := by
  refine run_convert_float_int w 26 25 .f64 .u64 _ _ (by rw [Tryd.underlying26]; rfl) Tryd.underlying25 ?_
  unfold floatToIntVal
  have e : (FloatKind.f64.decode (W s r)).toInt .zero = some (sg s (whole r)) := toInt_fin s h
  rw [e]
  simp only
  have h3 : IntKind.u64.min ≤ sg s (whole r) := h1
  have h4 : sg s (whole r) ≤ IntKind.u64.max := Int.le_trans h2 (by decide)
  rw [if_pos ⟨h3, h4⟩]

theorem halved {b m q e : Nat} (hb : 2 ≤ b) (hq : q = m / b) (hp : 0 < q) (hm : m < 2 ^ e) : 1 ≤ e ∧ q < 2 ^ (e - 1) ∧ b ≤ m ∧ q < m := by
  have hbm : b ≤ m := by
    rcases Nat.lt_or_ge m b with h | h
    · rw [Nat.div_eq_of_lt h] at hq
      omega
    · exact h
  have he : 1 ≤ e := by
    rcases Nat.eq_zero_or_pos e with h | h
    · subst h
      simp at hm
      omega
    · exact h
  obtain ⟨f, rfl⟩ : ∃ f, e = f + 1 := ⟨e - 1, by omega⟩
  rw [Nat.pow_succ] at hm
  have h2 : m / b ≤ m / 2 := Nat.div_le_div_left hb (by decide)
  refine ⟨he, ?_, hbm, ?_⟩
  · rw [Nat.add_sub_cancel]
    omega
  · rw [hq]
    exact Nat.div_lt_self (by omega) hb

theorem rad_length {b : Nat} (hb : 2 ≤ b) : ∀ {e m : Nat}, m < 2 ^ e → (rad b m).length ≤ e + 1 := by
  intro e
  induction e with
  | zero =>
    intro m h
    rw [rad_small (by simp at h; omega)]
    simp
  | succ e ih =>
    intro m h
    by_cases hm : m < b
    · rw [rad_small hm]
      simp
    · rw [rad_big (by omega) hb, List.length_append]
      have h2 : m / b ≤ m / 2 := Nat.div_le_div_left hb (by decide)
      have := ih (m := m / b) (by rw [Nat.pow_succ] at h; omega)
      simp
      omega

set_option maxRecDepth 100000 in
set_option maxHeartbeats 4000000 in
theorem radix_loop (n b x : Nat) (w : World) (hn : n ≤ 2147483648) (hb1 : 2 ≤ b) (hb2 : b ≤ 36) (hlt : (FloatKind.f64.format.order x 0 == some Ordering.lt) = false)
    (hc : ∀ w, (convert 26 25 (.float .f64 x)).run Tryd.prog w = .ok (.int .u64 (n : Int)) w) :
    Calls Tryd.prog 13 #[.float .f64 x, .int .i64 b] w fun e w' => e = .returned (.string ⟨(rad b n).toArray⟩) ∧ w = w' := by
  go_enter Tryd.func13, Tryd.ntmps13
  go_name_bytes SM hSM
  have eSM : SM = Lib.digits36 := by rw [← hSM]; decide +kernel
  subst eSM
  clear hSM
  have h36 := Lib.digits36_size
  go_wp2
  go_loopw [5, 6] (fun u o wr => ∃ (m e : Nat) (a : ByteArray), u = .int .u64 m ∧ o = .string a ∧ m ≤ 2147483648 ∧ Hid (m < 2 ^ e) ∧ a.size + e ≤ 40 ∧ w = wr ∧ Hid (rad b m ++ a.data.toList = rad b n)) (fun u _ _ => (RowKit.intOf u).toNat)
  case atStart => exact ⟨n, 32, ByteArray.empty, rfl, rfl, hn, Lib.hid (Nat.lt_of_le_of_lt hn (by decide)), by decide, rfl, Lib.hid (by simp)⟩
  case round =>
    obtain ⟨m, e, a, rfl, rfl, hm, hme, ha, rfl, hr⟩ := hrel
    obtain ⟨q, hqn⟩ : ∃ q : Nat, q = m / b := ⟨_, rfl⟩
    obtain ⟨d, hdn⟩ : ∃ d : Nat, d = m % b := ⟨_, rfl⟩
    have hq : (m : Int) / (b : Int) = (q : Int) := by rw [hqn]; rfl
    have hd : (m : Int) % (b : Int) = (d : Int) := by rw [hdn]; rfl
    have hdb : d < b := by rw [hdn]; exact Nat.mod_lt _ (by omega)
    have hqm : q ≤ m := by rw [hqn]; exact Nat.div_le_self _ _
    have HQ := Lib.hid hqn
    have HDN := Lib.hid hdn
    have hpc := Lib.hid (piece36 d (by omega))
    clear hqn hdn
    by_cases h0 : q = 0
    · have hlt2 : m < b := by
        have := HQ.out
        rw [h0] at this
        exact (Nat.div_eq_zero_iff_lt (by omega)).1 this.symm
      have HL := Lib.hid hlt2
      subst h0
      clear hlt2
      go_wp2
      go_ret
      refine ⟨?_, rfl⟩
      show Ending.returned (.string (Lib.digits36.extract d (d + 1) ++ a)) = _
      have h1 : (Lib.digits36.extract d (d + 1) ++ a).data.toList = rad b n := by
        rw [app_list, hpc.out, ← hr.out, rad_small HL.out, HDN.out, Nat.mod_eq_of_lt HL.out]
      rw [← h1]
    · have hqpos : 0 < q := by omega
      go_wp2
      refine ⟨⟨q, e - 1, _, rfl, rfl, by omega, Lib.hid ?_, ?_, trivial, Lib.hid ?_⟩, ?_⟩
      · exact (halved hb1 HQ.out hqpos hme.out).2.1
      · have := (halved hb1 HQ.out hqpos hme.out).1
        rw [ByteArray.size_append, ByteArray.size_extract, h36]
        omega
      · rw [app_list, hpc.out, ← hr.out, rad_big (halved hb1 HQ.out hqpos hme.out).2.2.1 hb1, HQ.out, HDN.out, List.append_assoc]
      · have := (halved hb1 HQ.out hqpos hme.out).2.2.2
        simp only [RowKit.intOf]
        omega

theorem radix_pos (n b r : Nat) (hn : n ≤ 2147483648) (hb1 : 2 ≤ b) (hb2 : b ≤ 36) (hr : r < 9218868437227405312) (hV : V r = n * one) (w : World) :
    Calls Tryd.prog 13 #[.float .f64 r, .int .i64 b] w fun e w' => e = .returned (.string ⟨(rad b n).toArray⟩) ∧ w = w' := by
  have hw : sg false (whole r) = (n : Int) := by
    rw [whole_of hV]
    rfl
  refine radix_loop n b r w hn hb1 hb2 ?_ (fun w => ?_)
  · have := lt_zero false hr
    rw [W_false] at this
    rw [this]
    rfl
  · have := conv_u64 false hr (by rw [hw]; omega) (by rw [hw]; omega) w
    rw [hw, W_false] at this
    exact this

/-- The zero with a sign. -/
theorem radix_nzero (b : Nat) (hb1 : 2 ≤ b) (hb2 : b ≤ 36) (w : World) :
    Calls Tryd.prog 13 #[.float .f64 (W true 0), .int .i64 b] w fun e w' => e = .returned (.string ⟨(rad b 0).toArray⟩) ∧ w = w' := by
  have hw : sg true (whole 0) = ((0 : Nat) : Int) := by
    rw [whole_of (q := 0) (n := 0) (by rw [V_zero, Nat.zero_mul])]
    rfl
  refine radix_loop 0 b (W true 0) w (by omega) hb1 hb2 ?_ (fun w => ?_)
  · rw [lt_zero true (q := 0) (by omega)]
    rfl
  · have := conv_u64 true (r := 0) (by omega) (by rw [hw]; omega) (by rw [hw]; omega) w
    rw [hw] at this
    exact this

set_option maxRecDepth 100000 in
set_option maxHeartbeats 4000000 in
theorem radix_neg (n b r : Nat) (h1 : 1 ≤ n) (hn : n ≤ 2147483648) (hb1 : 2 ≤ b) (hb2 : b ≤ 36) (hr : r < 9218868437227405312) (hV : V r = n * one) (w : World) :
    Calls Tryd.prog 13 #[.float .f64 (W true r), .int .i64 b] w fun e w' => e = .returned (.string ⟨(45 :: rad b n).toArray⟩) ∧ w = w' := by
  have h0 : r ≠ 0 := by
    intro e
    rw [e, V_zero] at hV
    have := Nat.mul_pos h1 one_pos
    omega
  have HP := Lib.hid (radix_pos n b r hn hb1 hb2 hr hV w)
  have hlt := lt_zero true hr
  rw [decide_eq_true h0, Bool.true_and] at hlt
  have hneg := fun w => neg_of (show r < 9223372036854775808 by omega) w
  obtain ⟨x, hx⟩ : ∃ x, x = W true r := ⟨_, rfl⟩
  rw [← hx] at hlt hneg ⊢
  obtain ⟨L, hL⟩ : ∃ L : ByteArray, L = ⟨(rad b n).toArray⟩ := ⟨_, rfl⟩
  rw [← hL] at HP
  have hLs : L.size ≤ 33 := by
    rw [hL, ← list_size]
    exact rad_length hb1 (e := 32) (Nat.lt_of_le_of_lt hn (by decide))
  have HL := Lib.hid hL
  clear hx h0 hr hV hL
  go_enter Tryd.func13, Tryd.ntmps13
  go_name_bytes SM hSM
  clear hSM
  go_wp2_with fail
  refine HP.out.mono ?_
  rintro e w' ⟨rfl, rfl⟩
  clear HP
  go_wp2
  go_ret
  refine ⟨?_, rfl⟩
  show Ending.returned (.string (⟨#[45]⟩ ++ L)) = _
  rw [HL.out]
  rfl
end Go.Proofs.YtmfbgoikekmdkaaDoor
