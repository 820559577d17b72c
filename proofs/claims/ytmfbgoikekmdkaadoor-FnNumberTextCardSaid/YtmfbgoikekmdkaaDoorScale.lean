/-
  The walks of the unrounded scaling: nudge, ceil, floor, skewed, log10Pow2, log2Pow10, prescale, uscale. The conditions stand in each theorem.
-/
import Derived.Test.YtmfbgoikekmdkaaDoorProg
import Derived.Test.YtmfbgoikekmdkaaDoorShelf
import Derived.Test.YtmfbgoikekmdkaaDoorShort
import Derived.WalkKit
import Derived.WalkLawsBesides
import Derived.WalkSpells
import Derived.Outline
import Derived.Lib.Hide
import Derived.Laws.Externs
import Derived.Laws.BitsAllLaws
import Derived.Laws.Shifts
import Derived.Deep.QuietTactic
import Derived.BigQuiet
namespace Go.Proofs.YtmfbgoikekmdkaaDoor
open Go Go.Proofs Go.RowKit Ieee

theorem ret_u64 {a b : Int} (h : a = b) : Ending.returned (.int .u64 a) = .returned (.int .u64 b) := by rw [h]

set_option maxHeartbeats 400000 in
theorem nudge_up (u o : Nat) (ho : o ≤ 1) (hu : u < 9223372036854775808) (w : World) : Calls Tryd.prog 74 #[.int .u64 u, .int .i64 o] w fun e w' => e = .returned (.int .u64 ((u + o : Nat) : Int)) ∧ w = w' := by
  go_enter Tryd.func74, Tryd.ntmps74
  go_wp2
  go_ret
  exact ⟨ret_u64 (by omega), rfl⟩

set_option maxHeartbeats 400000 in
theorem nudge_down (u o : Nat) (ho : o ≤ 1) (hu : u < 9223372036854775808) (h2 : 2 ≤ u) (w : World) : Calls Tryd.prog 74 #[.int .u64 u, .int .i64 (-(o : Int))] w fun e w' => e = .returned (.int .u64 ((u - o : Nat) : Int)) ∧ w = w' := by
  have hw : IntKind.u64.wrap ((u : Int) + IntKind.u64.wrap (-(o : Int))) = ((u - o : Nat) : Int) := by
    rw [IntKind.wrap_u64, IntKind.wrap_u64]
    omega
  go_enter Tryd.func74, Tryd.ntmps74
  go_wp2
  go_ret
  exact ⟨rfl, rfl⟩

set_option maxHeartbeats 400000 in
theorem ceil_any (u : Nat) (hu : u < 9223372036854775808) (w : World) : Calls Tryd.prog 75 #[.int .u64 u] w fun e w' => e = .returned (.int .u64 (((u + 3) / 4 : Nat) : Int)) ∧ w = w' := by
  go_enter Tryd.func75, Tryd.ntmps75
  go_wp2
  go_ret
  exact ⟨ret_u64 (by omega), rfl⟩

set_option maxHeartbeats 400000 in
theorem floor_any (u : Nat) (hu : u < 9223372036854775808) (w : World) : Calls Tryd.prog 76 #[.int .u64 u] w fun e w' => e = .returned (.int .u64 ((u / 4 : Nat) : Int)) ∧ w = w' := by
  go_enter Tryd.func76, Tryd.ntmps76
  go_wp2
  go_ret
  exact ⟨ret_u64 (by omega), rfl⟩

set_option maxHeartbeats 400000 in
theorem skewed_any (x : Int) (h1 : -100 ≤ x) (h2 : x ≤ 100) (w : World) : Calls Tryd.prog 70 #[.int .i64 x] w fun e w' => e = .returned (.int .i64 ((x * 631305 - 261663) / 2097152)) ∧ w = w' := by
  go_enter Tryd.func70, Tryd.ntmps70
  go_wp2
  go_ret
  exact ⟨rfl, rfl⟩

set_option maxHeartbeats 400000 in
theorem l10_any (x : Int) (h1 : -100 ≤ x) (h2 : x ≤ 100) (w : World) : Calls Tryd.prog 55 #[.int .i64 x] w fun e w' => e = .returned (.int .i64 (x * 78913 / 262144)) ∧ w = w' := by
  go_enter Tryd.func55, Tryd.ntmps55
  go_wp2
  go_ret
  exact ⟨rfl, rfl⟩

set_option maxHeartbeats 400000 in
theorem l2_any (x : Nat) (h2 : x ≤ 100) (w : World) : Calls Tryd.prog 72 #[.int .i64 x] w fun e w' => e = .returned (.int .i64 ((x * 108853 / 32768 : Nat) : Int)) ∧ w = w' := by
  go_enter Tryd.func72, Tryd.ntmps72
  go_wp2
  go_ret
  exact ⟨rfl, rfl⟩

set_option maxHeartbeats 400000 in
theorem bool2_true (w : World) : Calls Tryd.prog 90 #[.bool true] w fun e w' => e = .returned (.int .u64 1) ∧ w = w' := by
  go_enter Tryd.func90, Tryd.ntmps90
  go_wp2
  go_ret
  exact ⟨rfl, rfl⟩
set_option maxHeartbeats 400000 in
theorem bool2_false (w : World) : Calls Tryd.prog 90 #[.bool false] w fun e w' => e = .returned (.int .u64 0) ∧ w = w' := by
  go_enter Tryd.func90, Tryd.ntmps90
  go_wp2
  go_ret
  exact ⟨rfl, rfl⟩
def b2n (b : Bool) : Int := if b then 1 else 0
theorem bool2_any (b : Bool) (w : World) : Calls Tryd.prog 90 #[.bool b] w fun e w' => e = .returned (.int .u64 (b2n b)) ∧ w = w' := by
  cases b
  · exact bool2_false w
  · exact bool2_true w

set_option maxRecDepth 100000 in
set_option maxHeartbeats 400000 in
theorem prescale_any (b : Nat) (p s : Nat) (e lp : Int) (H : Nat) (hp : p ≤ 17) (w : World) (he1 : -100 ≤ e) (he2 : e ≤ 100) (h1 : -100 ≤ lp) (h2 : lp ≤ 100) (hs : -(e + lp + 3) = (s : Int))
    (t0 : w.cell? ⟨6, (p + 348) * 2, none⟩ = some (.int .u64 H)) (t1 : w.cell? ⟨6, (p + 348) * 2 + 1, none⟩ = some (.int .u64 0))
    (c0 : w.cell? ⟨b, 0, none⟩ = some (.int .u64 0)) (c1 : w.cell? ⟨b, 1, none⟩ = some (.int .u64 0)) (c2 : w.cell? ⟨b, 2, none⟩ = some (.int .i64 0)) (f0 : w.frozen? ⟨b, 0, none⟩ = false) (f1 : w.frozen? ⟨b, 1, none⟩ = false) (f2 : w.frozen? ⟨b, 2, none⟩ = false) :
    Calls Tryd.prog 71 #[.pointer (some ⟨b, 0, none⟩), .int .i64 e, .int .i64 p, .int .i64 lp] w fun e w' => e = .returned (.tuple #[]) ∧ ((w.setCell ⟨b, 0, none⟩ (.int .u64 H)).setCell ⟨b, 1, none⟩ (.int .u64 0)).setCell ⟨b, 2, none⟩ (.int .i64 s) = w' := by
  rw [← hs]
  clear hs
  go_enter Tryd.func71, Tryd.ntmps71
  go_wp2
  go_end0
  exact ⟨rfl, rfl⟩

theorem or_one (x : Nat) : x ≤ x ||| 1 ∧ x ||| 1 ≤ x + 1 := by
  obtain ⟨y, b, hb, rfl⟩ : ∃ y b, b < 2 ∧ x = 2 * y + b := ⟨x / 2, x % 2, Nat.mod_lt _ (by omega), by omega⟩
  have h1 : 2 * y ||| b = 2 * y + b := nat_join 1 (2 * y) b (by omega) (by omega)
  have h2 : 2 * y ||| 1 = 2 * y + 1 := nat_join 1 (2 * y) 1 (by omega) (by omega)
  have h3 : b ||| 1 = 1 := by
    rcases Nat.lt_or_ge b 1 with h | h
    · obtain rfl : b = 0 := by omega
      rfl
    · obtain rfl : b = 1 := by omega
      rfl
  rw [← h1, Nat.or_assoc, h3, h2, h1]
  omega

theorem or_bit (x : Nat) (hx : x < 18446744073709551616) (b : Bool) : ∃ U : Nat, bits .or .u64 (x : Int) (b2n b) = (U : Int) ∧ x ≤ U ∧ U ≤ x + 1 := by
  cases b
  · refine ⟨x, ?_, by omega, by omega⟩
    have := u64_or_nat x 0 hx (by omega)
    rw [Nat.or_zero] at this
    exact this
  · refine ⟨x ||| 1, u64_or_nat x 1 hx (by omega), (or_one x).1, (or_one x).2⟩

/-- What uscale hands back: the scaled number or one above it, but for draws. -/
def ScaleAns (q : Nat) (w : World) (e : Ending) (w' : World) : Prop := ∃ U n : Nat, q ≤ U ∧ U ≤ q + 1 ∧ e = .returned (.int .u64 U) ∧ w' = w.drewN n

theorem mul_zero_any (x : Nat) (hx : x < 18446744073709551616) (w : World) : Calls Tryd.prog 89 #[.int .u64 x, .int .u64 0] w fun e w' => e = .returned (.tuple #[.int .u64 0, .int .u64 0]) ∧ w' = w := by
  have h := Tryd.bits_Mul64 x 0 hx (by omega) w
  rw [Nat.mul_zero] at h
  exact h
theorem bool2_same (b : Bool) (w : World) : Calls Tryd.prog 90 #[.bool b] w fun e w' => e = .returned (.int .u64 (b2n b)) ∧ w' = w :=
  (bool2_any b w).mono fun _ _ h => ⟨h.1, h.2.symm⟩
theorem cast_div (q s : Nat) : (q : Int) / 2 ^ s = ((q / 2 ^ s : Nat) : Int) := by
  rw [Int.natCast_ediv]
  simp

set_option maxRecDepth 100000 in
set_option maxHeartbeats 1000000 in
theorem uscale_any (x b H s : Nat) (hx : x < 18446744073709551616) (hH : H < 18446744073709551616) (hs : s ≤ 60) (w : World)
   (c0 : w.cell? ⟨b, 0, none⟩ = some (.int .u64 H)) (c1 : w.cell? ⟨b, 1, none⟩ = some (.int .u64 0)) (c2 : w.cell? ⟨b, 2, none⟩ = some (.int .i64 s)) :
   Calls Tryd.prog 73 #[.int .u64 x, .pointer (some ⟨b, 0, none⟩)] w (ScaleAns (x * H / 18446744073709551616 / 2 ^ s) w) := by
  have hb : bits .and .i64 (s : Int) 63 = (s : Int) := by
    have : ∀ s : Nat, s ≤ 60 → bits .and .i64 (s : Int) 63 = (s : Int) := by decide +kernel
    exact this s hs
  have M0 := Lib.hid (Tryd.bits_Mul64 x H hx hH)
  have M1 : Hid (∀ w, Calls Tryd.prog 89 #[.int .u64 x, .int .u64 0] w fun e w' => e = .returned (.tuple #[.int .u64 0, .int .u64 0]) ∧ w' = w) := Lib.hid (mul_zero_any x hx)
  have hq1 : x * H / 18446744073709551616 < 18446744073709551616 := by
    rw [Nat.div_lt_iff_lt_mul (by omega)]
    exact Nat.mul_lt_mul_of_lt_of_lt hx hH
  have hm1 : x * H % 18446744073709551616 < 18446744073709551616 := Nat.mod_lt _ (by omega)
  obtain ⟨q, hq⟩ : ∃ q, q = x * H / 18446744073709551616 := ⟨_, rfl⟩
  obtain ⟨m, hm⟩ : ∃ m, m = x * H % 18446744073709551616 := ⟨_, rfl⟩
  rw [← hq, ← hm] at M0
  rw [← hq] at hq1
  rw [← hm] at hm1
  rw [← hq]
  clear hq hm
  have hqs : q / 2 ^ s < 18446744073709551616 := Nat.lt_of_le_of_lt (Nat.div_le_self _ _) hq1
  have T := Lib.hid (or_bit (q / 2 ^ s) hqs)
  have B := Lib.hid bool2_false
  have hm0 : decide ((m : Int) < 0) = false := by simp
  clear hqs
  go_enter Tryd.func73, Tryd.ntmps73
  go_wp2_with fail
  refine (M0.out _).mono ?_
  rintro e w' ⟨rfl, rfl⟩
  go_wp2_with fail
  · go_ret
    obtain ⟨U, h1, h2, h3⟩ := T.out true
    refine ⟨U, 0, h2, h3, ret_u64 ?_, rfl⟩
    rw [← h1, ← cast_div]
    rfl
  · refine (M1.out _).mono ?_
    rintro e w' ⟨rfl, rfl⟩
    go_wp2_with fail
    refine (B.out _).mono ?_
    rintro e w' ⟨rfl, rfl⟩
    go_wp2_with fail
    go_quiet ((go_at_call 90; exact Calls.quiet_of_same (bool2_same _ _)))
    go_wp2
    go_ret
    obtain ⟨U, h1, h2, h3⟩ := T.out (decide (1 < (m : Int)))
    exact ⟨U, nq, h2, h3, ret_u64 (by rw [← h1, ← cast_div]), rfl⟩
end Go.Proofs.YtmfbgoikekmdkaaDoor
