/-
  isPowerOfTwo and TrailingZeros, at the bases from 2 to 36.
-/
import Derived.Test.YtmfbgoikekmdkaaDoorRad
namespace Go.Proofs.YtmfbgoikekmdkaaDoor
open Go Go.Proofs Go.RowKit Go.Lib Go.Sort

def dbTab : List Int := [0, 1, 56, 2, 57, 49, 28, 3, 61, 58, 42, 50, 38, 29, 17, 4, 62, 47, 59, 36, 45, 43, 51, 22, 53, 39, 33, 30, 24, 18, 12, 5, 63, 55, 48, 27, 60, 41, 37, 16, 46, 35, 44, 21, 52, 32, 23, 11, 54, 26, 40, 15, 34, 20, 31, 10, 25, 14, 19, 9, 13, 8, 7, 6]

set_option maxHeartbeats 400000 in
theorem pow2_any (b z : Int) (h : bits .and .i64 b (b - 1) = z) (h1 : 2 ≤ b) (h2 : b ≤ 36) (w : World) : Calls Tryd.prog 65 #[.int .i64 b] w fun e w' => e = .returned (.bool (z == 0)) ∧ w = w' := by
  go_enter Tryd.func65, Tryd.ntmps65
  go_wp2
  go_ret
  exact ⟨rfl, rfl⟩

set_option maxHeartbeats 400000 in
theorem tz64_any (x y z : Int) (i : Nat) (s : Int) (w : World) (h0 : (x == 0) = false) (hy : IntKind.u64.wrap (-x) = y) (hb : bits .and .u64 x y = x) (hz : IntKind.u64.wrap (x * 285870213051353865) = z) (hi : z / 288230376151711744 = (i : Int)) (hi2 : i < 64)
    (hs : 0 ≤ s) (hs2 : s ≤ 64) (hc : w.cell? ⟨9, i, none⟩ = some (.int .u8 s)) : Calls Tryd.prog 88 #[.int .u64 x] w fun e w' => e = .returned (.int .i64 s) ∧ w = w' := by
  go_enter Tryd.func88, Tryd.ntmps88
  go_wp2
  go_ret
  exact ⟨rfl, rfl⟩

set_option maxHeartbeats 400000 in
theorem tz_any (x s : Int) (w : World) (h : ∀ w' : World, w' = w → Calls Tryd.prog 88 #[.int .u64 x] w' fun e w' => e = .returned (.int .i64 s) ∧ w = w') : Calls Tryd.prog 66 #[.int .u64 x] w fun e w' => e = .returned (.int .i64 s) ∧ w = w' := by
  have H := Lib.hid (h w rfl)
  clear h
  go_enter Tryd.func66, Tryd.ntmps66
  go_wp2_with fail
  refine H.out.mono ?_
  rintro e w' ⟨rfl, rfl⟩
  go_wp2
  go_ret
  exact ⟨rfl, rfl⟩

/-- The bases that are powers of two, and what the text finds of them. -/
theorem tz_pow (s : Nat) (h1 : 1 ≤ s) (h2 : s ≤ 5) (w : World) (htab : TabIs Tryd.prog w "math/bits.deBruijn64tab" .u8 dbTab) :
    Calls Tryd.prog 66 #[.int .u64 ((2 ^ s : Nat) : Int)] w fun e w' => e = .returned (.int .i64 s) ∧ w = w' := by
  have hg : Tryd.prog.globalNamed "math/bits.deBruijn64tab" = some 9 := by kernel_rfl
  have go : ∀ (x y z : Int) (i : Nat) (k : Int), (x == 0) = false → IntKind.u64.wrap (-x) = y → bits .and .u64 x y = x → IntKind.u64.wrap (x * 285870213051353865) = z → z / 288230376151711744 = (i : Int) → i < 64 → 0 ≤ k → k ≤ 64 → dbTab.getD i 0 = k →
      Calls Tryd.prog 66 #[.int .u64 x] w fun e w' => e = .returned (.int .i64 k) ∧ w = w' := fun x y z i k a1 a2 a3 a4 a5 a6 a7 a8 a9 =>
    tz_any x k w (fun w' e => by
      subst e
      have hc := htab.cell hg i a6
      rw [a9] at hc
      exact tz64_any x y z i k w' a1 a2 a3 a4 a5 a6 a7 a8 hc)
  have hs : s = 1 ∨ s = 2 ∨ s = 3 ∨ s = 4 ∨ s = 5 := by omega
  rcases hs with rfl | rfl | rfl | rfl | rfl
  · exact go 2 _ _ 1 1 (by decide) rfl (by decide) rfl (by decide) (by decide) (by decide) (by decide) rfl
  · exact go 4 _ _ 3 2 (by decide) rfl (by decide) rfl (by decide) (by decide) (by decide) (by decide) rfl
  · exact go 8 _ _ 7 3 (by decide) rfl (by decide) rfl (by decide) (by decide) (by decide) (by decide) rfl
  · exact go 16 _ _ 15 4 (by decide) rfl (by decide) rfl (by decide) (by decide) (by decide) (by decide) rfl
  · exact go 32 _ _ 31 5 (by decide) rfl (by decide) rfl (by decide) (by decide) (by decide) (by decide) rfl

theorem base_cases : ∀ b : Fin 37, 2 ≤ b.val → (∃ s, 1 ≤ s ∧ s ≤ 5 ∧ b.val = 2 ^ s) ∨ (bits .and .i64 (b.val : Int) ((b.val : Int) - 1) == 0) = false := by
  intro b hb
  by_cases h : b.val = 2 ∨ b.val = 4 ∨ b.val = 8 ∨ b.val = 16 ∨ b.val = 32
  · left
    rcases h with h | h | h | h | h
    · exact ⟨1, by decide, by decide, h⟩
    · exact ⟨2, by decide, by decide, h⟩
    · exact ⟨3, by decide, by decide, h⟩
    · exact ⟨4, by decide, by decide, h⟩
    · exact ⟨5, by decide, by decide, h⟩
  · right
    have key : ∀ b : Fin 37, 2 ≤ b.val → ¬ (b.val = 2 ∨ b.val = 4 ∨ b.val = 8 ∨ b.val = 16 ∨ b.val = 32) → (bits .and .i64 (b.val : Int) ((b.val : Int) - 1) == 0) = false := by decide +kernel
    exact key b hb h
end Go.Proofs.YtmfbgoikekmdkaaDoor
