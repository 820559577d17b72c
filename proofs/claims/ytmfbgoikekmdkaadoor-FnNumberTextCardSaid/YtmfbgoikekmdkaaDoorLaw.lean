/-
  The law FnNumberText: true at every input.
-/
import Derived.Test.YtmfbgoikekmdkaaDoorTrunc
namespace Go.Proofs.YtmfbgoikekmdkaaDoor
open Go Go.Proofs Go.RowKit Go.Lib Go.Sort Ieee

set_option maxRecDepth 100000 in
set_option maxHeartbeats 4000000 in
/-- The base is out of range. -/
theorem law_out (B R : Int) (w : World) (h : R < 2 ∨ 36 < R) : Calls Tryd.prog 4 #[.int .u64 B, .int .i64 R] w fun e w' => e = .returned (.bool true) ∧ Below w.heap.size w w' := by
  by_cases h1 : R < 2
  · have hA : decide (R < 2) = true := by simpa using h1
    clear h
    go_enter Tryd.func4, Tryd.ntmps4
    go_wp2
    go_ret
    exact ⟨rfl, Below.refl _ _⟩
  · have h2 : 36 < R := by omega
    have hA : decide (R < 2) = false := by simpa using h1
    have hB : decide (36 < R) = true := by simpa using h2
    clear h
    go_enter Tryd.func4, Tryd.ntmps4
    go_wp2
    go_ret
    exact ⟨rfl, Below.refl _ _⟩

/-- The text that wakes. -/
theorem woken (w : World) (ht : Tabs w) : Calls Tryd.prog 8 #[.int .u64 4613937818241073152, .int .i64 10] w fun e w' => e = .returned (.tuple #[.string ⟨#[51]⟩, .bool true]) ∧ Below w.heap.size w w' := by
  have h := impl_any 4613937818241073152 10 (.string ⟨(radI 10 3).toArray⟩) (.bool true) w (try_yes false 4613937818241073152 3 is_three 10 (by decide) (by decide) w ht)
  have e : radI 10 3 = [51] := by
    unfold radI
    rw [if_neg (by decide), show (3 : Int).natAbs = 3 from rfl, rad_small (by decide)]
    rfl
  rw [e] at h
  exact h

set_option maxRecDepth 100000 in
set_option maxHeartbeats 4000000 in
/-- The text is not told. -/
theorem law_none (B : Int) (b : Nat) (S : ByteArray) (w : World) (hb1 : 2 ≤ b) (hb2 : b ≤ 36) (ht : Tabs w)
    (h8 : Calls Tryd.prog 8 #[.int .u64 B, .int .i64 b] w fun e w' => e = .returned (.tuple #[.string S, .bool false]) ∧ Below w.heap.size w w') :
    Calls Tryd.prog 4 #[.int .u64 B, .int .i64 b] w fun e w' => e = .returned (.bool true) ∧ Below w.heap.size w w' := by
  have H8 := Lib.hid h8
  have HT := Lib.hid ht
  have hA : decide ((b : Int) < 2) = false := by simp; omega
  have hB : decide (36 < (b : Int)) = false := by simp; omega
  clear h8 ht
  go_enter Tryd.func4, Tryd.ntmps4
  go_wp2_with fail
  refine H8.out.mono ?_
  rintro e w1 ⟨rfl, hb⟩
  have HB := Lib.hid hb
  have HW := Lib.hid (woken w1 (HT.out.later hb))
  clear hb H8
  go_wp2_with fail
  refine HW.out.mono ?_
  rintro e w2 ⟨rfl, hb⟩
  have HB2 := Lib.hid hb
  clear hb HW
  go_wp2
  go_ret
  exact ⟨rfl, HB.out.trans (HB2.out.mono HB.out.size)⟩

set_option maxRecDepth 100000 in
set_option maxHeartbeats 4000000 in
/-- The base is 10. -/
theorem law_ten (B : Int) (x : Nat) (S : ByteArray) (w : World) (hx : B.toNat = x) (ht : Tabs w)
    (h8 : Calls Tryd.prog 8 #[.int .u64 B, .int .i64 10] w fun e w' => e = .returned (.tuple #[.string S, .bool true]) ∧ Below w.heap.size w w')
    (h10 : ∀ w, Tabs w → Calls Tryd.prog 10 #[.float .f64 x] w fun e w' => e = .returned (.tuple #[.string S, .bool true]) ∧ Below w.heap.size w w') :
    Calls Tryd.prog 4 #[.int .u64 B, .int .i64 10] w fun e w' => e = .returned (.bool true) ∧ Below w.heap.size w w' := by
  have H8 := Lib.hid h8
  have H10 := Lib.hid h10
  have HT := Lib.hid ht
  clear h8 ht h10
  go_enter Tryd.func4, Tryd.ntmps4
  go_wp2_with fail
  refine H8.out.mono ?_
  rintro e w1 ⟨rfl, hb⟩
  have HB := Lib.hid hb
  have HT1 := Lib.hid (HT.out.later hb)
  have HW := Lib.hid (woken w1 HT1.out)
  clear hb H8
  go_wp2_with fail
  refine HW.out.mono ?_
  rintro e w2 ⟨rfl, hb⟩
  have HB2 := Lib.hid hb
  have H := Lib.hid (H10.out w2 (HT1.out.later hb))
  clear hb HW H10
  go_wp2_with fail
  refine H.out.mono ?_
  rintro e w3 ⟨rfl, hb⟩
  have HB3 := Lib.hid hb
  clear hb H
  go_wp2
  go_ret
  have h12 := HB.out.trans (HB2.out.mono HB.out.size)
  exact ⟨rfl, h12.trans (HB3.out.mono h12.size)⟩

set_option maxRecDepth 100000 in
set_option maxHeartbeats 4000000 in
/-- Another base: not a whole number. -/
theorem law_nan (B : Int) (x b : Nat) (S Y : ByteArray) (w : World) (hx : B.toNat = x) (hb1 : 2 ≤ b) (hb2 : b ≤ 36) (hb10 : b ≠ 10) (ht : Tabs w)
    (h8 : Calls Tryd.prog 8 #[.int .u64 B, .int .i64 b] w fun e w' => e = .returned (.tuple #[.string S, .bool true]) ∧ Below w.heap.size w w')
    (h10 : ∀ w, Tabs w → Calls Tryd.prog 10 #[.float .f64 x] w fun e w' => e = .returned (.tuple #[.string Y, .bool true]) ∧ Below w.heap.size w w')
    (h11 : ∀ w, ∃ y, (FloatKind.f64.format.order x y != some Ordering.eq) = true ∧ Calls Tryd.prog 11 #[.float .f64 x] w fun e w' => e = .returned (.float .f64 y) ∧ Below w.heap.size w w') :
    Calls Tryd.prog 4 #[.int .u64 B, .int .i64 b] w fun e w' => e = .returned (.bool true) ∧ Below w.heap.size w w' := by
  have H8 := Lib.hid h8
  have H10 := Lib.hid h10
  have H11 := Lib.hid h11
  have HT := Lib.hid ht
  have hA : decide ((b : Int) < 2) = false := by simp; omega
  have hB : decide (36 < (b : Int)) = false := by simp; omega
  have hC : ((b : Int) != 10) = true := by simp; omega
  clear h8 ht h10 h11 hb10
  go_enter Tryd.func4, Tryd.ntmps4
  go_wp2_with fail
  refine H8.out.mono ?_
  rintro e w1 ⟨rfl, hb⟩
  have HB := Lib.hid hb
  have HT1 := Lib.hid (HT.out.later hb)
  have HW := Lib.hid (woken w1 HT1.out)
  clear hb H8
  go_wp2_with fail
  refine HW.out.mono ?_
  rintro e w2 ⟨rfl, hb⟩
  have HB2 := Lib.hid hb
  have H := Lib.hid (H10.out w2 (HT1.out.later hb))
  clear hb HW H10
  go_wp2_with fail
  refine H.out.mono ?_
  rintro e w3 ⟨rfl, hb⟩
  have HB3 := Lib.hid hb
  obtain ⟨y, hne, h⟩ := H11.out w3
  have HTR := Lib.hid h
  clear hb H h H11
  go_wp2_with fail
  refine HTR.out.mono ?_
  rintro e w4 ⟨rfl, hb⟩
  have HB4 := Lib.hid hb
  clear hb HTR
  go_wp2
  go_ret
  have h12 := HB.out.trans (HB2.out.mono HB.out.size)
  have h13 := h12.trans (HB3.out.mono h12.size)
  exact ⟨rfl, h13.trans (HB4.out.mono h13.size)⟩

set_option maxRecDepth 100000 in
set_option maxHeartbeats 4000000 in
/-- Another base: too great. -/
theorem law_inf (B : Int) (x y b : Nat) (S Y : ByteArray) (w : World) (hx : B.toNat = x) (hb1 : 2 ≤ b) (hb2 : b ≤ 36) (hb10 : b ≠ 10) (ht : Tabs w)
    (h8 : Calls Tryd.prog 8 #[.int .u64 B, .int .i64 b] w fun e w' => e = .returned (.tuple #[.string S, .bool true]) ∧ Below w.heap.size w w')
    (h10 : ∀ w, Tabs w → Calls Tryd.prog 10 #[.float .f64 x] w fun e w' => e = .returned (.tuple #[.string Y, .bool true]) ∧ Below w.heap.size w w')
    (h11 : ∀ w, Calls Tryd.prog 11 #[.float .f64 x] w fun e w' => e = .returned (.float .f64 x) ∧ w' = w) (hself : (FloatKind.f64.format.order x x == some Ordering.eq) = true)
    (h12 : ∀ w, Calls Tryd.prog 12 #[.float .f64 x] w fun e w' => e = .returned (.float .f64 y) ∧ w = w') (hbig : (FloatKind.f64.format.order y 4845873199050653696 == some Ordering.gt) = true) :
    Calls Tryd.prog 4 #[.int .u64 B, .int .i64 b] w fun e w' => e = .returned (.bool true) ∧ Below w.heap.size w w' := by
  have H8 := Lib.hid h8
  have H10 := Lib.hid h10
  have H11 := Lib.hid h11
  have H12 := Lib.hid h12
  have HT := Lib.hid ht
  have hA : decide ((b : Int) < 2) = false := by simp; omega
  have hB : decide (36 < (b : Int)) = false := by simp; omega
  have hC : ((b : Int) != 10) = true := by simp; omega
  have hne : (FloatKind.f64.format.order x x != some Ordering.eq) = false := by rw [bne, hself]; rfl
  clear h8 ht h10 h11 h12 hb10 hself
  go_enter Tryd.func4, Tryd.ntmps4
  go_wp2_with fail
  refine H8.out.mono ?_
  rintro e w1 ⟨rfl, hb⟩
  have HB := Lib.hid hb
  have HT1 := Lib.hid (HT.out.later hb)
  have HW := Lib.hid (woken w1 HT1.out)
  clear hb H8
  go_wp2_with fail
  refine HW.out.mono ?_
  rintro e w2 ⟨rfl, hb⟩
  have HB2 := Lib.hid hb
  have H := Lib.hid (H10.out w2 (HT1.out.later hb))
  clear hb HW H10
  go_wp2_with fail
  refine H.out.mono ?_
  rintro e w3 ⟨rfl, hb⟩
  have HB3 := Lib.hid hb
  clear hb H
  go_wp2_with fail
  refine (H11.out _).mono ?_
  rintro e w4 ⟨rfl, rfl⟩
  go_wp2_with fail
  refine (H12.out _).mono ?_
  rintro e w4 ⟨rfl, rfl⟩
  go_wp2
  go_ret
  have h12 := HB.out.trans (HB2.out.mono HB.out.size)
  exact ⟨rfl, h12.trans (HB3.out.mono h12.size)⟩

set_option maxRecDepth 100000 in
set_option maxHeartbeats 4000000 in
/-- Another base: a whole number. -/
theorem law_rad (B : Int) (x y b : Nat) (S Y : ByteArray) (w : World) (hx : B.toNat = x) (hb1 : 2 ≤ b) (hb2 : b ≤ 36) (hb10 : b ≠ 10) (ht : Tabs w)
    (h8 : Calls Tryd.prog 8 #[.int .u64 B, .int .i64 b] w fun e w' => e = .returned (.tuple #[.string S, .bool true]) ∧ Below w.heap.size w w')
    (h10 : ∀ w, Tabs w → Calls Tryd.prog 10 #[.float .f64 x] w fun e w' => e = .returned (.tuple #[.string Y, .bool true]) ∧ Below w.heap.size w w')
    (h11 : ∀ w, Calls Tryd.prog 11 #[.float .f64 x] w fun e w' => e = .returned (.float .f64 x) ∧ w' = w) (hself : (FloatKind.f64.format.order x x == some Ordering.eq) = true)
    (h12 : ∀ w, Calls Tryd.prog 12 #[.float .f64 x] w fun e w' => e = .returned (.float .f64 y) ∧ w = w') (hgt : (FloatKind.f64.format.order y 4845873199050653696 == some Ordering.gt) = false) (heq : (FloatKind.f64.format.order y 4845873199050653696 == some Ordering.eq) = false)
    (h13 : ∀ w, Calls Tryd.prog 13 #[.float .f64 x, .int .i64 b] w fun e w' => e = .returned (.string S) ∧ w = w') :
    Calls Tryd.prog 4 #[.int .u64 B, .int .i64 b] w fun e w' => e = .returned (.bool true) ∧ Below w.heap.size w w' := by
  have H8 := Lib.hid h8
  have H10 := Lib.hid h10
  have H11 := Lib.hid h11
  have H12 := Lib.hid h12
  have H13 := Lib.hid h13
  have HT := Lib.hid ht
  have hA : decide ((b : Int) < 2) = false := by simp; omega
  have hB : decide (36 < (b : Int)) = false := by simp; omega
  have hC : ((b : Int) != 10) = true := by simp; omega
  have hne : (FloatKind.f64.format.order x x != some Ordering.eq) = false := by rw [bne, hself]; rfl
  clear h8 ht h10 h11 h12 h13 hb10 hself
  go_enter Tryd.func4, Tryd.ntmps4
  go_wp2_with fail
  refine H8.out.mono ?_
  rintro e w1 ⟨rfl, hb⟩
  have HB := Lib.hid hb
  have HT1 := Lib.hid (HT.out.later hb)
  have HW := Lib.hid (woken w1 HT1.out)
  clear hb H8
  go_wp2_with fail
  refine HW.out.mono ?_
  rintro e w2 ⟨rfl, hb⟩
  have HB2 := Lib.hid hb
  have H := Lib.hid (H10.out w2 (HT1.out.later hb))
  clear hb HW H10
  go_wp2_with fail
  refine H.out.mono ?_
  rintro e w3 ⟨rfl, hb⟩
  have HB3 := Lib.hid hb
  clear hb H
  go_wp2_with fail
  refine (H11.out _).mono ?_
  rintro e w4 ⟨rfl, rfl⟩
  go_wp2_with fail
  refine (H12.out _).mono ?_
  rintro e w4 ⟨rfl, rfl⟩
  go_wp2_with fail
  refine (H13.out _).mono ?_
  rintro e w4 ⟨rfl, rfl⟩
  go_wp2
  go_ret
  have h12 := HB.out.trans (HB2.out.mono HB.out.size)
  exact ⟨rfl, h12.trans (HB3.out.mono h12.size)⟩

end Go.Proofs.YtmfbgoikekmdkaaDoor
