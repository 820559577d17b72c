/-
  FormatInt at every base, and TryToStringOnNumberSafely.
-/
import Derived.Test.YtmfbgoikekmdkaaDoorBitsN
namespace Go.Proofs.YtmfbgoikekmdkaaDoor
open Go Go.Proofs Go.RowKit Go.Lib Go.Sort Ieee

/-- What the laid tables hold. -/
structure Tabs (w : World) : Prop where
  p10 : Lib.TabIs Tryd.prog w "internal/strconv.uint64pow10" .u64 Lib.pow10Tab
  db : Lib.TabIs Tryd.prog w "math/bits.deBruijn64tab" .u8 dbTab
  big : TabP w

theorem Tabs.later {w w' : World} (h : Tabs w) (hb : Below w.heap.size w w') : Tabs w' :=
  ⟨tabIs_later h.p10 hb (Nat.le_refl _), tabIs_later h.db hb (Nat.le_refl _), h.big.later hb (Nat.le_refl _)⟩

theorem bits_pos (b n : Nat) (w : World) (hn : n ≤ 2147483648) (hb1 : 2 ≤ b) (hb2 : b ≤ 36) (hb10 : b ≠ 10) (ht : Tabs w) :
    Calls Tryd.prog 46 #[.slice none 0 0, .int .u64 n, .int .i64 b, .bool false, .bool false] w fun e w' => e = .returned (.tuple #[.slice none 0 0, .string ⟨(rad b n).toArray⟩]) ∧ Below w.heap.size w w' := by
  rcases base_cases ⟨b, by omega⟩ hb1 with ⟨s, h1, h2, h3⟩ | h
  · exact bits_pow b n w s h1 h2 h3 ht.db hn hb1 hb2 hb10
  · exact bits_loop b n w hn hb1 hb2 hb10 h

theorem bits_neg (b n : Nat) (U : Int) (w : World) (hneg : IntKind.u64.wrap (-U) = (n : Int)) (hn : n ≤ 2147483648) (hb1 : 2 ≤ b) (hb2 : b ≤ 36) (hb10 : b ≠ 10) (ht : Tabs w) :
    Calls Tryd.prog 46 #[.slice none 0 0, .int .u64 U, .int .i64 b, .bool true, .bool false] w fun e w' => e = .returned (.tuple #[.slice none 0 0, .string ⟨(45 :: rad b n).toArray⟩]) ∧ Below w.heap.size w w' := by
  rcases base_cases ⟨b, by omega⟩ hb1 with ⟨s, h1, h2, h3⟩ | h
  · exact bits_powN b n U w hneg s h1 h2 h3 ht.db hn hb1 hb2 hb10
  · exact bits_loopN b n U w hneg hn hb1 hb2 hb10 h

set_option maxRecDepth 100000 in
set_option maxHeartbeats 4000000 in
theorem fmt_pos (b n : Nat) (w : World) (hn : n ≤ 2147483648) (hb1 : 2 ≤ b) (hb2 : b ≤ 36) (hb10 : b ≠ 10) (ht : Tabs w) :
    Calls Tryd.prog 34 #[.int .i64 n, .int .i64 b] w fun e w' => e = .returned (.string ⟨(rad b n).toArray⟩) ∧ Below w.heap.size w w' := by
  have H := Lib.hid (bits_pos b n w hn hb1 hb2 hb10 ht)
  have hA : ((b : Int) == 10) = false := by simp; omega
  have hB : decide ((n : Int) < 0) = false := by simp
  have HT := Lib.hid ht
  have H10 := Lib.hid hb10
  obtain ⟨L, hL⟩ : ∃ L : ByteArray, L = ⟨(rad b n).toArray⟩ := ⟨_, rfl⟩
  rw [← hL] at H ⊢
  clear hL ht hb10
  go_enter Tryd.func34, Tryd.ntmps34
  go_wp2_with fail
  refine H.out.mono ?_
  rintro e w1 ⟨rfl, hb⟩
  have HB := Lib.hid hb
  clear hb H
  go_wp2
  go_ret
  exact ⟨rfl, HB.out⟩

set_option maxRecDepth 100000 in
set_option maxHeartbeats 4000000 in
theorem fmt_neg (b n : Nat) (i : Int) (w : World) (hi : i = -(n : Int)) (h1 : 1 ≤ n) (hn : n ≤ 2147483648) (hb1 : 2 ≤ b) (hb2 : b ≤ 36) (hb10 : b ≠ 10) (ht : Tabs w) :
    Calls Tryd.prog 34 #[.int .i64 i, .int .i64 b] w fun e w' => e = .returned (.string ⟨(45 :: rad b n).toArray⟩) ∧ Below w.heap.size w w' := by
  obtain ⟨U, hU⟩ : ∃ U : Int, IntKind.u64.wrap i = U := ⟨_, rfl⟩
  have hUv : U = 18446744073709551616 - (n : Int) := by
    rw [← hU, IntKind.wrap_u64]
    omega
  have H := Lib.hid (bits_neg b n U w (by rw [IntKind.wrap_u64]; omega) hn hb1 hb2 hb10 ht)
  have hA : ((b : Int) == 10) = false := by simp; omega
  have hB : decide (i < 0) = true := by simp; omega
  have hB' : i < 0 := by omega
  have HT := Lib.hid ht
  have H10 := Lib.hid hb10
  obtain ⟨L, hL⟩ : ∃ L : ByteArray, L = ⟨(45 :: rad b n).toArray⟩ := ⟨_, rfl⟩
  rw [← hL] at H ⊢
  have HI := Lib.hid hi
  clear hL ht hb10 hi hUv
  go_enter Tryd.func34, Tryd.ntmps34
  go_wp2_with fail
  refine H.out.mono ?_
  rintro e w1 ⟨rfl, hb⟩
  have HB := Lib.hid hb
  clear hb H
  go_wp2
  go_ret
  exact ⟨rfl, HB.out⟩

theorem below_grow (w : World) (k : Nat) (os : Array Obj) : Below w.heap.size w (grow (w.drewN k) os) := by
  refine ⟨rfl, rfl, rfl, ?_, fun i hi => ?_⟩
  · show _ ≤ (w.heap ++ os).size
    simp
  · show (w.heap ++ os)[i]? = _
    exact Array.getElem?_append_left hi

set_option maxHeartbeats 400000 in
theorem fmt_outer (i : Int) (b : Nat) (L : ByteArray) (w : World) (h : Calls Tryd.prog 34 #[.int .i64 i, .int .i64 b] w fun e w' => e = .returned (.string L) ∧ Below w.heap.size w w') :
    Calls Tryd.prog 27 #[.int .i64 i, .int .i64 b] w fun e w' => e = .returned (.string L) ∧ Below w.heap.size w w' := by
  have H := Lib.hid h
  clear h
  go_enter Tryd.func27, Tryd.ntmps27
  go_wp2_with fail
  refine H.out.mono ?_
  rintro e w1 ⟨rfl, hb⟩
  have HB := Lib.hid hb
  clear hb H
  go_wp2
  go_ret
  exact ⟨rfl, HB.out⟩

/-- FormatInt of a whole number of 32 bits at a base from 2 to 36. -/
theorem formatInt_any (i : Int) (b : Nat) (h1 : -2147483648 ≤ i) (h2 : i ≤ 2147483647) (hb1 : 2 ≤ b) (hb2 : b ≤ 36) (w : World) (ht : Tabs w) :
    Calls Tryd.prog 27 #[.int .i64 i, .int .i64 b] w fun e w' => e = .returned (.string ⟨(radI b i).toArray⟩) ∧ Below w.heap.size w w' := by
  by_cases h10 : b = 10
  · subst h10
    rw [radI_ten]
    refine (Tryd.strconv_FormatInt_10 i (by omega) (by omega) w ht.p10).mono ?_
    rintro e w' ⟨rfl, k, os, rfl⟩
    exact ⟨rfl, below_grow w k os⟩
  · refine fmt_outer i b _ w ?_
    by_cases hi : i < 0
    · have e : radI b i = 45 :: rad b i.natAbs := by unfold radI; rw [if_pos hi]
      rw [e]
      exact fmt_neg b i.natAbs i w (by omega) (by omega) (by omega) hb1 hb2 h10 ht
    · have e : radI b i = rad b i.natAbs := by unfold radI; rw [if_neg hi]
      rw [e]
      have := fmt_pos b i.natAbs w (by omega) hb1 hb2 h10 ht
      rwa [show ((i.natAbs : Nat) : Int) = i by omega] at this

/-- A word that is a whole number of 32 bits. -/
def Is32 (s : Bool) (r : Nat) (i : Int) : Prop := r < 9218868437227405312 ∧ V r = i.natAbs * one ∧ sg s i.natAbs = i ∧ -2147483648 ≤ i ∧ i ≤ 2147483647

set_option maxRecDepth 100000 in
set_option maxHeartbeats 4000000 in
theorem try_yes (s : Bool) (r : Nat) (i : Int) (hI : Is32 s r i) (b : Nat) (hb1 : 2 ≤ b) (hb2 : b ≤ 36) (w : World) (ht : Tabs w) :
    Calls Tryd.prog 17 #[.float .f64 (W s r), .int .i64 b] w fun e w' => e = .returned (.tuple #[.string ⟨(radI b i).toArray⟩, .bool true]) ∧ Below w.heap.size w w' := by
  obtain ⟨hr, hV, hsg, hi1, hi2⟩ := hI
  have hw := whole_of hV
  have hc := conv_in s hr (by rw [hw, hsg]; exact hi1) (by rw [hw, hsg]; exact hi2) w
  rw [hw, hsg] at hc
  have he := eq_only s hr hi1 hi2
  rw [hw, decide_eq_true ⟨hV, hsg⟩] at he
  have H := Lib.hid (formatInt_any i b hi1 hi2 hb1 hb2 w ht)
  obtain ⟨x, hx⟩ : ∃ x, x = W s r := ⟨_, rfl⟩
  obtain ⟨L, hL⟩ : ∃ L : ByteArray, L = ⟨(radI b i).toArray⟩ := ⟨_, rfl⟩
  rw [← hx] at hc he ⊢
  replace he : (FloatKind.f64.format.order (floatOfInt FloatKind.f64 i) x == some Ordering.eq) = true := he
  rw [← hL] at H ⊢
  clear hx hL hV hsg hw hr ht
  go_enter Tryd.func17, Tryd.ntmps17
  go_wp2_with fail
  refine H.out.mono ?_
  rintro e w1 ⟨rfl, hb⟩
  have HB := Lib.hid hb
  clear hb H
  go_wp2
  go_ret2
  exact ⟨rfl, HB.out⟩

set_option maxRecDepth 100000 in
set_option maxHeartbeats 4000000 in
/-- Not a whole number of 32 bits. -/
theorem try_other (x : Nat) (bn bi bm : Bool) (b : Int) (w : World) (he : ∀ i, -2147483648 ≤ i → i ≤ 2147483647 → (FloatKind.f64.format.order (FloatKind.f64.nearest i) x == some Ordering.eq) = false)
    (h18 : ∀ w, Calls Tryd.prog 18 #[.float .f64 x] w fun e w' => e = .returned (.bool bn) ∧ w = w')
    (h19 : ∀ w, Calls Tryd.prog 19 #[.float .f64 x, .int .i64 1] w fun e w' => e = .returned (.bool bi) ∧ w = w')
    (h19n : ∀ w, Calls Tryd.prog 19 #[.float .f64 x, .int .i64 (-1)] w fun e w' => e = .returned (.bool bm) ∧ w = w') :
    Calls Tryd.prog 17 #[.float .f64 x, .int .i64 b] w fun e w' => e = .returned (if bn then .tuple #[.string ⟨#[78, 97, 78]⟩, .bool true] else if bi then .tuple #[.string ⟨#[73, 110, 102, 105, 110, 105, 116, 121]⟩, .bool true] else if bm then .tuple #[.string ⟨#[45, 73, 110, 102, 105, 110, 105, 116, 121]⟩, .bool true] else .tuple #[.string ⟨#[]⟩, .bool false]) ∧ Below w.heap.size w w' := by
  obtain ⟨i, w1, hi1, hi2, hc, hb⟩ := conv_any x w
  have he1 : (FloatKind.f64.format.order (floatOfInt FloatKind.f64 i) x == some Ordering.eq) = false := he i hi1 hi2
  have HB := Lib.hid hb
  have H18 := Lib.hid h18
  have H19 := Lib.hid h19
  have H19N := Lib.hid h19n
  clear he hb h18 h19 h19n
  go_enter Tryd.func17, Tryd.ntmps17
  go_wp2_with fail
  refine (H18.out _).mono ?_
  rintro e w' ⟨rfl, rfl⟩
  cases bn
  · go_wp2_with fail
    refine (H19.out _).mono ?_
    rintro e w' ⟨rfl, rfl⟩
    cases bi
    · go_wp2_with fail
      refine (H19N.out _).mono ?_
      rintro e w' ⟨rfl, rfl⟩
      cases bm
      · go_wp2
        go_ret2
        exact ⟨rfl, HB.out⟩
      · go_wp2
        go_ret2
        exact ⟨rfl, HB.out⟩
    · go_wp2
      go_ret2
      exact ⟨rfl, HB.out⟩
  · go_wp2
    go_ret2
    exact ⟨rfl, HB.out⟩

set_option maxHeartbeats 400000 in
theorem impl_any (B : Int) (b : Int) (v1 v2 : Value) (w : World) (h : Calls Tryd.prog 17 #[.float .f64 B.toNat, .int .i64 b] w fun e w' => e = .returned (.tuple #[v1, v2]) ∧ Below w.heap.size w w') :
    Calls Tryd.prog 8 #[.int .u64 B, .int .i64 b] w fun e w' => e = .returned (.tuple #[v1, v2]) ∧ Below w.heap.size w w' := by
  have H := Lib.hid h
  clear h
  obtain ⟨x, hx⟩ : ∃ x, B.toNat = x := ⟨_, rfl⟩
  rw [hx] at H
  go_enter Tryd.func8, Tryd.ntmps8
  go_wp2_with fail
  refine H.out.mono ?_
  rintro e w1 ⟨rfl, hb⟩
  have HB := Lib.hid hb
  clear hb H
  go_wp2
  go_ret2
  exact ⟨rfl, HB.out⟩

end Go.Proofs.YtmfbgoikekmdkaaDoor
