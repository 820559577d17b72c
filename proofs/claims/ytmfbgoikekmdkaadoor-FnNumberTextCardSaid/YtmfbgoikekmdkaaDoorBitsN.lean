/-
  formatBits, the other ways: a number below zero; a base that is a power of two. Written by a program (wip/mkbits.py) after the first way (YtmfbgoikekmdkaaDoorBits).
-/
import Derived.Test.YtmfbgoikekmdkaaDoorBits
namespace Go.Proofs.YtmfbgoikekmdkaaDoor
open Go Go.Proofs Go.RowKit Go.Lib Go.Sort

theorem filled_neg2 {b n blk m j : Nat} {w wr W1 W : World} (h : Filled b n blk m (j + 2) w wr) (hm : m < b) (c : Nat) (e1 : W1 = wr.setCell ⟨blk, j + 1, none⟩ (.int .u8 ((ch m).toNat : Int))) (e2 : W = W1.setCell ⟨blk, j, none⟩ (.int .u8 45)) :
    (∃ v, W1.cell? ⟨blk, j, none⟩ = some (.int .u8 v)) ∧ W1.frozen? ⟨blk, j, none⟩ = false ∧ (convert 47 9 (.slice (some ⟨blk, j, none⟩) (65 - j) c)).run Tryd.prog W = .ok (.string ⟨(45 :: rad b n).toArray⟩) W ∧ Below blk w W := by
  have h0 := filled_neg h hm c
  obtain ⟨dk, h1, h2, h3, h4, h5, h6, h7⟩ := h
  obtain ⟨dk', k1, k2, k3, k4⟩ := filled_put (ch m) h1 h2 h3 (show j + 1 < 65 by omega)
  subst e1
  subst e2
  have := k2 j (by omega)
  rw [Nat.zero_add] at this
  exact ⟨⟨_, this.1⟩, this.2, h0⟩

theorem mask (s m : Nat) (h2 : s ≤ 5) (hm : m ≤ 2147483648) : bits .and .u64 (m : Int) (((2 ^ s : Nat) : Int) - 1) = ((m % 2 ^ s : Nat) : Int) := by
  have hs : 2 ^ s ≤ 2 ^ 5 := Nat.pow_le_pow_right (by decide) h2
  have h5 : (2 : Nat) ^ 5 = 32 := rfl
  have hp : 1 ≤ 2 ^ s := Nat.one_le_two_pow
  have h := u64_and_nat m (2 ^ s - 1) (by omega) (by omega)
  rw [Int.natCast_sub hp] at h
  rw [show ((2 ^ s : Nat) : Int) - 1 = ((2 ^ s : Nat) : Int) - ((1 : Nat) : Int) from rfl, h, Nat.and_two_pow_sub_one_eq_mod]

set_option maxRecDepth 100000 in
set_option maxHeartbeats 4000000 in
theorem bits_loopN (b n : Nat) (U : Int) (w : World) (hneg : IntKind.u64.wrap (-U) = (n : Int)) (hn : n ≤ 2147483648) (hb1 : 2 ≤ b) (hb2 : b ≤ 36) (hb10 : b ≠ 10) (hnp : (bits .and .i64 (b : Int) ((b : Int) - 1) == 0) = false) :
    Calls Tryd.prog 46 #[.slice none 0 0, .int .u64 U, .int .i64 b, .bool true, .bool false] w fun e w' => e = .returned (.tuple #[.slice none 0 0, .string ⟨(45 :: rad b n).toArray⟩]) ∧ Below w.heap.size w w' := by
  have H65 := Lib.hid fun w => pow2_any (b : Int) _ rfl (by omega) (by omega) w
  rw [hnp] at H65
  have hA : ((b : Int) == 10) = false := by simp; omega
  have hB : decide ((b : Int) < 2) = false := by simp; omega
  have hC : decide (36 < (b : Int)) = false := by simp; omega
  have HB10 := Lib.hid hb10
  have HST := Lib.hid (filled_start b n w hn)
  clear hb10 hnp
  go_enter Tryd.func46, Tryd.ntmps46
  go_name_bytes MS hMS
  clear hMS
  go_name_bytes SM hSM
  have eSM : SM = Lib.digits36 := by rw [← hSM]; decide +kernel
  subst eSM
  clear hSM
  go_wp2_with fail
  refine (H65.out _).mono ?_
  rintro e w1 ⟨rfl, hw1⟩
  have HF : Hid (Filled b n w.heap.size n 65 w w1) := Lib.hid (by rw [← hw1]; exact HST.out)
  clear hw1 HST H65
  go_wp2
  go_loopw [1, 13] (fun u i wr => ∃ m j : Nat, u = .int .u64 m ∧ i = .int .i64 ((j : Int) + 1) ∧ m ≤ 2147483648 ∧ 32 ≤ j ∧ j ≤ 64 ∧ Hid (Filled b n w.heap.size m (j + 1) w wr)) (fun u _ _ => (RowKit.intOf u).toNat)
  case atStart => exact ⟨n, 64, rfl, by go_num, hn, by omega, by omega, HF⟩
  case round =>
    obtain ⟨m, j, rfl, rfl, hm, hj1, hj2, hf⟩ := hrel
    obtain ⟨⟨v, hcell⟩, hfr⟩ := filled_facts hf.out
    by_cases hmb : b ≤ m
    · obtain ⟨q, hqn⟩ : ∃ q : Nat, q = m / b := ⟨_, rfl⟩
      obtain ⟨d, hdn⟩ : ∃ d : Nat, d = m % b := ⟨_, rfl⟩
      obtain ⟨p, hpn⟩ : ∃ p : Int, (q : Int) * (b : Int) = p := ⟨_, rfl⟩
      have hq : (m : Int) / (b : Int) = (q : Int) := by rw [hqn]; rfl
      have hdb : d < b := by rw [hdn]; exact Nat.mod_lt _ (by omega)
      have hqm : q < m := by rw [hqn]; exact Nat.div_lt_self (by omega) (by omega)
      have hpd : (m : Int) - p = (d : Int) := by
        have h := Nat.div_add_mod m b
        rw [← hpn, hdn, hqn]
        have h2 : ((b * (m / b) + m % b : Nat) : Int) = (m : Int) := by rw [h]
        rw [Int.natCast_add, Int.natCast_mul, Int.mul_comm] at h2
        omega
      have hp0 : 0 ≤ p := by rw [← hpn]; exact Int.mul_nonneg (by omega) (by omega)
      have hst := Lib.hid (filled_step hf.out hb1 hmb)
      have hX := idx36 (P := Tryd.prog) 9 Tryd.underlying9 .u64 (d : Int) d rfl (by omega)
      rw [← hqn, ← hdn] at hst
      have HQ := Lib.hid hqn
      have HDN := Lib.hid hdn
      clear hqn hdn hf
      go_wp2
      have hs34 := hst.out.2
      refine ⟨⟨q, j - 1, rfl, by rw [show (((j - 1 : Nat) : Int) + 1) = (j : Int) by omega], by omega, by omega, by omega, Lib.hid ?_⟩, ?_⟩
      · rw [show j - 1 + 1 = j by omega]
        exact hst.out.1
      · simp only [RowKit.intOf]
        omega
    · have hX := idx36 (P := Tryd.prog) 9 Tryd.underlying9 .u64 (m : Int) m rfl (by omega)
      obtain ⟨i, rfl⟩ : ∃ i, j = i + 1 := ⟨j - 1, by omega⟩
      obtain ⟨W1, hW1⟩ : ∃ W1, W1 = wr.setCell ⟨w.heap.size, i + 1, none⟩ (.int .u8 ((ch m).toNat : Int)) := ⟨_, rfl⟩
      obtain ⟨W, hW⟩ : ∃ W, W = W1.setCell ⟨w.heap.size, i, none⟩ (.int .u8 45) := ⟨_, rfl⟩
      obtain ⟨⟨v2, hcell2⟩, hfr2, hconv, hbw⟩ := filled_neg2 hf.out (by omega) (65 - i) hW1 hW
      have HBW := Lib.hid hbw
      have hWs1 := hW1.symm
      have hWs := hW.symm
      have hsl := fun W => slice98 w.heap.size i (by omega) W
      have hij : ((i + 1 : Nat) : Int) = (i : Int) + 1 := by omega
      clear hW hW1 hbw hf
      go_wp2
      go_ret2
      exact ⟨rfl, HBW.out⟩

theorem pow_mask (s : Nat) (hs : s ≤ 5) : (bits .and .i64 ((2 ^ s : Nat) : Int) (((2 ^ s : Nat) : Int) - 1) == 0) = true := by
  have : ∀ s : Fin 6, (bits .and .i64 ((2 ^ s.val : Nat) : Int) (((2 ^ s.val : Nat) : Int) - 1) == 0) = true := by decide +kernel
  exact this ⟨s, by omega⟩

set_option maxRecDepth 100000 in
set_option maxHeartbeats 4000000 in
theorem bits_pow (b n : Nat) (w : World) (s : Nat) (hs1 : 1 ≤ s) (hs2 : s ≤ 5) (hbs : b = 2 ^ s) (htab : TabIs Tryd.prog w "math/bits.deBruijn64tab" .u8 dbTab) (hn : n ≤ 2147483648) (hb1 : 2 ≤ b) (hb2 : b ≤ 36) (hb10 : b ≠ 10) :
    Calls Tryd.prog 46 #[.slice none 0 0, .int .u64 n, .int .i64 b, .bool false, .bool false] w fun e w' => e = .returned (.tuple #[.slice none 0 0, .string ⟨(rad b n).toArray⟩]) ∧ Below w.heap.size w w' := by
  have H65 := Lib.hid fun w => pow2_any (b : Int) _ rfl (by omega) (by omega) w
  rw [show (bits .and .i64 (b : Int) ((b : Int) - 1) == 0) = true by rw [hbs]; exact pow_mask s hs2] at H65
  have hA : ((b : Int) == 10) = false := by simp; omega
  have hB : decide ((b : Int) < 2) = false := by simp; omega
  have hC : decide (36 < (b : Int)) = false := by simp; omega
  have HB10 := Lib.hid hb10
  have HST := Lib.hid (filled_start b n w hn)
  have HTAB := Lib.hid htab
  have HBS := Lib.hid hbs
  clear hb10 hbs htab
  go_enter Tryd.func46, Tryd.ntmps46
  go_name_bytes MS hMS
  clear hMS
  go_name_bytes SM hSM
  have eSM : SM = Lib.digits36 := by rw [← hSM]; decide +kernel
  subst eSM
  clear hSM
  go_wp2_with fail
  refine (H65.out _).mono ?_
  rintro e w1 ⟨rfl, hw1⟩
  have HF : Hid (Filled b n w.heap.size n 65 w w1) := Lib.hid (by rw [← hw1]; exact HST.out)
  have H66 := Lib.hid (tz_pow s hs1 hs2 w1 (tabIs_later HTAB.out (by obtain ⟨_, _, _, h, _⟩ := HF.out; exact h) (Nat.le_refl _)))
  rw [← HBS.out] at H66
  clear hw1 HST H65
  go_wp2_with fail
  refine H66.out.mono ?_
  rintro e w2 ⟨rfl, hw2⟩
  subst hw2
  clear H66
  go_wp2
  go_loopw [1, 13] (fun u i wr => ∃ m j : Nat, u = .int .u64 m ∧ i = .int .i64 ((j : Int) + 1) ∧ m ≤ 2147483648 ∧ 32 ≤ j ∧ j ≤ 64 ∧ Hid (Filled b n w.heap.size m (j + 1) w wr)) (fun u _ _ => (RowKit.intOf u).toNat)
  case atStart => exact ⟨n, 64, rfl, by go_num, hn, by omega, by omega, HF⟩
  case round =>
    obtain ⟨m, j, rfl, rfl, hm, hj1, hj2, hf⟩ := hrel
    obtain ⟨⟨v, hcell⟩, hfr⟩ := filled_facts hf.out
    by_cases hmb : b ≤ m
    · obtain ⟨q, hqn⟩ : ∃ q : Nat, q = m / b := ⟨_, rfl⟩
      obtain ⟨d, hdn⟩ : ∃ d : Nat, d = m % b := ⟨_, rfl⟩
      have hq : (m : Int) / 2 ^ s = (q : Int) := by rw [hqn, HBS.out]; simp
      have hdb : d < b := by rw [hdn]; exact Nat.mod_lt _ (by omega)
      have hqm : q < m := by rw [hqn]; exact Nat.div_lt_self (by omega) (by omega)
      have hmask : bits .and .u64 (m : Int) ((b : Int) - 1) = (d : Int) := by rw [HBS.out, mask s m hs2 hm, hdn, HBS.out]
      have hst := Lib.hid (filled_step hf.out hb1 hmb)
      have hX := idx36 (P := Tryd.prog) 9 Tryd.underlying9 .u64 (d : Int) d rfl (by omega)
      rw [← hqn, ← hdn] at hst
      have HQ := Lib.hid hqn
      have HDN := Lib.hid hdn
      clear hqn hdn hf
      go_wp2
      have hs34 := hst.out.2
      refine ⟨⟨q, j - 1, rfl, by rw [show (((j - 1 : Nat) : Int) + 1) = (j : Int) by omega], by omega, by omega, by omega, Lib.hid ?_⟩, ?_⟩
      · rw [show j - 1 + 1 = j by omega]
        exact hst.out.1
      · simp only [RowKit.intOf]
        omega
    · have hX := idx36 (P := Tryd.prog) 9 Tryd.underlying9 .u64 (m : Int) m rfl (by omega)
      have hdn := filled_done hf.out (by omega) (65 - j)
      obtain ⟨W, hW⟩ : ∃ W, W = wr.setCell ⟨w.heap.size, j, none⟩ (.int .u8 ((ch m).toNat : Int)) := ⟨_, rfl⟩
      rw [← hW] at hdn
      have hconv := hdn.1
      have HBW := Lib.hid hdn.2
      have hWs := hW.symm
      clear hW hdn hf
      have hsl := fun W => slice98 w.heap.size j (by omega) W
      go_wp2
      go_ret2
      exact ⟨rfl, HBW.out⟩

set_option maxRecDepth 100000 in
set_option maxHeartbeats 4000000 in
theorem bits_powN (b n : Nat) (U : Int) (w : World) (hneg : IntKind.u64.wrap (-U) = (n : Int)) (s : Nat) (hs1 : 1 ≤ s) (hs2 : s ≤ 5) (hbs : b = 2 ^ s) (htab : TabIs Tryd.prog w "math/bits.deBruijn64tab" .u8 dbTab) (hn : n ≤ 2147483648) (hb1 : 2 ≤ b) (hb2 : b ≤ 36) (hb10 : b ≠ 10) :
    Calls Tryd.prog 46 #[.slice none 0 0, .int .u64 U, .int .i64 b, .bool true, .bool false] w fun e w' => e = .returned (.tuple #[.slice none 0 0, .string ⟨(45 :: rad b n).toArray⟩]) ∧ Below w.heap.size w w' := by
  have H65 := Lib.hid fun w => pow2_any (b : Int) _ rfl (by omega) (by omega) w
  rw [show (bits .and .i64 (b : Int) ((b : Int) - 1) == 0) = true by rw [hbs]; exact pow_mask s hs2] at H65
  have hA : ((b : Int) == 10) = false := by simp; omega
  have hB : decide ((b : Int) < 2) = false := by simp; omega
  have hC : decide (36 < (b : Int)) = false := by simp; omega
  have HB10 := Lib.hid hb10
  have HST := Lib.hid (filled_start b n w hn)
  have HTAB := Lib.hid htab
  have HBS := Lib.hid hbs
  clear hb10 hbs htab
  go_enter Tryd.func46, Tryd.ntmps46
  go_name_bytes MS hMS
  clear hMS
  go_name_bytes SM hSM
  have eSM : SM = Lib.digits36 := by rw [← hSM]; decide +kernel
  subst eSM
  clear hSM
  go_wp2_with fail
  refine (H65.out _).mono ?_
  rintro e w1 ⟨rfl, hw1⟩
  have HF : Hid (Filled b n w.heap.size n 65 w w1) := Lib.hid (by rw [← hw1]; exact HST.out)
  have H66 := Lib.hid (tz_pow s hs1 hs2 w1 (tabIs_later HTAB.out (by obtain ⟨_, _, _, h, _⟩ := HF.out; exact h) (Nat.le_refl _)))
  rw [← HBS.out] at H66
  clear hw1 HST H65
  go_wp2_with fail
  refine H66.out.mono ?_
  rintro e w2 ⟨rfl, hw2⟩
  subst hw2
  clear H66
  go_wp2
  go_loopw [1, 13] (fun u i wr => ∃ m j : Nat, u = .int .u64 m ∧ i = .int .i64 ((j : Int) + 1) ∧ m ≤ 2147483648 ∧ 32 ≤ j ∧ j ≤ 64 ∧ Hid (Filled b n w.heap.size m (j + 1) w wr)) (fun u _ _ => (RowKit.intOf u).toNat)
  case atStart => exact ⟨n, 64, rfl, by go_num, hn, by omega, by omega, HF⟩
  case round =>
    obtain ⟨m, j, rfl, rfl, hm, hj1, hj2, hf⟩ := hrel
    obtain ⟨⟨v, hcell⟩, hfr⟩ := filled_facts hf.out
    by_cases hmb : b ≤ m
    · obtain ⟨q, hqn⟩ : ∃ q : Nat, q = m / b := ⟨_, rfl⟩
      obtain ⟨d, hdn⟩ : ∃ d : Nat, d = m % b := ⟨_, rfl⟩
      have hq : (m : Int) / 2 ^ s = (q : Int) := by rw [hqn, HBS.out]; simp
      have hdb : d < b := by rw [hdn]; exact Nat.mod_lt _ (by omega)
      have hqm : q < m := by rw [hqn]; exact Nat.div_lt_self (by omega) (by omega)
      have hmask : bits .and .u64 (m : Int) ((b : Int) - 1) = (d : Int) := by rw [HBS.out, mask s m hs2 hm, hdn, HBS.out]
      have hst := Lib.hid (filled_step hf.out hb1 hmb)
      have hX := idx36 (P := Tryd.prog) 9 Tryd.underlying9 .u64 (d : Int) d rfl (by omega)
      rw [← hqn, ← hdn] at hst
      have HQ := Lib.hid hqn
      have HDN := Lib.hid hdn
      clear hqn hdn hf
      go_wp2
      have hs34 := hst.out.2
      refine ⟨⟨q, j - 1, rfl, by rw [show (((j - 1 : Nat) : Int) + 1) = (j : Int) by omega], by omega, by omega, by omega, Lib.hid ?_⟩, ?_⟩
      · rw [show j - 1 + 1 = j by omega]
        exact hst.out.1
      · simp only [RowKit.intOf]
        omega
    · have hX := idx36 (P := Tryd.prog) 9 Tryd.underlying9 .u64 (m : Int) m rfl (by omega)
      obtain ⟨i, rfl⟩ : ∃ i, j = i + 1 := ⟨j - 1, by omega⟩
      obtain ⟨W1, hW1⟩ : ∃ W1, W1 = wr.setCell ⟨w.heap.size, i + 1, none⟩ (.int .u8 ((ch m).toNat : Int)) := ⟨_, rfl⟩
      obtain ⟨W, hW⟩ : ∃ W, W = W1.setCell ⟨w.heap.size, i, none⟩ (.int .u8 45) := ⟨_, rfl⟩
      obtain ⟨⟨v2, hcell2⟩, hfr2, hconv, hbw⟩ := filled_neg2 hf.out (by omega) (65 - i) hW1 hW
      have HBW := Lib.hid hbw
      have hWs1 := hW1.symm
      have hWs := hW.symm
      have hsl := fun W => slice98 w.heap.size i (by omega) W
      have hij : ((i + 1 : Nat) : Int) = (i : Int) + 1 := by omega
      clear hW hW1 hbw hf
      go_wp2
      go_ret2
      exact ⟨rfl, HBW.out⟩

end Go.Proofs.YtmfbgoikekmdkaaDoor
