/-
  setDigits: the digits of a number laid in a row, and how many of them are left when the zeros at the end are taken off.
-/
import Derived.Test.YtmfbgoikekmdkaaDoorShortA
import Derived.CellFam
namespace Go.Proofs.YtmfbgoikekmdkaaDoor
open Go Go.Proofs Go.RowKit Go.Sort Go.Lib

abbrev encB : UInt8 → Value := fun b => Value.int .u8 (b.toNat : Int)

/-- The first digit is not a zero. -/
theorem head_dg (u : Nat) (h : 1 ≤ u) : dg u (nDigits u - 1) ≠ 48 := by
  induction u using Nat.strongRecOn with
  | _ u ih =>
    by_cases h10 : u < 10
    · rw [nDigits_small h10]
      simp only [dg]
      intro e
      have := congrArg UInt8.toNat e
      simp at this
      omega
    · rw [nDigits_big h10]
      have := nDigits_pos (u / 10)
      obtain ⟨k, hk⟩ : ∃ k, nDigits (u / 10) = k + 1 := ⟨nDigits (u / 10) - 1, by omega⟩
      have hi := ih (u / 10) (by omega) (by omega)
      rw [hk] at hi ⊢
      simp only [Nat.add_sub_cancel] at hi ⊢
      rw [dg_succ]
      exact hi

theorem ret_pair (a b c d : Int) (h1 : a = c) (h2 : b = d) : Ending.returned (.tuple #[.int .i64 a, .int .i64 b]) = .returned (.tuple #[.int .i64 c, .int .i64 d]) := by rw [h1, h2]

set_option maxHeartbeats 4000000 in
theorem setDigits_any (blk u : Nat) (p : Int) (w : World) (h1 : 1 ≤ u) (h2 : u < 18446744073709551616) (n : Nat) (hn : n = nDigits u) (hn2 : n ≤ 20) (hp0 : -100 ≤ p) (hp1 : p ≤ 100) (hH : Holds encB w blk 0 (Array.replicate n 0)) :
    Calls Tryd.prog 54 #[.slice (some ⟨blk, 0, none⟩) 32 32, .int .u64 u, .int .i64 p, .int .i64 n] w fun e w' =>
      ∃ (k m : Nat) (dk : Array UInt8), e = .returned (.tuple #[.int .i64 ((n : Int) + p), .int .i64 k]) ∧ w' = (putRow encB w blk 0 dk).drewN m ∧ dk.size = n ∧ (∀ j, j < n → dk[j]! = dg u (n - 1 - j)) ∧ 1 ≤ k ∧ k ≤ n ∧ (∀ j, k ≤ j → j < n → dk[j]! = 48) ∧ dk[k - 1]! ≠ 48 := by
  have hpos := nDigits_pos u
  rw [← hn] at hpos
  have hlt : u < 10 ^ (Array.replicate n (0 : UInt8)).size := by
    rw [Array.size_replicate, hn]
    exact lt_pow_nDigits u
  have hc := Tryd.internal_strconv_formatBase10 blk 0 32 u (Array.replicate n 0) w hH hlt h2 (by rw [Array.size_replicate]; omega)
  rw [Array.size_replicate] at hc
  have hhd : Hid (dg u (n - 1) ≠ 48) := Lib.hid (by rw [hn]; exact head_dg u h1)
  have HH := Lib.hid hH
  have HC := Lib.hid hc
  clear hlt hc hH hn
  have T : (Array.replicate n (0 : UInt8)).size = n := Array.size_replicate
  go_enter Tryd.func54, Tryd.ntmps54
  go_wp2_with (go_at_call 45; refine HC.out.mono ?_; rintro e w1 ⟨rfl, h1⟩; have HR := Lib.hid h1; clear h1)
  obtain ⟨m1, v1, dk, hw1, hF⟩ := HR.out
  clear HR
  have hsd : dk.size = n := hF.size
  have hdone : ∀ j, j < n → dk[j]! = dg u (n - 1 - j) := fun j hj => hF.done j (Nat.zero_le _) hj
  have hH1 : Holds encB w1 blk 0 dk := by rw [hw1]; exact holds_putRow _ w blk 0 _ dk HH.out (by rw [hsd, Array.size_replicate])
  obtain ⟨G, hG⟩ : ∃ G : Nat → Int, ∀ t, G t = (dk[t]!.toNat : Int) := ⟨_, fun _ => rfl⟩
  have hcell : ∀ t, t < n → w1.cell? ⟨blk, 0 + t, none⟩ = some (.int .u8 (G t)) := fun t ht => by rw [hG]; exact (hH1 t (by omega)).1
  have HG := Lib.hid hG
  have HW := Lib.hid hw1
  have HD := Lib.hid hdone
  have HS := Lib.hid hsd
  have HF := Lib.hid hF
  clear hG hw1 hdone hsd hF hH1 HC HH T
  go_wp2
  go_loopw [3] (fun i wr => ∃ k q : Nat, i = .int .i64 k ∧ 1 ≤ k ∧ k ≤ n ∧ wr = w1.drewN q ∧ Hid (∀ j, k ≤ j → j < n → dk[j]! = 48)) (fun i _ => (RowKit.intOf i).toNat)
  case atStart => exact ⟨n, 0, rfl, hpos, Nat.le_refl _, rfl, Lib.hid (fun j h1 h2 => by omega)⟩
  case round =>
    obtain ⟨k, q, rfl, hk1, hkn, rfl, hz⟩ := hrel
    obtain ⟨j, rfl⟩ : ∃ j, k = j + 1 := ⟨k - 1, by omega⟩
    have hcj : w1.cell? ⟨blk, j, none⟩ = some (.int .u8 (G j)) := by
      have := hcell j (by omega)
      rw [Nat.zero_add] at this
      exact this
    have HC2 := Lib.hid hcell
    clear hcell
    have hkj : ((j + 1 : Nat) : Int) = (j : Int) + 1 := by omega
    have hbyte : Hid (G j = 48 ↔ dk[j]! = 48) := Lib.hid (by
      rw [HG.out]
      constructor
      · intro h
        apply UInt8.toNat_inj.1
        have : ((48 : UInt8).toNat : Int) = 48 := rfl
        omega
      · intro h
        rw [h]
        rfl)
    by_cases h48 : G j = 48
    · go_wp2
      go_round
      case rel =>
        have hj48 := hbyte.out.1 h48
        refine ⟨j, q, by go_num, ?_, by omega, by simp, Lib.hid fun t h1 h2 => ?_⟩
        · rcases Nat.eq_zero_or_pos j with h0 | h0
          · exfalso
            subst h0
            have := HD.out 0 (by omega)
            rw [this] at hj48
            exact hhd.out (by simpa using hj48)
          · exact h0
        · rcases Nat.lt_or_ge j t with h | h
          · exact hz.out t (by omega) h2
          · have : t = j := by omega
            rw [this]
            exact hj48
      case measure =>
        simp [RowKit.intOf]
    · go_wp2
      go_ret2
      refine ⟨j + 1, m1 + q, dk, ret_pair _ _ _ _ rfl ?_, ?_, HS.out, HD.out, hk1, hkn, hz.out, ?_⟩
      · omega
      · rw [HW.out, World.drewN, World.drewN, World.drewN]
        simp [Nat.add_assoc]
      · intro h
        exact h48 (hbyte.out.2 (by simpa using h))
end Go.Proofs.YtmfbgoikekmdkaaDoor
