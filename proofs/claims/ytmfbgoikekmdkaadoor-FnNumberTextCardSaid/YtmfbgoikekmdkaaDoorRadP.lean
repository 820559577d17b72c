/-
  Plain Lean: the digits of a number to a base from 2 to 36.
-/
import Derived.Test.YtmfbgoikekmdkaaDoorSpec
import Derived.Lib.ItoaWalk
namespace Go.Proofs.YtmfbgoikekmdkaaDoor
open Go Go.Proofs Go.RowKit Go.Lib Go.Sort

/-- The digit x of the alphabet. -/
def ch (x : Nat) : UInt8 := if x < 10 then UInt8.ofNat (48 + x) else UInt8.ofNat (87 + x)

/-- The digits of m to base b (two or more). -/
def rad (b m : Nat) : List UInt8 :=
  if _h : m < b ∨ b < 2 then [ch m] else rad b (m / b) ++ [ch (m % b)]
  termination_by m
  decreasing_by exact Nat.div_lt_self (by omega) (by omega)

theorem rad_small {b m : Nat} (h : m < b) : rad b m = [ch m] := by rw [rad, dif_pos (Or.inl h)]
theorem rad_big {b m : Nat} (h : b ≤ m) (hb : 2 ≤ b) : rad b m = rad b (m / b) ++ [ch (m % b)] := by rw [rad, dif_neg (by omega)]

theorem ch_at : ∀ x : Fin 36, Lib.digits36.data.toList[x.val]? = some (ch x.val) := by decide +kernel

theorem idx36 {P : Program} (t : TypeId) (ht : P.underlying t = some .string) (k : IntKind) (z : Int) (i : Nat) (hz : z = (i : Int)) (hi : i < 36) (w : World) :
    (Instr.index t (.string Lib.digits36) (.int k z)).run P w = .ok (.int .u8 ((ch i).toNat : Int)) w := by
  subst hz
  rw [run_index_string w t Lib.digits36 k _ ht, dif_pos ⟨by omega, by rw [Lib.digits36_size]; omega⟩]
  have e : ((i : Int)).toNat = i := by omega
  simp only [e]
  have h1 := ch_at ⟨i, hi⟩
  have h2 : Lib.digits36.data.toList[i]? = some (Lib.digits36[i]'(by rw [Lib.digits36_size]; exact hi)) := by
    have : i < Lib.digits36.size := by rw [Lib.digits36_size]; exact hi
    simp [this]
    rfl
  have h3 : Lib.digits36[i]'(by rw [Lib.digits36_size]; exact hi) = ch i := Option.some.inj (h2.symm.trans h1)
  rw [h3]

theorem piece36 (i : Nat) (hi : i < 36) : (Lib.digits36.extract i (i + 1)).data.toList = [ch i] := by
  rw [one_byte Lib.digits36 i (by rw [Lib.digits36_size]; exact hi)]
  have h1 := ch_at ⟨i, hi⟩
  have h2 : Lib.digits36.data.toList[i]? = some (Lib.digits36[i]'(by rw [Lib.digits36_size]; exact hi)) := by
    have : i < Lib.digits36.size := by rw [Lib.digits36_size]; exact hi
    simp [this]
    rfl
  rw [Option.some.inj (h2.symm.trans h1)]

/-- A number's decimal digits. -/
theorem rad_ten (m : Nat) : rad 10 m = decDigits m := by
  induction m using Nat.strongRecOn with
  | _ m ih =>
    by_cases h : m < 10
    · rw [rad_small h, decDigits, dif_pos h]
      unfold ch
      rw [if_pos h]
    · rw [rad_big (by omega) (by decide), decDigits, dif_neg h, ih (m / 10) (by omega)]
      unfold ch
      rw [if_pos (by omega)]

/-- The text of a whole number to a base. -/
def radI (b : Nat) (i : Int) : List UInt8 := if i < 0 then 45 :: rad b i.natAbs else rad b i.natAbs

theorem radI_ten (i : Int) : radI 10 i = itoa i := by
  unfold radI itoa
  split
  · rw [rad_ten]
  · rw [rad_ten]
    congr 1
    omega

end Go.Proofs.YtmfbgoikekmdkaaDoor
