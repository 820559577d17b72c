/-
  shortFloat at a whole number n from 1 to 2^31: n times one power of ten less, and that power. The two tables lie as the package's text lays them.
-/
import Derived.Test.YtmfbgoikekmdkaaDoorShortW
namespace Go.Proofs.YtmfbgoikekmdkaaDoor
open Go Go.Proofs Go.RowKit Ieee

def ShortAns (n : Nat) (w : World) (e : Ending) (w' : World) : Prop :=
  ∃ P : Nat, 7 ≤ P ∧ P ≤ 17 ∧ n * 10 ^ P < 180000000000000000 ∧ e = .returned (.tuple #[.int .u64 ((n * 10 ^ (P - 1) : Nat) : Int), .int .i64 (1 - (P : Int))]) ∧ Below w.heap.size w w'

theorem and_one (x : Nat) (hx : x < 9223372036854775808) : bits .and .i64 (x : Int) 1 = ((x % 2 : Nat) : Int) := by
  have h1 : (BitVec.ofInt 64 1).toNat = 2 ^ 1 - 1 := by decide
  have key : (BitVec.ofInt 64 (x : Int) &&& BitVec.ofInt 64 1).toNat = ((x : Int) % ((2 ^ 64 : Nat) : Int)).toNat % 2 ^ 1 := by
    rw [BitVec.toNat_and, BitVec.toNat_ofInt, h1, Nat.and_two_pow_sub_one_eq_mod]
  show IntKind.i64.wrap ((BitVec.ofInt 64 (x : Int) &&& BitVec.ofInt 64 1).toNat : Nat) = _
  rw [key, IntKind.wrap_i64]
  omega

theorem m_eq {n E : Nat} (hE : E ≤ 31) : n * 2 ^ (63 - E) = 4 * n * 2 ^ (61 - E) := by
  rw [show 63 - E = (61 - E) + 2 from by omega, Nat.pow_add, ← Nat.mul_assoc, Nat.mul_comm 4 n, Nat.mul_assoc n 4, Nat.mul_comm 4, ← Nat.mul_assoc]

theorem m_lo {n E : Nat} (hE : E ≤ 31) (h : 2 ^ E ≤ n) : 9223372036854775808 ≤ n * 2 ^ (63 - E) := by
  have : 2 ^ E * 2 ^ (63 - E) ≤ n * 2 ^ (63 - E) := Nat.mul_le_mul_right _ h
  rw [← Nat.pow_add, show E + (63 - E) = 63 from by omega] at this
  exact this

theorem m_hi {n E : Nat} (hE : E ≤ 31) (h : n < 2 ^ (E + 1)) : n * 2 ^ (63 - E) + 4096 ≤ 18446744073709551616 := by
  have h1 : (n + 1) * 2 ^ (63 - E) ≤ 2 ^ (E + 1) * 2 ^ (63 - E) := Nat.mul_le_mul_right _ h
  rw [← Nat.pow_add, show E + 1 + (63 - E) = 64 from by omega, Nat.add_mul, Nat.one_mul] at h1
  have h2 : 2 ^ 32 ≤ 2 ^ (63 - E) := Nat.pow_le_pow_right (by omega) (by omega)
  have h3 : (2 : Nat) ^ 64 = 18446744073709551616 := rfl
  have h4 : (2 : Nat) ^ 32 = 4294967296 := rfl
  omega

theorem size_ok {pw : Bool} {E n : Nat} (hE : E ≤ 31) (h1 : 1 ≤ n) (h2 : n < 2 ^ (E + 1)) : n * 10 ^ pw10 pw E < 180000000000000000 := by
  obtain ⟨_, _, _, _, _, _, h7, _⟩ := pow_facts pw E (by omega)
  have a : n * (10 ^ pw10 pw E * 2 ^ 10) < n * (36 * 2 ^ (61 - E)) := Nat.mul_lt_mul_of_pos_left h7 (by omega)
  have b : n * (36 * 2 ^ (61 - E)) ≤ 2 ^ (E + 1) * (36 * 2 ^ (61 - E)) := Nat.mul_le_mul_right _ (Nat.le_of_lt h2)
  have c : 2 ^ (E + 1) * (36 * 2 ^ (61 - E)) = 36 * 2 ^ 62 := by
    rw [Nat.mul_left_comm, ← Nat.pow_add, show E + 1 + (61 - E) = 62 from by omega]
  rw [c] at b
  rw [← Nat.mul_assoc] at a
  generalize n * 10 ^ pw10 pw E = X at a
  have : X * 2 ^ 10 < 36 * 2 ^ 62 := Nat.lt_of_lt_of_le a b
  have d : (2 : Nat) ^ 10 = 1024 := rfl
  have f : (2 : Nat) ^ 62 = 4611686018427387904 := rfl
  omega

theorem q_small {x H s : Nat} (hx : x < 18446744073709551616) (hH : H < 18446744073709551616) (hs : 2 ≤ s) : x * H / 18446744073709551616 / 2 ^ s < 4611686018427387904 := by
  have h1 : x * H / 18446744073709551616 < 18446744073709551616 := by
    rw [Nat.div_lt_iff_lt_mul (by omega)]
    exact Nat.mul_lt_mul_of_lt_of_lt hx hH
  have h2 : (4 : Nat) ≤ 2 ^ s := by
    have := Nat.pow_le_pow_right (n := 2) (by omega) hs
    exact this
  rw [Nat.div_lt_iff_lt_mul (Nat.two_pow_pos _)]
  have : 4611686018427387904 * 4 ≤ 4611686018427387904 * 2 ^ s := Nat.mul_le_mul_left _ h2
  omega

theorem s_ge : ∀ pw : Bool, ∀ E, E < 32 → 2 ≤ 60 - E - lg pw E := by decide +kernel

theorem short_any (n E : Nat) (hE : E ≤ 31) (h1 : 2 ^ E ≤ n) (h2 : n < 2 ^ (E + 1)) (w : World) (htab : TabP w) :
    Calls Tryd.prog 60 #[.int .u64 ((n * 2 ^ (63 - E) : Nat) : Int), .int .i64 ((E : Int) - 63)] w (ShortAns n w) := by
  have hn : 0 < n := Nat.lt_of_lt_of_le (Nat.two_pow_pos E) h1
  have a1 := m_lo hE h1
  have a2 := m_hi hE h2
  obtain ⟨m, hm⟩ : ∃ m, m = n * 2 ^ (63 - E) := ⟨_, rfl⟩
  have hm4 : m = 4 * n * 2 ^ (61 - E) := by rw [hm, m_eq hE]
  rw [← hm] at a1 a2
  rw [← hm]
  by_cases hp : m = 9223372036854775808
  · have hf := pow_facts true E (by omega)
    obtain ⟨f1, f2, f3, f4, f5, f6, f7, f8, f9, f10⟩ := hf
    have hrow := htab.2 _ _ (row_facts true E (by omega))
    have hsc := fun x => scale_eq (pw := true) (E := E) (by omega) x
    have hs2 := s_ge true E (by omega)
    have hsz := size_ok (pw := true) hE (by omega) h2
    have hH : 10 ^ pw10 true E * 2 ^ (63 - lg true E) < 18446744073709551616 := f10
    have hw : w = w := rfl
    have hc := shortFloat_pow ((E : Int) - 63) (pw10 true E) (lg true E) (60 - E - lg true E) (10 ^ pw10 true E * 2 ^ (63 - lg true E)) 0 (n * 10 ^ (pw10 true E - 1)) w (by omega) (by omega) f3 f2
      (by
        have : powI true E / powD true = (((E : Int) - 63 + 11) * 631305 - 261663) / 2097152 := by
          unfold powI powD
          simp
          omega
        rw [← this]
        exact f1) rfl (by omega) (by omega) hH rfl htab.1 hrow.1 hrow.2 _ _ rfl rfl (q_small (by omega) hH hs2) (q_small (by omega) hH hs2)
      (by
        intro U1 U2 u1 u2 u3 u4
        have k1 : (9223372036854775296 : Nat) = 4 * n * 2 ^ (61 - E) - 512 := by omega
        have k2 : (9223372036854776832 : Nat) = 4 * n * 2 ^ (61 - E) + 1024 := by omega
        rw [hsc, k1] at u2
        rw [hsc, k2] at u3 u4
        exact short_ok (pw := true) (o := 0) (c := 512) (by omega) hn (by omega) rfl u3 u4 u2)
    rw [hp]
    exact hc.mono fun e w' ⟨he, hb⟩ => ⟨pw10 true E, f2, f3, hsz, he, hb⟩
  · have hf := pow_facts false E (by omega)
    obtain ⟨f1, f2, f3, f4, f5, f6, f7, f8, f9, f10⟩ := hf
    have hrow := htab.2 _ _ (row_facts false E (by omega))
    have hsc := fun x => scale_eq (pw := false) (E := E) (by omega) x
    have hs2 := s_ge false E (by omega)
    have hsz := size_ok (pw := false) hE (by omega) h2
    have hH : 10 ^ pw10 false E * 2 ^ (63 - lg false E) < 18446744073709551616 := f10
    have hb : bits .and .i64 ((m : Int) / 2048) 1 = ((m / 2048 % 2 : Nat) : Int) := by
      have hx : m / 2048 < 9223372036854775808 := by omega
      have := and_one (m / 2048) hx
      rw [← this]
      simp
    have hc := shortFloat_gen m ((E : Int) - 63) (pw10 false E) (lg false E) (60 - E - lg false E) (10 ^ pw10 false E * 2 ^ (63 - lg false E)) (m / 2048 % 2) (n * 10 ^ (pw10 false E - 1)) w (by omega) (by omega) f3 f2
      (by
        have : powI false E / powD false = ((E : Int) - 63 + 11) * 78913 / 262144 := by
          unfold powI powD
          simp
          omega
        rw [← this]
        exact f1) (by omega) (by omega) (by
          have : ¬ (m : Int) = 9223372036854775808 := by omega
          simpa using this) rfl (by omega) (by omega) hH (by omega) hb htab.1 hrow.1 hrow.2 _ _ rfl rfl (q_small (by omega) hH hs2) (q_small (by omega) hH hs2)
      (by
        intro U1 U2 u1 u2 u3 u4
        rw [hsc, hm4] at u2
        rw [hsc, hm4] at u3 u4
        exact short_ok (pw := false) (o := m / 2048 % 2) (c := 1024) (by omega) hn (by omega) rfl u3 u4 u2)
    exact hc.mono fun e w' ⟨he, hb⟩ => ⟨pw10 false E, f2, f3, hsz, he, hb⟩
end Go.Proofs.YtmfbgoikekmdkaaDoor
