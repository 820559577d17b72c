/-
  Plain Lean: the shortest text is read back: its digits, its exponent, the zeros that are put back.
-/
import Derived.Test.YtmfbgoikekmdkaaDoorNum
namespace Go.Proofs.YtmfbgoikekmdkaaDoor
open Go Go.Proofs Go.RowKit Go.Lib

theorem dg_range (n j : Nat) : 48 ≤ (dg n j).toNat ∧ (dg n j).toNat ≤ 57 := by
  unfold dg
  rw [UInt8.toNat_ofNat']
  omega

theorem dg_ne (n j : Nat) : dg n j ≠ 101 ∧ dg n j ≠ 46 := by
  have := dg_range n j
  constructor <;> (intro e; rw [e] at this; revert this; decide)

/-- Where the e stands. -/
def eAt (k : Nat) : Nat := if k = 1 then 1 else k + 1
def heads (n k : Nat) : List UInt8 := (List.range k).map fun t => dg n (nDigits n - 1 - t)
def kept (l : List UInt8) : List UInt8 := l.filter (· != 46)

theorem eText_parts (n k : Nat) (hk : 1 ≤ k) : ∃ pre, eText n k = pre ++ [101, 43, 48, UInt8.ofNat (nDigits n - 1 + 48)] ∧ pre.length = eAt k ∧ kept pre = heads n k ∧ ∀ b ∈ pre, b ≠ 101 := by
  by_cases h1 : k = 1
  · subst h1
    refine ⟨[dg n (nDigits n - 1)], rfl, rfl, ?_, ?_⟩
    · have := (dg_ne n (nDigits n - 1)).2
      unfold kept heads
      rw [List.filter_cons_of_pos (by simpa using this)]
      rfl
    · intro b hb
      simp at hb
      subst hb
      exact (dg_ne _ _).1
  · obtain ⟨q, rfl⟩ : ∃ q, k = q + 2 := ⟨k - 2, by omega⟩
    refine ⟨dg n (nDigits n - 1) :: 46 :: (List.range (q + 1)).map fun t => dg n (nDigits n - 1 - (t + 1)), ?_, ?_, ?_, ?_⟩
    · unfold eText
      rw [if_neg h1]
      rfl
    · unfold eAt
      rw [if_neg h1]
      simp
    · unfold kept heads
      rw [List.filter_cons_of_pos (by simpa using (dg_ne n (nDigits n - 1)).2), List.filter_cons_of_neg (by simp), List.filter_eq_self.2]
      · rw [show q + 2 = (q + 1) + 1 from rfl, List.range_succ_eq_map (n := q + 1), List.map_cons, List.map_map]
        rfl
      · intro b hb
        simp only [List.mem_map] at hb
        obtain ⟨t, _, rfl⟩ := hb
        simpa using (dg_ne n _).2
    · intro b hb
      simp only [List.mem_cons, List.mem_map] at hb
      rcases hb with rfl | rfl | ⟨t, _, rfl⟩
      · exact (dg_ne _ _).1
      · decide
      · exact (dg_ne _ _).1

theorem heads_length (n k : Nat) : (heads n k).length = k := by simp [heads]

theorem heads_all {n k : Nat} (h : Kept n k) : heads n k ++ List.replicate (nDigits n - k) 48 = decDigits n := by
  rw [decDigits_eq]
  apply List.ext_getElem
  · rw [List.length_append, heads_length, List.length_replicate, List.length_map, List.length_range]
    have := h.le
    omega
  · intro i h1 h2
    have hi : i < nDigits n := by simpa using h2
    rw [List.getElem_map, List.getElem_range]
    rcases Nat.lt_or_ge i k with hk | hk
    · rw [List.getElem_append_left (by rw [heads_length]; exact hk)]
      simp [heads]
    · rw [List.getElem_append_right (by rw [heads_length]; exact hk), List.getElem_replicate, h.zeros i hk hi]

theorem atoi_exp {D : Nat} (h1 : 1 ≤ D) (h2 : D ≤ 10) : Lib.atoi [43, 48, UInt8.ofNat (D - 1 + 48)] = some ((D : Int) - 1) := by
  have : ∀ d : Fin 10, Lib.atoi [43, 48, UInt8.ofNat (d.val + 48)] = some (d.val : Int) := by decide
  have h := this ⟨D - 1, by omega⟩
  simp only at h
  rw [h]
  congr 1
  omega
end Go.Proofs.YtmfbgoikekmdkaaDoor
