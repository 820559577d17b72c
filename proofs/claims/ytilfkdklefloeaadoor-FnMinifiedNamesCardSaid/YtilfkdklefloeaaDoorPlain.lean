/-
  Plain Lean: names of numbers (a first letter of 54, then letters of 64), that they are names, that no two are the same, and that later ones aren't shorter. No condition but that the two alphabets are the given ones.
-/
import Derived.WalkKit
namespace Go.Proofs.YtilfkdklefloeaaDoor
open Go

def letterP (n : Int) : Bool := decide (97 ≤ n ∧ n ≤ 122 ∨ 65 ≤ n ∧ n ≤ 90 ∨ n = 95 ∨ n = 36)
def digitP (n : Int) : Bool := decide (48 ≤ n ∧ n ≤ 57)
def restP (c : UInt8) : Bool := letterP c.toNat || digitP c.toNat
def nameP : List UInt8 → Bool
  | [] => false
  | c :: r => letterP c.toNat && r.all restP

theorem ret_bool {a b : Bool} (h : a = b) : Ending.returned (.bool a) = .returned (.bool b) := by rw [h]

/-- The first k letters are as a name's. -/
def okTo (l : List UInt8) (k : Nat) : Prop := ∀ j c, j < k → l[j]? = some c → (j = 0 → letterP c.toNat = true) ∧ (0 < j → restP c = true)

theorem okTo_zero (l : List UInt8) : okTo l 0 := by
  intro j c h
  omega

theorem okTo_succ {l : List UInt8} {k : Nat} {c : UInt8} (h : okTo l k) (hc : l[k]? = some c) (h0 : k = 0 → letterP c.toNat = true) (h1 : 0 < k → restP c = true) : okTo l (k + 1) := by
  intro j d hj hd
  by_cases e : j = k
  · subst e
    rw [hc] at hd
    cases hd
    exact ⟨h0, h1⟩
  · exact h j d (by omega) hd

theorem nameP_of_ok {l : List UInt8} (h : okTo l l.length) : nameP l = !l.isEmpty := by
  cases l with
  | nil => rfl
  | cons c r =>
    have hc := (h 0 c (by simp) (by simp)).1 rfl
    have hr : r.all restP = true := by
      rw [List.all_eq_true]
      intro d hd
      obtain ⟨j, hj, rfl⟩ := List.getElem_of_mem hd
      exact (h (j + 1) r[j] (by simp; omega) (by simp)).2 (by omega)
    simp [nameP, hc, hr]

theorem nameP_bad_head {l : List UInt8} {c : UInt8} (hc : l[0]? = some c) (h : letterP c.toNat = false) : nameP l = false := by
  cases l with
  | nil => rfl
  | cons d r =>
    simp at hc
    subst hc
    simp [nameP, h]

theorem nameP_bad_rest {l : List UInt8} {c : UInt8} {k : Nat} (hk : 0 < k) (hc : l[k]? = some c) (h : letterP c.toNat = false) (h' : digitP c.toNat = false) : nameP l = false := by
  cases l with
  | nil => rfl
  | cons d r =>
    obtain ⟨j, rfl⟩ : ∃ j, k = j + 1 := ⟨k - 1, by omega⟩
    simp at hc
    have hm : c ∈ r := List.mem_of_getElem? hc
    have : r.all restP = false := by
      rw [List.all_eq_false]
      exact ⟨c, hm, by simp [restP, h, h']⟩
    simp [nameP, this]

/-! ### The names of numbers -/

def at0 (t : ByteArray) (k : Nat) : UInt8 := t.data.toList.getD k 0

def tailL (t : ByteArray) (m : Nat) : List UInt8 :=
  if h : m = 0 then [] else at0 t ((m - 1) % 64) :: tailL t ((m - 1) / 64)
  termination_by m
  decreasing_by omega

def nameL (s t : ByteArray) (n : Nat) : List UInt8 := at0 s (n % 54) :: tailL t (n / 54)

theorem tailL_zero (t : ByteArray) : tailL t 0 = [] := by rw [tailL]; rfl
theorem tailL_pos (t : ByteArray) (m : Nat) (h : 0 < m) : tailL t m = at0 t ((m - 1) % 64) :: tailL t ((m - 1) / 64) := by
  rw [tailL, dif_neg (by omega)]

theorem extract_one (t : ByteArray) (k : Nat) (h : k < t.size) : (t.extract k (k + 1)).data.toList = [at0 t k] := by
  have h' : k < t.data.toList.length := by simpa using h
  rw [ByteArray.data_extract, Array.toList_extract]
  simp only [List.extract_eq_take_drop, Nat.add_sub_cancel_left, at0]
  rw [List.drop_eq_getElem_cons h', List.take_succ_cons, List.take_zero, List.getD_eq_getElem?_getD, List.getElem?_eq_getElem h', Option.getD_some]

theorem tailL_len_mono (t : ByteArray) : ∀ (m k : Nat), m ≤ k → (tailL t m).length ≤ (tailL t k).length := by
  intro m
  induction m using Nat.strongRecOn with
  | ind m ih =>
    intro k hk
    by_cases h : m = 0
    · subst h; rw [tailL_zero]; simp
    · rw [tailL_pos t m (by omega), tailL_pos t k (by omega)]
      simp only [List.length_cons]
      have := ih ((m - 1) / 64) (by omega) ((k - 1) / 64) (Nat.div_le_div_right (by omega))
      omega

theorem nameL_len_mono (s t : ByteArray) (n k : Nat) (h : n ≤ k) : (nameL s t n).length ≤ (nameL s t k).length := by
  simp only [nameL, List.length_cons]
  have := tailL_len_mono t (n / 54) (k / 54) (Nat.div_le_div_right h)
  omega

theorem tailL_inj (t : ByteArray) (ht : ∀ a b, a < 64 → b < 64 → at0 t a = at0 t b → a = b) : ∀ m k : Nat, tailL t m = tailL t k → m = k := by
  intro m
  induction m using Nat.strongRecOn with
  | ind m ih =>
    intro k h
    by_cases hm : m = 0
    · by_cases hk : k = 0
      · omega
      · subst hm
        rw [tailL_zero, tailL_pos t k (by omega)] at h
        cases h
    · by_cases hk : k = 0
      · subst hk
        rw [tailL_zero, tailL_pos t m (by omega)] at h
        cases h
      · rw [tailL_pos t m (by omega), tailL_pos t k (by omega)] at h
        injection h with h1 h2
        have e1 := ht _ _ (Nat.mod_lt _ (by omega)) (Nat.mod_lt _ (by omega)) h1
        have e2 := ih ((m - 1) / 64) (by omega) _ h2
        omega

theorem nameL_inj (s t : ByteArray) (hs : ∀ a b, a < 54 → b < 54 → at0 s a = at0 s b → a = b) (ht : ∀ a b, a < 64 → b < 64 → at0 t a = at0 t b → a = b) (n k : Nat) (h : nameL s t n = nameL s t k) : n = k := by
  unfold nameL at h
  injection h with h1 h2
  have e1 := hs _ _ (Nat.mod_lt _ (by omega)) (Nat.mod_lt _ (by omega)) h1
  have e2 := tailL_inj t ht _ _ h2
  omega

theorem tailL_rest (t : ByteArray) (ht : ∀ a, a < 64 → restP (at0 t a) = true) : ∀ m : Nat, (tailL t m).all restP = true := by
  intro m
  induction m using Nat.strongRecOn with
  | ind m ih =>
    by_cases hm : m = 0
    · subst hm; rw [tailL_zero]; rfl
    · rw [tailL_pos t m (by omega)]
      simp only [List.all_cons, Bool.and_eq_true]
      exact ⟨ht _ (Nat.mod_lt _ (by omega)), ih _ (by omega)⟩

theorem nameL_name (s t : ByteArray) (hs : ∀ a, a < 54 → letterP (at0 s a).toNat = true) (ht : ∀ a, a < 64 → restP (at0 t a) = true) (n : Nat) : nameP (nameL s t n) = true := by
  simp only [nameL, nameP, Bool.and_eq_true]
  exact ⟨hs _ (Nat.mod_lt _ (by omega)), tailL_rest t ht _⟩

/-! ### The two alphabets -/

def headB : ByteArray := ⟨#[97, 98, 99, 100, 101, 102, 103, 104, 105, 106, 107, 108, 109, 110, 111, 112, 113, 114, 115, 116, 117, 118, 119, 120, 121, 122, 65, 66, 67, 68, 69, 70, 71, 72, 73, 74, 75, 76, 77, 78, 79, 80, 81, 82, 83, 84, 85, 86, 87, 88, 89, 90, 95, 36]⟩
def tailB : ByteArray := ⟨#[97, 98, 99, 100, 101, 102, 103, 104, 105, 106, 107, 108, 109, 110, 111, 112, 113, 114, 115, 116, 117, 118, 119, 120, 121, 122, 65, 66, 67, 68, 69, 70, 71, 72, 73, 74, 75, 76, 77, 78, 79, 80, 81, 82, 83, 84, 85, 86, 87, 88, 89, 90, 48, 49, 50, 51, 52, 53, 54, 55, 56, 57, 95, 36]⟩

theorem headB_size : headB.size = 54 := rfl
theorem tailB_size : tailB.size = 64 := rfl
theorem headB_letter : ∀ a, a < 54 → letterP (at0 headB a).toNat = true := by decide +kernel
theorem tailB_rest : ∀ a, a < 64 → restP (at0 tailB a) = true := by decide +kernel
theorem headB_inj : ∀ a b, a < 54 → b < 54 → at0 headB a = at0 headB b → a = b := by
  have h : ∀ a, a < 54 → ∀ b, b < 54 → at0 headB a = at0 headB b → a = b := by decide +kernel
  exact fun a b ha hb => h a ha b hb
theorem tailB_inj : ∀ a b, a < 64 → b < 64 → at0 tailB a = at0 tailB b → a = b := by
  have h : ∀ a, a < 64 → ∀ b, b < 64 → at0 tailB a = at0 tailB b → a = b := by decide +kernel
  exact fun a b ha hb => h a ha b hb

/-- The name of n. -/
def nm (n : Nat) : ByteArray := ⟨(nameL headB tailB n).toArray⟩
theorem nm_list (n : Nat) : (nm n).data.toList = nameL headB tailB n := by simp [nm]
theorem nm_name (n : Nat) : nameP (nm n).data.toList = true := by
  rw [nm_list]
  exact nameL_name _ _ headB_letter tailB_rest n
theorem nm_inj {n k : Nat} (h : (nm n).data.toList = (nm k).data.toList) : n = k := by
  rw [nm_list, nm_list] at h
  exact nameL_inj _ _ headB_inj tailB_inj n k h
theorem nm_size (n : Nat) : (nm n).size = (nameL headB tailB n).length := by
  rw [← nm_list]
  rfl
theorem nm_mono {n k : Nat} (h : n ≤ k) : (nm n).size ≤ (nm k).size := by
  rw [nm_size, nm_size]
  exact nameL_len_mono _ _ n k h
theorem tailL_length_le (t : ByteArray) : ∀ m : Nat, (tailL t m).length ≤ m := by
  intro m
  induction m using Nat.strongRecOn with
  | ind m ih =>
    by_cases hm : m = 0
    · subst hm; rw [tailL_zero]; simp
    · rw [tailL_pos t m (by omega)]
      have := ih ((m - 1) / 64) (by omega)
      simp only [List.length_cons]
      omega
theorem nm_small (n : Nat) (h : n ≤ 1073741824) : (nm n).size ≤ 1073741825 := by
  rw [nm_size]
  simp only [nameL, List.length_cons]
  have := tailL_length_le tailB (n / 54)
  omega
end Go.Proofs.YtilfkdklefloeaaDoor
