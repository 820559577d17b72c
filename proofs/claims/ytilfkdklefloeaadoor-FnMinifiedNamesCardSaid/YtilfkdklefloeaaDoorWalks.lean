/-
  The walks of the functions that FnMinifiedNames reaches: what each computes. The conditions stand in each theorem.
-/
import Derived.Test.YtilfkdklefloeaaDoorBuilder
import Derived.Test.YtilfkdklefloeaaDoorPlain
import Derived.WalkKit
import Derived.WalkLawsBesides
import Derived.WalkSpells
import Derived.BigCall
import Derived.Lib.Hide
import Derived.Lib.Bytes
import Derived.Laws.Rows
import Derived.Deep.QuietTactic
import Derived.BigQuiet
namespace Go.Proofs.YtilfkdklefloeaaDoor
open Go Go.Proofs Go.RowKit

set_option maxHeartbeats 400000 in
theorem toList_bytes (s : ByteArray) : s.toList = s.data.toList := Lib.toList_data s
theorem ret_str {a b : ByteArray} (h : a = b) : Ending.returned (.string a) = .returned (.string b) := by rw [h]

set_option maxHeartbeats 400000 in
theorem letter_any (n : Int) (w : World) : Calls Tryd.prog 7 #[.int .u8 n] w fun e w' => e = .returned (.bool (letterP n)) ∧ w = w' := by
  go_enter Tryd.func7, Tryd.ntmps7
  go_wp2
  all_goals
    go_ret
    refine ⟨ret_bool ?_, rfl⟩
    unfold letterP
    rw [Bool.eq_iff_iff]
    simp
    try omega

set_option maxHeartbeats 400000 in
theorem digit_any (n : Int) (w : World) : Calls Tryd.prog 8 #[.int .u8 n] w fun e w' => e = .returned (.bool (digitP n)) ∧ w = w' := by
  go_enter Tryd.func8, Tryd.ntmps8
  go_wp2
  all_goals
    go_ret
    refine ⟨ret_bool ?_, rfl⟩
    unfold digitP
    rw [Bool.eq_iff_iff]
    simp
    try omega

set_option maxHeartbeats 400000 in
theorem isName_any (s : ByteArray) (w : World) (hs : s.size ≤ maxLen) :
    Calls Tryd.prog 5 #[.string s] w fun e w' => e = .returned (.bool (nameP s.data.toList)) ∧ w = w' := by
  unfold maxLen at hs
  go_enter Tryd.func5, Tryd.ntmps5
  go_wp2
  go_loop [6] (fun i => ∃ k : Nat, k ≤ s.size ∧ i = .int .i64 k ∧ okTo s.data.toList k) (fun i => s.size - (intOf i).toNat)
  case atStart => exact ⟨0, Nat.zero_le _, rfl, okTo_zero _⟩
  case round =>
    obtain ⟨k, hk, rfl, hok⟩ := hrel
    by_cases hlt : k < s.size
    · have hget : Hid (s.data.toList[k]? = some s[k]) := Lib.hid (by simp [hlt]; rfl)
      by_cases hl : letterP (s[k].toNat : Int) = true
      · go_wp2_with (first | (go_at_call 7; refine (letter_any _ _).mono ?_; rintro e w' ⟨rfl, rfl⟩) | (go_at_call 8; refine (digit_any _ _).mono ?_; rintro e w' ⟨rfl, rfl⟩))
        go_round
        case rel => exact ⟨k + 1, by omega, by go_num, okTo_succ hok hget.out (fun _ => hl) (fun _ => by simp [restP, hl])⟩
        case measure => simp [intOf]; omega
      · have hl' : letterP (s[k].toNat : Int) = false := by simpa using hl
        clear hl
        by_cases h0 : k = 0
        · subst h0
          go_wp2_with (first | (go_at_call 7; refine (letter_any _ _).mono ?_; rintro e w' ⟨rfl, rfl⟩) | (go_at_call 8; refine (digit_any _ _).mono ?_; rintro e w' ⟨rfl, rfl⟩))
          go_ret
          exact ⟨ret_bool (nameP_bad_head hget.out hl').symm, rfl⟩
        · have hpos : 0 < k := by omega
          have hne : ((k : Int) == 0) = false := by simp; omega
          clear h0
          by_cases hd : digitP (s[k].toNat : Int) = true
          · go_wp2_with (first | (go_at_call 7; refine (letter_any _ _).mono ?_; rintro e w' ⟨rfl, rfl⟩) | (go_at_call 8; refine (digit_any _ _).mono ?_; rintro e w' ⟨rfl, rfl⟩))
            go_round
            case rel => exact ⟨k + 1, by omega, by go_num, okTo_succ hok hget.out (fun e => by omega) (fun _ => by simp [restP, hd])⟩
            case measure => simp [intOf]; omega
          · have hd' : digitP (s[k].toNat : Int) = false := by simpa using hd
            clear hd
            go_wp2_with (first | (go_at_call 7; refine (letter_any _ _).mono ?_; rintro e w' ⟨rfl, rfl⟩) | (go_at_call 8; refine (digit_any _ _).mono ?_; rintro e w' ⟨rfl, rfl⟩))
            go_ret
            exact ⟨ret_bool (nameP_bad_rest hpos hget.out hl' hd').symm, rfl⟩
    · have hkn : okTo s.data.toList s.data.toList.length := by
        have : s.data.toList.length = s.size := by simp
        rw [this]
        have : k = s.size := by omega
        rw [← this]
        exact hok
      have hN := Lib.hid (nameP_of_ok hkn)
      clear hkn hok
      go_wp2
      go_ret
      exact ⟨ret_bool (by rw [hN.out, toList_bytes]), rfl⟩

set_option maxHeartbeats 1000000 in
theorem ntm_any (n : Nat) (w : World) (hn : n ≤ 1073741824) :
    Calls Tryd.prog 6 #[.agg #[.string headB, .string tailB], .int .i64 n] w fun e w' => e = .returned (.string (nm n)) ∧ Below w.heap.size w w' := by
  obtain ⟨s, hs⟩ : ∃ s, s = headB := ⟨_, rfl⟩
  obtain ⟨t, ht⟩ : ∃ t, t = tailB := ⟨_, rfl⟩
  have hss : s.size = 54 := by rw [hs]; rfl
  have hts : t.size = 64 := by rw [ht]; rfl
  have hnm : Hid (⟨(nameL s t n).toArray⟩ = nm n) := Lib.hid (by rw [hs, ht]; rfl)
  rw [← hs, ← ht]
  clear hs ht
  have hI0 := (Lib.fresh_isBuilder 31 5 (w.alloc (.cells #[.string s, .string t] 26)))
  go_enter Tryd.func6, Tryd.ntmps6
  go_wp2_with fail
  refine (writeString (w.heap.size + 1) (w.heap.size + 1) [] _ _ ?_ ?_ ?_).mono ?_
  · simpa using hI0
  · simp
    omega
  · simp
  rintro e w1 ⟨rfl, h1, hb1⟩
  rw [Lib.strCells_eq, extract_one s (n % 54) (by omega)] at h1
  go_wp2_with fail
  go_loopw [1] (fun i wr => ∃ (m : Nat) (acc : List UInt8), i = .int .i64 m ∧ m ≤ 1073741824 ∧ Lib.IsBuilder 31 5 (w.heap.size + 1) (w.heap.size + 1) (Lib.byteCells acc) wr ∧ Below (w.heap.size + 1) (w.alloc (.cells #[.string s, .string t] 26)) wr ∧ acc ++ tailL t m = nameL s t n ∧ acc.length + m ≤ n + 1) (fun i _ => (intOf i).toNat)
  case atStart =>
    refine ⟨n / 54, [at0 s (n % 54)], by go_num, by omega, Or.inr ?_, ?_, rfl, by simp; omega⟩
    · simpa using h1
    · exact ((Below.refl _ _).alloc (by simp) _).trans hb1
  case round =>
    obtain ⟨m, acc, rfl, hm, hI, hbw, hacc, hlen⟩ := hrel
    have c1 : wr.cell? ⟨w.heap.size, 1, none⟩ = some (.string t) := by
      rw [hbw.cell (p := ⟨w.heap.size, 1, none⟩) (by simp)]
      exact cell_of_row _ _ 1 _ _ _ (heap_alloc_new w _)
    have hsz : w.heap.size + 1 ≤ wr.heap.size := by
      have := hbw.size
      simp at this
      omega
    by_cases h0 : 0 < m
    · obtain ⟨k, rfl⟩ : ∃ k, m = k + 1 := ⟨m - 1, by omega⟩
      have Hacc : Hid (acc ++ tailL t (k + 1) = nameL s t n) := Lib.hid hacc
      clear hacc
      have hI1 := hI
      go_wp2_with (go_at_call 9; refine (writeString (w.heap.size + 1) (w.heap.size + 1) _ _ _ hI ?_ hsz).mono ?_)
      · rw [Lib.byteCells_length, ByteArray.size_extract]
        omega
      rintro e w2 ⟨rfl, h2, hb2⟩
      rw [Lib.strCells_eq, extract_one t (k % 64) (by omega), ← Lib.byteCells_append] at h2
      clear hI1
      go_wp2
      go_roundw
      case rel =>
        refine ⟨k / 64, acc ++ [at0 t (k % 64)], by go_num, by omega, Or.inr h2, hbw.trans hb2, ?_, by simp; omega⟩
        rw [← Hacc.out, tailL_pos t (k + 1) (by omega)]
        simp
      case measure => simp [intOf]; omega
    · obtain rfl : m = 0 := by omega
      rw [tailL_zero, List.append_nil] at hacc
      have Hacc : Hid (⟨acc.toArray⟩ = nm n) := Lib.hid (by rw [hacc, hnm.out])
      clear hacc
      go_wp2_with (go_at_call 10; refine (stringAny (w.heap.size + 1) (w.heap.size + 1) acc _ hI hsz).mono ?_; rintro e w2 ⟨rfl, hb2⟩)
      go_ret
      refine ⟨ret_str Hacc.out, ?_⟩
      exact ((Below.refl _ _).alloc (Nat.le_refl _) _).trans ((hbw.trans hb2).mono (by omega))

set_option maxHeartbeats 400000 in
theorem mn_any (n : Nat) (w : World) (hn : n ≤ 1073741824) (h0 : w.cell? ⟨0, 0, none⟩ = some (.string headB)) (h1 : w.cell? ⟨0, 1, none⟩ = some (.string tailB)) :
    Calls Tryd.prog 4 #[.int .i64 n] w fun e w' => e = .returned (.string (nm n)) ∧ Below w.heap.size w w' := by
  go_enter Tryd.func4, Tryd.ntmps4
  go_wp2_with (go_at_call 6; refine (ntm_any n _ hn).mono ?_; rintro e w' ⟨rfl, hb⟩)
  go_ret
  exact ⟨rfl, hb⟩

theorem names_agree (i j : Nat) : (!((nm i).toList == (nm j).toList) == ((i : Int) == (j : Int))) = false := by
  rw [toList_bytes, toList_bytes]
  by_cases h : i = j
  · subst h
    simp
  · have h1 : ¬ (nm i).data.toList = (nm j).data.toList := fun e => h (nm_inj e)
    have h2 : ¬ (i : Int) = (j : Int) := by omega
    rw [beq_false_of_ne h1, beq_false_of_ne h2]
    rfl

set_option maxHeartbeats 400000 in
theorem law_in (i j : Nat) (w : World) (hi : i ≤ 1073741824) (hj : j ≤ 1073741824) (hsz : 0 < w.heap.size) (h0 : w.cell? ⟨0, 0, none⟩ = some (.string headB)) (h1 : w.cell? ⟨0, 1, none⟩ = some (.string tailB)) :
    Calls Tryd.prog 3 #[.int .i64 i, .int .i64 j] w fun e w' => e = .returned (.bool true) ∧ Below w.heap.size w w' := by
  go_enter Tryd.func3, Tryd.ntmps3
  go_wp2_with fail
  refine (mn_any _ _ hi h0 h1).mono ?_
  rintro e w1 ⟨rfl, hb1⟩
  go_wp2_with fail
  refine (mn_any _ _ hj ((hb1.cell (p := ⟨0, 0, none⟩) hsz).trans h0) ((hb1.cell (p := ⟨0, 1, none⟩) hsz).trans h1)).mono ?_
  rintro e w2 ⟨rfl, hb2⟩
  have e1 := nm_name i
  have e2 := nm_name j
  have s1 := nm_small i hi
  have s2 := nm_small j hj
  have c1 : ∀ W, Calls Tryd.prog 5 #[.string (nm i)] W fun e w' => e = .returned (.bool true) ∧ W = w' := fun W => by
    have h := isName_any (nm i) W (by unfold maxLen; omega)
    rwa [e1] at h
  have c2 : ∀ W, Calls Tryd.prog 5 #[.string (nm j)] W fun e w' => e = .returned (.bool true) ∧ W = w' := fun W => by
    have h := isName_any (nm j) W (by unfold maxLen; omega)
    rwa [e2] at h
  have C1 := Lib.hid c1
  have C2 := Lib.hid c2
  clear c1 c2 e1 e2 s1 s2
  go_wp2_with fail
  refine (C1.out _).mono ?_
  rintro e w' ⟨rfl, rfl⟩
  go_wp2_with fail
  refine (C2.out _).mono ?_
  rintro e w' ⟨rfl, rfl⟩
  go_wp2_with fail
  · have h := ‹(!((nm i).toList == (nm j).toList) == ((i : Int) == (j : Int))) = true›
    exfalso
    rw [names_agree] at h
    cases h
  · go_ret
    refine ⟨ret_bool ?_, hb1.trans (hb2.mono hb1.size)⟩
    have hij : i ≤ j := by assumption
    have := nm_mono hij
    simp [this]
  · go_ret
    exact ⟨rfl, hb1.trans (hb2.mono hb1.size)⟩

set_option maxHeartbeats 400000 in
theorem law_out (a b : Int) (w : World) (h : a < 0 ∨ (0 ≤ a ∧ b < 0) ∨ (0 ≤ a ∧ 0 ≤ b ∧ 1073741824 < a) ∨ (0 ≤ a ∧ 0 ≤ b ∧ a ≤ 1073741824 ∧ 1073741824 < b)) :
    Calls Tryd.prog 3 #[.int .i64 a, .int .i64 b] w fun e w' => e = .returned (.bool true) ∧ w = w' := by
  rcases h with h | ⟨h1, h⟩ | ⟨h1, h2, h⟩ | ⟨h1, h2, h3, h⟩
  all_goals
    go_enter Tryd.func3, Tryd.ntmps3
    go_wp2
    go_ret
    exact ⟨rfl, rfl⟩

theorem law_any (a b : Int) (w : World) (hsz : 0 < w.heap.size) (h0 : w.cell? ⟨0, 0, none⟩ = some (.string headB)) (h1 : w.cell? ⟨0, 1, none⟩ = some (.string tailB)) :
    Calls Tryd.prog 3 #[.int .i64 a, .int .i64 b] w fun e w' => e = .returned (.bool true) ∧ Below w.heap.size w w' := by
  by_cases h : 0 ≤ a ∧ 0 ≤ b ∧ a ≤ 1073741824 ∧ b ≤ 1073741824
  · obtain ⟨i, rfl⟩ := Int.eq_ofNat_of_zero_le h.1
    obtain ⟨j, rfl⟩ := Int.eq_ofNat_of_zero_le h.2.1
    exact law_in i j w (by omega) (by omega) hsz h0 h1
  · refine (law_out a b w (by omega)).mono ?_
    rintro e w' ⟨rfl, rfl⟩
    exact ⟨rfl, Below.refl _ _⟩

end Go.Proofs.YtilfkdklefloeaaDoor
