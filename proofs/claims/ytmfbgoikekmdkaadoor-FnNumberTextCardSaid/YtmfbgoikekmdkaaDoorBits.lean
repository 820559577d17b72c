/-
  formatBits: the digits of a whole number to a base that is not 10.
-/
import Derived.Test.YtmfbgoikekmdkaaDoorTz
namespace Go.Proofs.YtmfbgoikekmdkaaDoor
open Go Go.Proofs Go.RowKit Go.Lib Go.Sort

/-- What the text knows at a round's head: the digits from place j on. -/
def Filled (b n blk m j : Nat) (w wr : World) : Prop :=
  ∃ dk : Array UInt8, dk.size = 65 ∧ Holds encB wr blk 0 dk ∧ Below blk w wr ∧ 33 ≤ j ∧ j ≤ 65 ∧ m < 2 ^ (j - 33) ∧ rad b m ++ dk.toList.drop j = rad b n

theorem filled_facts {b n blk m j : Nat} {w wr : World} (h : Filled b n blk m (j + 1) w wr) : (∃ v, wr.cell? ⟨blk, j, none⟩ = some (.int .u8 v)) ∧ wr.frozen? ⟨blk, j, none⟩ = false := by
  obtain ⟨dk, h1, h2, _, _, h5, _⟩ := h
  have := h2 j (by omega)
  rw [Nat.zero_add] at this
  exact ⟨⟨_, this.1⟩, this.2⟩

/-- One digit more. -/
theorem filled_put {blk j : Nat} {w wr : World} {dk : Array UInt8} (x : UInt8) (h1 : dk.size = 65) (h2 : Holds encB wr blk 0 dk) (h3 : Below blk w wr) (hj : j < 65) :
    ∃ dk' : Array UInt8, dk'.size = 65 ∧ Holds encB (wr.setCell ⟨blk, j, none⟩ (.int .u8 (x.toNat : Int))) blk 0 dk' ∧ Below blk w (wr.setCell ⟨blk, j, none⟩ (.int .u8 (x.toNat : Int))) ∧ dk'.toList.drop j = x :: dk.toList.drop (j + 1) := by
  refine ⟨dk.setIfInBounds j x, by simpa using h1, ?_, h3.setCell (Nat.le_refl _) _, ?_⟩
  · have e : wr.setCell ⟨blk, j, none⟩ (.int .u8 (x.toNat : Int)) = putRow encB wr blk 0 (dk.setIfInBounds j x) := by
      have := putRow_set encB wr blk 0 dk j x (by omega)
      rw [putRow_self encB wr blk 0 dk h2, Nat.zero_add] at this
      exact this
    rw [e]
    exact holds_putRow encB wr blk 0 dk _ h2 (by simp)
  · rw [Array.toList_setIfInBounds, List.drop_eq_getElem_cons (by rw [List.length_set, Array.length_toList]; omega), List.getElem_set_self, List.drop_set_of_lt (show j < j + 1 by omega)]

theorem filled_step {b n blk m j : Nat} {w wr : World} (h : Filled b n blk m (j + 1) w wr) (hb : 2 ≤ b) (hm : b ≤ m) : Filled b n blk (m / b) j w (wr.setCell ⟨blk, j, none⟩ (.int .u8 ((ch (m % b)).toNat : Int))) ∧ 34 ≤ j := by
  obtain ⟨dk, h1, h2, h3, h4, h5, h6, h7⟩ := h
  obtain ⟨dk', k1, k2, k3, k4⟩ := filled_put (ch (m % b)) h1 h2 h3 (show j < 65 by omega)
  have hp : 0 < m / b := Nat.div_pos hm (by omega)
  obtain ⟨a1, a2, _, _⟩ := halved hb rfl hp h6
  have hj : 34 ≤ j := by
    rcases Nat.lt_or_ge j 34 with h | h
    · exfalso
      have e : j + 1 - 33 - 1 = 0 := by omega
      rw [e] at a2
      simp at a2
      omega
    · exact h
  refine ⟨⟨dk', k1, k2, k3, by omega, by omega, by rw [show j - 33 = j + 1 - 33 - 1 by omega]; exact a2, ?_⟩, hj⟩
  rw [k4, ← h7, rad_big hm hb, List.append_assoc]
  rfl

theorem conv_drop {blk i : Nat} {wr : World} {dk : Array UInt8} {L : List UInt8} (h1 : dk.size = 65) (h2 : Holds encB wr blk 0 dk) (hL : dk.toList.drop i = L) (c : Nat) (hi : i ≤ 65) :
    (convert 47 9 (.slice (some ⟨blk, i, none⟩) (65 - i) c)).run Tryd.prog wr = .ok (.string ⟨L.toArray⟩) wr := by
  have hl : L.length = 65 - i := by
    rw [← hL, List.length_drop, Array.length_toList, h1]
  rw [← hl]
  refine run_convert_bytes_back wr 47 9 5 ⟨blk, i, none⟩ c L Tryd.underlying47 Tryd.underlying5 Tryd.underlying9 fun j hj => ?_
  have hij : i + j < dk.size := by omega
  have := (h2 (i + j) hij).1
  rw [Nat.zero_add] at this
  rw [Lib.add_plain, this]
  have e : L[j] = dk[i + j]! := by
    have h5 : L[j]? = dk.toList[i + j]? := by rw [← hL, List.getElem?_drop]
    rw [List.getElem?_eq_getElem hj, Array.getElem?_toList, Array.getElem?_eq_getElem hij] at h5
    rw [getElem!_pos dk (i + j) hij]
    exact Option.some.inj h5
  rw [e]

theorem filled_done {b n blk m j : Nat} {w wr : World} (h : Filled b n blk m (j + 1) w wr) (hm : m < b) (c : Nat) :
    (convert 47 9 (.slice (some ⟨blk, j, none⟩) (65 - j) c)).run Tryd.prog (wr.setCell ⟨blk, j, none⟩ (.int .u8 ((ch m).toNat : Int))) = .ok (.string ⟨(rad b n).toArray⟩) (wr.setCell ⟨blk, j, none⟩ (.int .u8 ((ch m).toNat : Int))) ∧
    Below blk w (wr.setCell ⟨blk, j, none⟩ (.int .u8 ((ch m).toNat : Int))) := by
  obtain ⟨dk, h1, h2, h3, h4, h5, h6, h7⟩ := h
  obtain ⟨dk', k1, k2, k3, k4⟩ := filled_put (ch m) h1 h2 h3 (show j < 65 by omega)
  exact ⟨conv_drop k1 k2 (by rw [k4, ← h7, rad_small hm]; rfl) c (by omega), k3⟩

theorem filled_neg {b n blk m j : Nat} {w wr : World} (h : Filled b n blk m (j + 2) w wr) (hm : m < b) (c : Nat) :
    let W := (wr.setCell ⟨blk, j + 1, none⟩ (.int .u8 ((ch m).toNat : Int))).setCell ⟨blk, j, none⟩ (.int .u8 45)
    (convert 47 9 (.slice (some ⟨blk, j, none⟩) (65 - j) c)).run Tryd.prog W = .ok (.string ⟨(45 :: rad b n).toArray⟩) W ∧ Below blk w W := by
  obtain ⟨dk, h1, h2, h3, h4, h5, h6, h7⟩ := h
  obtain ⟨dk', k1, k2, k3, k4⟩ := filled_put (ch m) h1 h2 h3 (show j + 1 < 65 by omega)
  obtain ⟨dk2, l1, l2, l3, l4⟩ := filled_put 45 k1 k2 k3 (show j < 65 by omega)
  exact ⟨conv_drop l1 l2 (by rw [l4, k4, ← h7, rad_small hm]; rfl) c (by omega), l3⟩

theorem slice98 (blk j : Nat) (hj : j ≤ 64) (W : World) : (Instr.sliceAt 98 (.pointer (some ⟨blk, 0, none⟩)) (some (.int .i64 (j : Int))) none none).run Tryd.prog W = .ok (.slice (some ⟨blk, j, none⟩) (65 - j) (65 - j)) W := by
  have hal : Tryd.prog.arrayLen 98 = 65 := by kernel_rfl
  have hel : Tryd.prog.elem 98 = 5 := by kernel_rfl
  have ht : Tryd.prog.underlying 98 = some (.array (Tryd.prog.arrayLen 98) (Tryd.prog.elem 98)) := by rw [hal, hel]; exact Tryd.underlying98
  rw [run_sliceAt_array_l W 98 ⟨blk, 0, none⟩ ht .i64 (j : Int) (by omega) (by rw [hal]; omega), hal, hel]
  have hs : (sizeOf 5).run Tryd.prog W = .ok 1 W := Tryd.sizeOf5 W
  rw [hs]
  show Result.ok (slicedAt ⟨blk, 0, none⟩ (j : Int).toNat 65 65 1) W = _
  unfold slicedAt
  rw [if_neg (by omega), Lib.add_plain]
  simp

theorem zero98 : Tryd.zeroCells98 = Array.replicate 65 (Value.int .u8 0) := by kernel_rfl

theorem filled_start (b n : Nat) (w : World) (hn : n ≤ 2147483648) : Filled b n w.heap.size n 65 w (w.alloc (Obj.cells Tryd.zeroCells98 98)) := by
  refine ⟨Array.replicate 65 0, by simp, fun j hj => ?_, (Below.refl _ _).alloc (Nat.le_refl _) _, by omega, by omega, Nat.lt_of_le_of_lt hn (by decide), by simp⟩
  have hj' : j < 65 := by simpa using hj
  have hblk : (w.alloc (Obj.cells Tryd.zeroCells98 98)).heap[w.heap.size]? = some (.cells Tryd.zeroCells98 98 (0, 0)) := heap_alloc_new w _
  constructor
  · rw [cell_of_row _ _ _ _ _ _ hblk, zero98, Array.getElem?_replicate, if_pos (by omega), getElem!_pos _ j hj]
    simp
  · exact frozen_of_row _ _ _ _ _ hblk

set_option maxRecDepth 100000 in
set_option maxHeartbeats 4000000 in
theorem bits_loop (b n : Nat) (w : World) (hn : n ≤ 2147483648) (hb1 : 2 ≤ b) (hb2 : b ≤ 36) (hb10 : b ≠ 10) (hnp : (bits .and .i64 (b : Int) ((b : Int) - 1) == 0) = false) :
    Calls Tryd.prog 46 #[.slice none 0 0, .int .u64 n, .int .i64 b, .bool false, .bool false] w fun e w' => e = .returned (.tuple #[.slice none 0 0, .string ⟨(rad b n).toArray⟩]) ∧ Below w.heap.size w w' := by
  have H65 := Lib.hid fun w => pow2_any (b : Int) _ rfl (by omega) (by omega) w
  rw [hnp] at H65
  have hA : ((b : Int) == 10) = false := by simp; omega
  have hB : decide ((b : Int) < 2) = false := by simp; omega
  have hC : decide (36 < (b : Int)) = false := by simp; omega
  have HB10 := Lib.hid hb10
  have HST := Lib.hid (filled_start b n w hn)
  clear hb10 hnp
  go_enter Tryd.func46, Tryd.ntmps46
  go_name_bytes MS hMS
  clear hMS
  go_name_bytes SM hSM
  have eSM : SM = Lib.digits36 := by rw [← hSM]; decide +kernel
  subst eSM
  clear hSM
  go_wp2_with fail
  refine (H65.out _).mono ?_
  rintro e w1 ⟨rfl, hw1⟩
  have HF : Hid (Filled b n w.heap.size n 65 w w1) := Lib.hid (by rw [← hw1]; exact HST.out)
  clear hw1 HST H65
  go_wp2
  go_loopw [1, 13] (fun u i wr => ∃ m j : Nat, u = .int .u64 m ∧ i = .int .i64 ((j : Int) + 1) ∧ m ≤ 2147483648 ∧ 32 ≤ j ∧ j ≤ 64 ∧ Hid (Filled b n w.heap.size m (j + 1) w wr)) (fun u _ _ => (RowKit.intOf u).toNat)
  case atStart => exact ⟨n, 64, rfl, by go_num, hn, by omega, by omega, HF⟩
  case round =>
    obtain ⟨m, j, rfl, rfl, hm, hj1, hj2, hf⟩ := hrel
    obtain ⟨⟨v, hcell⟩, hfr⟩ := filled_facts hf.out
    by_cases hmb : b ≤ m
    · obtain ⟨q, hqn⟩ : ∃ q : Nat, q = m / b := ⟨_, rfl⟩
      obtain ⟨d, hdn⟩ : ∃ d : Nat, d = m % b := ⟨_, rfl⟩
      obtain ⟨p, hpn⟩ : ∃ p : Int, (q : Int) * (b : Int) = p := ⟨_, rfl⟩
      have hq : (m : Int) / (b : Int) = (q : Int) := by rw [hqn]; rfl
      have hdb : d < b := by rw [hdn]; exact Nat.mod_lt _ (by omega)
      have hqm : q < m := by rw [hqn]; exact Nat.div_lt_self (by omega) (by omega)
      have hpd : (m : Int) - p = (d : Int) := by
        have h := Nat.div_add_mod m b
        rw [← hpn, hdn, hqn]
        have h2 : ((b * (m / b) + m % b : Nat) : Int) = (m : Int) := by rw [h]
        rw [Int.natCast_add, Int.natCast_mul, Int.mul_comm] at h2
        omega
      have hp0 : 0 ≤ p := by rw [← hpn]; exact Int.mul_nonneg (by omega) (by omega)
      have hst := Lib.hid (filled_step hf.out hb1 hmb)
      have hX := idx36 (P := Tryd.prog) 9 Tryd.underlying9 .u64 (d : Int) d rfl (by omega)
      rw [← hqn, ← hdn] at hst
      have HQ := Lib.hid hqn
      have HDN := Lib.hid hdn
      clear hqn hdn hf
      go_wp2
      have hs34 := hst.out.2
      refine ⟨⟨q, j - 1, rfl, by rw [show (((j - 1 : Nat) : Int) + 1) = (j : Int) by omega], by omega, by omega, by omega, Lib.hid ?_⟩, ?_⟩
      · rw [show j - 1 + 1 = j by omega]
        exact hst.out.1
      · simp only [RowKit.intOf]
        omega
    · have hX := idx36 (P := Tryd.prog) 9 Tryd.underlying9 .u64 (m : Int) m rfl (by omega)
      have hdn := filled_done hf.out (by omega) (65 - j)
      obtain ⟨W, hW⟩ : ∃ W, W = wr.setCell ⟨w.heap.size, j, none⟩ (.int .u8 ((ch m).toNat : Int)) := ⟨_, rfl⟩
      rw [← hW] at hdn
      have hconv := hdn.1
      have HBW := Lib.hid hdn.2
      have hWs := hW.symm
      clear hW hdn hf
      have hsl := fun W => slice98 w.heap.size j (by omega) W
      go_wp2
      go_ret2
      exact ⟨rfl, HBW.out⟩
end Go.Proofs.YtmfbgoikekmdkaaDoor
