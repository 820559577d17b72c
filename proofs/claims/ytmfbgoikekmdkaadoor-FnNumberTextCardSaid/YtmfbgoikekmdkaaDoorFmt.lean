/-
  FormatFloat at 'e', -1, 64: the shortest text of a whole number n from 1 to 2^31.
-/
import Derived.Test.YtmfbgoikekmdkaaDoorFtoa
import Derived.Laws.MakeOwn
import Derived.Laws.IdiomStrings
namespace Go.Proofs.YtmfbgoikekmdkaaDoor
open Go Go.Proofs Go.RowKit Go.Sort Go.Lib

theorem conv_row {w : World} {g : Nat} {L : List UInt8} (h : w.ownsRow 0 5 1 (rowV g L.length) L.length (L.map encB)) :
    (convert 47 9 (rowV g L.length)).run Tryd.prog w = .ok (.string ⟨L.toArray⟩) w := by
  refine run_convert_bytes_back w 47 9 5 ⟨g, 0, none⟩ 24 L Tryd.underlying47 Tryd.underlying5 Tryd.underlying9 fun j hj => ?_
  have h1 := World.ownsRow.cellAt h j (by omega)
  rw [Lib.add_plain, Nat.zero_add, h1, List.getElem?_map, List.getElem?_eq_getElem hj]
  rfl

set_option maxRecDepth 100000 in
set_option maxHeartbeats 4000000 in
theorem format_inner (n r : Nat) (w : World)
    (hF : ∀ w' g, w'.ownsRow 0 5 1 (rowV g 0) 0 [] → g < w'.heap.size → w.grownBy w' none → Calls Tryd.prog 36 #[rowV g 0, .float .f64 r, .int .u8 101, .int .i64 (-1)] w' fun e w'' =>
      ∃ k, Kept n k ∧ e = .returned (rowV g (eText n k).length) ∧ w''.ownsRow 0 5 1 (rowV g (eText n k).length) (eText n k).length ((eText n k).map encB) ∧ w'.grownBy w'' (some g)) :
    Calls Tryd.prog 28 #[.float .f64 r, .int .u8 101, .int .i64 (-1), .int .i64 64] w fun e w' => ∃ k, Kept n k ∧ e = .returned (.string ⟨(eText n k).toArray⟩) ∧ Below w.heap.size w w' := by
  obtain ⟨i0, hi, hz0, hz1, hz2⟩ := info_parts info5
  obtain ⟨w1, hmk, hown, hgrow⟩ := run_make_own (P := Tryd.prog) w 0 47 5 i0 _ 1 Tryd.underlying47 hi hz0 hz1 .i64 .i64 24 (by rw [hz2]; decide) (by decide) (Nat.zero_le _)
  have hsz := hgrow.size
  have hg : w.heap.size < w1.heap.size := by
    obtain ⟨_, h | ⟨g, cap, cur, h3, _, h5, _⟩⟩ := hown
    · cases h.1
    · have e : w.heap.size = g := Option.some.inj (congrArg Value.ownBlock h3)
      rw [← e] at h5
      rcases Nat.lt_or_ge w.heap.size w1.heap.size with h' | h'
      · exact h'
      · rw [Array.getElem?_eq_none h'] at h5
        cases h5
  have HF := Lib.hid (hF w1 w.heap.size hown hg hgrow)
  have HG := Lib.hid hgrow
  have hmax : max (3 : Int) 24 = 24 := by decide
  rw [show ((24 : Nat) : Int) = 24 from rfl] at hmk
  clear hF hown hgrow hsz hg hi hz0 hz1 hz2
  go_enter Tryd.func28, Tryd.ntmps28
  go_wp2_with fail
  refine HF.out.mono ?_
  rintro e w2 ⟨k, hk, rfl, ho, hg2⟩
  have hconv := conv_row ho
  have HK := Lib.hid hk
  have HG2 := Lib.hid hg2
  clear hk ho hg2 HF
  obtain ⟨L, hL⟩ : ∃ L, L = eText n k := ⟨_, rfl⟩
  rw [← hL] at hconv ⊢
  have HL := Lib.hid hL
  clear hL
  go_wp2
  go_ret
  refine ⟨k, HK.out, ?_, ?_⟩
  · show Ending.returned (.string ⟨L.toArray⟩) = _
    rw [HL.out]
  · exact ((Below.refl w.heap.size w).grown HG.out (Nat.le_refl _) (fun k h => by cases h)).grown HG2.out HG.out.size (fun k h => by cases h; exact Nat.le_refl _)

set_option maxHeartbeats 4000000 in
theorem format_outer (r n : Nat) (w : World) (h : Calls Tryd.prog 28 #[.float .f64 r, .int .u8 101, .int .i64 (-1), .int .i64 64] w fun e w' => ∃ k, Kept n k ∧ e = .returned (.string ⟨(eText n k).toArray⟩) ∧ Below w.heap.size w w') :
    Calls Tryd.prog 20 #[.float .f64 r, .int .u8 101, .int .i64 (-1), .int .i64 64] w fun e w' => ∃ k, Kept n k ∧ e = .returned (.string ⟨(eText n k).toArray⟩) ∧ Below w.heap.size w w' := by
  have H := Lib.hid h
  clear h
  go_enter Tryd.func20, Tryd.ntmps20
  go_wp2_with fail
  refine H.out.mono ?_
  rintro e w' ⟨k, hk, rfl, hq⟩
  have HQ := Lib.hid hq
  have HK := Lib.hid hk
  clear hq hk
  obtain ⟨L, hL⟩ : ∃ L, L = eText n k := ⟨_, rfl⟩
  rw [← hL]
  have HL := Lib.hid hL
  clear hL
  go_wp2
  go_ret
  refine ⟨k, HK.out, ?_, HQ.out⟩
  show Ending.returned (.string ⟨L.toArray⟩) = _
  rw [HL.out]

theorem m_of {n E : Nat} (hE : E ≤ 31) : n * 2 ^ (52 - E) * 2048 = n * 2 ^ (63 - E) := by
  rw [show 63 - E = (52 - E) + 11 by omega, Nat.pow_add, ← Nat.mul_assoc]

/-- FormatFloat of the word of n. -/
theorem format_any (n E : Nat) (hE : E ≤ 31) (h1 : 2 ^ E ≤ n) (h2 : n < 2 ^ (E + 1)) (hn : n ≤ 2147483648) (w : World) (hT : TabP w) (htab : Lib.TabIs Tryd.prog w "internal/strconv.uint64pow10" .u64 Lib.pow10Tab) :
    Calls Tryd.prog 20 #[.float .f64 (wordN n E), .int .u8 101, .int .i64 (-1), .int .i64 64] w fun e w' => ∃ k, Kept n k ∧ e = .returned (.string ⟨(eText n k).toArray⟩) ∧ Below w.heap.size w w' := by
  have hn1 : 1 ≤ n := Nat.lt_of_lt_of_le (Nat.two_pow_pos E) h1
  refine format_outer _ n _ (format_inner n (wordN n E) w fun w' g hown hg hgr => ?_)
  have hbw : Below w.heap.size w w' := (Below.refl w.heap.size w).grown hgr (Nat.le_refl _) (fun k h => by cases h)
  refine ftoa_any n E (n * 2 ^ (52 - E)) (wordN n E) g (nDigits n) w' hE (sig_lo hE h1) (sig_hi hE h2) (by unfold wordN; omega) (m_of hE) hn1 rfl (nDigits_le hn1 (by omega)) hown hg (hT.later hbw (Nat.le_refl _)) (tabIs_later htab hbw (Nat.le_refl _)) fun w'' hT' => ?_
  have := short_any n E hE h1 h2 w'' hT'
  rw [← m_of hE] at this
  have e1 : ((n * 2 ^ (52 - E) * 2048 : Nat) : Int) = ((n * 2 ^ (52 - E) : Nat) : Int) * 2048 := by
    rw [Int.natCast_mul]
    rfl
  rw [e1, show (E : Int) - 63 = (E : Int) - 11 - 52 by omega] at this
  exact this
end Go.Proofs.YtmfbgoikekmdkaaDoor
