/-
  The walk of shortFloat at float64, for a whole number from 1 to 2^31: it hands back the number with one power of ten less, and that power. The two tables lie as the package's text lays them.
-/
import Derived.Test.YtmfbgoikekmdkaaDoorScale
namespace Go.Proofs.YtmfbgoikekmdkaaDoor
open Go Go.Proofs Go.RowKit Ieee

/-- pow10Tab, as its block holds it. -/
def TabP (w : World) : Prop := 6 < w.heap.size ∧ ∀ i x, Go.Pinned.pow10Rows[i]? = some x → w.cell? ⟨6, i * 2, none⟩ = some (.int .u64 (x.1 : Nat)) ∧ w.cell? ⟨6, i * 2 + 1, none⟩ = some (.int .u64 (x.2 : Nat))

theorem TabP.later {w w' : World} {B : Nat} (h : TabP w) (hb : Below B w w') (hB : w.heap.size ≤ B) : TabP w' := by
  refine ⟨Nat.lt_of_lt_of_le h.1 hb.size, fun i x hx => ?_⟩
  have h6 : 6 < B := Nat.lt_of_lt_of_le h.1 hB
  have := h.2 i x hx
  exact ⟨(hb.cell (p := ⟨6, i * 2, none⟩) h6).trans this.1, (hb.cell (p := ⟨6, i * 2 + 1, none⟩) h6).trans this.2⟩

/-- What prescale leaves. -/
theorem prescale_new (p s : Nat) (e lp : Int) (H : Nat) (hp : p ≤ 17) (w : World) (he1 : -100 ≤ e) (he2 : e ≤ 100) (h1 : -100 ≤ lp) (h2 : lp ≤ 100) (hs : -(e + lp + 3) = (s : Int))
    (ht : 6 < w.heap.size) (t0 : w.cell? ⟨6, (p + 348) * 2, none⟩ = some (.int .u64 H)) (t1 : w.cell? ⟨6, (p + 348) * 2 + 1, none⟩ = some (.int .u64 0)) :
    Calls Tryd.prog 71 #[.pointer (some ⟨w.heap.size, 0, none⟩), .int .i64 e, .int .i64 p, .int .i64 lp] (w.alloc (.cells #[.int .u64 0, .int .u64 0, .int .i64 0] 105)) fun e w' => e = .returned (.tuple #[]) ∧
      (w'.cell? ⟨w.heap.size, 0, none⟩ = some (.int .u64 H) ∧ w'.cell? ⟨w.heap.size, 1, none⟩ = some (.int .u64 0) ∧ w'.cell? ⟨w.heap.size, 2, none⟩ = some (.int .i64 s) ∧ Below w.heap.size w w') := by
  obtain ⟨W, hW⟩ : ∃ W, W = w.alloc (.cells #[.int .u64 0, .int .u64 0, .int .i64 0] 105) := ⟨_, rfl⟩
  have hb : Below w.heap.size w W := by rw [hW]; exact (Below.refl _ _).alloc (Nat.le_refl _) _
  have hblk : W.heap[w.heap.size]? = some (.cells #[.int .u64 0, .int .u64 0, .int .i64 0] 105 (0, 0)) := by rw [hW]; exact heap_alloc_new w _
  have c0 : W.cell? ⟨w.heap.size, 0, none⟩ = some (.int .u64 0) := cell_of_row _ _ 0 _ _ _ hblk
  have c1 : W.cell? ⟨w.heap.size, 1, none⟩ = some (.int .u64 0) := cell_of_row _ _ 1 _ _ _ hblk
  have c2 : W.cell? ⟨w.heap.size, 2, none⟩ = some (.int .i64 0) := cell_of_row _ _ 2 _ _ _ hblk
  have fz : ∀ j, W.frozen? ⟨w.heap.size, j, none⟩ = false := fun j => frozen_of_row _ _ j _ _ hblk
  rw [← hW]
  refine (prescale_any w.heap.size p s e lp H hp W he1 he2 h1 h2 hs ((hb.cell (p := ⟨6, (p + 348) * 2, none⟩) ht).trans t0) ((hb.cell (p := ⟨6, (p + 348) * 2 + 1, none⟩) ht).trans t1) c0 c1 c2 (fz 0) (fz 1) (fz 2)).mono ?_
  rintro e w' ⟨rfl, rfl⟩
  have d0 : (⟨w.heap.size, 0, none⟩ : Addr) ≠ ⟨w.heap.size, 1, none⟩ := by simp
  have d1 : (⟨w.heap.size, 0, none⟩ : Addr) ≠ ⟨w.heap.size, 2, none⟩ := by simp
  have d2 : (⟨w.heap.size, 1, none⟩ : Addr) ≠ ⟨w.heap.size, 2, none⟩ := by simp
  refine ⟨rfl, ?_, ?_, ?_, ?_⟩
  · rw [World.cell?_setCell_other (h := d1.symm) .., World.cell?_setCell_other (h := d0.symm) ..]
    exact World.cell?_setCell_same (h := c0) ..
  · rw [World.cell?_setCell_other (h := d2.symm) ..]
    refine World.cell?_setCell_same (u := .int .u64 0) (h := ?_) ..
    rw [World.cell?_setCell_other (h := d0) ..]
    exact c1
  · refine World.cell?_setCell_same (u := .int .i64 0) (h := ?_) ..
    rw [World.cell?_setCell_other (h := d2) .., World.cell?_setCell_other (h := d1) ..]
    exact c2
  · exact ((hb.setCell (Nat.le_refl _) _).setCell (Nat.le_refl _) _).setCell (Nat.le_refl _) _

theorem ret_two {a b c d : Int} (h : a = b) (h' : c = d) : Ending.returned (.tuple #[.int .u64 a, .int .i64 c]) = .returned (.tuple #[.int .u64 b, .int .i64 d]) := by rw [h, h']

set_option maxRecDepth 100000 in
set_option maxHeartbeats 2000000 in
theorem shortFloat_pow (e : Int) (P lp s H o d : Nat) (w : World) (he1 : -63 ≤ e) (he2 : e ≤ -32) (hP : P ≤ 17) (hP1 : 7 ≤ P)
    (hsk : ((e + 11) * 631305 - 261663) / 2097152 = -(P : Int)) (hlp : lp = P * 108853 / 32768) (hs : -(e + lp + 3) = (s : Int)) (hs60 : s ≤ 60) (hH : H < 18446744073709551616)
    (ho : o = 0)
    (ht : 6 < w.heap.size) (t0 : w.cell? ⟨6, (P + 348) * 2, none⟩ = some (.int .u64 H)) (t1 : w.cell? ⟨6, (P + 348) * 2 + 1, none⟩ = some (.int .u64 0))
    (q1 q2 : Nat) (hq1 : q1 = 9223372036854775296 * H / 18446744073709551616 / 2 ^ s) (hq2 : q2 = 9223372036854776832 * H / 18446744073709551616 / 2 ^ s)
    (hsm1 : q1 < 4611686018427387904) (hsm2 : q2 < 4611686018427387904)
    (fin : ∀ U1 U2, q1 ≤ U1 → U1 ≤ q1 + 1 → q2 ≤ U2 → U2 ≤ q2 + 1 → (U2 - o) / 4 / 10 = d ∧ (U1 + o + 3) / 4 ≤ d * 10 ∧ 2 ≤ U2) :
    Calls Tryd.prog 60 #[.int .u64 9223372036854775808, .int .i64 e] w fun e w' => e = .returned (.tuple #[.int .u64 (d : Int), .int .i64 (1 - (P : Int))]) ∧ Below w.heap.size w w' := by
  have hlp64 : lp ≤ 64 := by omega
  have S : Hid (∀ w, Calls Tryd.prog 70 #[.int .i64 (e + 11)] w fun e w' => e = .returned (.int .i64 (-(P : Int))) ∧ w = w') := Lib.hid (fun w => by
    have h := skewed_any (e + 11) (by omega) (by omega) w
    rwa [hsk] at h)
  have L : Hid (∀ w, Calls Tryd.prog 72 #[.int .i64 (P : Int)] w fun e w' => e = .returned (.int .i64 (lp : Int)) ∧ w = w') := Lib.hid (fun w => by
    have h := l2_any P (by omega) w
    rwa [← hlp] at h)
  have R := Lib.hid (prescale_new P s e lp H hP w (by omega) (by omega) (by omega) (by omega) hs ht t0 t1)
  have Q1 : Hid (∀ w b, w.cell? ⟨b, 0, none⟩ = some (.int .u64 H) → w.cell? ⟨b, 1, none⟩ = some (.int .u64 0) → w.cell? ⟨b, 2, none⟩ = some (.int .i64 s) → Calls Tryd.prog 73 #[.int .u64 9223372036854775296, .pointer (some ⟨b, 0, none⟩)] w (ScaleAns q1 w)) := Lib.hid (fun w b h0 h1 h2 => by
    have h := uscale_any 9223372036854775296 b H s (by omega) hH hs60 w h0 h1 h2
    rwa [← hq1] at h)
  have Q2 : Hid (∀ w b, w.cell? ⟨b, 0, none⟩ = some (.int .u64 H) → w.cell? ⟨b, 1, none⟩ = some (.int .u64 0) → w.cell? ⟨b, 2, none⟩ = some (.int .i64 s) → Calls Tryd.prog 73 #[.int .u64 9223372036854776832, .pointer (some ⟨b, 0, none⟩)] w (ScaleAns q2 w)) := Lib.hid (fun w b h0 h1 h2 => by
    have h := uscale_any 9223372036854776832 b H s (by omega) hH hs60 w h0 h1 h2
    rwa [← hq2] at h)
  subst ho
  have ho0 : bits .and .i64 4503599627370496 1 = 0 := by decide
  have FIN := Lib.hid fin
  clear hsk hlp hs ht t0 t1 hq1 hq2 fin
  go_enter Tryd.func60, Tryd.ntmps60
  go_wp2_with fail
  refine (S.out _).mono ?_
  rintro e w' ⟨rfl, rfl⟩
  go_wp2_with fail
  refine (L.out _).mono ?_
  rintro e w' ⟨rfl, rfl⟩
  go_wp2_with fail
  refine R.out.mono ?_
  rintro e w1 ⟨rfl, c0, c1, c2, hb1⟩
  go_wp2_with fail
  refine (Q1.out _ _ c0 c1 c2).mono ?_
  rintro e w' ⟨U1, n1, hU1, hU1', rfl, rfl⟩
  obtain ⟨A, hA⟩ : ∃ A, A = (U1 + 3) / 4 := ⟨_, rfl⟩
  have N1 : Hid (∀ w, Calls Tryd.prog 74 #[.int .u64 U1, .int .i64 0] w fun e w' => e = .returned (.int .u64 (U1 : Int)) ∧ w = w') := Lib.hid (nudge_up U1 0 (by omega) (by omega))
  have N2 := Lib.hid (ceil_any U1 (by omega))
  rw [← hA] at N2
  have HA := Lib.hid hA
  clear hA
  go_wp2_with fail
  refine (N1.out _).mono ?_
  rintro e w' ⟨rfl, rfl⟩
  go_wp2_with fail
  refine (N2.out _).mono ?_
  rintro e w' ⟨rfl, rfl⟩
  go_wp2_with fail
  refine (Q2.out _ _ (by simpa using c0) (by simpa using c1) (by simpa using c2)).mono ?_
  rintro e w' ⟨U2, n2, hU2, hU2', rfl, rfl⟩
  obtain ⟨B, hB⟩ : ∃ B, B = U2 / 4 := ⟨_, rfl⟩
  have M1 : Hid (∀ w, Calls Tryd.prog 74 #[.int .u64 U2, .int .i64 0] w fun e w' => e = .returned (.int .u64 (U2 : Int)) ∧ w = w') := Lib.hid (nudge_up U2 0 (by omega) (by omega))
  have M2 := Lib.hid (floor_any U2 (by omega))
  rw [← hB] at M2
  obtain ⟨f1, f2, f3⟩ := FIN.out U1 U2 hU1 hU1' hU2 hU2'
  have g1 : B / 10 = d := by rw [hB]; exact f1
  have g2 : A ≤ B / 10 * 10 := by rw [g1, HA.out]; exact f2
  have hB2 : B < 4611686018427387904 := by omega
  have G1 := Lib.hid g1
  clear hB f1 f2 f3 FIN g1
  go_wp2_with fail
  refine (M1.out _).mono ?_
  rintro e w' ⟨rfl, rfl⟩
  go_wp2_with fail
  refine (M2.out _).mono ?_
  rintro e w' ⟨rfl, rfl⟩
  clear M1 M2 N1 N2 Q1 Q2 R L S ho0 hU1 hU1' hU2 hU2' hsm1 hsm2
  have hf : ∀ n : Nat, Below w.heap.size w (w1.drewN n) := fun n => ⟨hb1.os, hb1.tape, hb1.output, hb1.size, hb1.block⟩
  have HF := Lib.hid hf
  clear hf
  go_wp2_with fail
  go_ret2
  exact ⟨ret_two (by have := G1.out; omega) (by omega), HF.out _⟩
set_option maxRecDepth 100000 in
set_option maxHeartbeats 2000000 in
theorem shortFloat_gen (m : Nat) (e : Int) (P lp s H o d : Nat) (w : World) (he1 : -63 ≤ e) (he2 : e ≤ -32) (hP : P ≤ 17) (hP1 : 7 ≤ P)
    (hsk : (e + 11) * 78913 / 262144 = -(P : Int)) (hm1 : 2048 ≤ m) (hm2 : m + 2048 < 18446744073709551616) (hne : ((m : Int) == 9223372036854775808) = false) (hlp : lp = P * 108853 / 32768) (hs : -(e + lp + 3) = (s : Int)) (hs60 : s ≤ 60) (hH : H < 18446744073709551616)
    (ho1 : o ≤ 1) (ho : bits .and .i64 ((m : Int) / 2048) 1 = (o : Int))
    (ht : 6 < w.heap.size) (t0 : w.cell? ⟨6, (P + 348) * 2, none⟩ = some (.int .u64 H)) (t1 : w.cell? ⟨6, (P + 348) * 2 + 1, none⟩ = some (.int .u64 0))
    (q1 q2 : Nat) (hq1 : q1 = (m - 1024) * H / 18446744073709551616 / 2 ^ s) (hq2 : q2 = (m + 1024) * H / 18446744073709551616 / 2 ^ s)
    (hsm1 : q1 < 4611686018427387904) (hsm2 : q2 < 4611686018427387904)
    (fin : ∀ U1 U2, q1 ≤ U1 → U1 ≤ q1 + 1 → q2 ≤ U2 → U2 ≤ q2 + 1 → (U2 - o) / 4 / 10 = d ∧ (U1 + o + 3) / 4 ≤ d * 10 ∧ 2 ≤ U2) :
    Calls Tryd.prog 60 #[.int .u64 m, .int .i64 e] w fun e w' => e = .returned (.tuple #[.int .u64 (d : Int), .int .i64 (1 - (P : Int))]) ∧ Below w.heap.size w w' := by
  have hlp64 : lp ≤ 64 := by omega
  have S : Hid (∀ w, Calls Tryd.prog 55 #[.int .i64 (e + 11)] w fun e w' => e = .returned (.int .i64 (-(P : Int))) ∧ w = w') := Lib.hid (fun w => by
    have h := l10_any (e + 11) (by omega) (by omega) w
    rwa [hsk] at h)
  have L : Hid (∀ w, Calls Tryd.prog 72 #[.int .i64 (P : Int)] w fun e w' => e = .returned (.int .i64 (lp : Int)) ∧ w = w') := Lib.hid (fun w => by
    have h := l2_any P (by omega) w
    rwa [← hlp] at h)
  have R := Lib.hid (prescale_new P s e lp H hP w (by omega) (by omega) (by omega) (by omega) hs ht t0 t1)
  have Q1 : Hid (∀ w b, w.cell? ⟨b, 0, none⟩ = some (.int .u64 H) → w.cell? ⟨b, 1, none⟩ = some (.int .u64 0) → w.cell? ⟨b, 2, none⟩ = some (.int .i64 s) → Calls Tryd.prog 73 #[.int .u64 ((m : Int) - 1024), .pointer (some ⟨b, 0, none⟩)] w (ScaleAns q1 w)) := Lib.hid (fun w b h0 h1 h2 => by
    have h := uscale_any (m - 1024) b H s (by omega) hH hs60 w h0 h1 h2
    rwa [← hq1, show ((m - 1024 : Nat) : Int) = (m : Int) - 1024 from by omega] at h)
  have Q2 : Hid (∀ w b, w.cell? ⟨b, 0, none⟩ = some (.int .u64 H) → w.cell? ⟨b, 1, none⟩ = some (.int .u64 0) → w.cell? ⟨b, 2, none⟩ = some (.int .i64 s) → Calls Tryd.prog 73 #[.int .u64 ((m : Int) + 1024), .pointer (some ⟨b, 0, none⟩)] w (ScaleAns q2 w)) := Lib.hid (fun w b h0 h1 h2 => by
    have h := uscale_any (m + 1024) b H s (by omega) hH hs60 w h0 h1 h2
    rwa [← hq2, show ((m + 1024 : Nat) : Int) = (m : Int) + 1024 from by omega] at h)
  have FIN := Lib.hid fin
  clear hsk hlp hs ht t0 t1 hq1 hq2 fin
  go_enter Tryd.func60, Tryd.ntmps60
  go_wp2_with fail
  refine (S.out _).mono ?_
  rintro e w' ⟨rfl, rfl⟩
  go_wp2_with fail
  refine (L.out _).mono ?_
  rintro e w' ⟨rfl, rfl⟩
  go_wp2_with fail
  refine R.out.mono ?_
  rintro e w1 ⟨rfl, c0, c1, c2, hb1⟩
  go_wp2_with fail
  refine (Q1.out _ _ c0 c1 c2).mono ?_
  rintro e w' ⟨U1, n1, hU1, hU1', rfl, rfl⟩
  obtain ⟨A, hA⟩ : ∃ A, A = (U1 + o + 3) / 4 := ⟨_, rfl⟩
  obtain ⟨X1, hX1⟩ : ∃ X1, X1 = U1 + o := ⟨_, rfl⟩
  have N1 : Hid (∀ w, Calls Tryd.prog 74 #[.int .u64 U1, .int .i64 o] w fun e w' => e = .returned (.int .u64 (X1 : Int)) ∧ w = w') := Lib.hid (by rw [hX1]; exact nudge_up U1 o (by omega) (by omega))
  have N2 := Lib.hid (ceil_any X1 (by omega))
  rw [show (X1 + 3) / 4 = A from by rw [hA, hX1]] at N2
  clear hX1
  have HA := Lib.hid hA
  clear hA
  go_wp2_with fail
  refine (N1.out _).mono ?_
  rintro e w' ⟨rfl, rfl⟩
  go_wp2_with fail
  refine (N2.out _).mono ?_
  rintro e w' ⟨rfl, rfl⟩
  go_wp2_with fail
  refine (Q2.out _ _ (by simpa using c0) (by simpa using c1) (by simpa using c2)).mono ?_
  rintro e w' ⟨U2, n2, hU2, hU2', rfl, rfl⟩
  obtain ⟨B, hB⟩ : ∃ B, B = (U2 - o) / 4 := ⟨_, rfl⟩
  obtain ⟨f1, f2, f3⟩ := FIN.out U1 U2 hU1 hU1' hU2 hU2'
  obtain ⟨X2, hX2⟩ : ∃ X2, X2 = U2 - o := ⟨_, rfl⟩
  have M1 : Hid (∀ w, Calls Tryd.prog 74 #[.int .u64 U2, .int .i64 (-(o : Int))] w fun e w' => e = .returned (.int .u64 (X2 : Int)) ∧ w = w') := Lib.hid (by rw [hX2]; exact nudge_down U2 o (by omega) (by omega) f3)
  have M2 := Lib.hid (floor_any X2 (by omega))
  rw [show X2 / 4 = B from by rw [hB, hX2]] at M2
  clear hX2
  have g1 : B / 10 = d := by rw [hB]; exact f1
  have g2 : A ≤ B / 10 * 10 := by rw [g1, HA.out]; exact f2
  have hB2 : B < 4611686018427387904 := by omega
  have G1 := Lib.hid g1
  clear hB f1 f2 f3 FIN g1
  go_wp2_with fail
  refine (M1.out _).mono ?_
  rintro e w' ⟨rfl, rfl⟩
  go_wp2_with fail
  refine (M2.out _).mono ?_
  rintro e w' ⟨rfl, rfl⟩
  clear M1 M2 N1 N2 Q1 Q2 R L S hU1 hU1' hU2 hU2' hsm1 hsm2
  have hf : ∀ n : Nat, Below w.heap.size w (w1.drewN n) := fun n => ⟨hb1.os, hb1.tape, hb1.output, hb1.size, hb1.block⟩
  have HF := Lib.hid hf
  clear hf
  go_wp2_with fail
  go_ret2
  exact ⟨ret_two (by have := G1.out; omega) (by omega), HF.out _⟩
end Go.Proofs.YtmfbgoikekmdkaaDoor
