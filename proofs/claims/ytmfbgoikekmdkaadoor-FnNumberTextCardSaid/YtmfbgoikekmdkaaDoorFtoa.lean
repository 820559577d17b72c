/-
  ftoa64 at 'e', the shortest text of a whole number n from 1 to 2^31.
-/
import Derived.Test.YtmfbgoikekmdkaaDoorNum
import Derived.Deep.QuietTactic
import Derived.BigQuiet
import Derived.Deep.RegionHeld3
import Derived.StillTailTactics
import Derived.Laws.Externs
import Derived.Laws.BitsAllLaws
import Derived.Laws.Bits128
namespace Go.Proofs.YtmfbgoikekmdkaaDoor
open Go Go.Proofs Go.RowKit Go.Sort Go.Lib Ieee

@[go_sem] theorem run_sbits (x : Nat) (w : World) : (callFunc 48 #[.float .f64 x]).run Tryd.prog w = .ok (.value (.int .u64 x)) w := by
  rw [run_callFunc_extern Tryd.func48 (by kernel_rfl) (by kernel_rfl) (by kernel_rfl) (e := Extern.MathFloatBits.float64bits) (by kernel_rfl)]
  rfl

theorem exp_bits {E : Nat} (h : E < 1024) : bits .and .i64 ((E : Int) + 1023) 2047 = (E : Int) + 1023 := by
  have h1 : (BitVec.ofInt 64 2047).toNat = 2 ^ 11 - 1 := by decide
  have key : (BitVec.ofInt 64 ((E : Int) + 1023) &&& BitVec.ofInt 64 2047).toNat = (((E : Int) + 1023) % ((2 ^ 64 : Nat) : Int)).toNat % 2 ^ 11 := by
    rw [BitVec.toNat_and, BitVec.toNat_ofInt, h1, Nat.and_two_pow_sub_one_eq_mod]
  show IntKind.i64.wrap ((BitVec.ofInt 64 ((E : Int) + 1023) &&& BitVec.ofInt 64 2047).toNat : Nat) = _
  rw [key, IntKind.wrap_i64]
  omega

theorem low_bits {E M r : Nat} (hE : E ≤ 31) (hM1 : 4503599627370496 ≤ M) (hM2 : M < 9007199254740992) (hr : r + 4503599627370496 = (E + 1023) * 4503599627370496 + M) : bits .and .u64 (r : Int) 4503599627370495 = (M : Int) - 4503599627370496 := by
  have h := u64_and_nat r 4503599627370495 (by omega) (by omega)
  rw [show ((4503599627370495 : Nat) : Int) = 4503599627370495 from rfl] at h
  rw [h]
  have e : r &&& 4503599627370495 = r % 2 ^ 52 := Nat.and_two_pow_sub_one_eq_mod _ 52
  rw [e]
  have : (2 : Nat) ^ 52 = 4503599627370496 := rfl
  omega

theorem or_bits {M : Nat} (hM1 : 4503599627370496 ≤ M) (hM2 : M < 9007199254740992) : bits .or .u64 ((M : Int) - 4503599627370496) 4503599627370496 = M := by
  have h := u64_or_nat (M - 4503599627370496) 4503599627370496 (by omega) (by omega)
  rw [show ((4503599627370496 : Nat) : Int) = 4503599627370496 from rfl, show ((M - 4503599627370496 : Nat) : Int) = (M : Int) - 4503599627370496 from by omega] at h
  rw [h]
  have e := Nat.two_pow_add_eq_or_of_lt (i := 52) (b := M - 4503599627370496) (by omega) 1
  rw [Nat.mul_one] at e
  have e2 : (2 : Nat) ^ 52 = 4503599627370496 := rfl
  rw [e2] at e
  rw [Nat.or_comm, ← e]
  omega

theorem len_bits {M : Nat} (hM1 : 4503599627370496 ≤ M) (hM2 : M < 9007199254740992) : Lib.bitLen M = 53 := by
  have h := Lib.bitLen_shift 52 M (by omega) (by omega)
  have e : M / 2 ^ 52 = 1 := by
    have e2 : (2 : Nat) ^ 52 = 4503599627370496 := rfl
    omega
  rw [h, e]
  decide

def zBlock : Obj := .cells (Array.replicate 32 (.int .u8 0)) 77

theorem below_drawn_alloc (w : World) (k : Nat) (o : Obj) : Below w.heap.size w ((w.drewN k).alloc o) :=
  Below.alloc (w := w.drewN k) (a := w) ⟨rfl, rfl, rfl, Nat.le_refl _, fun _ _ => rfl⟩ (Nat.le_refl _) o

theorem tabIs_later {w w' : World} {B : Nat} {name : String} {k : IntKind} {zs : List Int} (h : TabIs Tryd.prog w name k zs) (hb : Below B w w') (hB : w.heap.size ≤ B) : TabIs Tryd.prog w' name k zs := by
  unfold TabIs World.var? at *
  cases hg : Tryd.prog.globalNamed name with
  | none => simp [hg] at h
  | some g =>
    simp only [hg, Option.bind_some] at h ⊢
    have hlt : g < w.heap.size := by
      rcases Nat.lt_or_ge g w.heap.size with h' | h'
      · exact h'
      · rw [Array.getElem?_eq_none h'] at h; simp at h
    rw [hb.block g (by omega)]
    exact h

/-- What is known when the shortest digits are known. -/
theorem after_short {n P d D nq : Nat} {w W0 w1 : World} (hW0 : W0 = (w.drewN nq).alloc zBlock) (hb : Below W0.heap.size W0 w1) (hd : d = n * 10 ^ (P - 1)) (hP1 : 7 ≤ P) (hP2 : P ≤ 17) (hP3 : n * 10 ^ P < 180000000000000000) (hn : 1 ≤ n) (hD : D = nDigits n) (hD2 : D ≤ 10)
    (htab : TabIs Tryd.prog w "internal/strconv.uint64pow10" .u64 Lib.pow10Tab) :
    1 ≤ d ∧ d < 180000000000000000 ∧ nDigits d = D + (P - 1) ∧ D + (P - 1) ≤ 20 ∧ TabIs Tryd.prog w1 "internal/strconv.uint64pow10" .u64 Lib.pow10Tab ∧ Holds encB w1 w.heap.size 0 (Array.replicate (D + (P - 1)) 0) ∧ Below w.heap.size w w1 ∧ w.heap.size < w1.heap.size := by
  have hW : Below w.heap.size w W0 := by rw [hW0]; exact below_drawn_alloc w nq zBlock
  have hsz : W0.heap.size = w.heap.size + 1 := by
    rw [hW0]
    show (w.heap.push _).size = _
    simp
  have hb' : Below w.heap.size w w1 := hW.trans (hb.mono (by omega))
  have hp : 10 ^ (P - 1) ≤ 10 ^ P := Nat.pow_le_pow_right (by decide) (by omega)
  have hdP : d ≤ n * 10 ^ P := by rw [hd]; exact Nat.mul_le_mul_left _ hp
  have h1d : 1 ≤ d := by rw [hd]; exact Nat.mul_pos hn (Nat.pow_pos (by decide))
  have hnd : nDigits d = D + (P - 1) := by rw [hd, hD]; exact nDigits_mul_pow n hn _
  have h20 : D + (P - 1) ≤ 20 := by
    rw [← hnd]
    exact nDigits_le h1d (by omega)
  refine ⟨h1d, by omega, hnd, h20, tabIs_later htab hb' (Nat.le_refl _), ?_, hb', by have := hb.size; omega⟩
  intro j hj
  have hj' : j < D + (P - 1) := by simpa using hj
  have hblk : W0.heap[w.heap.size]? = some zBlock := by rw [hW0]; exact heap_alloc_new (w.drewN nq) _
  have hblk1 : w1.heap[w.heap.size]? = some (.cells (Array.replicate 32 (.int .u8 0)) 77 (0, 0)) := by
    rw [hb.block w.heap.size (by omega), hblk]
    rfl
  constructor
  · have hz : (Array.replicate (D + (P - 1)) (0 : UInt8))[j]! = 0 := by
      rw [getElem!_pos _ j hj]
      simp
    rw [hz]
    rw [cell_of_row _ _ _ _ _ _ hblk1, Array.getElem?_replicate, if_pos (by omega)]
    rfl
  · exact frozen_of_row _ _ _ _ _ hblk1

theorem own_later {w w' : World} {g n : Nat} {xs : List Value} (h : w.ownsRow 0 5 1 (rowV g n) n xs) (hg : w'.heap[g]? = w.heap[g]?) : w'.ownsRow 0 5 1 (rowV g n) n xs := by
  obtain ⟨h1, h2⟩ := h
  refine ⟨h1, ?_⟩
  rcases h2 with ⟨h3, _⟩ | ⟨g', cap, cur, h3, h4, h5, h6⟩
  · cases h3
  · have e : g = g' := by
      have := congrArg Value.ownBlock h3
      exact Option.some.inj this
    subst e
    exact Or.inr ⟨g, cap, cur, h3, h4, hg.trans h5, h6⟩

theorem heap_putRow_other (w : World) (blk : Nat) (dk : Array UInt8) (k : Nat) (h : k ≠ blk) : (putRow encB w blk 0 dk).heap[k]? = w.heap[k]? := by
  simp only [putRow, mapBlock, Array.getElem?_modify]
  rw [if_neg (Ne.symm h)]

/-- What is known when the digits are laid. -/
def Laid (n g blk k : Nat) (w w' : World) : Prop :=
  Kept n k ∧ w'.ownsRow 0 5 1 (rowV g 0) 0 [] ∧ (∀ t, t < k → w'.cell? ⟨blk, t, none⟩ = some (.int .u8 ((dg n (nDigits n - 1 - t)).toNat : Int))) ∧ w.grownBy w' (some g)

theorem after_set {n g P d D k m : Nat} {w w1 w2 : World} {dk : Array UInt8} (hd : d = n * 10 ^ (P - 1)) (hD : D = nDigits n) (hg : g < w.heap.size) (hown : w.ownsRow 0 5 1 (rowV g 0) 0 [])
    (hb : Below w.heap.size w w1) (hH : Holds encB w1 w.heap.size 0 (Array.replicate (D + (P - 1)) 0))
    (e2 : w2 = (putRow encB w1.drew w.heap.size 0 dk).drewN m) (hs : dk.size = D + (P - 1)) (hdg : ∀ j, j < D + (P - 1) → dk[j]! = dg d (D + (P - 1) - 1 - j)) (h1 : 1 ≤ k) (h2 : k ≤ D + (P - 1)) (hz : ∀ j, k ≤ j → j < D + (P - 1) → dk[j]! = 48) (hnz : dk[k - 1]! ≠ 48) :
    Laid n g w.heap.size k w w2 := by
  have hpos := nDigits_pos n
  have hi : ∀ j, j < D → dk[j]! = dg n (D - 1 - j) := fun j hj => by
    rw [hdg j (by omega), hd, show D + (P - 1) - 1 - j = (D - 1 - j) + (P - 1) by omega, dg_mul_hi]
  have hk : k ≤ D := by
    rcases Nat.lt_or_ge D k with h | h
    · exfalso
      apply hnz
      rw [hdg (k - 1) (by omega), hd]
      exact dg_mul_lo n _ _ (by omega)
    · exact h
  subst hD
  refine ⟨⟨h1, hk, fun j hj hj' => by rw [← hi j hj', hz j hj (by omega)]⟩, ?_, ?_, ?_⟩
  · refine own_later hown ?_
    rw [e2]
    show (putRow encB w1.drew w.heap.size 0 dk).heap[g]? = _
    rw [heap_putRow_other _ _ _ _ (by omega)]
    exact hb.block g hg
  · intro t ht
    have := (holds_putRow encB w1.drew w.heap.size 0 _ dk hH (by rw [hs]; simp) t (by omega)).1
    rw [Nat.zero_add, hi t (by omega)] at this
    rw [e2]
    exact this
  · rw [e2]
    refine ⟨hb.os, hb.tape, hb.output, ?_, fun i hi' _ => ?_⟩
    · show _ ≤ (putRow encB w1.drew w.heap.size 0 dk).heap.size
      rw [size_putRow]
      exact hb.size
    · show (putRow encB w1.drew w.heap.size 0 dk).heap[i]? = _
      rw [heap_putRow_other _ _ _ _ (by omega)]
      exact hb.block i hi'

theorem len_one (n : Nat) : (eText n 1).length = 5 := rfl

theorem len_more (n q : Nat) : (eText n (q + 2)).length = q + 7 := by
  unfold eText
  rw [if_neg (by omega)]
  simp

theorem last_byte {D : Nat} (h1 : 1 ≤ D) (h2 : D ≤ 10) : encB (UInt8.ofNat (D - 1 + 48)) = encI ((D : Int) - 1 + 48) := by
  have : (UInt8.ofNat (D - 1 + 48)).toNat = D - 1 + 48 := by
    rw [UInt8.toNat_ofNat']
    omega
  show Value.int .u8 _ = Value.int .u8 _
  rw [this]
  congr 1
  omega

theorem text_one (n : Nat) (h : nDigits n ≤ 10) : (eText n 1).map encB = [((dg n (nDigits n - 1 - 0)).toNat : Int), 101, 43, 48, (nDigits n : Int) - 1 + 48].map encI := by
  have hp := nDigits_pos n
  have hl := last_byte hp h
  show [encB (dg n (nDigits n - 1)), encB 101, encB 43, encB 48, encB (UInt8.ofNat (nDigits n - 1 + 48))] = _
  rw [hl]
  rfl

theorem text_more (n q : Nat) (h : nDigits n ≤ 10) : (eText n (q + 2)).map encB = encI ((fun t => ((dg n (nDigits n - 1 - t)).toNat : Int)) 0) :: encI 46 :: ((List.range (q + 1)).map (fun t => encI ((fun t => ((dg n (nDigits n - 1 - t)).toNat : Int)) (t + 1)))) ++ [encI 101, encI 43, encI 48, encI ((nDigits n : Int) - 1 + 48)] := by
  have hp := nDigits_pos n
  have hl := last_byte hp h
  unfold eText
  rw [if_neg (by omega)]
  simp only [List.map_cons, List.map_append, List.map_nil, List.map_map, hl, List.cons_append]
  rfl

set_option maxRecDepth 100000 in
set_option maxHeartbeats 4000000 in
theorem ftoa_any (n E M r g D : Nat) (w : World) (hE : E ≤ 31) (hM1 : 4503599627370496 ≤ M) (hM2 : M < 9007199254740992) (hr : r + 4503599627370496 = (E + 1023) * 4503599627370496 + M) (hMn : M * 2048 = n * 2 ^ (63 - E)) (hn1 : 1 ≤ n) (hD : D = nDigits n) (hD2 : D ≤ 10)
    (hown : w.ownsRow 0 5 1 (rowV g 0) 0 []) (hg : g < w.heap.size) (hT : TabP w) (htab : Lib.TabIs Tryd.prog w "internal/strconv.uint64pow10" .u64 Lib.pow10Tab)
    (hS : ∀ w, TabP w → Calls Tryd.prog 60 #[.int .u64 ((M : Int) * 2048), .int .i64 ((E : Int) - 11 - 52)] w (ShortAns n w)) :
    Calls Tryd.prog 36 #[rowV g 0, .float .f64 r, .int .u8 101, .int .i64 (-1)] w fun e w' =>
      ∃ k, Kept n k ∧ e = .returned (rowV g (eText n k).length) ∧ w'.ownsRow 0 5 1 (rowV g (eText n k).length) (eText n k).length ((eText n k).map encB) ∧ w.grownBy w' (some g) := by
  have h63 : (r : Int) / 9223372036854775808 = 0 := by omega
  have h52 : (r : Int) / 4503599627370496 = (E : Int) + 1023 := by omega
  have hand : bits .and .i64 ((E : Int) + 1023) 2047 = (E : Int) + 1023 := exp_bits (by omega)
  have hlow : bits .and .u64 (r : Int) 4503599627370495 = (M : Int) - 4503599627370496 := low_bits hE hM1 hM2 hr
  have hor : bits .or .u64 ((M : Int) - 4503599627370496) 4503599627370496 = M := or_bits hM1 hM2
  have hE0 : (E : Int) + 1023 + -1023 = (E : Int) := by omega
  have hlen : Lib.bitLen M = 53 := len_bits hM1 hM2
  have hne : ((E : Int) + 1023 == 2047) = false := by simp; omega
  have hne0 : ((E : Int) + 1023 == 0) = false := by simp; omega
  have HR := Lib.hid hr
  clear hr
  have HM := Lib.hid hMn
  clear hMn
  go_enter Tryd.func36, Tryd.ntmps36
  go_wp2_with fail
  go_quiet (fail)
  go_wp2_with (go_at_call 52; refine (Tryd.bits_Len64 (M : Int) _ (by omega) (by omega)).mono ?_; rintro e w' ⟨rfl, rfl⟩)
  obtain ⟨W0, hW0⟩ : ∃ W0, W0 = (w.drewN nq).alloc zBlock := ⟨_, rfl⟩
  have e0 : (w.drewN nq).alloc (Obj.cells #[Value.int IntKind.u8 0, Value.int IntKind.u8 0, Value.int IntKind.u8 0, Value.int IntKind.u8 0, Value.int IntKind.u8 0, Value.int IntKind.u8 0, Value.int IntKind.u8 0, Value.int IntKind.u8 0, Value.int IntKind.u8 0, Value.int IntKind.u8 0, Value.int IntKind.u8 0, Value.int IntKind.u8 0, Value.int IntKind.u8 0, Value.int IntKind.u8 0, Value.int IntKind.u8 0, Value.int IntKind.u8 0, Value.int IntKind.u8 0, Value.int IntKind.u8 0, Value.int IntKind.u8 0, Value.int IntKind.u8 0, Value.int IntKind.u8 0, Value.int IntKind.u8 0, Value.int IntKind.u8 0, Value.int IntKind.u8 0, Value.int IntKind.u8 0, Value.int IntKind.u8 0, Value.int IntKind.u8 0, Value.int IntKind.u8 0, Value.int IntKind.u8 0, Value.int IntKind.u8 0, Value.int IntKind.u8 0, Value.int IntKind.u8 0] 77) = W0 := by rw [hW0]; rfl
  rw [e0]
  have HW0 := Lib.hid hW0
  clear hW0 e0
  have hT0 : TabP W0 := by
    rw [HW0.out]
    exact hT.later ((Below.refl w.heap.size w).trans (below_drawn_alloc w nq zBlock)) (Nat.le_refl _)
  refine (hS W0 hT0).mono ?_
  rintro e w1 ⟨P, hP1, hP2, hP3, rfl, hb1⟩
  obtain ⟨d, hd⟩ : ∃ d, d = n * 10 ^ (P - 1) := ⟨_, rfl⟩
  rw [← hd]
  have AF := Lib.hid (after_short HW0.out hb1 hd hP1 hP2 hP3 hn1 hD hD2 htab)
  have HDD := Lib.hid hd
  clear hb1 hP3 hd
  have T1 := AF.out.1
  have T2 := AF.out.2.1
  go_wp2_with fail
  obtain ⟨nd, hnd⟩ : ∃ nd, nd = D + (P - 1) := ⟨_, rfl⟩
  have H44 : Hid (Calls Tryd.prog 44 #[.int .u64 d] w1.drew fun e w' => e = .returned (.int .i64 (nd : Int)) ∧ w' = w1.drew) := Lib.hid (by
    have := Tryd.internal_strconv_numDigits d T1 (by omega) w1.drew AF.out.2.2.2.2.1
    rwa [AF.out.2.2.1, ← hnd] at this)
  have H54 : Hid (Calls Tryd.prog 54 #[.slice (some ⟨w.heap.size, 0, none⟩) 32 32, .int .u64 d, .int .i64 (1 - (P : Int)), .int .i64 (nd : Int)] w1.drew fun e w' => ∃ k : Nat, e = .returned (.tuple #[.int .i64 D, .int .i64 k]) ∧ Hid (Laid n g w.heap.size k w w')) := Lib.hid (by
    refine (setDigits_any w.heap.size d (1 - (P : Int)) w1.drew T1 (by omega) nd (by rw [hnd]; exact AF.out.2.2.1.symm) (by rw [hnd]; exact AF.out.2.2.2.1) (by omega) (by omega) (by rw [hnd]; exact AF.out.2.2.2.2.2.1)).mono ?_
    rintro e w' ⟨k, m, dk, rfl, e2, s1, s2, s3, s4, s5, s6⟩
    rw [hnd] at s1 s2 s4 s5
    exact ⟨k, ret_pair _ _ _ _ (by omega) rfl, Lib.hid (after_set HDD.out hD hg hown AF.out.2.2.2.2.2.2.1 AF.out.2.2.2.2.2.1 e2 s1 s2 s3 s4 s5 s6)⟩)
  have HN := Lib.hid hnd
  have HD2 := Lib.hid hD
  clear hD
  clear hnd T1 T2 hT htab hS hT0 h63 h52 hand hlow hor hE0 hlen hne hne0 hM1 hM2
  go_region_with (first | (go_at_call 44; refine H44.out.mono ?_; rintro e w' ⟨rfl, rfl⟩) | (go_at_call 54; refine H54.out.mono ?_; rintro e w2 ⟨k, rfl, HL⟩))
  have HL2 := HL.out
  have hk1 := HL2.1.pos
  have hkD : k ≤ D := by rw [HD2.out]; exact HL2.1.le
  clear HL2
  by_cases hk : k = 1
  · subst hk
    have E1 := Lib.hid (efg_one g w.heap.size D _ w2 (by omega) hD2 HL.out.2.1 (HL.out.2.2.1 0 (by omega)))
    have hmax : max ((1 : Int) - 1) 0 = 0 := by decide
    go_wp2_with (go_at_call 51; refine E1.out.mono ?_; rintro e w3 ⟨rfl, H1⟩; have HH := Lib.hid H1; clear H1)
    go_ret
    refine ⟨1, HL.out.1, ?_, ?_, grownBy_trans HL.out.2.2.2 HH.out.2⟩
    · exact congrArg Ending.returned (congrArg (rowV g) (len_one n).symm)
    · rw [len_one, text_one n (by rw [← HD2.out]; exact hD2), ← HD2.out]
      have := HH.out.1
      rw [← HD2.out] at this
      exact this
  · obtain ⟨q, rfl⟩ : ∃ q, k = q + 2 := ⟨k - 2, by omega⟩
    have E1 := Lib.hid (efg_more g w.heap.size D q (fun t => ((dg n (nDigits n - 1 - t)).toNat : Int)) w2 (by omega) hD2 (by omega) HL.out.2.1 HL.out.2.2.1 (by omega))
    have hmax : max ((q : Int) + 2 - 1) 0 = (q : Int) + 1 := by omega
    go_wp2_with (go_at_call 51; refine E1.out.mono ?_; rintro e w3 ⟨rfl, H1⟩; have HH := Lib.hid H1; clear H1)
    go_ret
    refine ⟨q + 2, HL.out.1, ?_, ?_, grownBy_trans HL.out.2.2.2 HH.out.2⟩
    · exact congrArg Ending.returned (congrArg (rowV g) (len_more n q).symm)
    · rw [len_more, text_more n q (by rw [← HD2.out]; exact hD2), ← HD2.out]
      have := HH.out.1
      rw [← HD2.out] at this
      exact this
end Go.Proofs.YtmfbgoikekmdkaaDoor
