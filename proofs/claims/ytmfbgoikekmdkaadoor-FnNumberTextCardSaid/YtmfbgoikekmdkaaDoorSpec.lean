/-
  The reference's NumberText: at a whole number from 1 to 2^31.
-/
import Derived.Test.YtmfbgoikekmdkaaDoorMath
import Derived.Test.YtmfbgoikekmdkaaDoorSpecP
import Derived.Lib.AtoiErrMem
namespace Go.Proofs.YtmfbgoikekmdkaaDoor
open Go Go.Proofs Go.RowKit Go.Lib

theorem list_size (a : ByteArray) : a.data.toList.length = a.size := by simp

theorem at_e {s : ByteArray} {pre rest : List UInt8} {t : Nat} {b : UInt8} (hs : s.data.toList = pre ++ 101 :: rest) (ht : t = pre.length) (hg : s.data.toList[t]? = some b) : (b.toNat : Int) = 101 := by
  rw [hs, ht, List.getElem?_append_right (Nat.le_refl _), Nat.sub_self] at hg
  simp at hg
  rw [← hg]
  rfl

theorem tail_e {s : ByteArray} {pre : List UInt8} {t : Nat} {x y z : UInt8} (hs : s.data.toList = pre ++ [101, x, y, z]) (ht : t = pre.length) : (s.extract (t + 1) (t + 4)).data.toList = [x, y, z] := by
  have e : (s.extract (t + 1) (t + 4)).data.toList = (s.data.toList.drop (t + 1)).take (t + 4 - (t + 1)) := by
    simp [ByteArray.data_extract, List.extract_eq_take_drop]
  rw [e, hs, show t + 4 - (t + 1) = 3 by omega, ht, List.drop_append, List.drop_eq_nil_of_le (by omega)]
  simp

theorem at_pre {s : ByteArray} {pre rest : List UInt8} {t : Nat} {b : UInt8} (hs : s.data.toList = pre ++ rest) (ht : t < pre.length) (hg : s.data.toList[t]? = some b) (hx : ∀ b ∈ pre, b ≠ 101) : pre[t]? = some b ∧ ¬ (b.toNat : Int) = 101 := by
  rw [hs, List.getElem?_append_left ht] at hg
  refine ⟨hg, fun e => hx b (List.mem_of_getElem? hg) ?_⟩
  apply UInt8.toNat_inj.1
  have : ((101 : UInt8).toNat : Int) = 101 := rfl
  omega

theorem bytesWorld_below' {w w1 : World} {u : ByteArray} (h : Below w.heap.size w w1) : Below w.heap.size w1 (Lib.bytesWorld w1 5 u) :=
  (Lib.bytesWorld_below w1 5 u).mono h.size

theorem byte_46 {b : UInt8} (h : (b.toNat : Int) = 46) : b = 46 := by
  apply UInt8.toNat_inj.1
  have : ((46 : UInt8).toNat : Int) = 46 := rfl
  omega

theorem one_byte (s : ByteArray) (t : Nat) (h : t < s.size) : (s.extract t (t + 1)).data.toList = [s[t]] := by
  have e : (s.extract t (t + 1)).data.toList = (s.data.toList.drop t).take (t + 1 - t) := by
    simp [ByteArray.data_extract, List.extract_eq_take_drop]
  rw [e, show t + 1 - t = 1 by omega, List.drop_eq_getElem_cons (by simpa using h)]
  simp
  rfl

theorem app_list (a b : ByteArray) : (a ++ b).data.toList = a.data.toList ++ b.data.toList := by simp

theorem kept_skip {pre : List UInt8} {t : Nat} {b : UInt8} (h : pre[t]? = some b) (hb : b = 46) : kept (pre.take (t + 1)) = kept (pre.take t) := by
  rw [List.take_add_one, h]
  unfold kept
  rw [List.filter_append, hb]
  simp

theorem kept_take {pre : List UInt8} {t : Nat} {b : UInt8} (h : pre[t]? = some b) (hb : b ≠ 46) : kept (pre.take (t + 1)) = kept (pre.take t) ++ [b] := by
  rw [List.take_add_one, h]
  unfold kept
  rw [List.filter_append]
  simp [hb]

set_option maxRecDepth 100000 in
set_option maxHeartbeats 4000000 in
theorem spec_loop (n r D : Nat) (w : World) (hD : D = nDigits n) (hD1 : 1 ≤ D) (hD2 : D ≤ 10)
    (hz : (FloatKind.f64.format.order r 0 == some Ordering.eq) = false) (hlt : (FloatKind.f64.format.order r 0 == some Ordering.lt) = false)
    (h18 : ∀ w, Calls Tryd.prog 18 #[.float .f64 r] w fun e w' => e = .returned (.bool false) ∧ w = w')
    (h19 : ∀ w, Calls Tryd.prog 19 #[.float .f64 r, .int .i64 1] w fun e w' => e = .returned (.bool false) ∧ w = w')
    (h19n : ∀ w, Calls Tryd.prog 19 #[.float .f64 r, .int .i64 (-1)] w fun e w' => e = .returned (.bool false) ∧ w = w')
    (hF : Calls Tryd.prog 20 #[.float .f64 r, .int .u8 101, .int .i64 (-1), .int .i64 64] w fun e w' => ∃ k, Kept n k ∧ e = .returned (.string ⟨(eText n k).toArray⟩) ∧ Below w.heap.size w w') :
    Calls Tryd.prog 10 #[.float .f64 r] w fun e w' => e = .returned (.tuple #[.string ⟨(decDigits n).toArray⟩, .bool true]) ∧ Below w.heap.size w w' := by
  have HF := Lib.hid hF
  have H18 := Lib.hid h18
  have H19 := Lib.hid h19
  have H19N := Lib.hid h19n
  have HD := Lib.hid hD
  clear hF h18 h19 h19n hD
  go_enter Tryd.func10, Tryd.ntmps10
  go_wp2_with fail
  refine (H18.out _).mono ?_
  rintro e w' ⟨rfl, rfl⟩
  go_wp2_with fail
  refine (H19.out _).mono ?_
  rintro e w' ⟨rfl, rfl⟩
  go_wp2_with fail
  refine (H19N.out _).mono ?_
  rintro e w' ⟨rfl, rfl⟩
  go_wp2_with fail
  refine HF.out.mono ?_
  rintro e w1 ⟨k, hk, rfl, hb⟩
  have hkp := hk.pos
  have hkD : k ≤ D := by rw [HD.out]; exact hk.le
  obtain ⟨pre, hpre, hlen, hkept, h101⟩ := eText_parts n k hkp
  obtain ⟨s, hs⟩ : ∃ s, s = (⟨(eText n k).toArray⟩ : ByteArray) := ⟨_, rfl⟩
  rw [← hs]
  have hsl : s.data.toList = pre ++ [101, 43, 48, UInt8.ofNat (D - 1 + 48)] := by
    rw [hs, HD.out, ← hpre]
  have hsz : s.size = pre.length + 4 := by
    have : s.size = s.data.toList.length := by simp
    rw [this, hsl, List.length_append]
    rfl
  have hP : pre.length ≤ 11 := by
    rw [hlen]
    unfold eAt
    split <;> omega
  obtain ⟨P, hPe⟩ : ∃ P, P = pre.length := ⟨_, rfl⟩
  rw [← hPe] at hsz hP
  have HPE := Lib.hid hPe
  have HSL := Lib.hid hsl
  have HKE := Lib.hid hkept
  have HK := Lib.hid hk
  have HB := Lib.hid hb
  have HX := Lib.hid h101
  clear hs hsl hpre hkept hk hb h101 hlen hPe HF H18 H19 H19N hz hlt
  go_wp2
  go_loopw [7, 8, 42] (fun d z i wr => ∃ (t : Nat) (a : ByteArray), d = .string a ∧ z = .int .i64 0 ∧ i = .int .i64 t ∧ t ≤ P ∧ a.size ≤ t ∧ w1 = wr ∧ Hid (a.data.toList = kept (pre.take t))) (fun _ _ i _ => s.size - (RowKit.intOf i).toNat)
  case atStart => exact ⟨0, ByteArray.empty, rfl, rfl, rfl, Nat.zero_le _, Nat.le_refl _, rfl, Lib.hid rfl⟩
  case round =>
    obtain ⟨t, a, rfl, rfl, rfl, htP, hat, rfl, hacc⟩ := hrel
    have hts : t < s.size := by omega
    have hget : Hid (s.data.toList[t]? = some s[t]) := Lib.hid (by simp [hts]; rfl)
    by_cases hlast : t = P
    · subst hlast
      have hb1 : (s[t].toNat : Int) = 101 := at_e HSL.out HPE.out hget.out
      have hat2 : a.data.toList = heads n k := by
        rw [hacc.out, HPE.out, List.take_length, HKE.out]
      have hak : a.size = k := by
        have : a.size = a.data.toList.length := by simp
        rw [this, hat2, heads_length]
      have HA := Lib.hid hat2
      have HE := Lib.hid (Tryd.strconv_Atoi (s.extract (t + 1) (t + 4)) ((D : Int) - 1) (by rw [ByteArray.size_extract]; omega) (by rw [tail_e HSL.out HPE.out]; exact atoi_exp hD1 hD2) w1)
      clear hat hat2 hacc hget
      go_wp2_with fail
      refine HE.out.mono ?_
      rintro e w2 ⟨rfl, hw2⟩
      have HW2 := Lib.hid hw2
      clear hw2 HE hb1
      go_wp2
      go_loopw [7, 84] (fun d i wr => ∃ (j : Nat) (b : ByteArray), d = .string b ∧ i = .int .i64 j ∧ k + j ≤ D ∧ b.size = k + j ∧ w2 = wr ∧ Hid (b.data.toList = heads n k ++ List.replicate j 48)) (fun _ i _ => D - (RowKit.intOf i).toNat)
      case atStart => exact ⟨0, a, rfl, rfl, by omega, by omega, rfl, Lib.hid (by rw [HA.out]; simp)⟩
      case round =>
        obtain ⟨j, b, rfl, rfl, hjD, hbs, rfl, hbl⟩ := hrel
        by_cases hj : k + j < D
        · go_wp2
          refine ⟨⟨j + 1, _, rfl, by go_num, by omega, ?_, trivial, Lib.hid ?_⟩, ?_⟩
          · rw [ByteArray.size_append, hbs]
            rfl
          · rw [app_list, hbl.out, List.append_assoc, List.replicate_succ']
          · simp [RowKit.intOf]
            omega
        · have hjj : k + j = D := by omega
          have HJ := Lib.hid hjj
          have hJ2 : ¬ (j : Int) < (D : Int) - k := by omega
          go_wp2
          go_ret2
          refine ⟨?_, ?_⟩
          · have : b = ⟨(decDigits n).toArray⟩ := by
              have h1 : b.data.toList = decDigits n := by
                rw [hbl.out, ← heads_all HK.out, ← HD.out, ← HJ.out, Nat.add_sub_cancel_left]
              have h2 : b.data = (decDigits n).toArray := by rw [← h1]
              rw [← h2]
            show Ending.returned (.tuple #[.string b, .bool true]) = _
            rw [this]
          · obtain ⟨u, hu⟩ := HW2.out
            rw [hu]
            exact HB.out.trans (bytesWorld_below' HB.out)
    · obtain ⟨x, hx⟩ : ∃ x : Int, (s[t].toNat : Int) = x := ⟨_, rfl⟩
      have htlt : t < pre.length := by rw [← HPE.out]; omega
      obtain ⟨hp1, hp2⟩ := at_pre HSL.out htlt hget.out HX.out
      have hx101 : ¬ x = 101 := by rw [← hx]; exact hp2
      have HP1 := Lib.hid hp1
      have HXX := Lib.hid hx
      clear hp1 hp2
      have hext : (s.extract t (t + 1)).data.toList = [s[t]] := one_byte s t hts
      have HEX := Lib.hid hext
      clear hext
      by_cases hx46 : x = 46
      · go_wp2
        refine ⟨⟨t + 1, a, rfl, rfl, by go_num, by omega, by omega, trivial, Lib.hid ?_⟩, ?_⟩
        · rw [hacc.out]
          refine (kept_skip HP1.out ?_).symm
          exact byte_46 (HXX.out.trans hx46)
        · simp [RowKit.intOf]
          omega
      · go_wp2
        refine ⟨⟨t + 1, _, rfl, rfl, by go_num, by omega, ?_, trivial, Lib.hid ?_⟩, ?_⟩
        · rw [ByteArray.size_append, ByteArray.size_extract]
          omega
        · rw [app_list, hacc.out, HEX.out]
          refine (kept_take HP1.out ?_).symm
          intro e
          exact hx46 (by rw [← HXX.out, e]; rfl)
        · simp [RowKit.intOf]
          omega
/-- What the reference's text says of a word. -/
theorem spec_pos (n r : Nat) (h1 : 1 ≤ n) (h2 : n ≤ 2147483648) (hr : r < 9218868437227405312) (hV : V r = n * one) (w : World) (hT : TabP w) (htab : Lib.TabIs Tryd.prog w "internal/strconv.uint64pow10" .u64 Lib.pow10Tab) :
    Calls Tryd.prog 10 #[.float .f64 r] w fun e w' => e = .returned (.tuple #[.string ⟨(decDigits n).toArray⟩, .bool true]) ∧ Below w.heap.size w w' := by
  obtain ⟨E, hE, hE1, hE2⟩ := log_of h1 h2
  have hw := word_is hE hE1 hE2 hr hV
  have h0 : r ≠ 0 := by
    intro e
    rw [e, V_zero] at hV
    have := Nat.mul_pos h1 one_pos
    omega
  refine spec_loop n r (nDigits n) w rfl (nDigits_pos n) (nDigits_le h1 (by omega)) ?_ ?_ (fun w => isNaN_fin false hr w) (fun w => isInf_fin false hr w) (fun w => isInfN_fin false hr w) ?_
  · have := eq_zero false hr
    rw [W_false] at this
    rw [this]
    simp [h0]
  · have := lt_zero false hr
    rw [W_false] at this
    rw [this]
    rfl
  · rw [hw]
    exact format_any n E hE hE1 hE2 h2 w hT htab

set_option maxRecDepth 100000 in
set_option maxHeartbeats 4000000 in
theorem spec_zero (s : Bool) (w : World) : Calls Tryd.prog 10 #[.float .f64 (W s 0)] w fun e w' => e = .returned (.tuple #[.string ⟨#[48]⟩, .bool true]) ∧ w = w' := by
  have H18 := Lib.hid fun w => isNaN_fin s (r := 0) (by omega) w
  have hz := eq_zero s (r := 0) (by omega)
  rw [decide_eq_true rfl] at hz
  obtain ⟨x, hx⟩ : ∃ x, x = W s 0 := ⟨_, rfl⟩
  rw [← hx] at hz H18 ⊢
  clear hx
  go_enter Tryd.func10, Tryd.ntmps10
  go_wp2_with fail
  refine (H18.out _).mono ?_
  rintro e w' ⟨rfl, rfl⟩
  go_wp2
  go_ret2
  exact ⟨rfl, rfl⟩

set_option maxRecDepth 100000 in
set_option maxHeartbeats 4000000 in
theorem spec_nan (s : Bool) {r : Nat} (h : 9218868437227405312 < r) (h' : r < 9223372036854775808) (w : World) : Calls Tryd.prog 10 #[.float .f64 (W s r)] w fun e w' => e = .returned (.tuple #[.string ⟨#[78, 97, 78]⟩, .bool true]) ∧ w = w' := by
  have H18 := Lib.hid fun w => isNaN_nan s h h' w
  obtain ⟨x, hx⟩ : ∃ x, x = W s r := ⟨_, rfl⟩
  rw [← hx] at H18 ⊢
  clear hx
  go_enter Tryd.func10, Tryd.ntmps10
  go_wp2_with fail
  refine (H18.out _).mono ?_
  rintro e w' ⟨rfl, rfl⟩
  go_wp2
  go_ret2
  exact ⟨rfl, rfl⟩

def infB (s : Bool) : ByteArray := if s then ⟨#[45, 73, 110, 102, 105, 110, 105, 116, 121]⟩ else ⟨#[73, 110, 102, 105, 110, 105, 116, 121]⟩

set_option maxRecDepth 100000 in
set_option maxHeartbeats 4000000 in
theorem spec_inf (s : Bool) (w : World) : Calls Tryd.prog 10 #[.float .f64 (W s 9218868437227405312)] w fun e w' => e = .returned (.tuple #[.string (infB s), .bool true]) ∧ w = w' := by
  have H18 := Lib.hid fun w => isNaN_inf s w
  have H19 := Lib.hid fun w => isInf_inf s w
  have H19N := Lib.hid fun w => isInfN_inf s w
  have hz := inf_zero s
  obtain ⟨x, hx⟩ : ∃ x, x = W s 9218868437227405312 := ⟨_, rfl⟩
  rw [← hx] at hz H18 H19 H19N ⊢
  clear hx
  go_enter Tryd.func10, Tryd.ntmps10
  cases s
  · go_wp2_with fail
    refine (H18.out _).mono ?_
    rintro e w' ⟨rfl, rfl⟩
    go_wp2_with fail
    refine (H19.out _).mono ?_
    rintro e w' ⟨rfl, rfl⟩
    go_wp2
    go_ret2
    exact ⟨rfl, rfl⟩
  · go_wp2_with fail
    refine (H18.out _).mono ?_
    rintro e w' ⟨rfl, rfl⟩
    go_wp2_with fail
    refine (H19.out _).mono ?_
    rintro e w' ⟨rfl, rfl⟩
    go_wp2_with fail
    refine (H19N.out _).mono ?_
    rintro e w' ⟨rfl, rfl⟩
    go_wp2
    go_ret2
    exact ⟨rfl, rfl⟩

set_option maxRecDepth 100000 in
set_option maxHeartbeats 4000000 in
theorem spec_neg (n r : Nat) (h1 : 1 ≤ n) (h2 : n ≤ 2147483648) (hr : r < 9218868437227405312) (hV : V r = n * one) (w : World) (hT : TabP w) (htab : Lib.TabIs Tryd.prog w "internal/strconv.uint64pow10" .u64 Lib.pow10Tab) :
    Calls Tryd.prog 10 #[.float .f64 (W true r)] w fun e w' => e = .returned (.tuple #[.string ⟨(45 :: decDigits n).toArray⟩, .bool true]) ∧ Below w.heap.size w w' := by
  have h0 : r ≠ 0 := by
    intro e
    rw [e, V_zero] at hV
    have := Nat.mul_pos h1 one_pos
    omega
  have HP := Lib.hid (spec_pos n r h1 h2 hr hV w hT htab)
  have H18 := Lib.hid fun w => isNaN_fin true hr w
  have H19 := Lib.hid fun w => isInf_fin true hr w
  have H19N := Lib.hid fun w => isInfN_fin true hr w
  have hz := eq_zero true hr
  have hlt := lt_zero true hr
  rw [decide_eq_false h0] at hz
  rw [decide_eq_true h0, Bool.true_and] at hlt
  have hneg := fun w => neg_of (show r < 9223372036854775808 by omega) w
  obtain ⟨x, hx⟩ : ∃ x, x = W true r := ⟨_, rfl⟩
  rw [← hx] at hz hlt hneg H18 H19 H19N ⊢
  obtain ⟨L, hL⟩ : ∃ L : ByteArray, L = ⟨(decDigits n).toArray⟩ := ⟨_, rfl⟩
  rw [← hL] at HP
  have hLs : L.size ≤ 10 := by
    rw [hL, ← list_size]
    show (decDigits n).length ≤ 10
    rw [decDigits_length]
    exact nDigits_le h1 (by omega)
  have HL := Lib.hid hL
  clear hx h0 h1 h2 hr hV hT htab hL
  go_enter Tryd.func10, Tryd.ntmps10
  go_wp2_with fail
  refine (H18.out _).mono ?_
  rintro e w' ⟨rfl, rfl⟩
  go_wp2_with fail
  refine (H19.out _).mono ?_
  rintro e w' ⟨rfl, rfl⟩
  go_wp2_with fail
  refine (H19N.out _).mono ?_
  rintro e w' ⟨rfl, rfl⟩
  go_wp2_with fail
  refine HP.out.mono ?_
  rintro e w' ⟨rfl, hb⟩
  have HB := Lib.hid hb
  clear hb HP
  go_wp2
  go_ret2
  refine ⟨?_, HB.out⟩
  show Ending.returned (.tuple #[.string (⟨#[45]⟩ ++ L), .bool true]) = _
  rw [HL.out]
  rfl
end Go.Proofs.YtmfbgoikekmdkaaDoor
