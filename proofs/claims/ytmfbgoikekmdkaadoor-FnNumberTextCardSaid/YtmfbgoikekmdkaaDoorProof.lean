/-
  FnNumberText: for every word of 64 bits and every base the law answers true: a number as a text to a base, where it is told, is that of ECMAScript. The listed variables of Go's library start as their packages' text lays them (the card ties them); no other condition.
-/
import Derived.Test.YtmfbgoikekmdkaaDoorRows
import Derived.Test.YtmfbgoikekmdkaaDoorTie
import Derived.Test.YtmfbgoikekmdkaaDoorCards
import Derived.Test.YtmfbgoikekmdkaaDoorLaid
import Derived.ProofKit
import Derived.LaidMore
import Derived.OpenShut
import Derived.Lay
import Derived.Stop.Joined
import Derived.SevenTiedAt
namespace Go.Proofs.YtmfbgoikekmdkaaDoor
open Go Go.ChangeShapes Go.WideShapes Go.ChangeAt Go.WideMaps Go.WideElems Go.RowKit

theorem own : ownKnob Tryd.prog.godebug = none := by kernel_rfl

set_option maxRecDepth 100000 in
theorem lifted (os : Os) (started : os.Started) (H : Type) (enc : TypeId × Value → H) :
    ReturnsInHanded {} Tryd.checked os 4 .any (fun w args => (Rows.fnNumberTextSpec.pre enc Tryd.prog Tryd.f4 [] false w args ∧ laidMetH Tryd.prog Rows.fnNumberTextRow.laid w) ∧ sizedMet enc Tryd.prog Tryd.f4 (OpenSpec.ofChange Rows.fnNumberTextSpec) false w args)
      (Rows.fnNumberTextSpec.post enc Tryd.prog Tryd.f4 false true false false) := by
  refine returnsInHanded_of_change_and (C := Tryd.checked) (X := fun w _ => laidMetH Tryd.prog Rows.fnNumberTextRow.laid w) (fun _ _ _ hh h => h.of_heap hh) own started (by kernel_rfl) Tryd.func4
    (ChangeSpec.witness_shaped (enc := enc) (C := Tryd.checked) (os := os) (X := fun w _ => laidMetH Tryd.prog Rows.fnNumberTextRow.laid w) false (World.laidAll Tryd.prog os Rows.fnNumberTextRow.laid) #[.int .u64 0, .int .i64 0] 8 (World.laidAll_os _ _ _)
      (World.shaped_of_ZipB (by kernel_rfl) (by kernel_rfl)) (by kernel_rfl) (by kernel_rfl) (by kernel_rfl)
      (by rw [MakeChecks.laidMetH_plain _ _ _ (by kernel_rfl)]; exact laidMet_laidAll _ (by kernel_rfl) (by kernel_rfl))) ?_
  intro W base args ds gs before hval0 hW _ _ hL _
  have hval : ∀ (j : Nat) t v, Tryd.f4.params[j]? = some t → args[j]? = some v → Value.okWide Tryd.prog W .any base t v := hval0
  have hW' := hW
  obtain ⟨p, q, hA0, hV, rfl, hfz, hnd⟩ := hW
  have hA : DataW.TrodAll enc Tryd.prog W 0 (fun _ => true) true Tryd.f4.params.toList args.toList ds p := hA0
  rw [Tryd.params4] at hA hval
  obtain ⟨v0, v1, d0, d1, p0, p1, rfl, rfl, rfl, h0, h1⟩ := trodAll_two hA
  obtain ⟨rfl, rfl⟩ := trodVars_none hV
  obtain ⟨a, rfl, rfl, rfl, wa⟩ := open_int Tryd.underlying25 (hval 0 25 v0 rfl rfl) h0
  obtain ⟨b, rfl, rfl, rfl, wb⟩ := open_int Tryd.underlying3 (hval 1 3 v1 rfl rfl) h1
  have hT := of_laid hL
  have ha : 0 ≤ a ∧ a < 18446744073709551616 := by
    have h2 : (decide (IntKind.u64.min ≤ a) && decide (a ≤ IntKind.u64.max)) = true := wa
    rw [Bool.and_eq_true, decide_eq_true_eq, decide_eq_true_eq] at h2
    have m1 : IntKind.u64.min = 0 := by decide
    have m2 : IntKind.u64.max = 18446744073709551615 := by decide
    rw [m1, m2] at h2
    omega
  clear hA0 hval0
  simp only [List.append_nil] at hW'
  refine (law_all a b ha.1 ha.2 W hT).mono fun e W' ⟨he, hb⟩ => ?_
  subst he
  have e1 : Rows.fnNumberTextSpec.fn H ([.lit (.int .u64 a), .lit (.int .i64 b)] ++ []) = { results := [.lit (.bool true)], args := [.lit (.int .u64 a), .lit (.int .i64 b)] } := by simp [Rows.fnNumberTextSpec]
  refine ⟨_, rfl, _, _, _, [], [], [], hW', ?_, ?_, ?_, hb.frame _, fun h => by cases h⟩
  · rw [e1]; exact trodAll_mk1 (shut_bool Tryd.underlying4 true)
  · rw [e1]; exact trodAll_mk2 (shut_int Tryd.underlying25 wa) (shut_int Tryd.underlying3 wb)
  · rw [e1]; rfl

theorem row_holds : Rows.FnNumberTextSaid :=
  OpenClaim.holds_of_wide 4 Tryd.f4 rfl rfl rfl rfl rfl rfl rfl ⟨rfl, rfl, rfl, rfl, rfl⟩ rfl rfl rfl rfl rfl (by kernel_rfl) Tryd.func4 (by kernel_rfl)
    (of_decide_eq_true (by kernel_rfl)) (by unfold Func.isWrapper; rw [if_neg (of_decide_eq_false (by kernel_rfl))]; exact ⟨rfl, rfl⟩)
    (fun os started H enc _ => lifted os started H enc)

/-- The tied card. -/
theorem number_card_holds : Rows.FnNumberTextCardSaid :=
  Claim7.holds_tied_plain_at .later [] [.data, .data, .data, .data, .sentinel, .sentinel, .pinned, .pinned] true (true, "858b756917641fe019c637c9b9960a1fcfa2d24d3b4260121de5fce21b3943f1") true
    row_holds (fun _ h => by cases h) (by kernel_rfl) (fun _ h => by cases h) fnNumberText_row_tie rfl ⟨rfl, rfl⟩ (by kernel_rfl) rfl
    (fun f fn hf hfn => by
      obtain rfl : f = 4 := Option.some.inj ((show Tryd.prog.funcNamed "scriptsrun/laws.FnNumberText" = some 4 by kernel_rfl).symm.trans hf) |>.symm
      obtain rfl : fn = Tryd.f4 := (Option.some.inj (Tryd.func4.symm.trans hfn)).symm
      exact ⟨by kernel_rfl, fun j t ht => by
        rw [Tryd.params4] at ht
        have hm : t ∈ [25, 3] := by simpa using Array.mem_of_getElem? ht
        have hall : ([25, 3].all fun u => !Tryd.prog.wantsStandIn u) = true := by kernel_rfl
        exact (show Tryd.prog.wantsStandIn t = false by simpa using List.all_eq_true.1 hall t hm)⟩)
    (by kernel_rfl)
#print axioms number_card_holds
end Go.Proofs.YtmfbgoikekmdkaaDoor
