/-
  FnMinifiedNames: for every two whole numbers the law answers true: the names of minified programs are names, no two are the same, and later ones aren't shorter. The package's own variable DefaultNameMinifierJS starts as the program's text lays it (the card ties it); no other condition.
-/
import Derived.Test.YtilfkdklefloeaaDoorRows
import Derived.Test.YtilfkdklefloeaaDoorTie
import Derived.Test.YtilfkdklefloeaaDoorCards
import Derived.Test.YtilfkdklefloeaaDoorWalks
import Derived.ProofKit
import Derived.LaidMore
import Derived.OpenShut
import Derived.Stop.Joined
import Derived.SevenTiedAt
namespace Go.Proofs.YtilfkdklefloeaaDoor
open Go Go.ChangeShapes Go.WideShapes Go.ChangeAt Go.WideMaps Go.WideElems Go.RowKit

theorem own : ownKnob Tryd.prog.godebug = none := by kernel_rfl
theorem gMin : Tryd.prog.globalNamed "scriptsrun/pub/esbuild/inner/ast.DefaultNameMinifierJS" = some 0 := by kernel_rfl
theorem tMin : (Tryd.prog.globals[0]?).map (·.type) = some 26 := by kernel_rfl
theorem cells26 : Tryd.prog.cellsOf 26 = 2 := by kernel_rfl
theorem cells9 : Tryd.prog.cellsOf 9 = 1 := by kernel_rfl

/-- The door's own heap meets the condition. -/
theorem door_met (os : Os) (args : Array Value) : laidMetH Tryd.prog Rows.fnMinifiedNamesRow.laid ((World.doorLaid Tryd.prog 14 os).forCall (fun _ _ => 0) ⟨#[], args, []⟩).memory :=
  laidMetH_of_parts3 (fuel := 8) (laidMet_of_run' 8 (by kernel_rfl) (by kernel_rfl)) (by kernel_rfl) (by kernel_rfl)

/-- What the condition gives the walks: the variable's two cells. -/
theorem of_laid {W : World} (h : laidMetH Tryd.prog Rows.fnMinifiedNamesRow.laid W) : 0 < W.heap.size ∧ W.cell? ⟨0, 0, none⟩ = some (.string headB) ∧ W.cell? ⟨0, 1, none⟩ = some (.string tailB) := by
  rw [MakeChecks.laidMetH_plain _ _ _ (by kernel_rfl)] at h
  obtain ⟨ps, ⟨g0, t0, cs0, f0, p0, q0, hg0, ht0, hv0, hd0, _, _⟩, _, _⟩ := h
  obtain rfl := Option.some.inj (gMin.symm.trans hg0)
  obtain rfl := Option.some.inj (tMin.symm.trans ht0)
  obtain ⟨xs, n, _, hx, hlen, hxl, hf⟩ := DataW.trod_struct Tryd.underlying26 hd0
  simp only [Prod.mk.injEq, Rows.laid_scriptsrun_pub_esbuild_inner_ast_DefaultNameMinifierJS, DataW.agg.injEq] at hx
  have hA := hf 0 _ rfl
  have hB := hf 1 _ rfl
  change DataW.trod _ Tryd.prog W 0 _ _ n 9 (((cs0.toList).drop 0).take (Tryd.prog.cellsOf 9)) = xs[0]? at hA
  change DataW.trod _ Tryd.prog W 0 _ _ n 9 (((cs0.toList).drop 1).take (Tryd.prog.cellsOf 9)) = xs[1]? at hB
  rw [cells9] at hA hB
  obtain ⟨l0⟩ := cs0
  rw [cells26] at hlen
  match l0, hlen with
  | [c0, c1], _ =>
    match xs, hxl, hx, hA, hB with
    | [x0, x1], _, hx, hA, hB =>
      simp only [List.map_cons, List.map_nil, List.cons.injEq] at hx
      simp at hA hB
      obtain ⟨s0, e0, y0, _⟩ := DataW.trod_string Tryd.underlying9 hA
      obtain ⟨s1, e1, y1, _⟩ := DataW.trod_string Tryd.underlying9 hB
      rw [y0, y1] at hx
      simp at e0 e1
      subst e0 e1
      have hc0 := World.var?_cell hg0 hv0 0
      have hc1 := World.var?_cell hg0 hv0 1
      have k0 : s0 = headB := by
        have : s0.data.toList = headB.data.toList := by
          have := hx.1.1
          injection this with h1
          injection h1 with h2
          exact h2.symm
        exact ByteArray.ext (Array.toList_inj.1 this)
      have k1 : s1 = tailB := by
        have : s1.data.toList = tailB.data.toList := by
          have := hx.1.2.1
          injection this with h1
          injection h1 with h2
          exact h2.symm
        exact ByteArray.ext (Array.toList_inj.1 this)
      subst k0 k1
      refine ⟨?_, by simpa using hc0, by simpa using hc1⟩
      exact block_lt_of_cell (a := ⟨0, 0, none⟩) hc0

set_option maxRecDepth 100000 in
theorem lifted (os : Os) (started : os.Started) (H : Type) (enc : TypeId × Value → H) :
    ReturnsInHanded {} Tryd.checked os 3 .any (fun w args => (Rows.fnMinifiedNamesSpec.pre enc Tryd.prog Tryd.f3 [] false w args ∧ laidMetH Tryd.prog Rows.fnMinifiedNamesRow.laid w) ∧ sizedMet enc Tryd.prog Tryd.f3 (OpenSpec.ofChange Rows.fnMinifiedNamesSpec) false w args)
      (Rows.fnMinifiedNamesSpec.post enc Tryd.prog Tryd.f3 false true false false) := by
  refine returnsInHanded_of_change_and (C := Tryd.checked) (X := fun w _ => laidMetH Tryd.prog Rows.fnMinifiedNamesRow.laid w) (fun _ _ _ hh h => h.of_heap hh) own started (by kernel_rfl) Tryd.func3
    (ChangeSpec.witness_shaped (enc := enc) (C := Tryd.checked) (os := os) (X := fun w _ => laidMetH Tryd.prog Rows.fnMinifiedNamesRow.laid w) false (World.doorLaid Tryd.prog 14 os) #[.int .i64 0, .int .i64 0] 8 rfl (World.shaped_of_RefB (by kernel_rfl) (by kernel_rfl)) (by kernel_rfl) (by kernel_rfl) (by kernel_rfl) (door_met os _)) ?_
  intro W base args ds gs before hval0 hW _ _ hL _
  have hval : ∀ (j : Nat) t v, Tryd.f3.params[j]? = some t → args[j]? = some v → Value.okWide Tryd.prog W .any base t v := hval0
  have hW' := hW
  obtain ⟨p, q, hA0, hV, rfl, hfz, hnd⟩ := hW
  have hA : DataW.TrodAll enc Tryd.prog W 0 (fun _ => true) true Tryd.f3.params.toList args.toList ds p := hA0
  rw [Tryd.params3] at hA hval
  obtain ⟨v0, v1, d0, d1, p0, p1, rfl, rfl, rfl, h0, h1⟩ := trodAll_two hA
  obtain ⟨rfl, rfl⟩ := trodVars_none hV
  obtain ⟨a, rfl, rfl, rfl, wa⟩ := open_int Tryd.underlying3 (hval 0 3 v0 rfl rfl) h0
  obtain ⟨b, rfl, rfl, rfl, wb⟩ := open_int Tryd.underlying3 (hval 1 3 v1 rfl rfl) h1
  obtain ⟨hsz, hc0, hc1⟩ := of_laid hL
  clear hA0 hval0
  simp only [List.append_nil] at hW'
  refine (law_any a b W hsz hc0 hc1).mono fun e W' ⟨he, hb⟩ => ?_
  subst he
  have e1 : Rows.fnMinifiedNamesSpec.fn H ([.lit (.int .i64 a), .lit (.int .i64 b)] ++ []) = { results := [.lit (.bool true)], args := [.lit (.int .i64 a), .lit (.int .i64 b)] } := by simp [Rows.fnMinifiedNamesSpec]
  refine ⟨_, rfl, _, _, _, [], [], [], hW', ?_, ?_, ?_, hb.frame _, fun h => by cases h⟩
  · rw [e1]; exact trodAll_mk1 (shut_bool Tryd.underlying4 true)
  · rw [e1]; exact trodAll_mk2 (shut_int Tryd.underlying3 wa) (shut_int Tryd.underlying3 wb)
  · rw [e1]; rfl

theorem row_holds : Rows.FnMinifiedNamesSaid :=
  OpenClaim.holds_of_wide 3 Tryd.f3 rfl rfl rfl rfl rfl rfl rfl ⟨rfl, rfl, rfl, rfl, rfl⟩ rfl rfl rfl rfl rfl (by kernel_rfl) Tryd.func3 (by kernel_rfl)
    (of_decide_eq_true (by kernel_rfl)) (by unfold Func.isWrapper; rw [if_neg (of_decide_eq_false (by kernel_rfl))]; exact ⟨rfl, rfl⟩)
    (fun os started H enc _ => lifted os started H enc)

/-- The tied card. -/
theorem card_holds : Rows.FnMinifiedNamesCardSaid :=
  Claim7.holds_tied_plain_at .later [] [.wider] true (true, "9c176394d070212989b8d4296978d3dd9aa3f585ea829438670a990125ea954f") false
    row_holds (fun _ h => by cases h) (by kernel_rfl) (fun _ h => by cases h) fnMinifiedNames_row_tie rfl ⟨rfl, rfl⟩ (by kernel_rfl) rfl
    (fun f fn hf hfn => by
      obtain rfl : f = 3 := Option.some.inj ((show Tryd.prog.funcNamed "scriptsrun/laws.FnMinifiedNames" = some 3 by kernel_rfl).symm.trans hf) |>.symm
      obtain rfl : fn = Tryd.f3 := (Option.some.inj (Tryd.func3.symm.trans hfn)).symm
      exact ⟨by kernel_rfl, fun j t ht => by
        rw [Tryd.params3] at ht
        have h3 : t = 3 := by
          rcases j with _ | _ | j
          · simpa using ht.symm
          · simpa using ht.symm
          · simp at ht
        subst h3
        exact (show Tryd.prog.wantsStandIn 3 = false by kernel_rfl)⟩)
    (by kernel_rfl)
#print axioms card_holds
end Go.Proofs.YtilfkdklefloeaaDoor
