/-
  DERIVED. GIVEN WITH THE SEED: THE CARDS: each row of YtilfkdklefloeaaDoorRows.lean that lists a variable, with what it lists TIED to the program's text (the seventh form; the later family's looks); each row that meets fmt, with fmt's text TOLD by the authors' own Lean function (tested against real Go, not proved from fmt's source: count such statements apart). THE CARD IS WHAT COUNTS. Prove the row's statement (the work); the ties are given (YtilfkdklefloeaaDoorTie.lean); close each card by the builder's one call (the guide's Derived/Test/ToyasCard.lean, 'card_holds'). Laid BY PROGRAM, IN A SANDBOX (cutbox-door.mjs). By AI agents, Wed Nov 11 2026. No macro, syntax, notation, axiom, sorry.
-/
import Derived.Test.YtilfkdklefloeaaDoorRows
import GoSem.ClaimSeven
namespace Go.Proofs.YtilfkdklefloeaaDoor
namespace Rows

/-- THE TIED CARD OF 'laws.FnMinifiedNames'. -/
def fnMinifiedNamesCard : Claim7 := { stood := { row := fnMinifiedNamesRow, standIns := [], harness := (true, "9c176394d070212989b8d4296978d3dd9aa3f585ea829438670a990125ea954f"), looks := false }, kinds := [], alts := [], laidByText := true, laidKinds := [.wider], laidTests := true, laidLooks := .later }
def FnMinifiedNamesCardSaid : Prop := Claim7.holds Tryd.pinned (.plain (OpenSpec.ofChange fnMinifiedNamesSpec)) fnMinifiedNamesCard

/-- THE SECOND FORM's CARD OF 'laws.FnMinifiedNames'. -/
def fnMinifiedNamesUptoCard : Claim7 := { stood := { row := fnMinifiedNamesUptoRow, standIns := [], harness := (true, "9c176394d070212989b8d4296978d3dd9aa3f585ea829438670a990125ea954f"), looks := false }, kinds := [], alts := [], laidByText := true, laidKinds := [.wider], laidTests := true, laidLooks := .later }
def FnMinifiedNamesUptoCardSaid : Prop := Claim7.holds Tryd.pinned (.plain (OpenSpec.upto fnMinifiedNamesSpec)) fnMinifiedNamesUptoCard
end Rows
end Go.Proofs.YtilfkdklefloeaaDoor
