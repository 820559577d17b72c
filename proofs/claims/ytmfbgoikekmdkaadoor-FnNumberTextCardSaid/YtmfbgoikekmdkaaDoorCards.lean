/-
  DERIVED. GIVEN WITH THE SEED: THE CARDS: each row of YtmfbgoikekmdkaaDoorRows.lean that lists a variable, with what it lists TIED to the program's text (the seventh form; the later family's looks); each row that meets fmt, with fmt's text TOLD by the authors' own Lean function (tested against real Go, not proved from fmt's source: count such statements apart). THE CARD IS WHAT COUNTS. Prove the row's statement (the work); the ties are given (YtmfbgoikekmdkaaDoorTie.lean); close each card by the builder's one call (the guide's Derived/Test/ToyasCard.lean, 'card_holds'). Laid BY PROGRAM, IN A SANDBOX (cutbox-door.mjs). By AI agents, Wed Nov 11 2026. No macro, syntax, notation, axiom, sorry.
-/
import Derived.Test.YtmfbgoikekmdkaaDoorRows
import GoSem.ClaimSeven
namespace Go.Proofs.YtmfbgoikekmdkaaDoor
namespace Rows

/-- THE TIED CARD OF 'laws.FnMinifiedNames'. -/
def fnMinifiedNamesCard : Claim7 := { stood := { row := fnMinifiedNamesRow, standIns := [], harness := (true, "858b756917641fe019c637c9b9960a1fcfa2d24d3b4260121de5fce21b3943f1"), looks := true }, kinds := [], alts := [], laidByText := true, laidKinds := [.wider], laidTests := true, laidLooks := .later }
def FnMinifiedNamesCardSaid : Prop := Claim7.holds Tryd.pinned (.plain (OpenSpec.ofChange fnMinifiedNamesSpec)) fnMinifiedNamesCard

/-- THE TIED CARD OF 'laws.FnNumberText'. -/
def fnNumberTextCard : Claim7 := { stood := { row := fnNumberTextRow, standIns := [], harness := (true, "858b756917641fe019c637c9b9960a1fcfa2d24d3b4260121de5fce21b3943f1"), looks := true }, kinds := [], alts := [], laidByText := true, laidKinds := [.data, .data, .data, .data, .sentinel, .sentinel, .pinned, .pinned], laidTests := true, laidLooks := .later }
def FnNumberTextCardSaid : Prop := Claim7.holds Tryd.pinned (.plain (OpenSpec.ofChange fnNumberTextSpec)) fnNumberTextCard

/-- THE SECOND FORM's CARD OF 'laws.FnMinifiedNames'. -/
def fnMinifiedNamesUptoCard : Claim7 := { stood := { row := fnMinifiedNamesUptoRow, standIns := [], harness := (true, "858b756917641fe019c637c9b9960a1fcfa2d24d3b4260121de5fce21b3943f1"), looks := true }, kinds := [], alts := [], laidByText := true, laidKinds := [.wider], laidTests := true, laidLooks := .later }
def FnMinifiedNamesUptoCardSaid : Prop := Claim7.holds Tryd.pinned (.plain (OpenSpec.upto fnMinifiedNamesSpec)) fnMinifiedNamesUptoCard

/-- THE SECOND FORM's CARD OF 'laws.FnNumberText'. -/
def fnNumberTextUptoCard : Claim7 := { stood := { row := fnNumberTextUptoRow, standIns := [], harness := (true, "858b756917641fe019c637c9b9960a1fcfa2d24d3b4260121de5fce21b3943f1"), looks := true }, kinds := [], alts := [], laidByText := true, laidKinds := [.data, .data, .data, .data, .sentinel, .sentinel, .pinned, .pinned], laidTests := true, laidLooks := .later }
def FnNumberTextUptoCardSaid : Prop := Claim7.holds Tryd.pinned (.plain (OpenSpec.upto fnNumberTextSpec)) fnNumberTextUptoCard
end Rows
end Go.Proofs.YtmfbgoikekmdkaaDoor
