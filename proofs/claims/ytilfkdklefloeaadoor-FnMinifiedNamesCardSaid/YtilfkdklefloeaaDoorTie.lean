/-
  DERIVED. GIVEN WITH THE SEED: THE PROGRAM's TIES (one call each: nine closed facts by the kernel) AND EACH ROW's TIE, after the 31st guide's Derived/Test/Toyas{Tie, Card}.lean. No idea stands in it: it is a product of the set-up. Laid BY PROGRAM, IN A SANDBOX (cutbox-door.mjs). By AI agents, Wed Nov 11 2026. No macro, syntax, notation, axiom, sorry.
-/
import Derived.Test.YtilfkdklefloeaaDoorRows
import Derived.LaidByTextLater
import Derived.SevenTiedAt
import Derived.LaidSub
import Derived.LaidOnce
namespace Go.Proofs.YtilfkdklefloeaaDoor
open Go
set_option maxRecDepth 100000
theorem seatTie1 : Tryd.prog.laidByTextLater [("scriptsrun/pub/esbuild/inner/ast.DefaultNameMinifierJS", Rows.laid_scriptsrun_pub_esbuild_inner_ast_DefaultNameMinifierJS)] [.wider] true :=
  Program.laidByTextLater_by_one 14 8 3 (by kernel_rfl) (by kernel_rfl) (by kernel_rfl) (by kernel_rfl) (by kernel_rfl) (by kernel_rfl) (fun _ _ => by kernel_rfl)
theorem noOwnUnsafe : Tryd.pinned.checked.prog.headLifts.contains "ownunsafe" = false := by kernel_rfl
theorem tie : Tryd.prog.laidByTextLater [("scriptsrun/pub/esbuild/inner/ast.DefaultNameMinifierJS", Rows.laid_scriptsrun_pub_esbuild_inner_ast_DefaultNameMinifierJS)] [.wider] true :=
  Program.laidByTextLater.sub seatTie1 ["scriptsrun/pub/esbuild/inner/ast.DefaultNameMinifierJS"] (by kernel_rfl) (by kernel_rfl)
theorem fnMinifiedNames_row_tie : Rows.fnMinifiedNamesRow.laidByTextAt .later Tryd.pinned [.wider] true :=
  OpenClaim.laidByTextAt_later rfl rfl tie noOwnUnsafe
theorem fnMinifiedNamesUpto_row_tie : Rows.fnMinifiedNamesUptoRow.laidByTextAt .later Tryd.pinned [.wider] true :=
  OpenClaim.laidByTextAt_later rfl rfl tie noOwnUnsafe
end Go.Proofs.YtilfkdklefloeaaDoor
