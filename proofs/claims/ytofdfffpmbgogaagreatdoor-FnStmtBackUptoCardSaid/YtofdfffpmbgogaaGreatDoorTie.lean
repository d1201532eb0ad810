/-
  DERIVED. GIVEN WITH THE SEED: THE PROGRAM's TIES (one call each: nine closed facts by the kernel) AND EACH ROW's TIE, after the 31st guide's Derived/Test/Toyas{Tie, Card}.lean. No idea stands in it: it is a product of the set-up. Laid BY PROGRAM, IN A SANDBOX (cutbox-door.mjs). By AI agents, Wed Nov 11 2026. No macro, syntax, notation, axiom, sorry.
-/
import Derived.Test.YtofdfffpmbgogaaGreatDoorRows
import Derived.LaidByTextLater
import Derived.SevenTiedAt
import Derived.LaidSub
import Derived.LaidOnce
namespace Go.Proofs.YtofdfffpmbgogaaGreatDoor
open Go
set_option maxRecDepth 100000
theorem seatTie1 : Tryz.prog.laidByTextLater [("given.example/pub-frisket/pub/esbuild/inner/ast.InvalidRef", Rows.laid_given_example_pub_frisket_pub_esbuild_inner_ast_InvalidRef)] [.data] true :=
  Program.laidByTextLater_by_one 14 8 3 (by kernel_rfl) (by kernel_rfl) (by kernel_rfl) (by kernel_rfl) (by kernel_rfl) (by kernel_rfl) (fun _ _ => by kernel_rfl)
theorem noOwnUnsafe : Tryz.pinned.checked.prog.headLifts.contains "ownunsafe" = false := by kernel_rfl
theorem tie : Tryz.prog.laidByTextLater [("given.example/pub-frisket/pub/esbuild/inner/ast.InvalidRef", Rows.laid_given_example_pub_frisket_pub_esbuild_inner_ast_InvalidRef)] [.data] true :=
  Program.laidByTextLater.sub seatTie1 ["given.example/pub-frisket/pub/esbuild/inner/ast.InvalidRef"] (by kernel_rfl) (by kernel_rfl)
theorem fnStmtBack_row_tie : Rows.fnStmtBackRow.laidByTextAt .later Tryz.pinned [.data] true :=
  OpenClaim.laidByTextAt_later rfl rfl tie noOwnUnsafe
theorem fnBindToExpr_row_tie : Rows.fnBindToExprRow.laidByTextAt .later Tryz.pinned [.data] true :=
  OpenClaim.laidByTextAt_later rfl rfl tie noOwnUnsafe
theorem fnStmtBackUpto_row_tie : Rows.fnStmtBackUptoRow.laidByTextAt .later Tryz.pinned [.data] true :=
  OpenClaim.laidByTextAt_later rfl rfl tie noOwnUnsafe
theorem fnBindToExprUpto_row_tie : Rows.fnBindToExprUptoRow.laidByTextAt .later Tryz.pinned [.data] true :=
  OpenClaim.laidByTextAt_later rfl rfl tie noOwnUnsafe
end Go.Proofs.YtofdfffpmbgogaaGreatDoor
