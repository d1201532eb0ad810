/-
  DERIVED. GIVEN WITH THE SEED: THE CARDS: each row of YtofdfffpmbgogaaGreatDoorRows.lean that lists a variable, with what it lists TIED to the program's text (the seventh form; the later family's looks); each row that meets fmt, with fmt's text TOLD by the authors' own Lean function (tested against real Go, not proved from fmt's source: count such statements apart). THE CARD IS WHAT COUNTS. Prove the row's statement (the work); the ties are given (YtofdfffpmbgogaaGreatDoorTie.lean); close each card by the builder's one call (the guide's Derived/Test/ToyasCard.lean, 'card_holds'). Laid BY PROGRAM, IN A SANDBOX (cutbox-door.mjs). By AI agents, Wed Nov 11 2026. No macro, syntax, notation, axiom, sorry.
-/
import Derived.Test.YtofdfffpmbgogaaGreatDoorRows
import GoSem.ClaimSeven
namespace Go.Proofs.YtofdfffpmbgogaaGreatDoor
namespace Rows

/-- THE TIED CARD OF 'laws.FnStmtBack'. -/
def fnStmtBackCard : Claim7 := { stood := { row := fnStmtBackRow, standIns := [], harness := (true, "362188fa55895402c358fae05d221a828ce55eb34f928bc9a9efc01a08fb55fc"), looks := true }, kinds := [], alts := [], laidByText := true, laidKinds := [.data], laidTests := true, laidLooks := .later }
def FnStmtBackCardSaid : Prop := Claim7.holds Tryz.pinned (.plain (OpenSpec.ofChange fnStmtBackSpec)) fnStmtBackCard

/-- THE TIED CARD OF 'laws.FnBindToExpr'. -/
def fnBindToExprCard : Claim7 := { stood := { row := fnBindToExprRow, standIns := [], harness := (true, "362188fa55895402c358fae05d221a828ce55eb34f928bc9a9efc01a08fb55fc"), looks := true }, kinds := [], alts := [], laidByText := true, laidKinds := [.data], laidTests := true, laidLooks := .later }
def FnBindToExprCardSaid : Prop := Claim7.holds Tryz.pinned (.plain (OpenSpec.ofChange fnBindToExprSpec)) fnBindToExprCard

/-- THE SECOND FORM's CARD OF 'laws.FnStmtBack'. -/
def fnStmtBackUptoCard : Claim7 := { stood := { row := fnStmtBackUptoRow, standIns := [], harness := (true, "362188fa55895402c358fae05d221a828ce55eb34f928bc9a9efc01a08fb55fc"), looks := true }, kinds := [], alts := [], laidByText := true, laidKinds := [.data], laidTests := true, laidLooks := .later }
def FnStmtBackUptoCardSaid : Prop := Claim7.holds Tryz.pinned (.plain (OpenSpec.upto fnStmtBackSpec)) fnStmtBackUptoCard

/-- THE SECOND FORM's CARD OF 'laws.FnBindToExpr'. -/
def fnBindToExprUptoCard : Claim7 := { stood := { row := fnBindToExprUptoRow, standIns := [], harness := (true, "362188fa55895402c358fae05d221a828ce55eb34f928bc9a9efc01a08fb55fc"), looks := true }, kinds := [], alts := [], laidByText := true, laidKinds := [.data], laidTests := true, laidLooks := .later }
def FnBindToExprUptoCardSaid : Prop := Claim7.holds Tryz.pinned (.plain (OpenSpec.upto fnBindToExprSpec)) fnBindToExprUptoCard
end Rows
end Go.Proofs.YtofdfffpmbgogaaGreatDoor
