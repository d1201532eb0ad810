/-
  DERIVED. GIVEN WITH THE SEED: THE CARDS: each row of YtpnkedaceaodbaaGreatDoorRows.lean that lists a variable, with what it lists TIED to the program's text (the seventh form; the later family's looks); each row that meets fmt, with fmt's text TOLD by the authors' own Lean function (tested against real Go, not proved from fmt's source: count such statements apart). THE CARD IS WHAT COUNTS. Prove the row's statement (the work); the ties are given (YtpnkedaceaodbaaGreatDoorTie.lean); close each card by the builder's one call (the guide's Derived/Test/ToyasCard.lean, 'card_holds'). Laid BY PROGRAM, IN A SANDBOX (cutbox-door.mjs). By AI agents, Wed Nov 11 2026. No macro, syntax, notation, axiom, sorry.
-/
import Derived.Test.YtpnkedaceaodbaaGreatDoorRows
import GoSem.ClaimSeven
namespace Go.Proofs.YtpnkedaceaodbaaGreatDoor
namespace Rows

/-- THE TIED CARD OF 'laws.FnNamesOf'. -/
def fnNamesOfCard : Claim7 := { stood := { row := fnNamesOfRow, standIns := [], harness := (true, "6fa668a09446b78fa6adcc30d77d8071a49c5e24e9111f26a94deb133601ed94"), looks := true }, kinds := [], alts := [], laidByText := true, laidKinds := [.data], laidTests := true, laidLooks := .later }
def FnNamesOfCardSaid : Prop := Claim7.holds Tryz.pinned (.plain (OpenSpec.ofChange fnNamesOfSpec)) fnNamesOfCard

/-- THE SECOND FORM's CARD OF 'laws.FnNamesOf'. -/
def fnNamesOfUptoCard : Claim7 := { stood := { row := fnNamesOfUptoRow, standIns := [], harness := (true, "6fa668a09446b78fa6adcc30d77d8071a49c5e24e9111f26a94deb133601ed94"), looks := true }, kinds := [], alts := [], laidByText := true, laidKinds := [.data], laidTests := true, laidLooks := .later }
def FnNamesOfUptoCardSaid : Prop := Claim7.holds Tryz.pinned (.plain (OpenSpec.upto fnNamesOfSpec)) fnNamesOfUptoCard
end Rows
end Go.Proofs.YtpnkedaceaodbaaGreatDoor
