/-
  DERIVED. GIVEN WITH THE SEED: THE CARDS: each row of YtbbgdcfbpgmjbaaGreatDoorRows.lean that lists a variable, with what it lists TIED to the program's text (the seventh form; the later family's looks); each row that meets fmt, with fmt's text TOLD by the authors' own Lean function (tested against real Go, not proved from fmt's source: count such statements apart). THE CARD IS WHAT COUNTS. Prove the row's statement (the work); the ties are given (YtbbgdcfbpgmjbaaGreatDoorTie.lean); close each card by the builder's one call (the guide's Derived/Test/ToyasCard.lean, 'card_holds'). Laid BY PROGRAM, IN A SANDBOX (cutbox-door.mjs). By AI agents, Wed Nov 11 2026. No macro, syntax, notation, axiom, sorry.
-/
import Derived.Test.YtbbgdcfbpgmjbaaGreatDoorRows
import GoSem.ClaimSeven
namespace Go.Proofs.YtbbgdcfbpgmjbaaGreatDoor
namespace Rows

/-- THE TIED CARD OF 'laws.FnNoLinks'. -/
def fnNoLinksCard : Claim7 := { stood := { row := fnNoLinksRow, standIns := [], harness := (true, "19bbbad0628a21e79e3dbab0a885d03ca850b7953aa0f153fdf8f5c79d8e7237"), looks := true }, kinds := [], alts := [], laidByText := true, laidKinds := [.data, .pinned], laidTests := true, laidLooks := .later }
def FnNoLinksCardSaid : Prop := Claim7.holds Tryz.pinned (.plain (OpenSpec.ofChange fnNoLinksSpec)) fnNoLinksCard

/-- THE SECOND FORM's CARD OF 'laws.FnNoLinks'. -/
def fnNoLinksUptoCard : Claim7 := { stood := { row := fnNoLinksUptoRow, standIns := [], harness := (true, "19bbbad0628a21e79e3dbab0a885d03ca850b7953aa0f153fdf8f5c79d8e7237"), looks := true }, kinds := [], alts := [], laidByText := true, laidKinds := [.data, .pinned], laidTests := true, laidLooks := .later }
def FnNoLinksUptoCardSaid : Prop := Claim7.holds Tryz.pinned (.plain (OpenSpec.upto fnNoLinksSpec)) fnNoLinksUptoCard
end Rows
end Go.Proofs.YtbbgdcfbpgmjbaaGreatDoor
