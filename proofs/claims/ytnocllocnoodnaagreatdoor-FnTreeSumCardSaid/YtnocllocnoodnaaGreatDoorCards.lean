/-
  DERIVED. GIVEN WITH THE SEED: THE CARDS: each row of YtnocllocnoodnaaGreatDoorRows.lean that lists a variable, with what it lists TIED to the program's text (the seventh form; the later family's looks); each row that meets fmt, with fmt's text TOLD by the authors' own Lean function (tested against real Go, not proved from fmt's source: count such statements apart). THE CARD IS WHAT COUNTS. Prove the row's statement (the work); the ties are given (YtnocllocnoodnaaGreatDoorTie.lean); close each card by the builder's one call (the guide's Derived/Test/ToyasCard.lean, 'card_holds'). Laid BY PROGRAM, IN A SANDBOX (cutbox-door.mjs). By AI agents, Wed Nov 11 2026. No macro, syntax, notation, axiom, sorry.
-/
import Derived.Test.YtnocllocnoodnaaGreatDoorRows
import GoSem.ClaimSeven
namespace Go.Proofs.YtnocllocnoodnaaGreatDoor
namespace Rows

/-- THE TIED CARD OF 'laws.FnTreeSum'. -/
def fnTreeSumCard : Claim7 := { stood := { row := fnTreeSumRow, standIns := [], harness := (true, "09909237313e96c75e4fcaee09591883962c2282aa8ad1f56d1927c4629de08c"), looks := true }, kinds := [], alts := [], laidByText := true, laidKinds := [.data, .pinned], laidTests := true, laidLooks := .later }
def FnTreeSumCardSaid : Prop := Claim7.holds Tryz.pinned (.plain (OpenSpec.ofChange fnTreeSumSpec)) fnTreeSumCard

/-- THE SECOND FORM's CARD OF 'laws.FnTreeSum'. -/
def fnTreeSumUptoCard : Claim7 := { stood := { row := fnTreeSumUptoRow, standIns := [], harness := (true, "09909237313e96c75e4fcaee09591883962c2282aa8ad1f56d1927c4629de08c"), looks := true }, kinds := [], alts := [], laidByText := true, laidKinds := [.data, .pinned], laidTests := true, laidLooks := .later }
def FnTreeSumUptoCardSaid : Prop := Claim7.holds Tryz.pinned (.plain (OpenSpec.upto fnTreeSumSpec)) fnTreeSumUptoCard
end Rows
end Go.Proofs.YtnocllocnoodnaaGreatDoor
