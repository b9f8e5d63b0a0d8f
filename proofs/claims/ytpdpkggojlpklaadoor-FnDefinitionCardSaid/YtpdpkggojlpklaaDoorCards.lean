/-
  DERIVED. GIVEN WITH THE SEED: THE CARDS: each row of YtpdpkggojlpklaaDoorRows.lean that lists a variable, with what it lists TIED to the program's text (the seventh form; the later family's looks); each row that meets fmt, with fmt's text TOLD by the authors' own Lean function (tested against real Go, not proved from fmt's source: count such statements apart). THE CARD IS WHAT COUNTS. Prove the row's statement (the work); the ties are given (YtpdpkggojlpklaaDoorTie.lean); close each card by the builder's one call (the guide's Derived/Test/ToyasCard.lean, 'card_holds'). Laid BY PROGRAM, IN A SANDBOX (cutbox-door.mjs). By AI agents, Wed Nov 11 2026. No macro, syntax, notation, axiom, sorry.
-/
import Derived.Test.YtpdpkggojlpklaaDoorRows
import GoSem.ClaimSeven
namespace Go.Proofs.YtpdpkggojlpklaaDoor
namespace Rows

/-- THE TIED CARD OF 'laws.FnEscapeLink'. -/
def fnEscapeLinkCard : Claim7 := { stood := { row := fnEscapeLinkRow, standIns := [], harness := (true, "46f50076868ab0bc32e54ca2eb80e9f22bf48d5c7374f77f65a22adf4ce5ff7b"), looks := true }, kinds := [], alts := [], laidByText := true, laidKinds := [.sentinel], laidTests := true, laidLooks := .later }
def FnEscapeLinkCardSaid : Prop := Claim7.holds Tryd.pinned (.plain (OpenSpec.ofChange fnEscapeLinkSpec)) fnEscapeLinkCard

/-- THE TIED CARD OF 'laws.FnDefinition'. -/
def fnDefinitionCard : Claim7 := { stood := { row := fnDefinitionRow, standIns := [], harness := (true, "46f50076868ab0bc32e54ca2eb80e9f22bf48d5c7374f77f65a22adf4ce5ff7b"), looks := true }, kinds := [], alts := [], laidByText := true, laidKinds := [.data, .data, .pinned], laidTests := true, laidLooks := .later }
def FnDefinitionCardSaid : Prop := Claim7.holds Tryd.pinned (.plain (OpenSpec.ofChange fnDefinitionSpec)) fnDefinitionCard

/-- THE SECOND FORM's CARD OF 'laws.FnEscapeLink'. -/
def fnEscapeLinkUptoCard : Claim7 := { stood := { row := fnEscapeLinkUptoRow, standIns := [], harness := (true, "46f50076868ab0bc32e54ca2eb80e9f22bf48d5c7374f77f65a22adf4ce5ff7b"), looks := true }, kinds := [], alts := [], laidByText := true, laidKinds := [.sentinel], laidTests := true, laidLooks := .later }
def FnEscapeLinkUptoCardSaid : Prop := Claim7.holds Tryd.pinned (.plain (OpenSpec.upto fnEscapeLinkSpec)) fnEscapeLinkUptoCard

/-- THE SECOND FORM's CARD OF 'laws.FnDefinition'. -/
def fnDefinitionUptoCard : Claim7 := { stood := { row := fnDefinitionUptoRow, standIns := [], harness := (true, "46f50076868ab0bc32e54ca2eb80e9f22bf48d5c7374f77f65a22adf4ce5ff7b"), looks := true }, kinds := [], alts := [], laidByText := true, laidKinds := [.data, .data, .pinned], laidTests := true, laidLooks := .later }
def FnDefinitionUptoCardSaid : Prop := Claim7.holds Tryd.pinned (.plain (OpenSpec.upto fnDefinitionSpec)) fnDefinitionUptoCard
end Rows
end Go.Proofs.YtpdpkggojlpklaaDoor
