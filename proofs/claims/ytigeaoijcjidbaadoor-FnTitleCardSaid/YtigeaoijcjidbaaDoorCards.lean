/-
  DERIVED. GIVEN WITH THE SEED: THE CARDS: each row of YtigeaoijcjidbaaDoorRows.lean that lists a variable, with what it lists TIED to the program's text (the seventh form; the later family's looks); each row that meets fmt, with fmt's text TOLD by the authors' own Lean function (tested against real Go, not proved from fmt's source: count such statements apart). THE CARD IS WHAT COUNTS. Prove the row's statement (the work); the ties are given (YtigeaoijcjidbaaDoorTie.lean); close each card by the builder's one call (the guide's Derived/Test/ToyasCard.lean, 'card_holds'). Laid BY PROGRAM, IN A SANDBOX (cutbox-door.mjs). By AI agents, Wed Nov 11 2026. No macro, syntax, notation, axiom, sorry.
-/
import Derived.Test.YtigeaoijcjidbaaDoorRows
import GoSem.ClaimSeven
namespace Go.Proofs.YtigeaoijcjidbaaDoor
namespace Rows

/-- THE TIED CARD OF 'laws.FnUnescapeBack'. -/
def fnUnescapeBackCard : Claim7 := { stood := { row := fnUnescapeBackRow, standIns := [], harness := (true, "8529a19ba34f218389e71559dcdf54f985829aa05500a5b75d7ba30bf0a40142"), looks := false }, kinds := [], alts := [], laidByText := true, laidKinds := [.data], laidTests := true, laidLooks := .later }
def FnUnescapeBackCardSaid : Prop := Claim7.holds Tryd.pinned (.plain (OpenSpec.ofChange fnUnescapeBackSpec)) fnUnescapeBackCard

/-- THE TIED CARD OF 'laws.FnTitle'. -/
def fnTitleCard : Claim7 := { stood := { row := fnTitleRow, standIns := [], harness := (true, "8529a19ba34f218389e71559dcdf54f985829aa05500a5b75d7ba30bf0a40142"), looks := false }, kinds := [], alts := [], laidByText := true, laidKinds := [.data], laidTests := true, laidLooks := .later }
def FnTitleCardSaid : Prop := Claim7.holds Tryd.pinned (.plain (OpenSpec.ofChange fnTitleSpec)) fnTitleCard

/-- THE SECOND FORM's CARD OF 'laws.FnUnescapeBack'. -/
def fnUnescapeBackUptoCard : Claim7 := { stood := { row := fnUnescapeBackUptoRow, standIns := [], harness := (true, "8529a19ba34f218389e71559dcdf54f985829aa05500a5b75d7ba30bf0a40142"), looks := false }, kinds := [], alts := [], laidByText := true, laidKinds := [.data], laidTests := true, laidLooks := .later }
def FnUnescapeBackUptoCardSaid : Prop := Claim7.holds Tryd.pinned (.plain (OpenSpec.upto fnUnescapeBackSpec)) fnUnescapeBackUptoCard

/-- THE SECOND FORM's CARD OF 'laws.FnTitle'. -/
def fnTitleUptoCard : Claim7 := { stood := { row := fnTitleUptoRow, standIns := [], harness := (true, "8529a19ba34f218389e71559dcdf54f985829aa05500a5b75d7ba30bf0a40142"), looks := false }, kinds := [], alts := [], laidByText := true, laidKinds := [.data], laidTests := true, laidLooks := .later }
def FnTitleUptoCardSaid : Prop := Claim7.holds Tryd.pinned (.plain (OpenSpec.upto fnTitleSpec)) fnTitleUptoCard
end Rows
end Go.Proofs.YtigeaoijcjidbaaDoor
