/-
  NARROWER THAN 'FOR EVERY INPUT', by the rows' own cells (each row's printed sentence says how): FnEscapeLink: laid · FnDefinition: laid.
  DERIVED. THE GIVEN ROWS OF THIS SEAT. 2 by the template 'for every input the law returns true; each argument reads behind the call as it read before'; 0 by the template 'total and deterministic' (their statements: YtpdpkggojlpklaaDoorTotals.lean).
  GIVEN WITH THE SEED: the statements are not yours to turn. If you find one false, say at which input.
  Laid BY PROGRAM, IN A SANDBOX (cutbox-rows.mjs): the forced cells as the released guide's own fill.sh prints them over the translation e3d094e2a4b7428f… (all of the seat's roots in one cut). By AI agents, Wed Nov 11 2026. No macro, syntax, notation, axiom, sorry.
-/
import Derived.Test.YtpdpkggojlpklaaDoorChecked
import GoSem.PinnedTables
import GoSem.Claim
import GoSem.ClaimJoined
import GoSem.ClaimMapViews
import Derived.JoinedTies
import Derived.KernelRfl
namespace Go.Proofs.YtpdpkggojlpklaaDoor
/- THE CELL 'sum', in the pinned program and in every row, IS THE sha256 OF THE DUMP (.gsa) THAT YtpdpkggojlpklaaDoorProg.lean LOADS. Nothing in Lean hashes anything: it is a label: what it is worth is what the hold of that sum in a sandbox is worth. -/
noncomputable def Tryd.pinned : Pinned := { name := "ytpdpkggojlpklaadoor", sum := "e3d094e2a4b7428f77f764a0439fa87891db21fb6a8544b9fd3a478333caa4b2", checked := Tryd.checked }
namespace Rows
def none {H : Type} : Left H := { results := [], args := [] }

/- WHAT THE LISTED PACKAGE-LEVEL VARIABLES READ AS WHEN THE CALL BEGINS. Each datum BY PROGRAM (the guide's laid-datum.mjs) off the statement by which the dump's own 'gosem.cut.vars' lays the variable. In a bare row this is a premise. The card (YtpdpkggojlpklaaDoorCards.lean) ties it to the program's text. -/
def laid_bytes_ErrTooLarge {H : Type} : DataW H := .iface "*errors.errorString" (.ptr (.agg [.lit (.string [98, 121, 116, 101, 115, 46, 66, 117, 102, 102, 101, 114, 58, 32, 116, 111, 111, 32, 108, 97, 114, 103, 101])]))
def laid_unicode_utf8_acceptRanges {H : Type} : DataW H := .agg [.agg [.lit (.int .u8 128), .lit (.int .u8 191)], .agg [.lit (.int .u8 160), .lit (.int .u8 191)], .agg [.lit (.int .u8 128), .lit (.int .u8 159)], .agg [.lit (.int .u8 144), .lit (.int .u8 191)], .agg [.lit (.int .u8 128), .lit (.int .u8 143)], .agg [.lit (.int .u8 0), .lit (.int .u8 0)], .agg [.lit (.int .u8 0), .lit (.int .u8 0)], .agg [.lit (.int .u8 0), .lit (.int .u8 0)], .agg [.lit (.int .u8 0), .lit (.int .u8 0)], .agg [.lit (.int .u8 0), .lit (.int .u8 0)], .agg [.lit (.int .u8 0), .lit (.int .u8 0)], .agg [.lit (.int .u8 0), .lit (.int .u8 0)], .agg [.lit (.int .u8 0), .lit (.int .u8 0)], .agg [.lit (.int .u8 0), .lit (.int .u8 0)], .agg [.lit (.int .u8 0), .lit (.int .u8 0)], .agg [.lit (.int .u8 0), .lit (.int .u8 0)]]
def laid_pub_paratext_pub_rscmarkdown_htmlEntities {H : Type} : DataW H := .agg [.agg [.lit (.string [38, 97, 109, 112, 59]), .lit (.string [38])], .agg [.lit (.string [38, 97, 112, 111, 115, 59]), .lit (.string [39])], .agg [.lit (.string [38, 99, 111, 112, 121, 59]), .lit (.string [194, 169])], .agg [.lit (.string [38, 102, 114, 97, 99, 51, 52, 59]), .lit (.string [194, 190])], .agg [.lit (.string [38, 103, 116, 59]), .lit (.string [62])], .agg [.lit (.string [38, 104, 101, 108, 108, 105, 112, 59]), .lit (.string [226, 128, 166])], .agg [.lit (.string [38, 108, 116, 59]), .lit (.string [60])], .agg [.lit (.string [38, 109, 100, 97, 115, 104, 59]), .lit (.string [226, 128, 148])], .agg [.lit (.string [38, 110, 98, 115, 112, 59]), .lit (.string [194, 160])], .agg [.lit (.string [38, 110, 100, 97, 115, 104, 59]), .lit (.string [226, 128, 147])], .agg [.lit (.string [38, 113, 117, 111, 116, 59]), .lit (.string [34])], .agg [.lit (.string [38, 114, 101, 103, 59]), .lit (.string [194, 174])]]
/-- One of Go's own tables, pinned by name: the form's constant. -/
def laid_unicode_utf8_first : DataW Unit := Go.Pinned.utf8First

/-- 'laws.FnEscapeLink': WHATEVER THE INPUT: true; the input reads as it did. -/
def fnEscapeLinkSpec : ChangeSpec := { name := "fnEscapeLink", fn := fun _ => fun
  | [d1, d2] => { results := [.lit (.bool true)], args := [d1, d2] }
  | _ => none }
def fnEscapeLinkRow : OpenClaim := { program := "ytpdpkggojlpklaadoor", sum := "e3d094e2a4b7428f77f764a0439fa87891db21fb6a8544b9fd3a478333caa4b2", func := "pub-paratext/laws.FnEscapeLink", spec := "fnEscapeLink", named := ["bytes.ErrTooLarge"], apart := false, laid := [("bytes.ErrTooLarge", laid_bytes_ErrTooLarge)] }
def FnEscapeLinkSaid : Prop := fnEscapeLinkRow.holds Tryd.pinned (OpenSpec.ofChange fnEscapeLinkSpec)

/-- ITS FALSE NEIGHBOUR: 'it returns false'. Refute it at one input. -/
def fnEscapeLinkWrong : ChangeSpec := { name := "fnEscapeLink", fn := fun _ => fun
  | [d1, d2] => { results := [.lit (.bool false)], args := [d1, d2] }
  | _ => none }
def FnEscapeLinkWrongFalsely : Prop := fnEscapeLinkRow.holds Tryd.pinned (OpenSpec.ofChange fnEscapeLinkWrong)

/-- 'laws.FnDefinition': WHATEVER THE INPUT: true; the input reads as it did. -/
def fnDefinitionSpec : ChangeSpec := { name := "fnDefinition", fn := fun _ => fun
  | [d1, d2, d3, d4] => { results := [.lit (.bool true)], args := [d1, d2, d3, d4] }
  | _ => none }
def fnDefinitionRow : OpenClaim := { program := "ytpdpkggojlpklaadoor", sum := "e3d094e2a4b7428f77f764a0439fa87891db21fb6a8544b9fd3a478333caa4b2", func := "pub-paratext/laws.FnDefinition", spec := "fnDefinition", inPlace := ["internal/bytealg.IndexByteString", "internal/abi.NoEscape"], unfollowed := true, recurses := true, named := ["pub-paratext/pub/rscmarkdown.htmlEntities", "unicode/utf8.first", "unicode/utf8.acceptRanges"], apart := false, laid := [("unicode/utf8.acceptRanges", laid_unicode_utf8_acceptRanges), ("pub-paratext/pub/rscmarkdown.htmlEntities", laid_pub_paratext_pub_rscmarkdown_htmlEntities), ("unicode/utf8.first", laid_unicode_utf8_first)] }
def FnDefinitionSaid : Prop := fnDefinitionRow.holds Tryd.pinned (OpenSpec.ofChange fnDefinitionSpec)

/-- ITS FALSE NEIGHBOUR: 'it returns false'. Refute it at one input. -/
def fnDefinitionWrong : ChangeSpec := { name := "fnDefinition", fn := fun _ => fun
  | [d1, d2, d3, d4] => { results := [.lit (.bool false)], args := [d1, d2, d3, d4] }
  | _ => none }
def FnDefinitionWrongFalsely : Prop := fnDefinitionRow.holds Tryd.pinned (OpenSpec.ofChange fnDefinitionWrong)

/- THE SECOND FORM. 'bulk': how many values and letters a reading holds, each counted each time it is reached (what is shared counts as often as it is met; a slice's spare places count too). A statement '..UptoSaid' is the law's where the arguments, and the package variables that the reading takes, are together of bulk at most 1048576: NARROWER than '..Said'. Prove '..Said' where nothing that the law and all that it calls make is longer than what came in: it says more and counts as full. Else prove '..UptoSaid'. A law counts once. -/
mutual
def uptoBulk {H : Type} : DataW H → Nat
  | .lit (.string bytes) => bytes.length + 1
  | .lit _ => 1
  | .nil => 1
  | .ptr d => uptoBulk d + 1
  | .slice elems spare => uptoBulkAll elems + uptoBulkAll spare + 1
  | .agg parts => uptoBulkAll parts + 1
  | .iface _ d => uptoBulk d + 1
  | .map entries => uptoBulkEntries entries + 1
  | .held _ => 1
def uptoBulkAll {H : Type} : List (DataW H) → Nat
  | [] => 0
  | d :: r => uptoBulk d + uptoBulkAll r
def uptoBulkEntries {H : Type} : List (Lit × DataW H) → Nat
  | [] => 0
  | x :: r => uptoBulkEntry x + uptoBulkEntries r
def uptoBulkEntry {H : Type} : Lit × DataW H → Nat
  | (.string bytes, d) => bytes.length + uptoBulk d + 1
  | (_, d) => uptoBulk d + 1
 end
def uptoSmall : (H : Type) → List (DataW H) → Bool := fun _ ds => decide (uptoBulkAll ds ≤ 1048576)
def OpenSpec.upto (s : _root_.Go.ChangeSpec) : _root_.Go.OpenSpec := { _root_.Go.OpenSpec.ofChange s with cond := some uptoSmall }

/-- 'laws.FnEscapeLink', WHERE WHAT IT READS IS OF BULK AT MOST 1048576: true; the input reads as it did. -/
def fnEscapeLinkUptoRow : OpenClaim := { program := "ytpdpkggojlpklaadoor", sum := "e3d094e2a4b7428f77f764a0439fa87891db21fb6a8544b9fd3a478333caa4b2", func := "pub-paratext/laws.FnEscapeLink", spec := "fnEscapeLink", named := ["bytes.ErrTooLarge"], apart := false, laid := [("bytes.ErrTooLarge", laid_bytes_ErrTooLarge)], narrowed := true }
def FnEscapeLinkUptoSaid : Prop := fnEscapeLinkUptoRow.holds Tryd.pinned (OpenSpec.upto fnEscapeLinkSpec)

/-- 'laws.FnDefinition', WHERE WHAT IT READS IS OF BULK AT MOST 1048576: true; the input reads as it did. -/
def fnDefinitionUptoRow : OpenClaim := { program := "ytpdpkggojlpklaadoor", sum := "e3d094e2a4b7428f77f764a0439fa87891db21fb6a8544b9fd3a478333caa4b2", func := "pub-paratext/laws.FnDefinition", spec := "fnDefinition", inPlace := ["internal/bytealg.IndexByteString", "internal/abi.NoEscape"], unfollowed := true, recurses := true, named := ["pub-paratext/pub/rscmarkdown.htmlEntities", "unicode/utf8.first", "unicode/utf8.acceptRanges"], apart := false, laid := [("unicode/utf8.acceptRanges", laid_unicode_utf8_acceptRanges), ("pub-paratext/pub/rscmarkdown.htmlEntities", laid_pub_paratext_pub_rscmarkdown_htmlEntities), ("unicode/utf8.first", laid_unicode_utf8_first)], narrowed := true }
def FnDefinitionUptoSaid : Prop := fnDefinitionUptoRow.holds Tryd.pinned (OpenSpec.upto fnDefinitionSpec)

end Rows
end Go.Proofs.YtpdpkggojlpklaaDoor
