/-
  NARROWER THAN 'FOR EVERY INPUT', by the rows' own cells (each row's printed sentence says how): FnUnescapeBack: laid · FnTitle: laid.
  DERIVED. THE GIVEN ROWS OF THIS SEAT. 2 by the template 'for every input the law returns true; each argument reads behind the call as it read before'; 0 by the template 'total and deterministic' (their statements: YtigeaoijcjidbaaDoorTotals.lean).
  GIVEN WITH THE SEED: the statements are not yours to turn. If you find one false, say at which input.
  Laid BY PROGRAM, IN A SANDBOX (cutbox-rows.mjs): the forced cells as the released guide's own fill.sh prints them over the translation 1576300b014a1a37… (all of the seat's roots in one cut). By AI agents, Wed Nov 11 2026. No macro, syntax, notation, axiom, sorry.
-/
import Derived.Test.YtigeaoijcjidbaaDoorChecked
import GoSem.Claim
import GoSem.ClaimJoined
import GoSem.ClaimMapViews
import Derived.JoinedTies
import Derived.KernelRfl
namespace Go.Proofs.YtigeaoijcjidbaaDoor
/- THE CELL 'sum', in the pinned program and in every row, IS THE sha256 OF THE DUMP (.gsa) THAT YtigeaoijcjidbaaDoorProg.lean LOADS. Nothing in Lean hashes anything: it is a label: what it is worth is what the hold of that sum in a sandbox is worth. -/
noncomputable def Tryd.pinned : Pinned := { name := "ytigeaoijcjidbaadoor", sum := "1576300b014a1a37b5d5ab269b219602b5dc8bb68ca60ea7eeedae2f6b1cd1c8", checked := Tryd.checked }
namespace Rows
def none {H : Type} : Left H := { results := [], args := [] }

/- WHAT THE LISTED PACKAGE-LEVEL VARIABLES READ AS WHEN THE CALL BEGINS. Each datum BY PROGRAM (the guide's laid-datum.mjs) off the statement by which the dump's own 'gosem.cut.vars' lays the variable. In a bare row this is a premise. The card (YtigeaoijcjidbaaDoorCards.lean) ties it to the program's text. -/
def laid_pub_paratext_pub_rscmarkdown_htmlEntities {H : Type} : DataW H := .agg [.agg [.lit (.string [38, 97, 109, 112, 59]), .lit (.string [38])], .agg [.lit (.string [38, 97, 112, 111, 115, 59]), .lit (.string [39])], .agg [.lit (.string [38, 99, 111, 112, 121, 59]), .lit (.string [194, 169])], .agg [.lit (.string [38, 102, 114, 97, 99, 51, 52, 59]), .lit (.string [194, 190])], .agg [.lit (.string [38, 103, 116, 59]), .lit (.string [62])], .agg [.lit (.string [38, 104, 101, 108, 108, 105, 112, 59]), .lit (.string [226, 128, 166])], .agg [.lit (.string [38, 108, 116, 59]), .lit (.string [60])], .agg [.lit (.string [38, 109, 100, 97, 115, 104, 59]), .lit (.string [226, 128, 148])], .agg [.lit (.string [38, 110, 98, 115, 112, 59]), .lit (.string [194, 160])], .agg [.lit (.string [38, 110, 100, 97, 115, 104, 59]), .lit (.string [226, 128, 147])], .agg [.lit (.string [38, 113, 117, 111, 116, 59]), .lit (.string [34])], .agg [.lit (.string [38, 114, 101, 103, 59]), .lit (.string [194, 174])]]

/-- 'laws.FnUnescapeBack': WHATEVER THE INPUT: true; the input reads as it did. -/
def fnUnescapeBackSpec : ChangeSpec := { name := "fnUnescapeBack", fn := fun _ => fun
  | [d] => { results := [.lit (.bool true)], args := [d] }
  | _ => none }
def fnUnescapeBackRow : OpenClaim := { program := "ytigeaoijcjidbaadoor", sum := "1576300b014a1a37b5d5ab269b219602b5dc8bb68ca60ea7eeedae2f6b1cd1c8", func := "pub-paratext/laws.FnUnescapeBack", spec := "fnUnescapeBack", inPlace := ["internal/abi.NoEscape"], named := ["pub-paratext/pub/rscmarkdown.htmlEntities"], apart := false, laid := [("pub-paratext/pub/rscmarkdown.htmlEntities", laid_pub_paratext_pub_rscmarkdown_htmlEntities)] }
def FnUnescapeBackSaid : Prop := fnUnescapeBackRow.holds Tryd.pinned (OpenSpec.ofChange fnUnescapeBackSpec)

/-- ITS FALSE NEIGHBOUR: 'it returns false'. Refute it at one input. -/
def fnUnescapeBackWrong : ChangeSpec := { name := "fnUnescapeBack", fn := fun _ => fun
  | [d] => { results := [.lit (.bool false)], args := [d] }
  | _ => none }
def FnUnescapeBackWrongFalsely : Prop := fnUnescapeBackRow.holds Tryd.pinned (OpenSpec.ofChange fnUnescapeBackWrong)

/-- 'laws.FnTitle': WHATEVER THE INPUT: true; the input reads as it did. -/
def fnTitleSpec : ChangeSpec := { name := "fnTitle", fn := fun _ => fun
  | [d1, d2] => { results := [.lit (.bool true)], args := [d1, d2] }
  | _ => none }
def fnTitleRow : OpenClaim := { program := "ytigeaoijcjidbaadoor", sum := "1576300b014a1a37b5d5ab269b219602b5dc8bb68ca60ea7eeedae2f6b1cd1c8", func := "pub-paratext/laws.FnTitle", spec := "fnTitle", inPlace := ["internal/abi.NoEscape"], named := ["pub-paratext/pub/rscmarkdown.htmlEntities"], apart := false, laid := [("pub-paratext/pub/rscmarkdown.htmlEntities", laid_pub_paratext_pub_rscmarkdown_htmlEntities)] }
def FnTitleSaid : Prop := fnTitleRow.holds Tryd.pinned (OpenSpec.ofChange fnTitleSpec)

/-- ITS FALSE NEIGHBOUR: 'it returns false'. Refute it at one input. -/
def fnTitleWrong : ChangeSpec := { name := "fnTitle", fn := fun _ => fun
  | [d1, d2] => { results := [.lit (.bool false)], args := [d1, d2] }
  | _ => none }
def FnTitleWrongFalsely : Prop := fnTitleRow.holds Tryd.pinned (OpenSpec.ofChange fnTitleWrong)

/- THE SECOND FORM. 'bulk': how many values and letters a reading holds, each counted each time it is reached (what is shared counts as often as it is met; a slice's spare places count too). A statement '..UptoSaid' is the law's where the arguments, and the package variables that the reading takes, are together of bulk at most 1048576: NARROWER than '..Said'. Prove '..Said' where nothing that the law and all that it calls make is longer than what came in: it says more and counts as full. Else prove '..UptoSaid'. A law counts once. -/
mutual
def uptoBulk {H : Type} : DataW H → Nat
  | .lit (.string bytes) => bytes.length + 1
  | .lit _ => 1
  | .nil => 1
  | .ptr d => uptoBulk d + 1
  | .slice elems spare => uptoBulkAll elems + uptoBulkAll spare + 1
  | .agg parts => uptoBulkAll parts + 1
  | .iface _ d => uptoBulk d + 1
  | .map entries => uptoBulkEntries entries + 1
  | .held _ => 1
def uptoBulkAll {H : Type} : List (DataW H) → Nat
  | [] => 0
  | d :: r => uptoBulk d + uptoBulkAll r
def uptoBulkEntries {H : Type} : List (Lit × DataW H) → Nat
  | [] => 0
  | x :: r => uptoBulkEntry x + uptoBulkEntries r
def uptoBulkEntry {H : Type} : Lit × DataW H → Nat
  | (.string bytes, d) => bytes.length + uptoBulk d + 1
  | (_, d) => uptoBulk d + 1
 end
def uptoSmall : (H : Type) → List (DataW H) → Bool := fun _ ds => decide (uptoBulkAll ds ≤ 1048576)
def OpenSpec.upto (s : _root_.Go.ChangeSpec) : _root_.Go.OpenSpec := { _root_.Go.OpenSpec.ofChange s with cond := some uptoSmall }

/-- 'laws.FnUnescapeBack', WHERE WHAT IT READS IS OF BULK AT MOST 1048576: true; the input reads as it did. -/
def fnUnescapeBackUptoRow : OpenClaim := { program := "ytigeaoijcjidbaadoor", sum := "1576300b014a1a37b5d5ab269b219602b5dc8bb68ca60ea7eeedae2f6b1cd1c8", func := "pub-paratext/laws.FnUnescapeBack", spec := "fnUnescapeBack", inPlace := ["internal/abi.NoEscape"], named := ["pub-paratext/pub/rscmarkdown.htmlEntities"], apart := false, laid := [("pub-paratext/pub/rscmarkdown.htmlEntities", laid_pub_paratext_pub_rscmarkdown_htmlEntities)], narrowed := true }
def FnUnescapeBackUptoSaid : Prop := fnUnescapeBackUptoRow.holds Tryd.pinned (OpenSpec.upto fnUnescapeBackSpec)

/-- 'laws.FnTitle', WHERE WHAT IT READS IS OF BULK AT MOST 1048576: true; the input reads as it did. -/
def fnTitleUptoRow : OpenClaim := { program := "ytigeaoijcjidbaadoor", sum := "1576300b014a1a37b5d5ab269b219602b5dc8bb68ca60ea7eeedae2f6b1cd1c8", func := "pub-paratext/laws.FnTitle", spec := "fnTitle", inPlace := ["internal/abi.NoEscape"], named := ["pub-paratext/pub/rscmarkdown.htmlEntities"], apart := false, laid := [("pub-paratext/pub/rscmarkdown.htmlEntities", laid_pub_paratext_pub_rscmarkdown_htmlEntities)], narrowed := true }
def FnTitleUptoSaid : Prop := fnTitleUptoRow.holds Tryd.pinned (OpenSpec.upto fnTitleSpec)

end Rows
end Go.Proofs.YtigeaoijcjidbaaDoor
