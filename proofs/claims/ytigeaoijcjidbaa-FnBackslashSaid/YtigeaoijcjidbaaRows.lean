/-
  No cell of these rows narrows 'for every input' (looked for: loops, veiled, ifaces, maps, wideKeys, modest, calm, conditions, laid).
  DERIVED. THE GIVEN ROWS OF THIS SEAT. 10 by the template 'for every input the law returns true; each argument reads behind the call as it read before'; 0 by the template 'total and deterministic' (their statements: YtigeaoijcjidbaaTotals.lean).
  GIVEN WITH THE SEED: the statements are not yours to turn. If you find one false, say at which input.
  Laid BY PROGRAM, IN A SANDBOX (cutbox-rows.mjs): the forced cells as the released guide's own fill.sh prints them over the translation 5cc797319271a5f1… (all of the seat's roots in one cut). By AI agents, Wed Nov 11 2026. No macro, syntax, notation, axiom, sorry.
-/
import Derived.Test.YtigeaoijcjidbaaChecked
import GoSem.Claim
import GoSem.ClaimJoined
import GoSem.ClaimMapViews
import Derived.JoinedTies
import Derived.KernelRfl
namespace Go.Proofs.Ytigeaoijcjidbaa
/- THE CELL 'sum', in the pinned program and in every row, IS THE sha256 OF THE DUMP (.gsa) THAT YtigeaoijcjidbaaProg.lean LOADS. Nothing in Lean hashes anything: it is a label: what it is worth is what the hold of that sum in a sandbox is worth. -/
noncomputable def Try.pinned : Pinned := { name := "ytigeaoijcjidbaa", sum := "5cc797319271a5f19b049a5729c0ff1a71883ec025dc2002213ee9417f46381a", checked := Try.checked }
namespace Rows
def none {H : Type} : Left H := { results := [], args := [] }

/-- 'laws.FnURL': WHATEVER THE INPUT: true; the input reads as it did. -/
def fnURLSpec : ChangeSpec := { name := "fnURL", fn := fun _ => fun
  | [d] => { results := [.lit (.bool true)], args := [d] }
  | _ => none }
def fnURLRow : OpenClaim := { program := "ytigeaoijcjidbaa", sum := "5cc797319271a5f19b049a5729c0ff1a71883ec025dc2002213ee9417f46381a", func := "pub-paratext/laws.FnURL", spec := "fnURL", apart := false }
def FnURLSaid : Prop := fnURLRow.holds Try.pinned (OpenSpec.ofChange fnURLSpec)

/-- ITS FALSE NEIGHBOUR: 'it returns false'. Refute it at one input. -/
def fnURLWrong : ChangeSpec := { name := "fnURL", fn := fun _ => fun
  | [d] => { results := [.lit (.bool false)], args := [d] }
  | _ => none }
def FnURLWrongFalsely : Prop := fnURLRow.holds Try.pinned (OpenSpec.ofChange fnURLWrong)

/-- 'laws.FnAttrName': WHATEVER THE INPUT: true; the input reads as it did. -/
def fnAttrNameSpec : ChangeSpec := { name := "fnAttrName", fn := fun _ => fun
  | [d1, d2] => { results := [.lit (.bool true)], args := [d1, d2] }
  | _ => none }
def fnAttrNameRow : OpenClaim := { program := "ytigeaoijcjidbaa", sum := "5cc797319271a5f19b049a5729c0ff1a71883ec025dc2002213ee9417f46381a", func := "pub-paratext/laws.FnAttrName", spec := "fnAttrName", apart := false }
def FnAttrNameSaid : Prop := fnAttrNameRow.holds Try.pinned (OpenSpec.ofChange fnAttrNameSpec)

/-- ITS FALSE NEIGHBOUR: 'it returns false'. Refute it at one input. -/
def fnAttrNameWrong : ChangeSpec := { name := "fnAttrName", fn := fun _ => fun
  | [d1, d2] => { results := [.lit (.bool false)], args := [d1, d2] }
  | _ => none }
def FnAttrNameWrongFalsely : Prop := fnAttrNameRow.holds Try.pinned (OpenSpec.ofChange fnAttrNameWrong)

/-- 'laws.FnTableAlign': WHATEVER THE INPUT: true; the input reads as it did. -/
def fnTableAlignSpec : ChangeSpec := { name := "fnTableAlign", fn := fun _ => fun
  | [d1, d2, d3] => { results := [.lit (.bool true)], args := [d1, d2, d3] }
  | _ => none }
def fnTableAlignRow : OpenClaim := { program := "ytigeaoijcjidbaa", sum := "5cc797319271a5f19b049a5729c0ff1a71883ec025dc2002213ee9417f46381a", func := "pub-paratext/laws.FnTableAlign", spec := "fnTableAlign", apart := false }
def FnTableAlignSaid : Prop := fnTableAlignRow.holds Try.pinned (OpenSpec.ofChange fnTableAlignSpec)

/-- ITS FALSE NEIGHBOUR: 'it returns false'. Refute it at one input. -/
def fnTableAlignWrong : ChangeSpec := { name := "fnTableAlign", fn := fun _ => fun
  | [d1, d2, d3] => { results := [.lit (.bool false)], args := [d1, d2, d3] }
  | _ => none }
def FnTableAlignWrongFalsely : Prop := fnTableAlignRow.holds Try.pinned (OpenSpec.ofChange fnTableAlignWrong)

/-- 'laws.FnTableOuter': WHATEVER THE INPUT: true; the input reads as it did. -/
def fnTableOuterSpec : ChangeSpec := { name := "fnTableOuter", fn := fun _ => fun
  | [d] => { results := [.lit (.bool true)], args := [d] }
  | _ => none }
def fnTableOuterRow : OpenClaim := { program := "ytigeaoijcjidbaa", sum := "5cc797319271a5f19b049a5729c0ff1a71883ec025dc2002213ee9417f46381a", func := "pub-paratext/laws.FnTableOuter", spec := "fnTableOuter", inPlace := ["internal/bytealg.IndexByteString"], unfollowed := true, recurses := true, apart := false }
def FnTableOuterSaid : Prop := fnTableOuterRow.holds Try.pinned (OpenSpec.ofChange fnTableOuterSpec)

/-- ITS FALSE NEIGHBOUR: 'it returns false'. Refute it at one input. -/
def fnTableOuterWrong : ChangeSpec := { name := "fnTableOuter", fn := fun _ => fun
  | [d] => { results := [.lit (.bool false)], args := [d] }
  | _ => none }
def FnTableOuterWrongFalsely : Prop := fnTableOuterRow.holds Try.pinned (OpenSpec.ofChange fnTableOuterWrong)

/-- 'laws.FnClasses': WHATEVER THE INPUT: true; the input reads as it did. -/
def fnClassesSpec : ChangeSpec := { name := "fnClasses", fn := fun _ => fun
  | [d] => { results := [.lit (.bool true)], args := [d] }
  | _ => none }
def fnClassesRow : OpenClaim := { program := "ytigeaoijcjidbaa", sum := "5cc797319271a5f19b049a5729c0ff1a71883ec025dc2002213ee9417f46381a", func := "pub-paratext/laws.FnClasses", spec := "fnClasses", apart := false }
def FnClassesSaid : Prop := fnClassesRow.holds Try.pinned (OpenSpec.ofChange fnClassesSpec)

/-- ITS FALSE NEIGHBOUR: 'it returns false'. Refute it at one input. -/
def fnClassesWrong : ChangeSpec := { name := "fnClasses", fn := fun _ => fun
  | [d] => { results := [.lit (.bool false)], args := [d] }
  | _ => none }
def FnClassesWrongFalsely : Prop := fnClassesRow.holds Try.pinned (OpenSpec.ofChange fnClassesWrong)

/-- 'laws.FnLineTrimEnd': WHATEVER THE INPUT: true; the input reads as it did. -/
def fnLineTrimEndSpec : ChangeSpec := { name := "fnLineTrimEnd", fn := fun _ => fun
  | [d1, d2, d3] => { results := [.lit (.bool true)], args := [d1, d2, d3] }
  | _ => none }
def fnLineTrimEndRow : OpenClaim := { program := "ytigeaoijcjidbaa", sum := "5cc797319271a5f19b049a5729c0ff1a71883ec025dc2002213ee9417f46381a", func := "pub-paratext/laws.FnLineTrimEnd", spec := "fnLineTrimEnd", inPlace := ["internal/bytealg.IndexByteString"], apart := false }
def FnLineTrimEndSaid : Prop := fnLineTrimEndRow.holds Try.pinned (OpenSpec.ofChange fnLineTrimEndSpec)

/-- ITS FALSE NEIGHBOUR: 'it returns false'. Refute it at one input. -/
def fnLineTrimEndWrong : ChangeSpec := { name := "fnLineTrimEnd", fn := fun _ => fun
  | [d1, d2, d3] => { results := [.lit (.bool false)], args := [d1, d2, d3] }
  | _ => none }
def FnLineTrimEndWrongFalsely : Prop := fnLineTrimEndRow.holds Try.pinned (OpenSpec.ofChange fnLineTrimEndWrong)

/-- 'laws.FnLabel': WHATEVER THE INPUT: true; the input reads as it did. -/
def fnLabelSpec : ChangeSpec := { name := "fnLabel", fn := fun _ => fun
  | [d1, d2] => { results := [.lit (.bool true)], args := [d1, d2] }
  | _ => none }
def fnLabelRow : OpenClaim := { program := "ytigeaoijcjidbaa", sum := "5cc797319271a5f19b049a5729c0ff1a71883ec025dc2002213ee9417f46381a", func := "pub-paratext/laws.FnLabel", spec := "fnLabel", apart := false }
def FnLabelSaid : Prop := fnLabelRow.holds Try.pinned (OpenSpec.ofChange fnLabelSpec)

/-- ITS FALSE NEIGHBOUR: 'it returns false'. Refute it at one input. -/
def fnLabelWrong : ChangeSpec := { name := "fnLabel", fn := fun _ => fun
  | [d1, d2] => { results := [.lit (.bool false)], args := [d1, d2] }
  | _ => none }
def FnLabelWrongFalsely : Prop := fnLabelRow.holds Try.pinned (OpenSpec.ofChange fnLabelWrong)

/-- 'laws.FnValueSpec': WHATEVER THE INPUT: true; the input reads as it did. -/
def fnValueSpecSpec : ChangeSpec := { name := "fnValueSpec", fn := fun _ => fun
  | [d1, d2] => { results := [.lit (.bool true)], args := [d1, d2] }
  | _ => none }
def fnValueSpecRow : OpenClaim := { program := "ytigeaoijcjidbaa", sum := "5cc797319271a5f19b049a5729c0ff1a71883ec025dc2002213ee9417f46381a", func := "pub-paratext/laws.FnValueSpec", spec := "fnValueSpec", inPlace := ["internal/bytealg.IndexByteString"], apart := false }
def FnValueSpecSaid : Prop := fnValueSpecRow.holds Try.pinned (OpenSpec.ofChange fnValueSpecSpec)

/-- ITS FALSE NEIGHBOUR: 'it returns false'. Refute it at one input. -/
def fnValueSpecWrong : ChangeSpec := { name := "fnValueSpec", fn := fun _ => fun
  | [d1, d2] => { results := [.lit (.bool false)], args := [d1, d2] }
  | _ => none }
def FnValueSpecWrongFalsely : Prop := fnValueSpecRow.holds Try.pinned (OpenSpec.ofChange fnValueSpecWrong)

/-- 'laws.FnTrims': WHATEVER THE INPUT: true; the input reads as it did. -/
def fnTrimsSpec : ChangeSpec := { name := "fnTrims", fn := fun _ => fun
  | [d] => { results := [.lit (.bool true)], args := [d] }
  | _ => none }
def fnTrimsRow : OpenClaim := { program := "ytigeaoijcjidbaa", sum := "5cc797319271a5f19b049a5729c0ff1a71883ec025dc2002213ee9417f46381a", func := "pub-paratext/laws.FnTrims", spec := "fnTrims", inPlace := ["internal/bytealg.IndexByteString"], unfollowed := true, recurses := true, apart := false }
def FnTrimsSaid : Prop := fnTrimsRow.holds Try.pinned (OpenSpec.ofChange fnTrimsSpec)

/-- ITS FALSE NEIGHBOUR: 'it returns false'. Refute it at one input. -/
def fnTrimsWrong : ChangeSpec := { name := "fnTrims", fn := fun _ => fun
  | [d] => { results := [.lit (.bool false)], args := [d] }
  | _ => none }
def FnTrimsWrongFalsely : Prop := fnTrimsRow.holds Try.pinned (OpenSpec.ofChange fnTrimsWrong)

/-- 'laws.FnBackslash': WHATEVER THE INPUT: true; the input reads as it did. -/
def fnBackslashSpec : ChangeSpec := { name := "fnBackslash", fn := fun _ => fun
  | [d1, d2] => { results := [.lit (.bool true)], args := [d1, d2] }
  | _ => none }
def fnBackslashRow : OpenClaim := { program := "ytigeaoijcjidbaa", sum := "5cc797319271a5f19b049a5729c0ff1a71883ec025dc2002213ee9417f46381a", func := "pub-paratext/laws.FnBackslash", spec := "fnBackslash", recurses := true, apart := false }
def FnBackslashSaid : Prop := fnBackslashRow.holds Try.pinned (OpenSpec.ofChange fnBackslashSpec)

/-- ITS FALSE NEIGHBOUR: 'it returns false'. Refute it at one input. -/
def fnBackslashWrong : ChangeSpec := { name := "fnBackslash", fn := fun _ => fun
  | [d1, d2] => { results := [.lit (.bool false)], args := [d1, d2] }
  | _ => none }
def FnBackslashWrongFalsely : Prop := fnBackslashRow.holds Try.pinned (OpenSpec.ofChange fnBackslashWrong)

/- THE SECOND FORM. 'bulk': how many values and letters a reading holds, each counted each time it is reached (what is shared counts as often as it is met; a slice's spare places count too). A statement '..UptoSaid' is the law's where the arguments, and the package variables that the reading takes, are together of bulk at most 1048576: NARROWER than '..Said'. Prove '..Said' where nothing that the law and all that it calls make is longer than what came in: it says more and counts as full. Else prove '..UptoSaid'. A law counts once. -/
mutual
def uptoBulk {H : Type} : DataW H → Nat
  | .lit (.string bytes) => bytes.length + 1
  | .lit _ => 1
  | .nil => 1
  | .ptr d => uptoBulk d + 1
  | .slice elems spare => uptoBulkAll elems + uptoBulkAll spare + 1
  | .agg parts => uptoBulkAll parts + 1
  | .iface _ d => uptoBulk d + 1
  | .map entries => uptoBulkEntries entries + 1
  | .held _ => 1
def uptoBulkAll {H : Type} : List (DataW H) → Nat
  | [] => 0
  | d :: r => uptoBulk d + uptoBulkAll r
def uptoBulkEntries {H : Type} : List (Lit × DataW H) → Nat
  | [] => 0
  | x :: r => uptoBulkEntry x + uptoBulkEntries r
def uptoBulkEntry {H : Type} : Lit × DataW H → Nat
  | (.string bytes, d) => bytes.length + uptoBulk d + 1
  | (_, d) => uptoBulk d + 1
 end
def uptoSmall : (H : Type) → List (DataW H) → Bool := fun _ ds => decide (uptoBulkAll ds ≤ 1048576)
def OpenSpec.upto (s : _root_.Go.ChangeSpec) : _root_.Go.OpenSpec := { _root_.Go.OpenSpec.ofChange s with cond := some uptoSmall }

/-- 'laws.FnURL', WHERE WHAT IT READS IS OF BULK AT MOST 1048576: true; the input reads as it did. -/
def fnURLUptoRow : OpenClaim := { program := "ytigeaoijcjidbaa", sum := "5cc797319271a5f19b049a5729c0ff1a71883ec025dc2002213ee9417f46381a", func := "pub-paratext/laws.FnURL", spec := "fnURL", apart := false, narrowed := true }
def FnURLUptoSaid : Prop := fnURLUptoRow.holds Try.pinned (OpenSpec.upto fnURLSpec)

/-- 'laws.FnAttrName', WHERE WHAT IT READS IS OF BULK AT MOST 1048576: true; the input reads as it did. -/
def fnAttrNameUptoRow : OpenClaim := { program := "ytigeaoijcjidbaa", sum := "5cc797319271a5f19b049a5729c0ff1a71883ec025dc2002213ee9417f46381a", func := "pub-paratext/laws.FnAttrName", spec := "fnAttrName", apart := false, narrowed := true }
def FnAttrNameUptoSaid : Prop := fnAttrNameUptoRow.holds Try.pinned (OpenSpec.upto fnAttrNameSpec)

/-- 'laws.FnTableAlign', WHERE WHAT IT READS IS OF BULK AT MOST 1048576: true; the input reads as it did. -/
def fnTableAlignUptoRow : OpenClaim := { program := "ytigeaoijcjidbaa", sum := "5cc797319271a5f19b049a5729c0ff1a71883ec025dc2002213ee9417f46381a", func := "pub-paratext/laws.FnTableAlign", spec := "fnTableAlign", apart := false, narrowed := true }
def FnTableAlignUptoSaid : Prop := fnTableAlignUptoRow.holds Try.pinned (OpenSpec.upto fnTableAlignSpec)

/-- 'laws.FnTableOuter', WHERE WHAT IT READS IS OF BULK AT MOST 1048576: true; the input reads as it did. -/
def fnTableOuterUptoRow : OpenClaim := { program := "ytigeaoijcjidbaa", sum := "5cc797319271a5f19b049a5729c0ff1a71883ec025dc2002213ee9417f46381a", func := "pub-paratext/laws.FnTableOuter", spec := "fnTableOuter", inPlace := ["internal/bytealg.IndexByteString"], unfollowed := true, recurses := true, apart := false, narrowed := true }
def FnTableOuterUptoSaid : Prop := fnTableOuterUptoRow.holds Try.pinned (OpenSpec.upto fnTableOuterSpec)

/-- 'laws.FnClasses', WHERE WHAT IT READS IS OF BULK AT MOST 1048576: true; the input reads as it did. -/
def fnClassesUptoRow : OpenClaim := { program := "ytigeaoijcjidbaa", sum := "5cc797319271a5f19b049a5729c0ff1a71883ec025dc2002213ee9417f46381a", func := "pub-paratext/laws.FnClasses", spec := "fnClasses", apart := false, narrowed := true }
def FnClassesUptoSaid : Prop := fnClassesUptoRow.holds Try.pinned (OpenSpec.upto fnClassesSpec)

/-- 'laws.FnLineTrimEnd', WHERE WHAT IT READS IS OF BULK AT MOST 1048576: true; the input reads as it did. -/
def fnLineTrimEndUptoRow : OpenClaim := { program := "ytigeaoijcjidbaa", sum := "5cc797319271a5f19b049a5729c0ff1a71883ec025dc2002213ee9417f46381a", func := "pub-paratext/laws.FnLineTrimEnd", spec := "fnLineTrimEnd", inPlace := ["internal/bytealg.IndexByteString"], apart := false, narrowed := true }
def FnLineTrimEndUptoSaid : Prop := fnLineTrimEndUptoRow.holds Try.pinned (OpenSpec.upto fnLineTrimEndSpec)

/-- 'laws.FnLabel', WHERE WHAT IT READS IS OF BULK AT MOST 1048576: true; the input reads as it did. -/
def fnLabelUptoRow : OpenClaim := { program := "ytigeaoijcjidbaa", sum := "5cc797319271a5f19b049a5729c0ff1a71883ec025dc2002213ee9417f46381a", func := "pub-paratext/laws.FnLabel", spec := "fnLabel", apart := false, narrowed := true }
def FnLabelUptoSaid : Prop := fnLabelUptoRow.holds Try.pinned (OpenSpec.upto fnLabelSpec)

/-- 'laws.FnValueSpec', WHERE WHAT IT READS IS OF BULK AT MOST 1048576: true; the input reads as it did. -/
def fnValueSpecUptoRow : OpenClaim := { program := "ytigeaoijcjidbaa", sum := "5cc797319271a5f19b049a5729c0ff1a71883ec025dc2002213ee9417f46381a", func := "pub-paratext/laws.FnValueSpec", spec := "fnValueSpec", inPlace := ["internal/bytealg.IndexByteString"], apart := false, narrowed := true }
def FnValueSpecUptoSaid : Prop := fnValueSpecUptoRow.holds Try.pinned (OpenSpec.upto fnValueSpecSpec)

/-- 'laws.FnTrims', WHERE WHAT IT READS IS OF BULK AT MOST 1048576: true; the input reads as it did. -/
def fnTrimsUptoRow : OpenClaim := { program := "ytigeaoijcjidbaa", sum := "5cc797319271a5f19b049a5729c0ff1a71883ec025dc2002213ee9417f46381a", func := "pub-paratext/laws.FnTrims", spec := "fnTrims", inPlace := ["internal/bytealg.IndexByteString"], unfollowed := true, recurses := true, apart := false, narrowed := true }
def FnTrimsUptoSaid : Prop := fnTrimsUptoRow.holds Try.pinned (OpenSpec.upto fnTrimsSpec)

/-- 'laws.FnBackslash', WHERE WHAT IT READS IS OF BULK AT MOST 1048576: true; the input reads as it did. -/
def fnBackslashUptoRow : OpenClaim := { program := "ytigeaoijcjidbaa", sum := "5cc797319271a5f19b049a5729c0ff1a71883ec025dc2002213ee9417f46381a", func := "pub-paratext/laws.FnBackslash", spec := "fnBackslash", recurses := true, apart := false, narrowed := true }
def FnBackslashUptoSaid : Prop := fnBackslashUptoRow.holds Try.pinned (OpenSpec.upto fnBackslashSpec)

end Rows
end Go.Proofs.Ytigeaoijcjidbaa
