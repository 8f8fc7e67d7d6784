/-
  NARROWER THAN 'FOR EVERY INPUT', by the rows' own cells (each row's printed sentence says how): PropParseEdgeLineIsEdgeLineGrammar: laid · PropMapAnswersAsPartialFunction: laid · PropMapCellsKeepProbeInvariant: laid.
  DERIVED. THE GIVEN ROWS OF THIS SEAT. 4 by the template 'for every input the law returns true; each argument reads behind the call as it read before'; 0 by the template 'total and deterministic' (their statements: Qxb6003863aFmtTotals.lean).
  GIVEN WITH THE SEED: the statements are not yours to turn. If you find one false, say at which input.
  Laid BY PROGRAM, IN A SANDBOX (cutbox-rows.mjs): the forced cells as the released guide's own fill.sh prints them over the translation 8aeaceedd2208045… (all of the seat's roots in one cut). By AI agents, Wed Nov 11 2026. No macro, syntax, notation, axiom, sorry.
-/
import Derived.Test.Qxb6003863aFmtChecked
import GoSem.PinnedTables
import GoSem.Claim
import GoSem.ClaimJoined
import GoSem.ClaimMapViews
import Derived.JoinedTies
import Derived.KernelRfl
namespace Go.Proofs.Qxb6003863aFmt
/- THE CELL 'sum', in the pinned program and in every row, IS THE sha256 OF THE DUMP (.gsa) THAT Qxb6003863aFmtProg.lean LOADS. Nothing in Lean hashes anything: it is a label: what it is worth is what the hold of that sum in a sandbox is worth. -/
noncomputable def Tryf.pinned : Pinned := { name := "qxb6003863afmt", sum := "8aeaceedd220804545d58b1f0a92a669837776c5a4e2367bbb73539ea1575298", checked := Tryf.checked }
namespace Rows
def none {H : Type} : Left H := { results := [], args := [] }

/- WHAT THE LISTED PACKAGE-LEVEL VARIABLES READ AS WHEN THE CALL BEGINS. Each datum BY PROGRAM (the guide's laid-datum.mjs) off the statement by which the dump's own 'gosem.cut.vars' lays the variable. In a bare row this is a premise. The card (Qxb6003863aFmtCards.lean) ties it to the program's text. -/
def laid_unicode_utf8_acceptRanges {H : Type} : DataW H := .agg [.agg [.lit (.int .u8 128), .lit (.int .u8 191)], .agg [.lit (.int .u8 160), .lit (.int .u8 191)], .agg [.lit (.int .u8 128), .lit (.int .u8 159)], .agg [.lit (.int .u8 144), .lit (.int .u8 191)], .agg [.lit (.int .u8 128), .lit (.int .u8 143)], .agg [.lit (.int .u8 0), .lit (.int .u8 0)], .agg [.lit (.int .u8 0), .lit (.int .u8 0)], .agg [.lit (.int .u8 0), .lit (.int .u8 0)], .agg [.lit (.int .u8 0), .lit (.int .u8 0)], .agg [.lit (.int .u8 0), .lit (.int .u8 0)], .agg [.lit (.int .u8 0), .lit (.int .u8 0)], .agg [.lit (.int .u8 0), .lit (.int .u8 0)], .agg [.lit (.int .u8 0), .lit (.int .u8 0)], .agg [.lit (.int .u8 0), .lit (.int .u8 0)], .agg [.lit (.int .u8 0), .lit (.int .u8 0)], .agg [.lit (.int .u8 0), .lit (.int .u8 0)]]
/-- One of Go's own tables, pinned by name: the form's constant. -/
def laid_unicode_utf8_first : DataW Unit := Go.Pinned.utf8First
def laid_math_bits_deBruijn32tab {H : Type} : DataW H := .agg [.lit (.int .u8 0), .lit (.int .u8 1), .lit (.int .u8 28), .lit (.int .u8 2), .lit (.int .u8 29), .lit (.int .u8 14), .lit (.int .u8 24), .lit (.int .u8 3), .lit (.int .u8 30), .lit (.int .u8 22), .lit (.int .u8 20), .lit (.int .u8 15), .lit (.int .u8 25), .lit (.int .u8 17), .lit (.int .u8 4), .lit (.int .u8 8), .lit (.int .u8 31), .lit (.int .u8 27), .lit (.int .u8 13), .lit (.int .u8 23), .lit (.int .u8 21), .lit (.int .u8 19), .lit (.int .u8 16), .lit (.int .u8 7), .lit (.int .u8 26), .lit (.int .u8 12), .lit (.int .u8 18), .lit (.int .u8 6), .lit (.int .u8 11), .lit (.int .u8 5), .lit (.int .u8 10), .lit (.int .u8 9)]
def laid_math_bits_deBruijn64tab {H : Type} : DataW H := .agg [.lit (.int .u8 0), .lit (.int .u8 1), .lit (.int .u8 56), .lit (.int .u8 2), .lit (.int .u8 57), .lit (.int .u8 49), .lit (.int .u8 28), .lit (.int .u8 3), .lit (.int .u8 61), .lit (.int .u8 58), .lit (.int .u8 42), .lit (.int .u8 50), .lit (.int .u8 38), .lit (.int .u8 29), .lit (.int .u8 17), .lit (.int .u8 4), .lit (.int .u8 62), .lit (.int .u8 47), .lit (.int .u8 59), .lit (.int .u8 36), .lit (.int .u8 45), .lit (.int .u8 43), .lit (.int .u8 51), .lit (.int .u8 22), .lit (.int .u8 53), .lit (.int .u8 39), .lit (.int .u8 33), .lit (.int .u8 30), .lit (.int .u8 24), .lit (.int .u8 18), .lit (.int .u8 12), .lit (.int .u8 5), .lit (.int .u8 63), .lit (.int .u8 55), .lit (.int .u8 48), .lit (.int .u8 27), .lit (.int .u8 60), .lit (.int .u8 41), .lit (.int .u8 37), .lit (.int .u8 16), .lit (.int .u8 46), .lit (.int .u8 35), .lit (.int .u8 44), .lit (.int .u8 21), .lit (.int .u8 52), .lit (.int .u8 32), .lit (.int .u8 23), .lit (.int .u8 11), .lit (.int .u8 54), .lit (.int .u8 26), .lit (.int .u8 40), .lit (.int .u8 15), .lit (.int .u8 34), .lit (.int .u8 20), .lit (.int .u8 31), .lit (.int .u8 10), .lit (.int .u8 25), .lit (.int .u8 14), .lit (.int .u8 19), .lit (.int .u8 9), .lit (.int .u8 13), .lit (.int .u8 8), .lit (.int .u8 7), .lit (.int .u8 6)]

/-- 'zzlaws_graph_c2.PropParseEdgeLineIsEdgeLineGrammar': WHATEVER THE INPUT: true; the input reads as it did. -/
def propParseEdgeLineIsEdgeLineGrammarSpec : ChangeSpec := { name := "propParseEdgeLineIsEdgeLineGrammar", fn := fun _ => fun
  | [d] => { results := [.lit (.bool true)], args := [d] }
  | _ => none }
def propParseEdgeLineIsEdgeLineGrammarRow : OpenClaim := { program := "qxb6003863afmt", sum := "8aeaceedd220804545d58b1f0a92a669837776c5a4e2367bbb73539ea1575298", func := "example.com/churnweave/churnweave/zzlaws_graph_c2.PropParseEdgeLineIsEdgeLineGrammar", spec := "propParseEdgeLineIsEdgeLineGrammar", stops := ["fmt.Sprintf", "fmt.errorf"], inPlace := ["fmt.errorf"], named := ["unicode/utf8.first", "unicode/utf8.acceptRanges"], apart := false, laid := [("unicode/utf8.acceptRanges", laid_unicode_utf8_acceptRanges), ("unicode/utf8.first", laid_unicode_utf8_first)] }
/-- NO THEOREM (fmt's text is open here; it may be false): for the released tool's asking of the row's closed facts alone. THE STATEMENT IS 'PropParseEdgeLineIsEdgeLineGrammarToldSaid' (Qxb6003863aFmtCards.lean). -/
def PropParseEdgeLineIsEdgeLineGrammarFormAsk : Prop := propParseEdgeLineIsEdgeLineGrammarRow.holds Tryf.pinned (OpenSpec.ofChange propParseEdgeLineIsEdgeLineGrammarSpec)

/-- ITS FALSE NEIGHBOUR: 'it returns false'. Refute it at one input. -/
def propParseEdgeLineIsEdgeLineGrammarWrong : ChangeSpec := { name := "propParseEdgeLineIsEdgeLineGrammar", fn := fun _ => fun
  | [d] => { results := [.lit (.bool false)], args := [d] }
  | _ => none }
def PropParseEdgeLineIsEdgeLineGrammarWrongFormAsk : Prop := propParseEdgeLineIsEdgeLineGrammarRow.holds Tryf.pinned (OpenSpec.ofChange propParseEdgeLineIsEdgeLineGrammarWrong)

/-- 'zzlaws_graph_c2.PropAdjLineIsAdjacencyLineGrammar': WHATEVER THE INPUT: true; the input reads as it did. -/
def propAdjLineIsAdjacencyLineGrammarSpec : ChangeSpec := { name := "propAdjLineIsAdjacencyLineGrammar", fn := fun _ => fun
  | [d1, d2, d3, d4] => { results := [.lit (.bool true)], args := [d1, d2, d3, d4] }
  | _ => none }
def propAdjLineIsAdjacencyLineGrammarRow : OpenClaim := { program := "qxb6003863afmt", sum := "8aeaceedd220804545d58b1f0a92a669837776c5a4e2367bbb73539ea1575298", func := "example.com/churnweave/churnweave/zzlaws_graph_c2.PropAdjLineIsAdjacencyLineGrammar", spec := "propAdjLineIsAdjacencyLineGrammar", stops := ["fmt.Sprintf", "fmt.errorf"], inPlace := ["fmt.errorf"], apart := false }
/-- NO THEOREM (fmt's text is open here; it may be false): for the released tool's asking of the row's closed facts alone. THE STATEMENT IS 'PropAdjLineIsAdjacencyLineGrammarToldSaid' (Qxb6003863aFmtCards.lean). -/
def PropAdjLineIsAdjacencyLineGrammarFormAsk : Prop := propAdjLineIsAdjacencyLineGrammarRow.holds Tryf.pinned (OpenSpec.ofChange propAdjLineIsAdjacencyLineGrammarSpec)

/-- ITS FALSE NEIGHBOUR: 'it returns false'. Refute it at one input. -/
def propAdjLineIsAdjacencyLineGrammarWrong : ChangeSpec := { name := "propAdjLineIsAdjacencyLineGrammar", fn := fun _ => fun
  | [d1, d2, d3, d4] => { results := [.lit (.bool false)], args := [d1, d2, d3, d4] }
  | _ => none }
def PropAdjLineIsAdjacencyLineGrammarWrongFormAsk : Prop := propAdjLineIsAdjacencyLineGrammarRow.holds Tryf.pinned (OpenSpec.ofChange propAdjLineIsAdjacencyLineGrammarWrong)

/-- 'zzlaws_pernode_c1.PropMapAnswersAsPartialFunction': WHATEVER THE INPUT: true; the input reads as it did. -/
def propMapAnswersAsPartialFunctionSpec : ChangeSpec := { name := "propMapAnswersAsPartialFunction", fn := fun _ => fun
  | [d] => { results := [.lit (.bool true)], args := [d] }
  | _ => none }
def propMapAnswersAsPartialFunctionRow : OpenClaim := { program := "qxb6003863afmt", sum := "8aeaceedd220804545d58b1f0a92a669837776c5a4e2367bbb73539ea1575298", func := "example.com/churnweave/churnweave/zzlaws_pernode_c1.PropMapAnswersAsPartialFunction", spec := "propMapAnswersAsPartialFunction", stops := ["fmt.Sprintf", "fmt.errorf"], inPlace := ["fmt.Sprintf"], recurses := true, named := ["math/bits.deBruijn32tab", "math/bits.deBruijn64tab"], apart := false, laid := [("math/bits.deBruijn32tab", laid_math_bits_deBruijn32tab), ("math/bits.deBruijn64tab", laid_math_bits_deBruijn64tab)] }
/-- NO THEOREM (fmt's text is open here; it may be false): for the released tool's asking of the row's closed facts alone. THE STATEMENT IS 'PropMapAnswersAsPartialFunctionToldSaid' (Qxb6003863aFmtCards.lean). -/
def PropMapAnswersAsPartialFunctionFormAsk : Prop := propMapAnswersAsPartialFunctionRow.holds Tryf.pinned (OpenSpec.ofChange propMapAnswersAsPartialFunctionSpec)

/-- ITS FALSE NEIGHBOUR: 'it returns false'. Refute it at one input. -/
def propMapAnswersAsPartialFunctionWrong : ChangeSpec := { name := "propMapAnswersAsPartialFunction", fn := fun _ => fun
  | [d] => { results := [.lit (.bool false)], args := [d] }
  | _ => none }
def PropMapAnswersAsPartialFunctionWrongFormAsk : Prop := propMapAnswersAsPartialFunctionRow.holds Tryf.pinned (OpenSpec.ofChange propMapAnswersAsPartialFunctionWrong)

/-- 'zzlaws_pernode_c1.PropMapCellsKeepProbeInvariant': WHATEVER THE INPUT: true; the input reads as it did. -/
def propMapCellsKeepProbeInvariantSpec : ChangeSpec := { name := "propMapCellsKeepProbeInvariant", fn := fun _ => fun
  | [d] => { results := [.lit (.bool true)], args := [d] }
  | _ => none }
def propMapCellsKeepProbeInvariantRow : OpenClaim := { program := "qxb6003863afmt", sum := "8aeaceedd220804545d58b1f0a92a669837776c5a4e2367bbb73539ea1575298", func := "example.com/churnweave/churnweave/zzlaws_pernode_c1.PropMapCellsKeepProbeInvariant", spec := "propMapCellsKeepProbeInvariant", stops := ["fmt.Sprintf", "fmt.errorf"], inPlace := ["fmt.Sprintf"], recurses := true, named := ["math/bits.deBruijn32tab", "math/bits.deBruijn64tab"], apart := false, laid := [("math/bits.deBruijn32tab", laid_math_bits_deBruijn32tab), ("math/bits.deBruijn64tab", laid_math_bits_deBruijn64tab)] }
/-- NO THEOREM (fmt's text is open here; it may be false): for the released tool's asking of the row's closed facts alone. THE STATEMENT IS 'PropMapCellsKeepProbeInvariantToldSaid' (Qxb6003863aFmtCards.lean). -/
def PropMapCellsKeepProbeInvariantFormAsk : Prop := propMapCellsKeepProbeInvariantRow.holds Tryf.pinned (OpenSpec.ofChange propMapCellsKeepProbeInvariantSpec)

/-- ITS FALSE NEIGHBOUR: 'it returns false'. Refute it at one input. -/
def propMapCellsKeepProbeInvariantWrong : ChangeSpec := { name := "propMapCellsKeepProbeInvariant", fn := fun _ => fun
  | [d] => { results := [.lit (.bool false)], args := [d] }
  | _ => none }
def PropMapCellsKeepProbeInvariantWrongFormAsk : Prop := propMapCellsKeepProbeInvariantRow.holds Tryf.pinned (OpenSpec.ofChange propMapCellsKeepProbeInvariantWrong)

end Rows
end Go.Proofs.Qxb6003863aFmt
