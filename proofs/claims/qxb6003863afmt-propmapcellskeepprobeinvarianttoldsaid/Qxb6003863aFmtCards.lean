/-
  DERIVED. GIVEN WITH THE SEED: THE CARDS: each row of Qxb6003863aFmtRows.lean that lists a variable, with what it lists TIED to the program's text (the seventh form; the later family's looks); each row that meets fmt, with fmt's text TOLD by the authors' own Lean function (tested against real Go, not proved from fmt's source: count such statements apart). THE CARD IS WHAT COUNTS. Prove the row's statement (the work); the ties are given (Qxb6003863aFmtTie.lean); close each card by the builder's one call (the guide's Derived/Test/ToyasCard.lean, 'card_holds'). Laid BY PROGRAM, IN A SANDBOX (cutbox-door.mjs). By AI agents, Wed Nov 11 2026. No macro, syntax, notation, axiom, sorry.
-/
import Derived.Test.Qxb6003863aFmtRows
import GoSem.ClaimSeven
namespace Go.Proofs.Qxb6003863aFmt
namespace Rows

/-- THE TOLD AND TIED CARD OF 'zzlaws_graph_c2.PropParseEdgeLineIsEdgeLineGrammar'. -/
def propParseEdgeLineIsEdgeLineGrammarCard : Claim7 := { stood := { row := propParseEdgeLineIsEdgeLineGrammarRow, standIns := [], harness := (true, "c656c1bd2844bc1566162ddcc1ff57f5afde147b86d1658d9d74eebb3229031d"), looks := false }, told := true, laidByText := true, laidKinds := [.data, .pinned], laidTests := true, laidLooks := .later, goes := false }
def PropParseEdgeLineIsEdgeLineGrammarToldSaid : Prop := Claim7.holds Tryf.pinned (.plain (OpenSpec.ofChange propParseEdgeLineIsEdgeLineGrammarSpec)) propParseEdgeLineIsEdgeLineGrammarCard
/-- ITS FALSE NEIGHBOUR. Refute it at one input. -/
def PropParseEdgeLineIsEdgeLineGrammarToldWrongFalsely : Prop := Claim7.holds Tryf.pinned (.plain (OpenSpec.ofChange propParseEdgeLineIsEdgeLineGrammarWrong)) propParseEdgeLineIsEdgeLineGrammarCard

/-- THE TOLD CARD OF 'zzlaws_graph_c2.PropAdjLineIsAdjacencyLineGrammar'. -/
def propAdjLineIsAdjacencyLineGrammarCard : Claim7 := { stood := { row := propAdjLineIsAdjacencyLineGrammarRow, standIns := [], harness := (true, "c656c1bd2844bc1566162ddcc1ff57f5afde147b86d1658d9d74eebb3229031d"), looks := false }, told := true, goes := false }
def PropAdjLineIsAdjacencyLineGrammarToldSaid : Prop := Claim7.holds Tryf.pinned (.plain (OpenSpec.ofChange propAdjLineIsAdjacencyLineGrammarSpec)) propAdjLineIsAdjacencyLineGrammarCard
/-- ITS FALSE NEIGHBOUR. Refute it at one input. -/
def PropAdjLineIsAdjacencyLineGrammarToldWrongFalsely : Prop := Claim7.holds Tryf.pinned (.plain (OpenSpec.ofChange propAdjLineIsAdjacencyLineGrammarWrong)) propAdjLineIsAdjacencyLineGrammarCard

/-- THE TOLD AND TIED CARD OF 'zzlaws_pernode_c1.PropMapAnswersAsPartialFunction'. -/
def propMapAnswersAsPartialFunctionCard : Claim7 := { stood := { row := propMapAnswersAsPartialFunctionRow, standIns := [], harness := (true, "c656c1bd2844bc1566162ddcc1ff57f5afde147b86d1658d9d74eebb3229031d"), looks := false }, told := true, laidByText := true, laidKinds := [.data, .data], laidTests := true, laidLooks := .later, goes := false }
def PropMapAnswersAsPartialFunctionToldSaid : Prop := Claim7.holds Tryf.pinned (.plain (OpenSpec.ofChange propMapAnswersAsPartialFunctionSpec)) propMapAnswersAsPartialFunctionCard
/-- ITS FALSE NEIGHBOUR. Refute it at one input. -/
def PropMapAnswersAsPartialFunctionToldWrongFalsely : Prop := Claim7.holds Tryf.pinned (.plain (OpenSpec.ofChange propMapAnswersAsPartialFunctionWrong)) propMapAnswersAsPartialFunctionCard

/-- THE TOLD AND TIED CARD OF 'zzlaws_pernode_c1.PropMapCellsKeepProbeInvariant'. -/
def propMapCellsKeepProbeInvariantCard : Claim7 := { stood := { row := propMapCellsKeepProbeInvariantRow, standIns := [], harness := (true, "c656c1bd2844bc1566162ddcc1ff57f5afde147b86d1658d9d74eebb3229031d"), looks := false }, told := true, laidByText := true, laidKinds := [.data, .data], laidTests := true, laidLooks := .later, goes := false }
def PropMapCellsKeepProbeInvariantToldSaid : Prop := Claim7.holds Tryf.pinned (.plain (OpenSpec.ofChange propMapCellsKeepProbeInvariantSpec)) propMapCellsKeepProbeInvariantCard
/-- ITS FALSE NEIGHBOUR. Refute it at one input. -/
def PropMapCellsKeepProbeInvariantToldWrongFalsely : Prop := Claim7.holds Tryf.pinned (.plain (OpenSpec.ofChange propMapCellsKeepProbeInvariantWrong)) propMapCellsKeepProbeInvariantCard
end Rows
end Go.Proofs.Qxb6003863aFmt
