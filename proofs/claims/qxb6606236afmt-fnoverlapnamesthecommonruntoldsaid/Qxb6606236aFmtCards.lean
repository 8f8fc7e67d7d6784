/-
  DERIVED. GIVEN WITH THE SEED: THE CARDS: each row of Qxb6606236aFmtRows.lean that lists a variable, with what it lists TIED to the program's text (the seventh form; the later family's looks); each row that meets fmt, with fmt's text TOLD by the authors' own Lean function (tested against real Go, not proved from fmt's source: count such statements apart). THE CARD IS WHAT COUNTS. Prove the row's statement (the work); the ties are given (Qxb6606236aFmtTie.lean); close each card by the builder's one call (the guide's Derived/Test/ToyasCard.lean, 'card_holds'). Laid BY PROGRAM, IN A SANDBOX (cutbox-door.mjs). By AI agents, Wed Nov 11 2026. No macro, syntax, notation, axiom, sorry.
-/
import Derived.Test.Qxb6606236aFmtRows
import GoSem.ClaimSeven
namespace Go.Proofs.Qxb6606236aFmt
namespace Rows

/-- THE TOLD AND TIED CARD OF 'zzlaws_idmap_b1.FnSpanReadsBackAsItsIds'. -/
def fnSpanReadsBackAsItsIdsCard : Claim7 := { stood := { row := fnSpanReadsBackAsItsIdsRow, standIns := [], harness := (true, "6cf11cc02f50b84bae2cede0c02bfde85710a2f9eb3790fe14eb4508340462af"), looks := false }, told := true, laidByText := true, laidKinds := [.data, .data, .data], laidTests := true, laidLooks := .later, goes := false }
def FnSpanReadsBackAsItsIdsToldSaid : Prop := Claim7.holds Tryf.pinned (.plain (OpenSpec.ofChange fnSpanReadsBackAsItsIdsSpec)) fnSpanReadsBackAsItsIdsCard
/-- ITS FALSE NEIGHBOUR. Refute it at one input. -/
def FnSpanReadsBackAsItsIdsToldWrongFalsely : Prop := Claim7.holds Tryf.pinned (.plain (OpenSpec.ofChange fnSpanReadsBackAsItsIdsWrong)) fnSpanReadsBackAsItsIdsCard

/-- THE TOLD AND TIED CARD OF 'zzlaws_idmap_b1.FnSpanTellsPairsApart'. -/
def fnSpanTellsPairsApartCard : Claim7 := { stood := { row := fnSpanTellsPairsApartRow, standIns := [], harness := (true, "6cf11cc02f50b84bae2cede0c02bfde85710a2f9eb3790fe14eb4508340462af"), looks := false }, told := true, laidByText := true, laidKinds := [.data, .data, .data], laidTests := true, laidLooks := .later, goes := false }
def FnSpanTellsPairsApartToldSaid : Prop := Claim7.holds Tryf.pinned (.plain (OpenSpec.ofChange fnSpanTellsPairsApartSpec)) fnSpanTellsPairsApartCard
/-- ITS FALSE NEIGHBOUR. Refute it at one input. -/
def FnSpanTellsPairsApartToldWrongFalsely : Prop := Claim7.holds Tryf.pinned (.plain (OpenSpec.ofChange fnSpanTellsPairsApartWrong)) fnSpanTellsPairsApartCard

/-- THE TOLD AND TIED CARD OF 'zzlaws_idmap_b1.FnOverlapNamesTheCommonRun'. -/
def fnOverlapNamesTheCommonRunCard : Claim7 := { stood := { row := fnOverlapNamesTheCommonRunRow, standIns := [], harness := (true, "6cf11cc02f50b84bae2cede0c02bfde85710a2f9eb3790fe14eb4508340462af"), looks := false }, told := true, laidByText := true, laidKinds := [.data, .data, .data], laidTests := true, laidLooks := .later, goes := false }
def FnOverlapNamesTheCommonRunToldSaid : Prop := Claim7.holds Tryf.pinned (.plain (OpenSpec.ofChange fnOverlapNamesTheCommonRunSpec)) fnOverlapNamesTheCommonRunCard
/-- ITS FALSE NEIGHBOUR. Refute it at one input. -/
def FnOverlapNamesTheCommonRunToldWrongFalsely : Prop := Claim7.holds Tryf.pinned (.plain (OpenSpec.ofChange fnOverlapNamesTheCommonRunWrong)) fnOverlapNamesTheCommonRunCard
end Rows
end Go.Proofs.Qxb6606236aFmt
