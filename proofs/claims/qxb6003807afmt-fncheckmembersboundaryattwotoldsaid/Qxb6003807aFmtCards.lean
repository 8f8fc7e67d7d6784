/-
  DERIVED. GIVEN WITH THE SEED: THE CARDS: each row of Qxb6003807aFmtRows.lean that lists a variable, with what it lists TIED to the program's text (the seventh form; the later family's looks); each row that meets fmt, with fmt's text TOLD by the authors' own Lean function (tested against real Go, not proved from fmt's source: count such statements apart). THE CARD IS WHAT COUNTS. Prove the row's statement (the work); the ties are given (Qxb6003807aFmtTie.lean); close each card by the builder's one call (the guide's Derived/Test/ToyasCard.lean, 'card_holds'). Laid BY PROGRAM, IN A SANDBOX (cutbox-door.mjs). By AI agents, Wed Nov 11 2026. No macro, syntax, notation, axiom, sorry.
-/
import Derived.Test.Qxb6003807aFmtRows
import GoSem.ClaimSeven
namespace Go.Proofs.Qxb6003807aFmt
namespace Rows

/-- THE TOLD CARD OF 'zzlaws_internal_sim_g1.FnCheckMembersUpwardClosed'. -/
def fnCheckMembersUpwardClosedCard : Claim7 := { stood := { row := fnCheckMembersUpwardClosedRow, standIns := [], harness := (true, "3ee38f4079ef85c0fe47fccf55998b06177f7734820efbfc32597adfa2257704"), looks := false }, told := true, goes := false }
def FnCheckMembersUpwardClosedToldSaid : Prop := Claim7.holds Tryf.pinned (.plain (OpenSpec.ofChange fnCheckMembersUpwardClosedSpec)) fnCheckMembersUpwardClosedCard
/-- ITS FALSE NEIGHBOUR. Refute it at one input. -/
def FnCheckMembersUpwardClosedToldWrongFalsely : Prop := Claim7.holds Tryf.pinned (.plain (OpenSpec.ofChange fnCheckMembersUpwardClosedWrong)) fnCheckMembersUpwardClosedCard

/-- THE TOLD CARD OF 'zzlaws_internal_sim_g1.FnCheckMembersBoundaryAtTwo'. -/
def fnCheckMembersBoundaryAtTwoCard : Claim7 := { stood := { row := fnCheckMembersBoundaryAtTwoRow, standIns := [], harness := (true, "3ee38f4079ef85c0fe47fccf55998b06177f7734820efbfc32597adfa2257704"), looks := false }, told := true, goes := false }
def FnCheckMembersBoundaryAtTwoToldSaid : Prop := Claim7.holds Tryf.pinned (.plain (OpenSpec.ofChange fnCheckMembersBoundaryAtTwoSpec)) fnCheckMembersBoundaryAtTwoCard
/-- ITS FALSE NEIGHBOUR. Refute it at one input. -/
def FnCheckMembersBoundaryAtTwoToldWrongFalsely : Prop := Claim7.holds Tryf.pinned (.plain (OpenSpec.ofChange fnCheckMembersBoundaryAtTwoWrong)) fnCheckMembersBoundaryAtTwoCard
end Rows
end Go.Proofs.Qxb6003807aFmt
