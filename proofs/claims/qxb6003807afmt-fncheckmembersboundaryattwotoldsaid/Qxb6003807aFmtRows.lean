/-
  No cell of these rows narrows 'for every input' (looked for: loops, veiled, ifaces, maps, wideKeys, modest, calm, conditions, laid).
  DERIVED. THE GIVEN ROWS OF THIS SEAT. 2 by the template 'for every input the law returns true; each argument reads behind the call as it read before'; 0 by the template 'total and deterministic' (their statements: Qxb6003807aFmtTotals.lean).
  GIVEN WITH THE SEED: the statements are not yours to turn. If you find one false, say at which input.
  Laid BY PROGRAM, IN A SANDBOX (cutbox-rows.mjs): the forced cells as the released guide's own fill.sh prints them over the translation b98ba7cc85df3646… (all of the seat's roots in one cut). By AI agents, Wed Nov 11 2026. No macro, syntax, notation, axiom, sorry.
-/
import Derived.Test.Qxb6003807aFmtChecked
import GoSem.Claim
import GoSem.ClaimJoined
import GoSem.ClaimMapViews
import Derived.JoinedTies
import Derived.KernelRfl
namespace Go.Proofs.Qxb6003807aFmt
/- THE CELL 'sum', in the pinned program and in every row, IS THE sha256 OF THE DUMP (.gsa) THAT Qxb6003807aFmtProg.lean LOADS. Nothing in Lean hashes anything: it is a label: what it is worth is what the hold of that sum in a sandbox is worth. -/
noncomputable def Tryf.pinned : Pinned := { name := "qxb6003807afmt", sum := "b98ba7cc85df3646285fcb2b7de51dccbf7b427dbdbb6851dbb631d5298468ca", checked := Tryf.checked }
namespace Rows
def none {H : Type} : Left H := { results := [], args := [] }

/-- 'zzlaws_internal_sim_g1.FnCheckMembersUpwardClosed': WHATEVER THE INPUT: true; the input reads as it did. -/
def fnCheckMembersUpwardClosedSpec : ChangeSpec := { name := "fnCheckMembersUpwardClosed", fn := fun _ => fun
  | [d1, d2] => { results := [.lit (.bool true)], args := [d1, d2] }
  | _ => none }
def fnCheckMembersUpwardClosedRow : OpenClaim := { program := "qxb6003807afmt", sum := "b98ba7cc85df3646285fcb2b7de51dccbf7b427dbdbb6851dbb631d5298468ca", func := "example.com/antecede/antecede/zzlaws_internal_sim_g1.FnCheckMembersUpwardClosed", spec := "fnCheckMembersUpwardClosed", stops := ["fmt.errorf"], inPlace := ["fmt.errorf"], apart := false }
/-- NO THEOREM (fmt's text is open here; it may be false): for the released tool's asking of the row's closed facts alone. THE STATEMENT IS 'FnCheckMembersUpwardClosedToldSaid' (Qxb6003807aFmtCards.lean). -/
def FnCheckMembersUpwardClosedFormAsk : Prop := fnCheckMembersUpwardClosedRow.holds Tryf.pinned (OpenSpec.ofChange fnCheckMembersUpwardClosedSpec)

/-- ITS FALSE NEIGHBOUR: 'it returns false'. Refute it at one input. -/
def fnCheckMembersUpwardClosedWrong : ChangeSpec := { name := "fnCheckMembersUpwardClosed", fn := fun _ => fun
  | [d1, d2] => { results := [.lit (.bool false)], args := [d1, d2] }
  | _ => none }
def FnCheckMembersUpwardClosedWrongFormAsk : Prop := fnCheckMembersUpwardClosedRow.holds Tryf.pinned (OpenSpec.ofChange fnCheckMembersUpwardClosedWrong)

/-- 'zzlaws_internal_sim_g1.FnCheckMembersBoundaryAtTwo': WHATEVER THE INPUT: true; the input reads as it did. -/
def fnCheckMembersBoundaryAtTwoSpec : ChangeSpec := { name := "fnCheckMembersBoundaryAtTwo", fn := fun _ => fun
  | [] => { results := [.lit (.bool true)], args := [] }
  | _ => none }
def fnCheckMembersBoundaryAtTwoRow : OpenClaim := { program := "qxb6003807afmt", sum := "b98ba7cc85df3646285fcb2b7de51dccbf7b427dbdbb6851dbb631d5298468ca", func := "example.com/antecede/antecede/zzlaws_internal_sim_g1.FnCheckMembersBoundaryAtTwo", spec := "fnCheckMembersBoundaryAtTwo", stops := ["fmt.errorf"], inPlace := ["fmt.errorf"], apart := false }
/-- NO THEOREM (fmt's text is open here; it may be false): for the released tool's asking of the row's closed facts alone. THE STATEMENT IS 'FnCheckMembersBoundaryAtTwoToldSaid' (Qxb6003807aFmtCards.lean). -/
def FnCheckMembersBoundaryAtTwoFormAsk : Prop := fnCheckMembersBoundaryAtTwoRow.holds Tryf.pinned (OpenSpec.ofChange fnCheckMembersBoundaryAtTwoSpec)

/-- ITS FALSE NEIGHBOUR: 'it returns false'. Refute it at one input. -/
def fnCheckMembersBoundaryAtTwoWrong : ChangeSpec := { name := "fnCheckMembersBoundaryAtTwo", fn := fun _ => fun
  | [] => { results := [.lit (.bool false)], args := [] }
  | _ => none }
def FnCheckMembersBoundaryAtTwoWrongFormAsk : Prop := fnCheckMembersBoundaryAtTwoRow.holds Tryf.pinned (OpenSpec.ofChange fnCheckMembersBoundaryAtTwoWrong)

end Rows
end Go.Proofs.Qxb6003807aFmt
