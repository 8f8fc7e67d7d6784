/-
  No cell of these rows narrows 'for every input' (looked for: loops, veiled, ifaces, maps, wideKeys, modest, calm, conditions, laid).
  DERIVED. THE GIVEN ROWS OF THIS SEAT. 3 by the template 'for every input the law returns true; each argument reads behind the call as it read before'; 0 by the template 'total and deterministic' (their statements: Qxb6003850aTotals.lean).
  GIVEN WITH THE SEED: the statements are not yours to turn. If you find one false, say at which input.
  Laid BY PROGRAM, IN A SANDBOX (cutbox-rows.mjs): the forced cells as the released guide's own fill.sh prints them over the translation 39ff65248e741a96… (all of the seat's roots in one cut). By AI agents, Wed Nov 11 2026. No macro, syntax, notation, axiom, sorry.
-/
import Derived.Test.Qxb6003850aChecked
import GoSem.Claim
import GoSem.ClaimJoined
import GoSem.ClaimMapViews
import Derived.JoinedTies
import Derived.KernelRfl
namespace Go.Proofs.Qxb6003850a
/- THE CELL 'sum', in the pinned program and in every row, IS THE sha256 OF THE DUMP (.gsa) THAT Qxb6003850aProg.lean LOADS. Nothing in Lean hashes anything: it is a label: what it is worth is what the hold of that sum in a sandbox is worth. -/
noncomputable def Try.pinned : Pinned := { name := "qxb6003850a", sum := "39ff65248e741a961ccee4ed911d21a7365c15bce8fa67c76d2db54dc83a348b", checked := Try.checked }
namespace Rows
def none {H : Type} : Left H := { results := [], args := [] }

/-- 'zzlaws_pkg_archive_g1.FnNonDecreasingIsPairwiseOrder': WHATEVER THE INPUT: true; the input reads as it did. -/
def fnNonDecreasingIsPairwiseOrderSpec : ChangeSpec := { name := "fnNonDecreasingIsPairwiseOrder", fn := fun _ => fun
  | [d] => { results := [.lit (.bool true)], args := [d] }
  | _ => none }
def fnNonDecreasingIsPairwiseOrderRow : OpenClaim := { program := "qxb6003850a", sum := "39ff65248e741a961ccee4ed911d21a7365c15bce8fa67c76d2db54dc83a348b", func := "example.com/shroudpack/shroudpack/zzlaws_pkg_archive_g1.FnNonDecreasingIsPairwiseOrder", spec := "fnNonDecreasingIsPairwiseOrder", apart := false }
def FnNonDecreasingIsPairwiseOrderSaid : Prop := fnNonDecreasingIsPairwiseOrderRow.holds Try.pinned (OpenSpec.ofChange fnNonDecreasingIsPairwiseOrderSpec)

/-- ITS FALSE NEIGHBOUR: 'it returns false'. Refute it at one input. -/
def fnNonDecreasingIsPairwiseOrderWrong : ChangeSpec := { name := "fnNonDecreasingIsPairwiseOrder", fn := fun _ => fun
  | [d] => { results := [.lit (.bool false)], args := [d] }
  | _ => none }
def FnNonDecreasingIsPairwiseOrderWrongFalsely : Prop := fnNonDecreasingIsPairwiseOrderRow.holds Try.pinned (OpenSpec.ofChange fnNonDecreasingIsPairwiseOrderWrong)

/-- 'zzlaws_pkg_archive_g1.FnLastOr0IsMaxOfSortedList': WHATEVER THE INPUT: true; the input reads as it did. -/
def fnLastOr0IsMaxOfSortedListSpec : ChangeSpec := { name := "fnLastOr0IsMaxOfSortedList", fn := fun _ => fun
  | [d] => { results := [.lit (.bool true)], args := [d] }
  | _ => none }
def fnLastOr0IsMaxOfSortedListRow : OpenClaim := { program := "qxb6003850a", sum := "39ff65248e741a961ccee4ed911d21a7365c15bce8fa67c76d2db54dc83a348b", func := "example.com/shroudpack/shroudpack/zzlaws_pkg_archive_g1.FnLastOr0IsMaxOfSortedList", spec := "fnLastOr0IsMaxOfSortedList", apart := false }
def FnLastOr0IsMaxOfSortedListSaid : Prop := fnLastOr0IsMaxOfSortedListRow.holds Try.pinned (OpenSpec.ofChange fnLastOr0IsMaxOfSortedListSpec)

/-- ITS FALSE NEIGHBOUR: 'it returns false'. Refute it at one input. -/
def fnLastOr0IsMaxOfSortedListWrong : ChangeSpec := { name := "fnLastOr0IsMaxOfSortedList", fn := fun _ => fun
  | [d] => { results := [.lit (.bool false)], args := [d] }
  | _ => none }
def FnLastOr0IsMaxOfSortedListWrongFalsely : Prop := fnLastOr0IsMaxOfSortedListRow.holds Try.pinned (OpenSpec.ofChange fnLastOr0IsMaxOfSortedListWrong)

/-- 'zzlaws_pkg_archive_g1.FnElemsTileTheirData': WHATEVER THE INPUT: true; the input reads as it did. -/
def fnElemsTileTheirDataSpec : ChangeSpec := { name := "fnElemsTileTheirData", fn := fun _ => fun
  | [d1, d2] => { results := [.lit (.bool true)], args := [d1, d2] }
  | _ => none }
def fnElemsTileTheirDataRow : OpenClaim := { program := "qxb6003850a", sum := "39ff65248e741a961ccee4ed911d21a7365c15bce8fa67c76d2db54dc83a348b", func := "example.com/shroudpack/shroudpack/zzlaws_pkg_archive_g1.FnElemsTileTheirData", spec := "fnElemsTileTheirData", apart := false }
def FnElemsTileTheirDataSaid : Prop := fnElemsTileTheirDataRow.holds Try.pinned (OpenSpec.ofChange fnElemsTileTheirDataSpec)

/-- ITS FALSE NEIGHBOUR: 'it returns false'. Refute it at one input. -/
def fnElemsTileTheirDataWrong : ChangeSpec := { name := "fnElemsTileTheirData", fn := fun _ => fun
  | [d1, d2] => { results := [.lit (.bool false)], args := [d1, d2] }
  | _ => none }
def FnElemsTileTheirDataWrongFalsely : Prop := fnElemsTileTheirDataRow.holds Try.pinned (OpenSpec.ofChange fnElemsTileTheirDataWrong)

end Rows
end Go.Proofs.Qxb6003850a
