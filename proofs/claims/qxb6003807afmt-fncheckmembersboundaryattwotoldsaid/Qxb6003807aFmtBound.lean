/- The proof of Rows.FnCheckMembersBoundaryAtTwoToldSaid: the walks, and the frame. -/
import Derived.Test.Qxb6003807aFmtCards
import Derived.Stop.CallBack
import Derived.Stop.IfaceNil
import Derived.Laws.Cells
import GoSem.ClaimData
import Derived.WalkKit
import Derived.WalkSpells
import Derived.Below
import Derived.OpenShut
import Derived.ChangeOld
import Derived.Stop.JoinedAt
import Derived.Stop.JoinedTold
import Derived.SevenToldRow
namespace Go.Proofs.Qxb6003807aFmt
open Go.RowKit Go.Extern.Stop Go.Stop Go.Extern
open Go.ChangeShapes Go.WideShapes Go.ChangeAt Go.Kit
set_option linter.unusedVariables false

def fmtText : ByteArray := ⟨#[97, 32, 103, 114, 111, 117, 112, 32, 104, 97, 115, 32, 97, 116, 32, 108, 101, 97, 115, 116, 32, 50, 32, 109, 101, 109, 98, 101, 114, 115, 44, 32, 110, 111, 116, 32, 37, 100]⟩
theorem Tryf.call8 (args : Array Value) (w : World) : (callFunc 8 args).run Tryf.prog w = ((FmtStop.errorf #[9, 28] #[23] args).run Tryf.prog w).andThen fun v w' => .ok (.value v) w' :=
  run_callFunc_extern Tryf.func8 (by kernel_rfl) (by kernel_rfl) (by kernel_rfl) (by kernel_rfl) args w
theorem Tryf.guard (name : String) (w : World) : (FmtStop.guard name).run Tryf.prog w = .ok () w := by kernel_rfl
theorem Tryf.fmtD : FmtStop.printed? ⟨#[97, 32, 103, 114, 111, 117, 112, 32, 104, 97, 115, 32, 97, 116, 32, 108, 101, 97, 115, 116, 32, 50, 32, 109, 101, 109, 98, 101, 114, 115, 44, 32, 110, 111, 116, 32, 37, 100]⟩ 1 = some [(0, 100, false)] := by kernel_rfl
theorem Tryf.fmtDr (w : World) : (FmtDoors.printed ⟨#[97, 32, 103, 114, 111, 117, 112, 32, 104, 97, 115, 32, 97, 116, 32, 108, 101, 97, 115, 116, 32, 50, 32, 109, 101, 109, 98, 101, 114, 115, 44, 32, 110, 111, 116, 32, 37, 100]⟩ 1).run Tryf.prog w = .ok [(0, 100, false)] w := by kernel_rfl
theorem Tryf.ptr31 (w : World) : (FmtStop.ptrTo "errors.errorString").run Tryf.prog w = .ok 31 w := by kernel_rfl
theorem Tryf.elem31 (w : World) : (elemOf 31).run Tryf.prog w = .ok 33 w := by kernel_rfl
theorem Tryf.isError31 (w : World) : (FmtDoors.textMethod 31 "Error").run Tryf.prog w = .ok true w := by kernel_rfl
theorem Tryf.op3 (name : String) (x : Int) (w : World) : (FmtStop.operand name true 100 false (.iface 3 (.int .i64 x))).run Tryf.prog w = .ok ([5, 3, 0, 0, 0, 0, 0, 0, 0, 105, 110, 116], Go.Extern.Stop.digits 8 (x % 2 ^ 64).toNat) w := by kernel_rfl
attribute [local go_sem] Tryf.call8 Tryf.guard Tryf.fmtD Tryf.fmtDr Tryf.ptr31 Tryf.elem31 Tryf.isError31 Tryf.op3

theorem answers_later {F : Interp} {w w1 : World} (hF : F.answers w.tape) (hb : Below w.heap.size w w1) : F.answers w1.tape := by rw [hb.tape]; exact hF

/-- What the refusal hands back: some new error of errors.New's make; nothing old is touched. -/
def ErrRet (w : World) (e : Ending) (w' : World) : Prop := ∃ p, e = .returned (.iface 31 (.pointer p)) ∧ Below w.heap.size w w'

set_option maxHeartbeats 400000 in
theorem errorf7 (F : Interp) (blk : Nat) (x : Int) (w : World) (hF : F.answers w.tape) (h0 : w.cell? ⟨blk, 0, none⟩ = some (.iface 3 (.int .i64 x))) :
    Calls Tryf.prog 7 #[.string ⟨#[97, 32, 103, 114, 111, 117, 112, 32, 104, 97, 115, 32, 97, 116, 32, 108, 101, 97, 115, 116, 32, 50, 32, 109, 101, 109, 98, 101, 114, 115, 44, 32, 110, 111, 116, 32, 37, 100]⟩, .slice (some ⟨blk, 0, none⟩) 1 1] w (ErrRet w) := by
  have hF' := answers_open hF
  go_enter Tryf.func7, Tryf.ntmps7
  go_wp2
  go_ret
  exact ⟨_, rfl, ((Below.refl _ w).alloc (Nat.le_refl _) _).drew⟩

set_option maxHeartbeats 400000 in
theorem few6 (F : Interp) (x : Int) (w : World) (hF : F.answers w.tape) (hx : x < 2) : Calls Tryf.prog 6 #[.int .i64 x] w (ErrRet w) := by
  go_enter Tryf.func6, Tryf.ntmps6
  go_wp2_with (go_at_call 7; refine (errorf7 F w.heap.size x _ (answers_later hF ((Below.refl w.heap.size w).alloc (Nat.le_refl _) _)) (by simp)).mono ?_; rintro e w' ⟨p, rfl, hb⟩)
  go_ret
  exact ⟨_, rfl, ((Below.refl _ w).alloc (Nat.le_refl _) _).trans (hb.mono (by simp))⟩
theorem many6 (x : Int) (w : World) (hx : ¬ x < 2) : Calls Tryf.prog 6 #[.int .i64 x] w fun e w' => e = .returned .nilIface ∧ w' = w := by
  go_enter Tryf.func6, Tryf.ntmps6
  go_wp2
  go_ret
  exact ⟨rfl, rfl⟩
theorem few5 (F : Interp) (x : Int) (w : World) (hF : F.answers w.tape) (hx : x < 2) : Calls Tryf.prog 5 #[.int .i64 x] w (ErrRet w) := by
  go_enter Tryf.func5, Tryf.ntmps5
  go_wp2_with (go_at_call 6; refine (few6 F x w hF hx).mono ?_; rintro e w' ⟨p, rfl, hb⟩)
  go_ret
  exact ⟨_, rfl, hb⟩
theorem many5 (x : Int) (w : World) (hx : ¬ x < 2) : Calls Tryf.prog 5 #[.int .i64 x] w fun e w' => e = .returned .nilIface ∧ w' = w := by
  go_enter Tryf.func5, Tryf.ntmps5
  go_wp2_with (go_at_call 6; refine (many6 x w hx).mono ?_; rintro e w' ⟨rfl, rfl⟩)
  go_ret
  exact ⟨rfl, rfl⟩

def Post5 (x : Int) (w : World) (e : Ending) (w' : World) : Prop := (x < 2 → ErrRet w e w') ∧ (¬ x < 2 → e = .returned .nilIface ∧ w' = w)
theorem all5 (F : Interp) (x : Int) (w : World) (hF : F.answers w.tape) : Calls Tryf.prog 5 #[.int .i64 x] w (Post5 x w) := by
  by_cases hx : x < 2
  · exact (few5 F x w hF hx).mono fun e w' h => ⟨fun _ => h, fun h' => absurd hx h'⟩
  · exact (many5 x w hx).mono fun e w' h => ⟨fun h' => absurd h' hx, fun _ => h⟩

set_option maxHeartbeats 800000 in
theorem walk (F : Interp) (w : World) (hF : F.answers w.tape) : Calls Tryf.prog 4 #[] w fun e w' => e = .returned (.bool true) ∧ Below w.heap.size w w' := by
  have hB := Below.refl w.heap.size w
  go_enter Tryf.func4, Tryf.ntmps4
  go_wp2_with (go_at_call 5; refine (all5 F _ _ (answers_later hF hB)).mono ?_; rintro e w1 h; simp [Post5] at h; first | (obtain ⟨p, rfl, hb⟩ := h; replace hB := hB.trans (hb.mono hB.size); clear hb) | (obtain ⟨rfl, hw⟩ := h; rw [← hw] at hB; clear hw))
  go_ret
  exact ⟨rfl, hB⟩

namespace boundary
theorem own : ownKnob Tryf.prog.godebug = none := by kernel_rfl
theorem laidOut : laidOutB Tryf.pinned.checked.prog = true := by kernel_rfl
theorem stops : Tryf.pinned.checked.prog.stops = ["fmt.errorf"] := by kernel_rfl
theorem stopKnobs : Tryf.pinned.checked.prog.stopKnobs = [] := by kernel_rfl
theorem quiet (os : Os) : Stop.quiet Tryf.pinned.checked.prog os := by
  intro k hk
  rw [stopKnobs] at hk
  cases hk
abbrev spec : OpenSpec := OpenSpec.ofChange Rows.fnCheckMembersBoundaryAtTwoSpec

set_option maxHeartbeats 1600000 in
set_option maxRecDepth 100000 in
theorem lifted (os : Os) (started : os.Started) (H : Type) (enc : TypeId × Value → H) :
    ReturnsInTold none {} Tryf.checked os 4 .any Input.okWide (spec.preRow enc Tryf.prog Tryf.f4 [] false []) (fun F => (spec.at F).post enc Tryf.prog Tryf.f4 false true false false) (aloneAtReturn Tryf.prog) nothingAlways := by
  refine returnsInTold_of_row (C := Tryf.checked) (s := spec) (by kernel_rfl) own started (by kernel_rfl) Tryf.func4
    (OpenSpec.witness_stopped (enc := enc) (C := Tryf.checked) false ⟨#[], #[], []⟩ 8 (by kernel_rfl) (by kernel_rfl) (by kernel_rfl) (by kernel_rfl)) ?_
  intro F W base args ds gs before _ hF hval0 hW _ _ hsz _ _
  have hW' := hW
  obtain ⟨p, q, hA0, hV, rfl, hfz, hnd⟩ := hW
  have hA : DataW.TrodAll enc Tryf.prog W 0 (fun _ => true) true Tryf.f4.params.toList args.toList ds p := hA0
  rw [Tryf.params4] at hA
  obtain ⟨hargs, rfl, rfl⟩ := trodAll_nil hA
  obtain rfl : args = #[] := by cases args; simp_all
  obtain ⟨rfl, rfl⟩ := trodVars_none hV
  clear hA0 hval0
  refine (walk F.told W hF).mono fun e W' ⟨he, bel⟩ => ?_
  subst he
  exact ⟨_, rfl, _, _, _, [], _, [], hW', trodAll_mk1 (shut_bool Tryf.underlying4 _), trodAll_mk0, rfl, bel.frame _, fun h => by cases h⟩

theorem proved : Rows.FnCheckMembersBoundaryAtTwoToldSaid :=
  Claim7.holds_of_told_any 4 Tryf.f4 "fmt.errorf" [] [] _ _ _ (by kernel_rfl) rfl rfl rfl laidOut (by kernel_rfl) rfl ⟨rfl, rfl, rfl, rfl, rfl, rfl, rfl⟩ rfl rfl (by kernel_rfl) (by kernel_rfl) Tryf.func4 (by kernel_rfl)
    (of_decide_eq_true (by kernel_rfl)) (of_decide_eq_true (by kernel_rfl)) stops.symm rfl stopKnobs.symm (by kernel_rfl)
    (by kernel_rfl) (by kernel_rfl) (by kernel_rfl) (by kernel_rfl) (by kernel_rfl) (by kernel_rfl) (by kernel_rfl) (by kernel_rfl) (by kernel_rfl) rfl (by kernel_rfl) rfl rfl
    rfl rfl
    rfl (by kernel_rfl) (by kernel_rfl) (by kernel_rfl) (by decide) (by kernel_rfl)
    (OpenClaim.moreEntering_of (by kernel_rfl) (by kernel_rfl) (by kernel_rfl) (by kernel_rfl) (by kernel_rfl) (by kernel_rfl) (by kernel_rfl) (by kernel_rfl) (by kernel_rfl) (by kernel_rfl))
    ⟨_, WideRow.started_initial, quiet _⟩
    (fun os started _ H enc _ => lifted os started H enc)
end boundary
end Go.Proofs.Qxb6003807aFmt
