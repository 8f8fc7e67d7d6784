/- The proof of Rows.FnOverlapNamesTheCommonRunToldSaid. -/
import Derived.Test.Qxb6606236aFmtOvWalk
import Derived.Test.Qxb6606236aFmtCards
import Derived.Test.Qxb6606236aFmtTie
import Derived.OpenShut
import Derived.ChangeOld
import Derived.Stop.JoinedAt
import Derived.Stop.JoinedTold
import Derived.Stop.LaidErr
import Derived.Lib.LaidTab
import Derived.SevenToldRow
import Derived.SevenTiedAt
namespace Go.Proofs.Qxb6606236aFmt.overlap
open Go.ChangeShapes Go.WideShapes Go.ChangeAt Go.RowKit Go.Kit
open Go.Extern.Stop Go.Stop Go.Extern
set_option linter.unusedVariables false

theorem own : ownKnob Tryf.prog.godebug = none := by kernel_rfl
theorem laidOut : laidOutB Tryf.pinned.checked.prog = true := by kernel_rfl
theorem stops : Tryf.pinned.checked.prog.stops = ["fmt.Sprintf"] := by kernel_rfl
theorem stopKnobs : Tryf.pinned.checked.prog.stopKnobs = [] := by kernel_rfl
theorem quiet (os : Os) : Stop.quiet Tryf.pinned.checked.prog os := by
  intro k hk
  rw [stopKnobs] at hk
  cases hk
theorem cells23 : Tryf.prog.cellsOf 23 = 1 := by kernel_rfl
abbrev laid3 : List (String × DataW Unit) := Rows.fnOverlapNamesTheCommonRunRow.laid
theorem g0 : Tryf.prog.globalNamed pow10Name = some 0 := by kernel_rfl
theorem tab_is : (Rows.laid_internal_strconv_uint64pow10 : DataW Unit) = Lib.tabData .u64 Lib.pow10Tab := rfl

theorem tab_of {W : World} (hL : laidMet Tryf.prog laid3 W) : Lib.TabIs Tryf.prog W pow10Name .u64 Lib.pow10Tab := by
  have h1 : laidMet Tryf.prog [(pow10Name, Rows.laid_internal_strconv_uint64pow10)] W := laidMet.tail (laidMet.tail hL)
  rw [tab_is] at h1
  exact Lib.tabIs_of_head (P := Tryf.prog) (k := .u64) (t := 49) (e := 23) (n := 20) g0 (by kernel_rfl) (by kernel_rfl) Tryf.underlying23 cells23 (by kernel_rfl) h1

def litCells : DataW Unit → Array Value
  | .agg l => (l.map fun d => match d with
    | .lit (.int k z) => Value.int k z
    | _ => .int .u8 0).toArray
  | _ => #[]

def laidAt (P : Program) (os : Os) (c0 c1 c2 : Array Value) : World :=
  let w0 := World.holding P os ⟨#[], #[], []⟩
  let put (h : Array Obj) (g : Nat) (cs : Array Value) : Array Obj := h.modify g fun
    | .cells _ t frozen => .cells cs t frozen
    | o => o
  { w0 with heap := put (put (put w0.heap 0 c0) 1 c1) 2 c2 }

set_option maxRecDepth 1000000 in
theorem laid_met (os : Os) (args : Array Value) : laidMet Tryf.prog laid3 ((laidAt Tryf.prog os (litCells Rows.laid_internal_strconv_uint64pow10) (litCells Rows.laid_math_bits_deBruijn32tab) (litCells Rows.laid_math_bits_deBruijn64tab)).forCall (fun _ _ => 0) ⟨#[], args, []⟩).memory :=
  laidMet_of_run' 8 (by kernel_rfl) (by kernel_rfl)

abbrev spec : OpenSpec := OpenSpec.ofChange Rows.fnOverlapNamesTheCommonRunSpec

theorem nat_of {z : Int} (h : (Lit.int .u32 z).wf = true) : ∃ n : Nat, z = n ∧ n < 4294967296 := by
  simp only [Lit.wf, Bool.and_eq_true, decide_eq_true_eq] at h
  have h0 : (0 : Int) ≤ z := h.1
  have h1 : z ≤ 4294967295 := h.2
  exact ⟨z.toNat, by omega, by omega⟩

set_option maxHeartbeats 1600000 in
set_option maxRecDepth 100000 in
theorem lifted (os : Os) (started : os.Started) (H : Type) (enc : TypeId × Value → H) :
    ReturnsInTold none {} Tryf.checked os 5 .any Input.okWide (spec.preRow enc Tryf.prog Tryf.f5 [] false laid3) (fun F => (spec.at F).post enc Tryf.prog Tryf.f5 false true false false) (aloneAtReturn Tryf.prog) nothingAlways := by
  refine returnsInTold_of_row (C := Tryf.checked) (s := spec) (by kernel_rfl) own started (by kernel_rfl) Tryf.func5
    (OpenSpec.witness_stopped_at (enc := enc) (C := Tryf.checked) false (laidAt Tryf.prog os (litCells Rows.laid_internal_strconv_uint64pow10) (litCells Rows.laid_math_bits_deBruijn32tab) (litCells Rows.laid_math_bits_deBruijn64tab)) #[.int .u32 0, .int .u32 0, .int .u32 0, .int .u32 0] rfl (by kernel_rfl) (by kernel_rfl) (by kernel_rfl)
      (OpenSpec.preRow_of_B rfl 8 (by kernel_rfl) (by kernel_rfl) (laid_met os _))) ?_
  intro F W base args ds gs before _ hF hval0 hW _ _ _ hL _
  have hval : ∀ (j : Nat) t v, Tryf.f5.params[j]? = some t → args[j]? = some v → Value.okWide Tryf.prog W .any base t v := hval0
  have hT := tab_of hL
  have hW' := hW
  obtain ⟨p, q, hA0, hV, rfl, hfz, hnd⟩ := hW
  have hA : DataW.TrodAll enc Tryf.prog W 0 (fun _ => true) true Tryf.f5.params.toList args.toList ds p := hA0
  rw [Tryf.params5] at hA hval
  obtain ⟨v0, vs0, d0, ds0, p0, q0, hargs, rfl, rfl, h0, r0⟩ := trodAll_cons hA
  obtain ⟨v1, vs1, d1, ds1, p1, q1, hargs1, rfl, rfl, h1, r1⟩ := trodAll_cons r0
  obtain ⟨v2, vs2, d2, ds2, p2, q2, hargs2, rfl, rfl, h2, r2⟩ := trodAll_cons r1
  obtain ⟨v3, vs3, d3, ds3, p3, q3, hargs3, rfl, rfl, h3, r3⟩ := trodAll_cons r2
  obtain ⟨rfl, rfl, rfl⟩ := trodAll_nil r3
  obtain rfl : args = #[v0, v1, v2, v3] := by cases args; simp_all
  obtain ⟨rfl, rfl⟩ := trodVars_none hV
  obtain ⟨z0, rfl, rfl, rfl, k0⟩ := open_int Tryf.underlying22 (hval 0 22 v0 rfl rfl) h0
  obtain ⟨z1, rfl, rfl, rfl, k1⟩ := open_int Tryf.underlying22 (hval 1 22 v1 rfl rfl) h1
  obtain ⟨z2, rfl, rfl, rfl, k2⟩ := open_int Tryf.underlying22 (hval 2 22 v2 rfl rfl) h2
  obtain ⟨z3, rfl, rfl, rfl, k3⟩ := open_int Tryf.underlying22 (hval 3 22 v3 rfl rfl) h3
  clear hA0 hval0
  obtain ⟨a, rfl, ha⟩ := nat_of k0
  obtain ⟨b, rfl, hb⟩ := nat_of k1
  obtain ⟨la, rfl, hla⟩ := nat_of k2
  obtain ⟨lb, rfl, hlb⟩ := nat_of k3
  refine (main5 F a b la lb ha hb hla hlb W hF hT).mono fun e W' ⟨he, bel⟩ => ?_
  subst he
  exact ⟨_, rfl, _, _, _, [], _, [], hW', trodAll_mk1 (shut_bool Tryf.underlying4 _),
    (trodAll_cons_mk (shut_int Tryf.underlying22 k0) (trodAll_cons_mk (shut_int Tryf.underlying22 k1) (trodAll_cons_mk (shut_int Tryf.underlying22 k2) (trodAll_cons_mk (shut_int Tryf.underlying22 k3) trodAll_mk0)))), rfl, bel.frame _, fun h => by cases h⟩

theorem proved : Rows.FnOverlapNamesTheCommonRunToldSaid :=
  Claim7.holds_of_told_tied_any_at .later 5 Tryf.f5 "fmt.Sprintf" [] [] _ _ _ _ _ (by kernel_rfl) rfl rfl rfl laidOut (by kernel_rfl) rfl ⟨rfl, rfl, rfl, rfl, rfl, rfl, rfl⟩ rfl rfl (by kernel_rfl) (by kernel_rfl) Tryf.func5 (by kernel_rfl)
    (of_decide_eq_true (by kernel_rfl)) (of_decide_eq_true (by kernel_rfl)) stops.symm rfl stopKnobs.symm (by kernel_rfl)
    (by kernel_rfl) (by kernel_rfl) (by kernel_rfl) (by kernel_rfl) (by kernel_rfl) (by kernel_rfl) (by kernel_rfl) (by kernel_rfl) (by kernel_rfl) rfl (by kernel_rfl) rfl rfl
    rfl rfl
    rfl (by kernel_rfl) (by kernel_rfl) (by kernel_rfl) (by decide) (by kernel_rfl) fnOverlapNamesTheCommonRun_row_tie
    (OpenClaim.moreEntering_of (by kernel_rfl) (by kernel_rfl) (by kernel_rfl) (by kernel_rfl) (by kernel_rfl) (by kernel_rfl) (by kernel_rfl) (by kernel_rfl) (by kernel_rfl) (by kernel_rfl))
    ⟨_, WideRow.started_initial, quiet _⟩
    (fun os started _ H enc _ => lifted os started H enc)
end Go.Proofs.Qxb6606236aFmt.overlap
