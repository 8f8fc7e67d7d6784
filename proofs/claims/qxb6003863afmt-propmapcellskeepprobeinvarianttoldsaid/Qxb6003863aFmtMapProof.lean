/- The proof of Rows.PropMapAnswersAsPartialFunctionToldSaid. -/
import Derived.Test.Qxb6003863aFmtMapMain
import Derived.Test.Qxb6003863aFmtCards
import Derived.Test.Qxb6003863aFmtTie
import Derived.OpenShut
import Derived.ChangeOld
import Derived.Deep.SlicePairs
import Derived.Stop.JoinedAt
import Derived.Stop.JoinedTold
import Derived.Stop.LaidErr
import Derived.Lib.LaidTab
import Derived.SevenToldRow
import Derived.SevenTiedAt
namespace Go.Proofs.Qxb6003863aFmt.mapLaw
open Go.ChangeShapes Go.WideShapes Go.ChangeAt Go.RowKit Go.Kit Go.Deep
open Go.Extern.Stop Go.Stop Go.Extern
set_option linter.unusedVariables false

theorem own : ownKnob Tryf.prog.godebug = none := by kernel_rfl
theorem laidOut : laidOutB Tryf.pinned.checked.prog = true := by kernel_rfl
theorem stops : Tryf.pinned.checked.prog.stops = ["fmt.Sprintf", "fmt.errorf"] := by kernel_rfl
theorem stopKnobs : Tryf.pinned.checked.prog.stopKnobs = [] := by kernel_rfl
theorem quiet (os : Os) : Stop.quiet Tryf.pinned.checked.prog os := by
  intro k hk
  rw [stopKnobs] at hk
  cases hk
theorem cells50 : Tryf.prog.cellsOf 50 = 4 := by kernel_rfl
theorem cells2 : Tryf.prog.cellsOf 2 = 1 := by kernel_rfl
theorem cells3 : Tryf.prog.cellsOf 3 = 1 := by kernel_rfl
theorem cells33 : Tryf.prog.cellsOf 33 = 1 := by kernel_rfl
theorem cells5 : Tryf.prog.cellsOf 5 = 1 := by kernel_rfl
abbrev laid2 : List (String × DataW Unit) := Rows.propMapAnswersAsPartialFunctionRow.laid
def name64 : String := match laid2 with
  | [_, x] => x.1
  | _ => ""
theorem g64 : Tryf.prog.globalNamed name64 = some 1 := by kernel_rfl
theorem tab_is : (Rows.laid_math_bits_deBruijn64tab : DataW Unit) = Lib.tabData .u8 (Lib.deBruijn64tab.map Int.ofNat) := rfl

set_option maxRecDepth 20000 in
theorem open_script {H : Type} {enc : TypeId × Value → H} {W : World} {base : Nat} {sp : Nat → Bool} {held : Bool} {fuel : Nat} {a : Option Addr} {len cap : Nat} {x : DataW H × List MemPlace}
    (h : DataW.trod enc Tryf.prog W base sp held fuel 42 [.slice a len cap] = some x) : ∃ op, Script W a len op := by
  rcases open_slice Tryf.underlying42 h with ⟨hcs, _⟩ | ⟨ad, l, c, m, n, D, Pl, hcs, _, hl, hm, hmm, _, hx⟩
  · simp at hcs
    obtain ⟨_, rfl, _⟩ := hcs
    exact ⟨fun _ => ⟨0, 0, 0, none, 0, 0⟩, fun h => by omega⟩
  · simp at hcs
    obtain ⟨rfl, rfl, rfl⟩ := hcs
    have hml : len ≤ m := by rw [hmm]; split <;> omega
    haveI : Inhabited Op4 := ⟨⟨0, 0, 0, none, 0, 0⟩⟩
    obtain ⟨op, hop⟩ := choose_lt (α := Op4) (n := len) (p := fun i o => W.cell? (ad.add (i * 4)) = some (.int .i64 o.k) ∧ W.cell? (ad.add (i * 4 + 1)) = some (.int .i64 o.v) ∧ W.cell? (ad.add (i * 4 + 2)) = some (.int .i64 o.x) ∧ W.cell? (ad.add (i * 4 + 3)) = some (.slice o.a o.n o.c)) (fun i hi => by
      obtain ⟨cs', h1, h2⟩ := hx i (by omega)
      rw [cells50] at h1
      obtain ⟨_, hlen, hcell⟩ := World.cells?_some h1
      obtain ⟨xs, k, hk, hxy, _, hxl, hf⟩ := DataW.trod_struct Tryf.underlying50 h2
      match xs, hxl, cs', hlen with
      | [y0, y1, y2, y3], _, [v0, v1, v2, v3], _ =>
        have g0 := hf 0 _ rfl
        have g1 := hf 1 _ rfl
        have g2 := hf 2 _ rfl
        have g3 := hf 3 _ rfl
        simp [cells2, cells3, cells33] at g0 g1 g2 g3
        obtain ⟨z0, u0, _⟩ := DataW.trod_int Tryf.underlying3 g0
        obtain ⟨z1, u1, _⟩ := DataW.trod_int Tryf.underlying2 g1
        obtain ⟨z2, u2, _⟩ := DataW.trod_int Tryf.underlying2 g2
        have e0 := hcell 0 (by omega)
        have e1 := hcell 1 (by omega)
        have e2 := hcell 2 (by omega)
        have e3 := hcell 3 (by omega)
        rw [add_add] at e0 e1 e2 e3
        simp at u0 u1 u2 e0 e1 e2 e3
        subst u0 u1 u2
        rcases open_slice Tryf.underlying33 g3 with ⟨hcs, _⟩ | ⟨a3, l3, c3, m3, n3, D3, Pl3, hcs, _⟩
        · simp at hcs
          subst hcs
          exact ⟨⟨z0, z1, z2, none, 0, 0⟩, e0, e1, e2, e3⟩
        · simp at hcs
          subst hcs
          exact ⟨⟨z0, z1, z2, some a3, l3, c3⟩, e0, e1, e2, e3⟩)
    refine ⟨op, fun h0 => ?_⟩
    obtain ⟨b, off, spot⟩ := ad
    have hspot : spot = none := by simpa [Addr.add] using World.cell?_spot (hop 0 (by omega)).1
    subst hspot
    refine ⟨b, off, rfl, fun i hi => ?_⟩
    obtain ⟨p0, p1, p2, p3⟩ := hop i hi
    rw [Addr.add_lit] at p0 p1 p2 p3
    exact ⟨p0, p1, p2, p3⟩

theorem tab_of {W : World} (hL : laidMet Tryf.prog laid2 W) : TabAt W := by
  have h1 : laidMet Tryf.prog [(name64, Rows.laid_math_bits_deBruijn64tab)] W := laidMet.tail hL
  rw [tab_is] at h1
  have h := Lib.tabIs_of_head (P := Tryf.prog) (k := .u8) (t := 94) (e := 5) (n := 64) g64 (by kernel_rfl) (by kernel_rfl) Tryf.underlying5 cells5 (by kernel_rfl) h1
  intro j hj
  have hl : Lib.deBruijn64tab.length = 64 := rfl
  have h2 := h.cell g64 j (by rw [List.length_map, hl]; exact hj)
  rw [h2]
  simp [hl, hj]

def litCells : DataW Unit → Array Value
  | .agg l => (l.map fun d => match d with
    | .lit (.int k z) => Value.int k z
    | _ => .int .u8 0).toArray
  | _ => #[]

def laidAt (P : Program) (os : Os) (c0 c1 : Array Value) : World :=
  let w0 := World.holding P os ⟨#[], #[], []⟩
  let put (h : Array Obj) (g : Nat) (cs : Array Value) : Array Obj := h.modify g fun
    | .cells _ t frozen => .cells cs t frozen
    | o => o
  { w0 with heap := put (put w0.heap 0 c0) 1 c1 }

set_option maxRecDepth 1000000 in
theorem laid_met (os : Os) (args : Array Value) : laidMet Tryf.prog laid2 ((laidAt Tryf.prog os (litCells Rows.laid_math_bits_deBruijn32tab) (litCells Rows.laid_math_bits_deBruijn64tab)).forCall (fun _ _ => 0) ⟨#[], args, []⟩).memory :=
  laidMet_of_run' 8 (by kernel_rfl) (by kernel_rfl)

abbrev spec : OpenSpec := OpenSpec.ofChange Rows.propMapAnswersAsPartialFunctionSpec

set_option maxHeartbeats 1600000 in
set_option maxRecDepth 100000 in
theorem lifted (os : Os) (started : os.Started) (H : Type) (enc : TypeId × Value → H) :
    ReturnsInTold none {} Tryf.checked os 5 .any Input.okWide (spec.preRow enc Tryf.prog Tryf.f5 [] false laid2) (fun F => (spec.at F).post enc Tryf.prog Tryf.f5 false true false false) (aloneAtReturn Tryf.prog) nothingAlways := by
  refine returnsInTold_of_row (C := Tryf.checked) (s := spec) (by kernel_rfl) own started (by kernel_rfl) Tryf.func5
    (OpenSpec.witness_stopped_at (enc := enc) (C := Tryf.checked) false (laidAt Tryf.prog os (litCells Rows.laid_math_bits_deBruijn32tab) (litCells Rows.laid_math_bits_deBruijn64tab)) #[.slice none 0 0] rfl (by kernel_rfl) (by kernel_rfl) (by kernel_rfl)
      (OpenSpec.preRow_of_B rfl 8 (by kernel_rfl) (by kernel_rfl) (laid_met os _))) ?_
  intro F W base args ds gs before _ hF hval0 hW _ _ _ hL _
  have hval : ∀ (j : Nat) t v, Tryf.f5.params[j]? = some t → args[j]? = some v → Value.okWide Tryf.prog W .any base t v := hval0
  have hT : TabAt W := tab_of hL
  have hW' := hW
  obtain ⟨p, q, hA0, hV, rfl, hfz, hnd⟩ := hW
  have hA : DataW.TrodAll enc Tryf.prog W 0 (fun _ => true) true Tryf.f5.params.toList args.toList ds p := hA0
  rw [Tryf.params5] at hA hval
  obtain ⟨v0, vs0, d0, ds0, p0, q0, hargs, rfl, rfl, h0, r0⟩ := trodAll_cons hA
  obtain ⟨rfl, rfl, rfl⟩ := trodAll_nil r0
  obtain rfl : args = #[v0] := by cases args; simp_all
  obtain ⟨rfl, rfl⟩ := trodVars_none hV
  obtain ⟨a0, len0, cap0, rfl⟩ := okWide_slice Tryf.underlying42 (hval 0 42 v0 rfl rfl)
  have k0 := h0
  have lt0 : ∀ x ∈ p0, x.block < W.heap.size := by obtain ⟨m, hm⟩ := k0; exact DataW.trod_lt m _ _ _ hm
  obtain ⟨op, hop⟩ : ∃ op, Script W a0 len0 op := by
    obtain ⟨fuel, hf⟩ := h0
    exact open_script (by simpa [Value.cells] using hf)
  clear hA0 hval0
  refine (map5 a0 len0 cap0 op W hop hT).mono fun e W' ⟨he, bel⟩ => ?_
  subst he
  exact ⟨_, rfl, _, _, _, [], _, [], hW', trodAll_mk1 (shut_bool Tryf.underlying4 _), (trodAll_cons_mk (Below.trod laidOut (by kernel_rfl) (of_decide_eq_true (by kernel_rfl)) k0 bel lt0) trodAll_mk0), rfl, bel.frame _, fun h => by cases h⟩

theorem proved : Rows.PropMapAnswersAsPartialFunctionToldSaid :=
  Claim7.holds_of_told_tied_any_at .later 5 Tryf.f5 "fmt.Sprintf" ["fmt.errorf"] [] _ _ _ _ _ (by kernel_rfl) rfl rfl rfl laidOut (by kernel_rfl) rfl ⟨rfl, rfl, rfl, rfl, rfl, rfl, rfl⟩ rfl rfl (by kernel_rfl) (by kernel_rfl) Tryf.func5 (by kernel_rfl)
    (of_decide_eq_true (by kernel_rfl)) (of_decide_eq_true (by kernel_rfl)) stops.symm rfl stopKnobs.symm (by kernel_rfl)
    (by kernel_rfl) (by kernel_rfl) (by kernel_rfl) (by kernel_rfl) (by kernel_rfl) (by kernel_rfl) (by kernel_rfl) (by kernel_rfl) (by kernel_rfl) rfl (by kernel_rfl) rfl rfl
    rfl rfl
    rfl (by kernel_rfl) (by kernel_rfl) (by kernel_rfl) (by decide) (by kernel_rfl) propMapAnswersAsPartialFunction_row_tie
    (OpenClaim.moreEntering_of (by kernel_rfl) (by kernel_rfl) (by kernel_rfl) (by kernel_rfl) (by kernel_rfl) (by kernel_rfl) (by kernel_rfl) (by kernel_rfl) (by kernel_rfl) (by kernel_rfl))
    ⟨_, WideRow.started_initial, quiet _⟩
    (fun os started _ H enc _ => lifted os started H enc)
end Go.Proofs.Qxb6003863aFmt.mapLaw
