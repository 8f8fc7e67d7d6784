/- The proof of Rows.PropAdjLineIsAdjacencyLineGrammarToldSaid. -/
import Derived.Test.Qxb6003863aFmtAdjMain
import Derived.Test.Qxb6003863aFmtCards
import Derived.OpenShut
import Derived.ChangeOld
import Derived.Deep.SlicePairs
import Derived.Stop.JoinedAt
import Derived.Stop.JoinedTold
import Derived.SevenToldRow
namespace Go.Proofs.Qxb6003863aFmt.adjLine
open Go.ChangeShapes Go.WideShapes Go.ChangeAt Go.RowKit Go.Kit Go.Deep
open Go.Extern.Stop Go.Stop Go.Extern
set_option linter.unusedVariables false

theorem own : ownKnob Tryf.prog.godebug = none := by kernel_rfl
theorem laidOut : laidOutB Tryf.pinned.checked.prog = true := by kernel_rfl
theorem stops : Tryf.pinned.checked.prog.stops = ["fmt.Sprintf", "fmt.errorf"] := by kernel_rfl
theorem stopKnobs : Tryf.pinned.checked.prog.stopKnobs = [] := by kernel_rfl
theorem quiet (os : Os) : Stop.quiet Tryf.pinned.checked.prog os := by
  intro k hk
  rw [stopKnobs] at hk
  cases hk

/-- What the walk is told of a slice of integers that came in. -/
def IsRow (k : IntKind) (w : World) (a : Option Addr) (len cap : Nat) (zs : List Int) : Prop :=
  (a = none ∧ len = 0 ∧ cap = 0 ∧ zs = []) ∨
  ∃ x, a = some x ∧ len ≤ cap ∧ cap ≤ maxLen ∧ zs.length = cap ∧ (∀ i, i < zs.length → w.cell? (x.add i) = some (.int k (zs.getD i 0))) ∧ ∀ n ∈ zs, (Lit.int k n).wf = true

theorem row_of {kd : IntKind} {w : World} {a : Option Addr} {len cap : Nat} {zs : List Int} (h : IsRow kd w a len cap zs) : Row kd w a len (fun i => zs.getD i 0) := by
  intro h0
  rcases h with ⟨rfl, rfl, rfl, rfl⟩ | ⟨ad, rfl, hlc, hm, hz, hcell, hwz⟩
  · exact absurd h0 (by omega)
  · obtain ⟨b, off, rfl, hc⟩ := ints_at hcell (by omega)
    exact ⟨b, off, rfl, fun i hi => hc i (by omega)⟩

theorem len_of {kd : IntKind} {w : World} {a : Option Addr} {len cap : Nat} {zs : List Int} (h : IsRow kd w a len cap zs) : len ≤ cap ∧ cap ≤ maxLen ∧ zs.length = cap ∧ (a = none → len = 0 ∧ cap = 0) ∧ ∀ n ∈ zs, (Lit.int kd n).wf = true := by
  rcases h with ⟨rfl, rfl, rfl, rfl⟩ | ⟨ad, rfl, hlc, hm, hz, hcell, hwz⟩
  · exact ⟨by omega, by omega, rfl, fun _ => ⟨rfl, rfl⟩, by simp⟩
  · exact ⟨hlc, hm, hz, (fun h => by cases h), hwz⟩

theorem pairs_row {w : World} {a : Addr} {len : Nat} {V0 V1 : Nat → Value} (h : ∀ i, i < len → w.cell? (a.add (i * 2)) = some (V0 i) ∧ w.cell? (a.add (i * 2 + 1)) = some (V1 i) ∧ (∃ z, V0 i = .int .i64 z) ∧ ∃ z, V1 i = .int .i64 z) :
    ∃ X : List Int, X.length = 2 * len ∧ Row .i64 w (some a) (2 * len) (fn X) := by
  refine ⟨(List.range (2 * len)).map fun j => intOf (if j % 2 = 0 then V0 (j / 2) else V1 (j / 2)), by simp, fun h0 => ?_⟩
  obtain ⟨b, off, spot⟩ := a
  have hspot : spot = none := by simpa [Addr.add] using World.cell?_spot (h 0 (by omega)).1
  subst hspot
  refine ⟨b, off, rfl, fun j hj => ?_⟩
  obtain ⟨h1, h2, ⟨z0, e0⟩, ⟨z1, e1⟩⟩ := h (j / 2) (by omega)
  rw [Addr.add_lit] at h1 h2
  have hf : fn ((List.range (2 * len)).map fun j => intOf (if j % 2 = 0 then V0 (j / 2) else V1 (j / 2))) j = intOf (if j % 2 = 0 then V0 (j / 2) else V1 (j / 2)) := by
    simp [fn, hj]
  rw [hf]
  by_cases hp : j % 2 = 0
  · rw [if_pos hp]
    rw [show j / 2 * 2 = j by omega] at h1
    rw [h1, e0]
    rfl
  · rw [if_neg hp]
    rw [show j / 2 * 2 + 1 = j by omega] at h2
    rw [h2, e1]
    rfl

theorem walk (F : Interp) (a0 : Option Addr) (n0 c0 : Nat) (z0 : List Int) (a1 : Option Addr) (n1 c1 : Nat) (z1 : List Int) (a2 : Option Addr) (n2 c2 : Nat) (X2 : List Int) (s0 : Int) (w : World) (hF : F.answers w.tape) (w0 : IsRow .u8 w a0 n0 c0 z0) (w1 : IsRow .i64 w a1 n1 c1 z1)
    (hX2 : X2.length = 2 * n2) (hn2 : n2 ≤ c2) (hc2 : c2 ≤ maxLen) (ha2 : a2 = none → n2 = 0 ∧ c2 = 0) (hr2 : Row .i64 w a2 (2 * n2) (fn X2)) :
    Calls Tryf.prog 4 #[.slice a0 n0 c0, .slice a1 n1 c1, .slice a2 n2 c2, .int .i64 s0] w fun e w' => e = .returned (.bool true) ∧ Below w.heap.size w w' := by
  obtain ⟨h1, h2, h3, h4, h5⟩ := len_of w0
  obtain ⟨g1, g2, g3, g4, g5⟩ := len_of w1
  by_cases h : n0 ≤ 1048576 ∧ n1 ≤ 1048576 ∧ n2 ≤ 1048576
  · unfold maxLen at h2 g2 hc2
    have hr1 : Row .i64 w a1 n1 (fn (z1.take n1)) := fun hp => by
      obtain ⟨b, off, e, hc⟩ := row_of w1 hp
      refine ⟨b, off, e, fun i hi => ?_⟩
      rw [hc i hi]
      simp [fn, List.getElem?_take_of_lt hi]
    exact adj_main F a0 a1 a2 n0 c0 n1 c1 n2 c2 s0 (fun i => z0.getD i 0) (z1.take n1) X2 w hF h.1 h1 h2 (fun j => by simpa using range_u8 h5 j) (row_of w0)
      (by rw [List.length_take]; omega) h.2.1 g1 g2 g4 hr1 hX2 h.2.2 hn2 hc2 ha2 hr2
  · exact adj_long a0 a1 a2 n0 c0 n1 c1 n2 c2 s0 w (Nat.le_trans h1 h2) (Nat.le_trans g1 g2) (Nat.le_trans hn2 hc2) h

theorem cells5 : Tryf.prog.cellsOf 5 = 1 := by kernel_rfl
theorem cells2 : Tryf.prog.cellsOf 2 = 1 := by kernel_rfl
theorem cells40 : Tryf.prog.cellsOf 40 = 2 := by kernel_rfl

abbrev spec : OpenSpec := OpenSpec.ofChange Rows.propAdjLineIsAdjacencyLineGrammarSpec

set_option maxHeartbeats 1600000 in
set_option maxRecDepth 100000 in
theorem lifted (os : Os) (started : os.Started) (H : Type) (enc : TypeId × Value → H) :
    ReturnsInTold none {} Tryf.checked os 4 .any Input.okWide (spec.preRow enc Tryf.prog Tryf.f4 [] false []) (fun F => (spec.at F).post enc Tryf.prog Tryf.f4 false true false false) (aloneAtReturn Tryf.prog) nothingAlways := by
  refine returnsInTold_of_row (C := Tryf.checked) (s := spec) (by kernel_rfl) own started (by kernel_rfl) Tryf.func4
    (OpenSpec.witness_stopped (enc := enc) (C := Tryf.checked) false ⟨#[], #[.slice none 0 0, .slice none 0 0, .slice none 0 0, .int .i64 0], []⟩ 8 (by kernel_rfl) (by kernel_rfl) (by kernel_rfl) (by kernel_rfl)) ?_
  intro F W base args ds gs before _ hF hval0 hW _ _ hsz _ _
  have hval : ∀ (j : Nat) t v, Tryf.f4.params[j]? = some t → args[j]? = some v → Value.okWide Tryf.prog W .any base t v := hval0
  have hW' := hW
  obtain ⟨p, q, hA0, hV, rfl, hfz, hnd⟩ := hW
  have hA : DataW.TrodAll enc Tryf.prog W 0 (fun _ => true) true Tryf.f4.params.toList args.toList ds p := hA0
  rw [Tryf.params4] at hA hval
  obtain ⟨v0, vs0, d0, ds0, p0, q0, hargs, rfl, rfl, h0, r0⟩ := trodAll_cons hA
  obtain ⟨v1, vs1, d1, ds1, p1, q1, rfl, rfl, rfl, h1, r1⟩ := trodAll_cons r0
  obtain ⟨v2, vs2, d2, ds2, p2, q2, rfl, rfl, rfl, h2, r2⟩ := trodAll_cons r1
  obtain ⟨v3, vs3, d3, ds3, p3, q3, rfl, rfl, rfl, h3, r3⟩ := trodAll_cons r2
  obtain ⟨rfl, rfl, rfl⟩ := trodAll_nil r3
  obtain rfl : args = #[v0, v1, v2, v3] := by cases args; simp_all
  obtain ⟨rfl, rfl⟩ := trodVars_none hV
  obtain ⟨a0, len0, cap0, rfl⟩ := okWide_slice Tryf.underlying22 (hval 0 22 v0 rfl rfl)
  have k0 := h0
  have lt0 : ∀ x ∈ p0, x.block < W.heap.size := by obtain ⟨m, hm⟩ := k0; exact DataW.trod_lt m _ _ _ hm
  obtain ⟨z0, w0⟩ : ∃ zs, IsRow .u8 W a0 len0 cap0 zs := by
    obtain ⟨fuel, hf⟩ := h0
    rcases open_ints Tryf.underlying22 Tryf.underlying5 cells5 hf with ⟨hcs, _⟩ | ⟨x, l, c, zs, hcs, _, hl, hm, hz, _, hcell, hwz⟩
    · simp [Value.cells] at hcs
      obtain ⟨rfl, rfl, rfl⟩ := hcs
      exact ⟨[], .inl ⟨rfl, rfl, rfl, rfl⟩⟩
    · simp [Value.cells] at hcs
      obtain ⟨rfl, rfl, rfl⟩ := hcs
      exact ⟨zs, .inr ⟨_, rfl, hl, hm, by simpa using hz, hcell, hwz⟩⟩
  obtain ⟨a1, len1, cap1, rfl⟩ := okWide_slice Tryf.underlying33 (hval 1 33 v1 rfl rfl)
  have k1 := h1
  have lt1 : ∀ x ∈ p1, x.block < W.heap.size := by obtain ⟨m, hm⟩ := k1; exact DataW.trod_lt m _ _ _ hm
  obtain ⟨z1, w1⟩ : ∃ zs, IsRow .i64 W a1 len1 cap1 zs := by
    obtain ⟨fuel, hf⟩ := h1
    rcases open_ints Tryf.underlying33 Tryf.underlying2 cells2 hf with ⟨hcs, _⟩ | ⟨x, l, c, zs, hcs, _, hl, hm, hz, _, hcell, hwz⟩
    · simp [Value.cells] at hcs
      obtain ⟨rfl, rfl, rfl⟩ := hcs
      exact ⟨[], .inl ⟨rfl, rfl, rfl, rfl⟩⟩
    · simp [Value.cells] at hcs
      obtain ⟨rfl, rfl, rfl⟩ := hcs
      exact ⟨zs, .inr ⟨_, rfl, hl, hm, by simpa using hz, hcell, hwz⟩⟩
  obtain ⟨a2, len2, cap2, rfl⟩ := okWide_slice Tryf.underlying34 (hval 2 34 v2 rfl rfl)
  have k2 := h2
  have lt2 : ∀ x ∈ p2, x.block < W.heap.size := by obtain ⟨m, hm⟩ := k2; exact DataW.trod_lt m _ _ _ hm
  obtain ⟨X2, w2a, w2b, w2c, w2d, w2e⟩ : ∃ X2 : List Int, X2.length = 2 * len2 ∧ len2 ≤ cap2 ∧ cap2 ≤ maxLen ∧ (a2 = none → len2 = 0 ∧ cap2 = 0) ∧ Row .i64 W a2 (2 * len2) (fn X2) := by
    obtain ⟨fuel, hf⟩ := h2
    rcases open_slice_pairs Tryf.underlying34 Tryf.underlying40 cells40 rfl rfl cells2 cells2 hf with ⟨hcs, _⟩ | ⟨x, l, c, m, n, V0, V1, D0, D1, P0, P1, hcs, _, hl, hm, hmm, _, hcell⟩
    · simp [Value.cells] at hcs
      obtain ⟨rfl, rfl, rfl⟩ := hcs
      exact ⟨[], rfl, by omega, by omega, fun _ => ⟨rfl, rfl⟩, fun h => by omega⟩
    · simp [Value.cells] at hcs
      obtain ⟨rfl, rfl, rfl⟩ := hcs
      have hml : len2 ≤ m := by rw [hmm]; split <;> omega
      obtain ⟨X, hX, hrow⟩ := pairs_row (w := W) (a := x) (len := len2) (V0 := V0) (V1 := V1) (fun i hi => by
        obtain ⟨e1, e2, e3, e4⟩ := hcell i (by omega)
        obtain ⟨y0, g0, _⟩ := DataW.trod_int Tryf.underlying2 e3
        obtain ⟨y1, g1, _⟩ := DataW.trod_int Tryf.underlying2 e4
        simp at g0 g1
        exact ⟨e1, e2, ⟨y0, g0⟩, ⟨y1, g1⟩⟩)
      exact ⟨X, hX, hl, hm, (fun h => by cases h), hrow⟩
  have k3 := h3
  have lt3 : ∀ x ∈ p3, x.block < W.heap.size := by obtain ⟨m, hm⟩ := k3; exact DataW.trod_lt m _ _ _ hm
  obtain ⟨s0, rfl, _⟩ := open_int Tryf.underlying3 (hval 3 3 v3 rfl rfl) h3
  clear hA0 hval0
  refine (walk F.told a0 len0 cap0 z0 a1 len1 cap1 z1 a2 len2 cap2 X2 s0 W hF w0 w1 w2a w2b w2c w2d w2e).mono fun e W' ⟨he, bel⟩ => ?_
  subst he
  exact ⟨_, rfl, _, _, _, [], _, [], hW', trodAll_mk1 (shut_bool Tryf.underlying4 _), (trodAll_cons_mk (Below.trod laidOut (by kernel_rfl) (of_decide_eq_true (by kernel_rfl)) k0 bel lt0) (trodAll_cons_mk (Below.trod laidOut (by kernel_rfl) (of_decide_eq_true (by kernel_rfl)) k1 bel lt1) (trodAll_cons_mk (Below.trod laidOut (by kernel_rfl) (of_decide_eq_true (by kernel_rfl)) k2 bel lt2) (trodAll_cons_mk (Below.trod laidOut (by kernel_rfl) (of_decide_eq_true (by kernel_rfl)) k3 bel lt3) trodAll_mk0)))), rfl, bel.frame _, fun h => by cases h⟩

theorem proved : Rows.PropAdjLineIsAdjacencyLineGrammarToldSaid :=
  Claim7.holds_of_told_any 4 Tryf.f4 "fmt.Sprintf" ["fmt.errorf"] [] _ _ _ (by kernel_rfl) rfl rfl rfl laidOut (by kernel_rfl) rfl ⟨rfl, rfl, rfl, rfl, rfl, rfl, rfl⟩ rfl rfl (by kernel_rfl) (by kernel_rfl) Tryf.func4 (by kernel_rfl)
    (of_decide_eq_true (by kernel_rfl)) (of_decide_eq_true (by kernel_rfl)) stops.symm rfl stopKnobs.symm (by kernel_rfl)
    (by kernel_rfl) (by kernel_rfl) (by kernel_rfl) (by kernel_rfl) (by kernel_rfl) (by kernel_rfl) (by kernel_rfl) (by kernel_rfl) (by kernel_rfl) rfl (by kernel_rfl) rfl rfl
    rfl rfl
    rfl (by kernel_rfl) (by kernel_rfl) (by kernel_rfl) (by decide) (by kernel_rfl)
    (OpenClaim.moreEntering_of (by kernel_rfl) (by kernel_rfl) (by kernel_rfl) (by kernel_rfl) (by kernel_rfl) (by kernel_rfl) (by kernel_rfl) (by kernel_rfl) (by kernel_rfl) (by kernel_rfl))
    ⟨_, WideRow.started_initial, quiet _⟩
    (fun os started _ H enc _ => lifted os started H enc)
end Go.Proofs.Qxb6003863aFmt.adjLine
