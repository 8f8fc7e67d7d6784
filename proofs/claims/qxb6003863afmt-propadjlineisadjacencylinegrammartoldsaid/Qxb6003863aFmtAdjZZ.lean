/- The walk of ZZAdjLine: what it hands back, read in memory. -/
import Derived.Test.Qxb6003863aFmtAdjWalk
namespace Go.Proofs.Qxb6003863aFmt
open Go.RowKit Go.Extern.Stop Go.Stop Go.Extern
set_option linter.unusedVariables false

abbrev fn (X : List Int) : Nat → Int := fun j => X.getD j 0

theorem row_of_owns {w : World} {base : Nat} {e : TypeId} {size : Nat} {v : Value} {n : Nat} {X : List Int} (h : w.ownsRow base e size v n (iv X)) : ∃ a c, v = .slice a n c ∧ X.length = n * size ∧ Row .i64 w a X.length (fn X) := by
  have hl : X.length = n * size := by simpa [iv] using h.1
  rcases h.2 with ⟨hv, hn⟩ | ⟨g, cap, cur, hv, _⟩
  · subst hn
    exact ⟨none, 0, hv, hl, fun h => by omega⟩
  · refine ⟨some ⟨g, 0, none⟩, cap, hv, hl, fun _ => ⟨g, 0, rfl, fun i hi => ?_⟩⟩
    subst hv
    rw [Nat.zero_add, h.cellAt i (by omega)]
    simp [iv, fn, hi]

/-- The outcome of a line: what the two slices, the number of self-loops and the error are. -/
def Outcome (c : Nat → Int) (n : Nat) (X1 X2 : List Int) (s0 : Int) (w' : World) (aN : Option Addr) (nN : Nat) (aE : Option Addr) (nE : Nat) (s : Int) (err : Value) : Prop :=
  (¬ comment c n ∧ idsAt c n 0 = none ∧ ∃ p, err = .iface 90 (.pointer p)) ∨
  ∃ ids, ((comment c n ∧ ids = []) ∨ (¬ comment c n ∧ idsAt c n 0 = some ids)) ∧ err = .nilIface ∧ s = loops s0 ids ∧
    nN = (X1 ++ ids.take 1).length ∧ Row .i64 w' aN nN (fn (X1 ++ ids.take 1)) ∧ 2 * nE = (X2 ++ eds ids).length ∧ Row .i64 w' aE (2 * nE) (fn (X2 ++ eds ids))

/-- What ZZAdjLine hands back. -/
def ZZRet (c : Nat → Int) (n : Nat) (w0 : World) (X1 X2 : List Int) (s0 : Int) (e : Ending) (w' : World) : Prop :=
  ∃ aN nN cN aE nE cE s err, e = .returned (.tuple #[.slice aN nN cN, .slice aE nE cE, .int .i64 s, err]) ∧ Below w0.heap.size w0 w' ∧ Outcome c n X1 X2 s0 w' aN nN aE nE s err

theorem St.shapes {B : Nat} {w0 w : World} {a1 a2 : Option Addr} {X1 X2 : List Int} {l2 : Nat} {s : Int} {ids : List Int} {vN vE : Value} {bE : Nat} (h : St B w0 w a1 a2 X1 X2 l2 s ids vN vE bE)
    (hB : B = w0.heap.size) (hr1 : Row .i64 w0 a1 X1.length (fn X1)) (hX2 : X2.length = 2 * l2) (hr2 : Row .i64 w0 a2 X2.length (fn X2)) :
    ∃ aN nN cN aE nE cE, vN = .slice aN nN cN ∧ vE = .slice aE nE cE ∧ nN = (X1 ++ ids.take 1).length ∧ Row .i64 w aN nN (fn (X1 ++ ids.take 1)) ∧ 2 * nE = (X2 ++ eds ids).length ∧ Row .i64 w aE (2 * nE) (fn (X2 ++ eds ids)) := by
  have hb : Below w0.heap.size w0 w := by rw [← hB]; exact h.bel
  obtain ⟨aN, nN, cN, e1, e2, e3⟩ : ∃ aN nN cN, vN = .slice aN nN cN ∧ nN = (X1 ++ ids.take 1).length ∧ Row .i64 w aN nN (fn (X1 ++ ids.take 1)) := by
    have hn := h.nod
    match ids, hn with
    | [], hn => exact ⟨_, _, _, hn, by simp, by simpa using hr1.later hb⟩
    | u :: r, hn =>
      obtain ⟨a, c, hv, hl, hrow⟩ := row_of_owns hn
      refine ⟨a, _, c, hv, by simp, ?_⟩
      have : (X1 ++ [u]).length = X1.length + 1 := by simp
      rw [this] at hrow
      simpa using hrow
  obtain ⟨aE, nE, cE, f1, f2, f3⟩ : ∃ aE nE cE, vE = .slice aE nE cE ∧ 2 * nE = (X2 ++ eds ids).length ∧ Row .i64 w aE (2 * nE) (fn (X2 ++ eds ids)) := by
    by_cases hl : ids.length ≤ 1
    · have he : eds ids = [] := by
        match ids, hl with
        | [], _ => rfl
        | [u], _ => rfl
      rw [he, List.append_nil]
      refine ⟨_, _, _, h.edg.1 hl, by omega, ?_⟩
      rw [← hX2]
      exact hr2.later hb
    · obtain ⟨a, c, hv, hl', hrow⟩ := row_of_owns (h.edg.2 (by omega))
      rw [hl', Nat.mul_comm] at hrow
      exact ⟨a, _, c, hv, by omega, hrow⟩
  exact ⟨aN, nN, cN, aE, nE, cE, e1, f1, e2, e3, f2, f3⟩

theorem adj_out {c : Nat → Int} {n : Nat} {w0 w1 : World} {a1 a2 : Option Addr} {X1 X2 : List Int} {l2 : Nat} {s0 : Int} {e : Ending} (h : AdjRet c n w0.heap.size w0 a1 a2 X1 X2 l2 s0 e w1)
    (hr1 : Row .i64 w0 a1 X1.length (fn X1)) (hX2 : X2.length = 2 * l2) (hr2 : Row .i64 w0 a2 X2.length (fn X2)) :
    ∃ aN nN cN aE nE cE s err, e = .returned err ∧ w1.cell? ⟨w0.heap.size, 0, none⟩ = some (.slice aN nN cN) ∧ w1.cell? ⟨w0.heap.size, 1, none⟩ = some (.slice aE nE cE) ∧ w1.cell? ⟨w0.heap.size, 2, none⟩ = some (.int .i64 s) ∧ Below w0.heap.size w0 w1 ∧ Hid (Outcome c n X1 X2 s0 w1 aN nN aE nE s err) := by
  obtain ⟨ids, s, vN, vE, bE, hS, hcs⟩ := h
  obtain ⟨aN, nN, cN, aE, nE, cE, rfl, rfl, e1, e2, e3, e4⟩ := hS.shapes rfl hr1 hX2 hr2
  rcases hcs with ⟨h1, rfl, rfl, rfl⟩ | ⟨h1, h2, p, rfl⟩ | ⟨h1, h2, rfl, rfl⟩
  · exact ⟨_, _, _, _, _, _, _, _, rfl, hS.c0, hS.c1, hS.c2, hS.bel, .inr ⟨[], .inl ⟨h1, rfl⟩, rfl, rfl, e1, e2, e3, e4⟩⟩
  · exact ⟨_, _, _, _, _, _, _, _, rfl, hS.c0, hS.c1, hS.c2, hS.bel, .inl ⟨h1, h2, p, rfl⟩⟩
  · exact ⟨_, _, _, _, _, _, _, _, rfl, hS.c0, hS.c1, hS.c2, hS.bel, .inr ⟨ids, .inr ⟨h1, h2⟩, rfl, rfl, e1, e2, e3, e4⟩⟩

theorem Outcome.drew {c : Nat → Int} {n : Nat} {X1 X2 : List Int} {s0 : Int} {w' : World} {aN : Option Addr} {nN : Nat} {aE : Option Addr} {nE : Nat} {s : Int} {err : Value} (h : Outcome c n X1 X2 s0 w' aN nN aE nE s err) (k : Nat) : Outcome c n X1 X2 s0 (w'.drewN k) aN nN aE nE s err := by
  have hb : Below w'.heap.size w' (w'.drewN k) := ⟨rfl, rfl, rfl, Nat.le_refl _, fun _ _ => rfl⟩
  rcases h with h | ⟨ids, h1, h2, h3, h4, h5, h6, h7⟩
  · exact .inl h
  · exact .inr ⟨ids, h1, h2, h3, h4, h5.later hb, h6, h7.later hb⟩

set_option maxRecDepth 20000 in
set_option maxHeartbeats 1600000 in
theorem zzAdj11 (F : Interp) (w : World) (a : Option Addr) (n cap : Nat) (c : Nat → Int) (a1 a2 : Option Addr) (X1 X2 : List Int) (l1 l2 : Nat) (s0 : Int) (hF : F.answers w.tape) (hn : n ≤ 1048576) (hnc : n ≤ cap) (hcap : cap ≤ 9223372036854775807) (hcb : ∀ j, 0 ≤ c j ∧ c j ≤ 255)
    (hr : Row .u8 w a n c) (hX1 : X1.length = l1) (hl1 : l1 ≤ 1048576) (ha1 : a1 = none → l1 = 0) (hr1 : Row .i64 w a1 X1.length (fn X1))
    (hl2 : l2 ≤ 1048576) (hX2 : X2.length = 2 * l2) (ha2 : a2 = none → l2 = 0) (hr2 : Row .i64 w a2 X2.length (fn X2)) :
    Calls Tryf.prog 11 #[.slice a1 l1 l1, .slice a2 l2 l2, .int .i64 s0, .slice a n cap] w (ZZRet c n w X1 X2 s0) := by
  subst hX1
  have hS : St w.heap.size w (w.alloc (.cells #[.slice a1 X1.length X1.length, .slice a2 l2 l2, .int .i64 s0] 62)) a1 a2 X1 X2 l2 s0 [] (.slice a1 X1.length X1.length) (.slice a2 l2 l2) (w.heap.size + 1) :=
    { bel := (Below.refl _ _).alloc (Nat.le_refl _) _, size := by simp, f0 := World.frozen?_alloc_new _ _ _ _, f1 := World.frozen?_alloc_new _ _ _ _, f2 := World.frozen?_alloc_new _ _ _ _,
      c0 := by simp, c1 := by simp, c2 := by simp, nod := rfl, edg := ⟨fun _ => rfl, fun h => by simp at h⟩, b1 := Nat.le_refl _, b2 := by simp, b3 := fun h => absurd rfl h }
  have H := hid (adjLine26 F w.heap.size w _ a n cap c a1 a2 X1 X2 l2 s0 _ _ _ hF rfl hn hnc hcap hcb hr hl1 ha1 hr1 hl2 hX2 ha2 hr2 hS)
  have HX := hid hX2
  clear hS hX2 ha1 ha2 hcb
  go_enter Tryf.func11, Tryf.ntmps11
  go_wp2_with (go_at_call 26; refine H.out.mono ?_; intro e w1 hA; obtain ⟨aN, nN, cN, aE, nE, cE, s, err, rfl, q0, q1, q2, hb, hO⟩ := adj_out hA hr1 HX.out hr2; clear hA)
  go_quiet (fail)
  go_wp2
  exact bodyPost_ret (v := .tuple #[.slice aN nN cN, .slice aE nE cE, .int .i64 s, err]) (by simp [results, Tryf.results11, go_sem]) rfl ⟨aN, nN, cN, aE, nE, cE, s, err, rfl, ⟨hb.os, hb.tape, hb.output, hb.size, hb.block⟩, hO.out.drew _⟩
end Go.Proofs.Qxb6003863aFmt
