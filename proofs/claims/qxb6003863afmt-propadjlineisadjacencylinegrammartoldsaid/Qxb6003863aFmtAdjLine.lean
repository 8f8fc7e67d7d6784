/- The walks of (*listed).edge, adjLine and ZZAdjLine. -/
import Derived.Test.Qxb6003863aFmtAdjScan
import Derived.ArgAppend
namespace Go.Proofs.Qxb6003863aFmt
open Go.RowKit Go.Extern.Stop Go.Stop Go.Extern
set_option linter.unusedVariables false

theorem Tryf.info2 : (Tryf.prog.info? 2).map (fun i => (i.zero, i.size, i.bytes)) = some (some (.int .i64 0), 1, 8) := by kernel_rfl
theorem Tryf.info40 : (Tryf.prog.info? 40).map (fun i => (i.zero, i.size, i.bytes)) = some (some (.agg #[.int .i64 0, .int .i64 0]), 2, 16) := by kernel_rfl

/-- The flat cells of the edges that a line's ids name. -/
def eds : List Int → List Int
  | [] => []
  | u :: r => r.flatMap fun v => [u, v]
/-- The self-loops behind a line. -/
def loops (s0 : Int) : List Int → Int
  | [] => s0
  | u :: r => r.foldl (fun s v => if v = u then wrap64 (s + 1) else s) s0

theorem eds_snoc (u : Int) (r : List Int) (v : Int) : eds (u :: r ++ [v]) = eds (u :: r) ++ [u, v] := by simp [eds]
theorem loops_snoc (s0 u : Int) (r : List Int) (v : Int) : loops s0 (u :: r ++ [v]) = if v = u then wrap64 (loops s0 (u :: r) + 1) else loops s0 (u :: r) := by simp [loops]
theorem eds_len (u : Int) (r : List Int) : (eds (u :: r)).length = 2 * r.length := by
  induction r with
  | nil => rfl
  | cons x r ih => simp [eds] at ih ⊢; omega

abbrev iv (X : List Int) : List Value := X.map (Value.int .i64)

def NodesAt (w : World) (B : Nat) (a1 : Option Addr) (X1 : List Int) : List Int → Value → Prop
  | [], v => v = .slice a1 X1.length X1.length
  | u :: _, v => w.ownsRow (B + 1) 2 1 v (X1.length + 1) (iv (X1 ++ [u]))
def EdgesAt (w : World) (bE : Nat) (a2 : Option Addr) (X2 : List Int) (l2 : Nat) (ids : List Int) (v : Value) : Prop :=
  (ids.length ≤ 1 → v = .slice a2 l2 l2) ∧ (1 < ids.length → w.ownsRow bE 40 2 v (l2 + (ids.length - 1)) (iv (X2 ++ eds ids)))

/-- What lies in memory while adjLine works: the listed in block B, its two slices; ids: those read so far. -/
structure St (B : Nat) (w0 w : World) (a1 a2 : Option Addr) (X1 X2 : List Int) (l2 : Nat) (s : Int) (ids : List Int) (vN vE : Value) (bE : Nat) : Prop where
  bel : Below B w0 w
  size : B < w.heap.size
  f0 : w.frozen? ⟨B, 0, none⟩ = false
  f1 : w.frozen? ⟨B, 1, none⟩ = false
  f2 : w.frozen? ⟨B, 2, none⟩ = false
  c0 : w.cell? ⟨B, 0, none⟩ = some vN
  c1 : w.cell? ⟨B, 1, none⟩ = some vE
  c2 : w.cell? ⟨B, 2, none⟩ = some (.int .i64 s)
  nod : NodesAt w B a1 X1 ids vN
  edg : EdgesAt w bE a2 X2 l2 ids vE
  b1 : B + 1 ≤ bE
  b2 : bE ≤ w.heap.size
  b3 : ids ≠ [] → ∀ k, vN.ownBlock = some k → k < bE

theorem owns_base {w : World} {base base' : Nat} {e : TypeId} {size : Nat} {v : Value} {n : Nat} {xs : List Value} (h : w.ownsRow base e size v n xs) (hb : base' ≤ base) : w.ownsRow base' e size v n xs := by
  refine ⟨h.1, ?_⟩
  rcases h.2 with hn | ⟨g, cap, cur, hv, hg, rest⟩
  · exact .inl hn
  · exact .inr ⟨g, cap, cur, hv, Nat.le_trans hb hg, rest⟩

theorem cell_off (w : World) (B : Nat) (u : Value) {j k : Nat} (e : ¬ j = k) : (w.setCell ⟨B, k, none⟩ u).cell? ⟨B, j, none⟩ = w.cell? ⟨B, j, none⟩ := by
  apply World.cell?_setCell_other
  intro h
  injection h
  omega

section
variable {B : Nat} {w0 w : World} {a1 a2 : Option Addr} {X1 X2 : List Int} {l2 : Nat} {s : Int} {ids : List Int} {vN vE : Value} {bE : Nat}

theorem NodesAt.setB {k : Nat} (u : Value) (h : NodesAt w B a1 X1 ids vN) : NodesAt (w.setCell ⟨B, k, none⟩ u) B a1 X1 ids vN := by
  match ids, h with
  | [], h => exact h
  | _ :: _, h => exact ownsRow_setCell_below h (show B < B + 1 by omega) u
theorem NodesAt.kept {w1 : World} {row : Option Nat} (h : NodesAt w B a1 X1 ids vN) (hg : w.grownBy w1 row) (hb : ids ≠ [] → ∀ k, vN.ownBlock = some k → k < bE) (hr : ∀ k, row = some k → bE ≤ k) : NodesAt w1 B a1 X1 ids vN := by
  match ids, h, hb with
  | [], h, _ => exact h
  | _ :: _, h, hb =>
    refine World.ownsRow.kept (w := w) h hg ?_
    cases hv : vN.ownBlock with
    | none => exact .inl rfl
    | some k =>
      refine .inr fun e => ?_
      have h1 := hb (by simp) k hv
      have h2 := hr k e.symm
      omega

theorem St.bump (h : St B w0 w a1 a2 X1 X2 l2 s ids vN vE bE) (s' : Int) : St B w0 (w.setCell ⟨B, 2, none⟩ (.int .i64 s')) a1 a2 X1 X2 l2 s' ids vN vE bE where
  bel := h.bel.setCell (Nat.le_refl _) _
  size := by have := h.size; simpa [World.setCell] using this
  f0 := by rw [World.frozen?_setCell]; exact h.f0
  f1 := by rw [World.frozen?_setCell]; exact h.f1
  f2 := by rw [World.frozen?_setCell]; exact h.f2
  c0 := by rw [cell_off _ _ _ (by omega)]; exact h.c0
  c1 := by rw [cell_off _ _ _ (by omega)]; exact h.c1
  c2 := World.cell?_setCell_same _ _ _ h.c2
  nod := h.nod.setB _
  edg := ⟨h.edg.1, fun hl => ownsRow_setCell_below (h.edg.2 hl) (show B < bE by have := h.b1; omega) _⟩
  b1 := h.b1
  b2 := by have := h.b2; simpa [World.setCell] using this
  b3 := h.b3

theorem St.alloc (h : St B w0 w a1 a2 X1 X2 l2 s ids vN vE bE) (o : Obj) : St B w0 (w.alloc o) a1 a2 X1 X2 l2 s ids vN vE bE where
  bel := h.bel.alloc (Nat.le_of_lt h.size) _
  size := by have := h.size; simp; omega
  f0 := by rw [World.frozen?_alloc_past _ _ _ h.size]; exact h.f0
  f1 := by rw [World.frozen?_alloc_past _ _ _ h.size]; exact h.f1
  f2 := by rw [World.frozen?_alloc_past _ _ _ h.size]; exact h.f2
  c0 := by rw [World.cell?_alloc_past _ _ _ h.size]; exact h.c0
  c1 := by rw [World.cell?_alloc_past _ _ _ h.size]; exact h.c1
  c2 := by rw [World.cell?_alloc_past _ _ _ h.size]; exact h.c2
  nod := h.nod.kept (bE := bE) (World.grownBy_alloc w o none) h.b3 (fun k hk => by cases hk)
  edg := ⟨h.edg.1, fun hl => (h.edg.2 hl).alloc _⟩
  b1 := h.b1
  b2 := by have := h.b2; simp; omega
  b3 := h.b3

theorem grown_cell {w1 : World} {row : Option Nat} (hg : w.grownBy w1 row) (hs : B < w.heap.size) (hr : ∀ k, row = some k → B < k) (j : Nat) : w1.cell? ⟨B, j, none⟩ = w.cell? ⟨B, j, none⟩ ∧ w1.frozen? ⟨B, j, none⟩ = w.frozen? ⟨B, j, none⟩ := by
  have hb : w1.heap[B]? = w.heap[B]? := hg.block B hs (fun e => by have := hr B e.symm; omega)
  exact ⟨World.cell?_of_block (a := ⟨B, j, none⟩) hb, World.frozen?_of_block (a := ⟨B, j, none⟩) hb⟩

theorem St.grow {u : Int} {r : List Int} (h : St B w0 w a1 a2 X1 X2 l2 s (u :: r) vN vE bE) {v : Int} {v' : Value} {w1 : World} {row : Option Nat} {bE' : Nat} (hg : w.grownBy w1 row) (hr : ∀ k, row = some k → bE ≤ k) (hb1 : bE ≤ bE') (hb2 : bE' ≤ w.heap.size)
    (ho : w1.ownsRow bE' 40 2 v' (l2 + r.length + 1) (iv (X2 ++ eds (u :: r)) ++ [.int .i64 u, .int .i64 v])) : St B w0 (w1.setCell ⟨B, 1, none⟩ v') a1 a2 X1 X2 l2 s (u :: r ++ [v]) vN v' bE' where
  bel := (h.bel.grown hg (Nat.le_of_lt h.size) (fun k hk => by have := hr k hk; have := h.b1; omega)).setCell (Nat.le_refl _) _
  size := by have := h.size; have := hg.size; simp only [World.setCell, Array.size_modify]; omega
  f0 := by rw [World.frozen?_setCell, (grown_cell hg h.size (fun k hk => by have := hr k hk; have := h.b1; omega) 0).2]; exact h.f0
  f1 := by rw [World.frozen?_setCell, (grown_cell hg h.size (fun k hk => by have := hr k hk; have := h.b1; omega) 1).2]; exact h.f1
  f2 := by rw [World.frozen?_setCell, (grown_cell hg h.size (fun k hk => by have := hr k hk; have := h.b1; omega) 2).2]; exact h.f2
  c0 := by rw [cell_off _ _ _ (by omega), (grown_cell hg h.size (fun k hk => by have := hr k hk; have := h.b1; omega) 0).1]; exact h.c0
  c1 := World.cell?_setCell_same _ _ _ ((grown_cell hg h.size (fun k hk => by have := hr k hk; have := h.b1; omega) 1).1.trans h.c1)
  c2 := by rw [cell_off _ _ _ (by omega), (grown_cell hg h.size (fun k hk => by have := hr k hk; have := h.b1; omega) 2).1]; exact h.c2
  nod := by
    have := (h.nod.kept (bE := bE) hg h.b3 hr).setB (k := 1) v'
    exact this
  edg := ⟨fun hl => by simp at hl, fun _ => by
    have := ownsRow_setCell_below (a := ⟨B, 1, none⟩) ho (show B < bE' by have := h.b1; omega) v'
    rw [eds_snoc]
    have e : l2 + ((u :: r ++ [v]).length - 1) = l2 + r.length + 1 := by simp; omega
    rw [e]
    simpa [iv] using this⟩
  b1 := by have := h.b1; omega
  b2 := by have := hg.size; simp only [World.setCell, Array.size_modify]; omega
  b3 := fun _ k hk => by have := h.b3 (by simp) k hk; omega

theorem St.node (h : St B w0 w a1 a2 X1 X2 l2 s [] vN vE bE) {u : Int} {v' : Value} {w1 : World} (hg : w.grownBy w1 none)
    (ho : w1.ownsRow w.heap.size 2 1 v' (X1.length + 1) (iv X1 ++ [.int .i64 u])) : St B w0 (w1.setCell ⟨B, 0, none⟩ v') a1 a2 X1 X2 l2 s [u] v' vE w1.heap.size where
  bel := (h.bel.grown hg (Nat.le_of_lt h.size) (fun k hk => by cases hk)).setCell (Nat.le_refl _) _
  size := by have := h.size; have := hg.size; simp only [World.setCell, Array.size_modify]; omega
  f0 := by rw [World.frozen?_setCell, (grown_cell hg h.size (fun k hk => by cases hk) 0).2]; exact h.f0
  f1 := by rw [World.frozen?_setCell, (grown_cell hg h.size (fun k hk => by cases hk) 1).2]; exact h.f1
  f2 := by rw [World.frozen?_setCell, (grown_cell hg h.size (fun k hk => by cases hk) 2).2]; exact h.f2
  c0 := World.cell?_setCell_same _ _ _ ((grown_cell hg h.size (fun k hk => by cases hk) 0).1.trans h.c0)
  c1 := by rw [cell_off _ _ _ (by omega), (grown_cell hg h.size (fun k hk => by cases hk) 1).1]; exact h.c1
  c2 := by rw [cell_off _ _ _ (by omega), (grown_cell hg h.size (fun k hk => by cases hk) 2).1]; exact h.c2
  nod := by
    have := ownsRow_setCell_below (a := ⟨B, 0, none⟩) (owns_base ho (show B + 1 ≤ w.heap.size by have := h.size; omega)) (show B < B + 1 by omega) v'
    simpa [NodesAt, iv] using this
  edg := ⟨fun _ => h.edg.1 (by simp), fun hl => by simp at hl⟩
  b1 := by have := h.size; have := hg.size; omega
  b2 := by simp [World.setCell]
  b3 := fun _ k hk => (World.ownsRow.lt (w := w1) ho k hk).2
end

/-- Two new cells, read at their block. -/
theorem cell_pair (w : World) (x y : Value) (t : TypeId) (n : Nat) (hn : n = w.heap.size) : ∀ j u, [x, y][j]? = some u → (w.alloc (.cells #[x, y] t)).cell? ((⟨n, 0, none⟩ : Addr).add j) = some u := by
  subst hn
  intro j u hj
  match j, hj with
  | 0, hj => simp at hj; subst hj; simp [Addr.add]
  | 1, hj => simp at hj; subst hj; simp [Addr.add]
theorem size_set (w : World) (a : Addr) (v : Value) : w.heap.size = (w.setCell a v).heap.size := by simp [World.setCell]

/-- The arguments' edges, still lying where they lay. -/
theorem arg_cells {B : Nat} {w0 w : World} {a : Option Addr} {X : List Int} (hB : B = w0.heap.size) (hr : Row .i64 w0 a X.length (fun j => X.getD j 0)) (hb : Below B w0 w) : ∀ b, a = some b → ∀ j u, (iv X)[j]? = some u → w.cell? (b.add j) = some u := by
  intro b hab j u hu
  obtain ⟨hlt, _⟩ := List.getElem?_eq_some_iff.1 hu
  simp at hlt
  obtain ⟨b', off, e, hc⟩ := hr (by omega)
  rw [hab] at e
  obtain rfl := Option.some.inj e
  rw [Addr.add_lit]
  refine cell_later (by rw [← hB]; exact hb) ?_
  rw [hc j hlt]
  rw [← hu]
  simp [hlt]

theorem owns_shape {w : World} {base : Nat} {e : TypeId} {size : Nat} {v : Value} {n : Nat} {xs : List Value} (h : w.ownsRow base e size v n xs) : ∃ a m c, v = .slice a m c := by
  rcases h.2 with ⟨hv, _⟩ | ⟨g, cap, cur, hv, _⟩
  · exact ⟨_, _, _, hv⟩
  · exact ⟨_, _, _, hv⟩

theorem St.still {B : Nat} {w0 w : World} {a1 a2 : Option Addr} {X1 X2 : List Int} {l2 : Nat} {s : Int} {ids : List Int} {vN vE : Value} {bE : Nat} (h : St B w0 w a1 a2 X1 X2 l2 s ids vN vE bE) {w1 : World} {row : Option Nat} (hg : w.grownBy w1 row) (hr : ∀ k, row = some k → bE ≤ k) :
    w1.cell? ⟨B, 0, none⟩ = some vN ∧ w1.cell? ⟨B, 1, none⟩ = some vE ∧ w1.frozen? ⟨B, 0, none⟩ = false ∧ w1.frozen? ⟨B, 1, none⟩ = false := by
  have hr' : ∀ k, row = some k → B < k := fun k hk => by have := hr k hk; have := h.b1; omega
  refine ⟨(grown_cell hg h.size hr' 0).1.trans h.c0, (grown_cell hg h.size hr' 1).1.trans h.c1, (grown_cell hg h.size hr' 0).2.trans h.f0, (grown_cell hg h.size hr' 1).2.trans h.f1⟩

def EdgePost (B : Nat) (w0 : World) (a1 a2 : Option Addr) (X1 X2 : List Int) (l2 : Nat) (s : Int) (ids : List Int) (e : Ending) (w' : World) : Prop :=
  e = .returned (.tuple #[]) ∧ ∃ vN vE bE, St B w0 w' a1 a2 X1 X2 l2 s ids vN vE bE

set_option maxRecDepth 20000 in
set_option maxHeartbeats 800000 in
theorem edge39_first (B : Nat) (w0 w : World) (a1 a2 : Option Addr) (X1 X2 : List Int) (l2 : Nat) (s u v : Int) (vN vE : Value) (bE : Nat) (hB : B = w0.heap.size) (hl2 : l2 ≤ 1048576) (hX2 : X2.length = 2 * l2) (ha2 : a2 = none → l2 = 0)
    (hr2 : Row .i64 w0 a2 X2.length (fun j => X2.getD j 0)) (h : St B w0 w a1 a2 X1 X2 l2 s [u] vN vE bE) :
    Calls Tryf.prog 39 #[.pointer (some ⟨B, 0, none⟩), .int .i64 u, .int .i64 v] w (EdgePost B w0 a1 a2 X1 X2 l2 (if v = u then wrap64 (s + 1) else s) ([u] ++ [v])) := by
  obtain ⟨i0, hi, hz0, hz1, hz2⟩ := info_parts Tryf.info40
  have HI := hid hi
  have HZ0 := hid hz0
  have HZ1 := hid hz1
  have HZ2 := hid hz2
  have HB := hid hB
  have HX := hid hX2
  have HA := hid ha2
  obtain rfl := h.edg.1 (by simp)
  have c1 := h.c1
  have c2 := h.c2
  have f1 := h.f1
  have f2 := h.f2
  have sz := h.size
  clear hB hX2 ha2 hi hz0 hz1 hz2
  by_cases huv : v = u
  · subst huv
    rw [if_pos rfl]
    have hS := (h.bump (wrap64 (s + 1))).alloc (.cells #[.int .i64 v, .int .i64 v] 40)
    go_enter Tryf.func39, Tryf.ntmps39
    go_wp2_with (at_builtin; refine wpList_append_grows _ rfl _ _ 34 rfl 40 i0 (.agg #[.int .i64 0, .int .i64 0]) 2 16 Tryf.underlying34 HI.out HZ0.out HZ1.out HZ2.out rfl (by decide) a2 l2 l2 (iv X2) rfl (fun e => ⟨HA.out e, HA.out e⟩) (by simp [HX.out]; omega) (arg_cells HB.out hr2 hS.bel) ⟨w.heap.size, 0, none⟩ 1 1 [.int .i64 v, .int .i64 v] rfl rfl (cell_pair _ _ _ _ _ (size_set _ _ _)) (by simp [Value.oneCell']) (by omega) (by unfold maxLen; omega) (by omega) ?_; intro v' w1 ho hg; obtain ⟨a', n', c', rfl⟩ := owns_shape ho; obtain ⟨q0, q1, q2, q3⟩ := hS.still hg (fun k hk => by cases hk))
    go_end0
    exact ⟨rfl, vN, _, _, hS.grow (r := []) hg (fun k hk => by cases hk) hS.b2 (Nat.le_refl _) (by simpa [iv, eds] using ho)⟩
  · rw [if_neg huv]
    have huv' : (u == v) = false := by simp; exact fun e => huv e.symm
    have hS := h.alloc (.cells #[.int .i64 u, .int .i64 v] 40)
    go_enter Tryf.func39, Tryf.ntmps39
    go_wp2_with (at_builtin; refine wpList_append_grows _ rfl _ _ 34 rfl 40 i0 (.agg #[.int .i64 0, .int .i64 0]) 2 16 Tryf.underlying34 HI.out HZ0.out HZ1.out HZ2.out rfl (by decide) a2 l2 l2 (iv X2) rfl (fun e => ⟨HA.out e, HA.out e⟩) (by simp [HX.out]; omega) (arg_cells HB.out hr2 hS.bel) ⟨w.heap.size, 0, none⟩ 1 1 [.int .i64 u, .int .i64 v] rfl rfl (cell_pair _ _ _ _ _ (rfl)) (by simp [Value.oneCell']) (by omega) (by unfold maxLen; omega) (by omega) ?_; intro v' w1 ho hg; obtain ⟨a', n', c', rfl⟩ := owns_shape ho; obtain ⟨q0, q1, q2, q3⟩ := hS.still hg (fun k hk => by cases hk))
    go_end0
    exact ⟨rfl, vN, _, _, hS.grow (r := []) hg (fun k hk => by cases hk) hS.b2 (Nat.le_refl _) (by simpa [iv, eds] using ho)⟩
set_option maxRecDepth 20000 in
set_option maxHeartbeats 800000 in
theorem edge39_more (B : Nat) (w0 w : World) (a1 a2 : Option Addr) (X1 X2 : List Int) (l2 : Nat) (s u v : Int) (r : List Int) (vN vE : Value) (bE : Nat) (hl2 : l2 ≤ 1048576) (hr : r.length ≤ 1048576) (hr1 : 0 < r.length)
    (h : St B w0 w a1 a2 X1 X2 l2 s (u :: r) vN vE bE) :
    Calls Tryf.prog 39 #[.pointer (some ⟨B, 0, none⟩), .int .i64 u, .int .i64 v] w (EdgePost B w0 a1 a2 X1 X2 l2 (if v = u then wrap64 (s + 1) else s) (u :: r ++ [v])) := by
  obtain ⟨i0, hi, hz0, hz1, hz2⟩ := info_parts Tryf.info40
  have HI := hid hi
  have HZ0 := hid hz0
  have HZ1 := hid hz1
  have HZ2 := hid hz2
  have hr0 : Hid (1 < (u :: r).length) := by show _ < _; simp; omega
  obtain ⟨ae, ne, ce, rfl⟩ := owns_shape (h.edg.2 hr0.out)
  have c1 := h.c1
  have c2 := h.c2
  have f1 := h.f1
  have f2 := h.f2
  have sz := h.size
  clear hi hz0 hz1 hz2
  by_cases huv : v = u
  · subst huv
    rw [if_pos rfl]
    have hS := (h.bump (wrap64 (s + 1))).alloc (.cells #[.int .i64 v, .int .i64 v] 40)
    go_enter Tryf.func39, Tryf.ntmps39
    go_wp2_with (at_builtin; refine wpList_append_own _ rfl _ _ 34 rfl bE 40 i0 (.agg #[.int .i64 0, .int .i64 0]) 2 16 Tryf.underlying34 HI.out HZ0.out HZ1.out HZ2.out rfl (by decide) _ (l2 + ((v :: r).length - 1)) _ rfl (hS.edg.2 hr0.out) ⟨w.heap.size, 0, none⟩ 1 1 [.int .i64 v, .int .i64 v] rfl rfl (cell_pair _ _ _ _ _ (size_set _ _ _)) (by simp [Value.oneCell']) (by unfold maxLen; simp; omega) (by simp; omega) hS.b2 ?_; intro v' w1 ho hg _; obtain ⟨a', n', c', rfl⟩ := owns_shape ho; obtain ⟨q0, q1, q2, q3⟩ := hS.still hg (fun k hk => ((hS.edg.2 hr0.out).lt k hk).1))
    go_end0
    exact ⟨rfl, vN, _, _, hS.grow hg (fun k hk => ((hS.edg.2 hr0.out).lt k hk).1) (Nat.le_refl _) hS.b2 (by simpa [iv, Nat.add_assoc] using ho)⟩
  · rw [if_neg huv]
    have huv' : (u == v) = false := by simp; exact fun e => huv e.symm
    have hS := h.alloc (.cells #[.int .i64 u, .int .i64 v] 40)
    go_enter Tryf.func39, Tryf.ntmps39
    go_wp2_with (at_builtin; refine wpList_append_own _ rfl _ _ 34 rfl bE 40 i0 (.agg #[.int .i64 0, .int .i64 0]) 2 16 Tryf.underlying34 HI.out HZ0.out HZ1.out HZ2.out rfl (by decide) _ (l2 + ((u :: r).length - 1)) _ rfl (hS.edg.2 hr0.out) ⟨w.heap.size, 0, none⟩ 1 1 [.int .i64 u, .int .i64 v] rfl rfl (cell_pair _ _ _ _ _ (rfl)) (by simp [Value.oneCell']) (by unfold maxLen; simp; omega) (by simp; omega) hS.b2 ?_; intro v' w1 ho hg _; obtain ⟨a', n', c', rfl⟩ := owns_shape ho; obtain ⟨q0, q1, q2, q3⟩ := hS.still hg (fun k hk => ((hS.edg.2 hr0.out).lt k hk).1))
    go_end0
    exact ⟨rfl, vN, _, _, hS.grow hg (fun k hk => ((hS.edg.2 hr0.out).lt k hk).1) (Nat.le_refl _) hS.b2 (by simpa [iv, Nat.add_assoc] using ho)⟩

theorem edge39 (B : Nat) (w0 w : World) (a1 a2 : Option Addr) (X1 X2 : List Int) (l2 : Nat) (s u v : Int) (r : List Int) (vN vE : Value) (bE : Nat) (hB : B = w0.heap.size) (hl2 : l2 ≤ 1048576) (hr : r.length ≤ 1048576) (hX2 : X2.length = 2 * l2) (ha2 : a2 = none → l2 = 0)
    (hr2 : Row .i64 w0 a2 X2.length (fun j => X2.getD j 0)) (h : St B w0 w a1 a2 X1 X2 l2 s (u :: r) vN vE bE) :
    Calls Tryf.prog 39 #[.pointer (some ⟨B, 0, none⟩), .int .i64 u, .int .i64 v] w (EdgePost B w0 a1 a2 X1 X2 l2 (if v = u then wrap64 (s + 1) else s) (u :: r ++ [v])) := by
  cases r with
  | nil => exact edge39_first B w0 w a1 a2 X1 X2 l2 s u v vN vE bE hB hl2 hX2 ha2 hr2 h
  | cons x r => exact edge39_more B w0 w a1 a2 X1 X2 l2 s u v (x :: r) vN vE bE hl2 hr (by simp) h
end Go.Proofs.Qxb6003863aFmt
