/- The Map in memory: its block, its two rows; what a store does to it; what may have turned behind a call. -/
import Derived.Test.Qxb6003863aFmtMapSmall
namespace Go.Proofs.Qxb6003863aFmt
open Go.RowKit
set_option linter.unusedVariables false

/-- Of the blocks that were there only those of which p speaks may have turned; new ones may have come. -/
structure Keeps (p : Nat → Prop) (w w' : World) : Prop where
  os : w'.os = w.os
  tape : w'.tape = w.tape
  output : w'.output = w.output
  size : w.heap.size ≤ w'.heap.size
  block : ∀ k, k < w.heap.size → ¬ p k → w'.heap[k]? = w.heap[k]?

theorem Keeps.refl (p : Nat → Prop) (w : World) : Keeps p w w := ⟨rfl, rfl, rfl, Nat.le_refl _, fun _ _ _ => rfl⟩
theorem Keeps.trans {p q r : Nat → Prop} {a b c : World} (h : Keeps p a b) (k : Keeps q b c) (hp : ∀ i, i < a.heap.size → p i → r i) (hq : ∀ i, i < a.heap.size → q i → r i) : Keeps r a c :=
  ⟨k.os.trans h.os, k.tape.trans h.tape, k.output.trans h.output, Nat.le_trans h.size k.size, fun i hi hr => (k.block i (Nat.lt_of_lt_of_le hi h.size) (fun x => hr (hq i hi x))).trans (h.block i hi (fun x => hr (hp i hi x)))⟩
theorem Keeps.same {p : Nat → Prop} {a b c : World} (h : Keeps p a b) (k : Keeps p b c) : Keeps p a c := h.trans k (fun _ _ x => x) (fun _ _ x => x)
theorem Keeps.mono {p q : Nat → Prop} {a b : World} (h : Keeps p a b) (hq : ∀ i, i < a.heap.size → p i → q i) : Keeps q a b := ⟨h.os, h.tape, h.output, h.size, fun i hi hr => h.block i hi (fun x => hr (hq i hi x))⟩
theorem Keeps.drewN {p : Nat → Prop} {a b : World} (h : Keeps p a b) (n : Nat) : Keeps p a (b.drewN n) := ⟨h.os, h.tape, h.output, h.size, h.block⟩
theorem Keeps.drew {p : Nat → Prop} {a b : World} (h : Keeps p a b) : Keeps p a b.drew := ⟨h.os, h.tape, h.output, h.size, h.block⟩
theorem Keeps.setCell {p : Nat → Prop} {a b : World} (h : Keeps p a b) {c : Addr} (hp : p c.block) (u : Value) : Keeps p a (b.setCell c u) :=
  ⟨h.os, h.tape, h.output, by have := h.size; simpa [World.setCell] using this, fun i hi hr => (Below.heap_setCell _ _ _ _ (fun e => hr (by rw [e]; exact hp))).trans (h.block i hi hr)⟩
theorem Keeps.alloc {p : Nat → Prop} {a b : World} (h : Keeps p a b) (o : Obj) : Keeps p a (b.alloc o) :=
  ⟨h.os, h.tape, h.output, by have := h.size; simp; omega, fun i hi hr => (Below.heap_alloc _ _ _ (by have := h.size; omega)).trans (h.block i hi hr)⟩
theorem Keeps.cell {p : Nat → Prop} {w w' : World} (h : Keeps p w w') {b o : Nat} (hb : b < w.heap.size) (hp : ¬ p b) : w'.cell? ⟨b, o, none⟩ = w.cell? ⟨b, o, none⟩ := World.cell?_of_block (a := ⟨b, o, none⟩) (h.block b hb hp)
theorem Keeps.frozen {p : Nat → Prop} {w w' : World} (h : Keeps p w w') {b o : Nat} (hb : b < w.heap.size) (hp : ¬ p b) : w'.frozen? ⟨b, o, none⟩ = w.frozen? ⟨b, o, none⟩ := World.frozen?_of_block (a := ⟨b, o, none⟩) (h.block b hb hp)
theorem Keeps.below {p : Nat → Prop} {w w' : World} (h : Keeps p w w') {n : Nat} (hn : n ≤ w.heap.size) (hp : ∀ i, i < n → ¬ p i) : Below n w w' := ⟨h.os, h.tape, h.output, h.size, fun k hk => h.block k (by omega) (hp k hk)⟩

theorem cell_far {w : World} {b b' o o' : Nat} (u : Value) (h : ¬ b' = b) : (w.setCell ⟨b, o, none⟩ u).cell? ⟨b', o', none⟩ = w.cell? ⟨b', o', none⟩ := by
  apply World.cell?_setCell_other
  intro e
  injection e with e1
  exact h e1.symm
theorem cell_off' {w : World} {b o o' : Nat} (u : Value) (h : ¬ o' = o) : (w.setCell ⟨b, o, none⟩ u).cell? ⟨b, o', none⟩ = w.cell? ⟨b, o', none⟩ := by
  apply World.cell?_setCell_other
  intro e
  injection e with _ e2
  exact h e2.symm

/-- A Map with cells: its block B, its rows bi and bv. -/
structure Mem (w : World) (B bi bv C m : Nat) (ids vals : Nat → Int) (len : Nat) : Prop where
  c0 : w.cell? ⟨B, 0, none⟩ = some (.slice (some ⟨bi, 0, none⟩) C C)
  c1 : w.cell? ⟨B, 1, none⟩ = some (.slice (some ⟨bv, 0, none⟩) C C)
  c2 : w.cell? ⟨B, 2, none⟩ = some (.int .i64 len)
  c3 : w.cell? ⟨B, 3, none⟩ = some (.int .u64 ((64 - m : Nat) : Int))
  ci : ∀ j, j < C → w.cell? ⟨bi, j, none⟩ = some (.int .i64 (ids j))
  cv : ∀ j, j < C → w.cell? ⟨bv, j, none⟩ = some (.int .i64 (vals j))
  fB : ∀ j, w.frozen? ⟨B, j, none⟩ = false
  fi : ∀ j, w.frozen? ⟨bi, j, none⟩ = false
  fv : ∀ j, w.frozen? ⟨bv, j, none⟩ = false
  n1 : ¬ bi = B
  n2 : ¬ bv = B
  n3 : ¬ bi = bv

section
variable {w : World} {B bi bv C m : Nat} {ids vals : Nat → Int} {len : Nat}

theorem Mem.setId (M : Mem w B bi bv C m ids vals len) {j : Nat} (hj : j < C) (x : Int) : Mem (w.setCell ⟨bi, j, none⟩ (.int .i64 x)) B bi bv C m (upd ids j x) vals len where
  c0 := (cell_far _ (fun e => M.n1 e.symm)).trans M.c0
  c1 := (cell_far _ (fun e => M.n1 e.symm)).trans M.c1
  c2 := (cell_far _ (fun e => M.n1 e.symm)).trans M.c2
  c3 := (cell_far _ (fun e => M.n1 e.symm)).trans M.c3
  ci := fun k hk => by
    by_cases e : k = j
    · subst e; rw [upd_same]; exact World.cell?_setCell_same _ _ _ (M.ci k hk)
    · rw [upd_other _ _ e, cell_off' _ e]; exact M.ci k hk
  cv := fun k hk => (cell_far _ (fun e => M.n3 e.symm)).trans (M.cv k hk)
  fB := fun k => by rw [World.frozen?_setCell]; exact M.fB k
  fi := fun k => by rw [World.frozen?_setCell]; exact M.fi k
  fv := fun k => by rw [World.frozen?_setCell]; exact M.fv k
  n1 := M.n1
  n2 := M.n2
  n3 := M.n3

theorem Mem.setVal (M : Mem w B bi bv C m ids vals len) {j : Nat} (hj : j < C) (x : Int) : Mem (w.setCell ⟨bv, j, none⟩ (.int .i64 x)) B bi bv C m ids (upd vals j x) len where
  c0 := (cell_far _ (fun e => M.n2 e.symm)).trans M.c0
  c1 := (cell_far _ (fun e => M.n2 e.symm)).trans M.c1
  c2 := (cell_far _ (fun e => M.n2 e.symm)).trans M.c2
  c3 := (cell_far _ (fun e => M.n2 e.symm)).trans M.c3
  cv := fun k hk => by
    by_cases e : k = j
    · subst e; rw [upd_same]; exact World.cell?_setCell_same _ _ _ (M.cv k hk)
    · rw [upd_other _ _ e, cell_off' _ e]; exact M.cv k hk
  ci := fun k hk => (cell_far _ M.n3).trans (M.ci k hk)
  fB := fun k => by rw [World.frozen?_setCell]; exact M.fB k
  fi := fun k => by rw [World.frozen?_setCell]; exact M.fi k
  fv := fun k => by rw [World.frozen?_setCell]; exact M.fv k
  n1 := M.n1
  n2 := M.n2
  n3 := M.n3

theorem Mem.setLen (M : Mem w B bi bv C m ids vals len) (n : Nat) : Mem (w.setCell ⟨B, 2, none⟩ (.int .i64 n)) B bi bv C m ids vals n where
  c0 := (cell_off' _ (by omega)).trans M.c0
  c1 := (cell_off' _ (by omega)).trans M.c1
  c2 := World.cell?_setCell_same _ _ _ M.c2
  c3 := (cell_off' _ (by omega)).trans M.c3
  ci := fun k hk => (cell_far _ M.n1).trans (M.ci k hk)
  cv := fun k hk => (cell_far _ M.n2).trans (M.cv k hk)
  fB := fun k => by rw [World.frozen?_setCell]; exact M.fB k
  fi := fun k => by rw [World.frozen?_setCell]; exact M.fi k
  fv := fun k => by rw [World.frozen?_setCell]; exact M.fv k
  n1 := M.n1
  n2 := M.n2
  n3 := M.n3

theorem Mem.drewN (M : Mem w B bi bv C m ids vals len) (n : Nat) : Mem (w.drewN n) B bi bv C m ids vals len :=
  ⟨M.c0, M.c1, M.c2, M.c3, M.ci, M.cv, M.fB, M.fi, M.fv, M.n1, M.n2, M.n3⟩

/-- The Map lies untouched behind whatever turns other blocks. -/
theorem Mem.later (M : Mem w B bi bv C m ids vals len) {p : Nat → Prop} {w' : World} (hC : 0 < C) (k : Keeps p w w') (h1 : ¬ p B) (h2 : ¬ p bi) (h3 : ¬ p bv) : Mem w' B bi bv C m ids vals len := by
  have lB : B < w.heap.size := World.block_lt_of_cell? _ _ M.c0
  have li : bi < w.heap.size := World.block_lt_of_cell? _ _ (M.ci 0 hC)
  have lv : bv < w.heap.size := World.block_lt_of_cell? _ _ (M.cv 0 hC)
  exact ⟨(k.cell lB h1).trans M.c0, (k.cell lB h1).trans M.c1, (k.cell lB h1).trans M.c2, (k.cell lB h1).trans M.c3, fun j hj => (k.cell li h2).trans (M.ci j hj), fun j hj => (k.cell lv h3).trans (M.cv j hj),
    fun j => (k.frozen lB h1).trans (M.fB j), fun j => (k.frozen li h2).trans (M.fi j), fun j => (k.frozen lv h3).trans (M.fv j), M.n1, M.n2, M.n3⟩
end

/-- The table's own law: a power of two of cells; at most half full; ids that are no negative numbers. -/
structure Good (C m : Nat) (ids : Nat → Int) (len : Nat) : Prop where
  pow : C = 2 ^ m
  m1 : 3 ≤ m
  m2 : m ≤ 24
  tab : Tab C (hm m) ids
  cnt : cnt ids C = len
  half : 2 * len ≤ C
  nn : ∀ j, j < C → ids j = -1 ∨ 0 ≤ ids j

theorem Good.pos {C m : Nat} {ids : Nat → Int} {len : Nat} (G : Good C m ids len) : 8 ≤ C ∧ C ≤ 16777216 := by
  have h1 : 2 ^ 3 ≤ 2 ^ m := Nat.pow_le_pow_right (by decide) G.m1
  have h2 : 2 ^ m ≤ 2 ^ 24 := Nat.pow_le_pow_right (by decide) G.m2
  have := G.pow
  omega
theorem Good.empty {C m : Nat} {ids : Nat → Int} {len : Nat} (G : Good C m ids len) : ∃ e, e < C ∧ ids e = -1 := cnt_empty ids C (by have := G.pos; have := G.half; have := G.cnt; omega)

/-- y lies in the table with the value u. -/
def Holds (C : Nat) (ids vals : Nat → Int) (y u : Int) : Prop := ∃ j, j < C ∧ ids j = y ∧ vals j = u

theorem Good.putNew {C m : Nat} {ids vals : Nat → Int} {len k : Nat} {x : Int} (v : Int) (G : Good C m ids len) (hp : Passed C (hm m) ids x k) (he : ids ((hm m x + k) % C) = -1) (hx : 0 ≤ x) (hr : 2 * (len + 1) ≤ C) :
    Good C m (upd ids ((hm m x + k) % C) x) (len + 1) ∧ (∀ y u, ¬ y = -1 → (Holds C (upd ids ((hm m x + k) % C) x) (upd vals ((hm m x + k) % C) v) y u ↔ if y = x then u = v else Holds C ids vals y u)) ∧ ∀ u, ¬ Holds C ids vals x u := by
  obtain ⟨T, hno⟩ := G.tab.put hp he (by omega)
  have hpl : (hm m x + k) % C < C := Nat.mod_lt _ (by have := hp.1; omega)
  obtain ⟨p, hpd⟩ : ∃ p, p = (hm m x + k) % C := ⟨_, rfl⟩
  rw [← hpd] at T he hpl ⊢
  refine ⟨⟨G.pow, G.m1, G.m2, T, by rw [cnt_fill ids p x he (by omega) C hpl, G.cnt], hr, fun j hj => ?_⟩, fun y u hy => ?_, fun u ⟨j, hj, h1, _⟩ => hno j hj h1⟩
  · unfold upd
    split
    · exact .inr hx
    · exact G.nn j hj
  · split
    · rename_i hyx
      subst hyx
      constructor
      · rintro ⟨j, hj, h1, h2⟩
        by_cases ej : j = p
        · subst ej; rw [upd_same] at h2; exact h2.symm
        · rw [upd_other _ _ ej] at h1; exact absurd h1 (hno j hj)
      · intro h
        exact ⟨p, hpl, upd_same _ _ _, by rw [upd_same]; exact h.symm⟩
    · rename_i hyx
      constructor
      · rintro ⟨j, hj, h1, h2⟩
        by_cases ej : j = p
        · subst ej; rw [upd_same] at h1; exact absurd h1.symm hyx
        · rw [upd_other _ _ ej] at h1 h2; exact ⟨j, hj, h1, h2⟩
      · rintro ⟨j, hj, h1, h2⟩
        have ej : ¬ j = p := fun e => by rw [e, he] at h1; exact hy h1.symm
        exact ⟨j, hj, by rw [upd_other _ _ ej]; exact h1, by rw [upd_other _ _ ej]; exact h2⟩

theorem Good.putOld {C m : Nat} {ids vals : Nat → Int} {len p : Nat} {x : Int} (v : Int) (G : Good C m ids len) (hpl : p < C) (he : ids p = x) :
    (∀ y u, ¬ y = -1 → (Holds C ids (upd vals p v) y u ↔ if y = x then u = v else Holds C ids vals y u)) ∧ ∃ u, Holds C ids vals x u := by
  refine ⟨fun y u hy => ?_, ⟨vals p, p, hpl, he, rfl⟩⟩
  split
  · rename_i hyx
    subst hyx
    constructor
    · rintro ⟨j, hj, h1, h2⟩
      have := G.tab.uniq j p hj hpl (by rw [h1]; exact hy) (by rw [h1, he])
      subst this
      rw [upd_same] at h2
      exact h2.symm
    · intro h
      exact ⟨p, hpl, he, by rw [upd_same]; exact h.symm⟩
  · rename_i hyx
    constructor
    · rintro ⟨j, hj, h1, h2⟩
      have ej : ¬ j = p := fun e => by rw [e, he] at h1; exact hyx h1.symm
      rw [upd_other _ _ ej] at h2
      exact ⟨j, hj, h1, h2⟩
    · rintro ⟨j, hj, h1, h2⟩
      have ej : ¬ j = p := fun e => by rw [e, he] at h1; exact hyx h1.symm
      exact ⟨j, hj, h1, by rw [upd_other _ _ ej]; exact h2⟩
end Go.Proofs.Qxb6003863aFmt
