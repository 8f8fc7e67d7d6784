/- The Map by its content: contracts of its methods, whatever the table's size. -/
import Derived.Test.Qxb6003863aFmtMapRoom
namespace Go.Proofs.Qxb6003863aFmt
open Go.RowKit
set_option linter.unusedVariables false

/-- The zero Map. -/
structure Zero (w : World) (B : Nat) : Prop where
  c0 : w.cell? ⟨B, 0, none⟩ = some (.slice none 0 0)
  c1 : w.cell? ⟨B, 1, none⟩ = some (.slice none 0 0)
  c2 : w.cell? ⟨B, 2, none⟩ = some (.int .i64 0)
  c3 : w.cell? ⟨B, 3, none⟩ = some (.int .u64 0)
  fB : ∀ j, w.frozen? ⟨B, j, none⟩ = false

theorem Zero.pre {w : World} {B : Nat} (z : Zero w B) : Pre w B none none 0 (fun _ => -1) (fun _ => 0) 0 0 :=
  ⟨z.c0, z.c1, z.c2, z.c3, z.fB, fun h => by omega, fun h => by omega, by omega, rfl, fun j hj => by omega, fun j k hj => by omega⟩

/-- THE MAP in block B, its blocks those of which S speaks, its content f, len ids. -/
def MapIs (w : World) (B : Nat) (S : Nat → Prop) (f : Int → Int → Prop) (len : Nat) : Prop :=
  (Zero w B ∧ (∀ k, S k ↔ k = B) ∧ len = 0 ∧ ∀ y u, ¬ y = -1 → ¬ f y u) ∨
  ∃ bi bv C m ids vals, Mem w B bi bv C m ids vals len ∧ Good C m ids len ∧ (∀ k, S k ↔ Own3 B bi bv k) ∧ ∀ y u, ¬ y = -1 → (Holds C ids vals y u ↔ f y u)

theorem MapIs.self {w : World} {B : Nat} {S : Nat → Prop} {f : Int → Int → Prop} {len : Nat} (h : MapIs w B S f len) : S B := by
  rcases h with ⟨_, h, _⟩ | ⟨bi, bv, C, m, ids, vals, _, _, h, _⟩
  · exact (h B).2 rfl
  · exact (h B).2 (.inl rfl)
theorem MapIs.lt {w : World} {B : Nat} {S : Nat → Prop} {f : Int → Int → Prop} {len : Nat} (h : MapIs w B S f len) : ∀ k, S k → k < w.heap.size := by
  rcases h with ⟨z, h, _⟩ | ⟨bi, bv, C, m, ids, vals, M, G, h, _⟩
  · intro k hk
    rw [(h k).1 hk]
    exact World.block_lt_of_cell? _ _ z.c0
  · intro k hk
    have hp := G.pos
    rcases (h k).1 hk with e | e | e <;> rw [e]
    · exact World.block_lt_of_cell? _ _ M.c0
    · exact World.block_lt_of_cell? _ _ (M.ci 0 (by omega))
    · exact World.block_lt_of_cell? _ _ (M.cv 0 (by omega))
theorem MapIs.c2 {w : World} {B : Nat} {S : Nat → Prop} {f : Int → Int → Prop} {len : Nat} (h : MapIs w B S f len) : w.cell? ⟨B, 2, none⟩ = some (.int .i64 len) := by
  rcases h with ⟨z, _, e, _⟩ | ⟨bi, bv, C, m, ids, vals, M, _⟩
  · rw [e]; exact z.c2
  · exact M.c2
theorem MapIs.later {w w' : World} {B : Nat} {S p : Nat → Prop} {f : Int → Int → Prop} {len : Nat} (h : MapIs w B S f len) (k : Keeps p w w') (hp : ∀ i, S i → ¬ p i) : MapIs w' B S f len := by
  have hB := h.self
  have hlt := h.lt
  rcases h with ⟨z, h, e, hf⟩ | ⟨bi, bv, C, m, ids, vals, M, G, h, hf⟩
  · have lB := hlt B hB
    have nB := hp B hB
    exact .inl ⟨⟨(k.cell lB nB).trans z.c0, (k.cell lB nB).trans z.c1, (k.cell lB nB).trans z.c2, (k.cell lB nB).trans z.c3, fun j => (k.frozen lB nB).trans (z.fB j)⟩, h, e, hf⟩
  · have hpos := G.pos
    exact .inr ⟨bi, bv, C, m, ids, vals, M.later (by omega) k (hp B hB) (hp bi ((h bi).2 (.inr (.inl rfl)))) (hp bv ((h bv).2 (.inr (.inr rfl)))), G, h, hf⟩

theorem len_is (w : World) (B : Nat) (S : Nat → Prop) (f : Int → Int → Prop) (len : Nat) (h : MapIs w B S f len) :
    Calls Tryf.prog 21 #[.pointer (some ⟨B, 0, none⟩)] w fun e w' => e = .returned (.int .i64 len) ∧ w' = w := len21 B len w h.c2

def GetIs (f : Int → Int → Prop) (x : Int) (w : World) (e : Ending) (w' : World) : Prop :=
  w' = w ∧ ((¬ x = -1 ∧ ∃ u, f x u ∧ e = .returned (.tuple #[.int .i64 u, .bool true])) ∨ ((¬ x = -1 → ∀ u, ¬ f x u) ∧ e = .returned (.tuple #[.int .i64 0, .bool false])))

theorem get_is (w : World) (B : Nat) (S : Nat → Prop) (f : Int → Int → Prop) (len : Nat) (x : Int) (h : MapIs w B S f len) :
    Calls Tryf.prog 18 #[.pointer (some ⟨B, 0, none⟩), .int .i64 x] w (GetIs f x w) := by
  rcases h with ⟨z, _, _, hf⟩ | ⟨bi, bv, C, m, ids, vals, M, G, _, hf⟩
  · refine (get_zero B x w z.c2).mono ?_
    rintro e w' ⟨rfl, rfl⟩
    exact ⟨rfl, .inr ⟨fun hx u => hf x u hx, rfl⟩⟩
  · refine (get18 B bi bv C m ids vals len x w M G).mono ?_
    rintro e w' ⟨rfl, ⟨hx, u, hu, he⟩ | ⟨hno, he⟩⟩
    · exact ⟨rfl, .inl ⟨hx, u, (hf x u hx).1 hu, he⟩⟩
    · exact ⟨rfl, .inr ⟨fun hx u hu => hno hx u ((hf x u hx).2 hu), he⟩⟩

def PutIs (w : World) (B : Nat) (S : Nat → Prop) (f : Int → Int → Prop) (len : Nat) (x v : Int) (e : Ending) (w' : World) : Prop :=
  e = .returned (.tuple #[]) ∧ ∃ S' len', MapIs w' B S' (fput f x v) len' ∧ Keeps S w w' ∧ (∀ k, S' k → S k ∨ w.heap.size ≤ k) ∧ (((∀ u, ¬ f x u) ∧ len' = len + 1) ∨ ((∃ u, f x u) ∧ len' = len))

theorem put_is (w : World) (B : Nat) (S : Nat → Prop) (f : Int → Int → Prop) (len : Nat) (x v : Int) (h : MapIs w B S f len) (hx : 0 ≤ x) (hl : len ≤ 1048576) (hT : TabAt w) (hB1 : ¬ B = 1) :
    Calls Tryf.prog 17 #[.pointer (some ⟨B, 0, none⟩), .int .i64 x, .int .i64 v] w (PutIs w B S f len x v) := by
  have hx1 : ¬ x = -1 := by omega
  rcases h with ⟨z, hS, e0, hf⟩ | ⟨bi, bv, C, m, ids, vals, M, G, hS, hf⟩
  · subst e0
    refine (putB B none none 0 (fun _ => -1) (fun _ => 0) 0 0 8 3 x v w z.pre hT hB1 rfl (by omega) (by omega) (.inl ⟨rfl, rfl⟩) hx (by omega) (by omega) (by omega)).mono ?_
    rintro e w' ⟨rfl, bi, bv, ids', vals', len', M, G, gi, gv, K, hh, hlen⟩
    refine ⟨rfl, Own3 B bi bv, len', .inr ⟨bi, bv, 8, 3, ids', vals', M, G, fun _ => Iff.rfl, fun y u hy => ?_⟩, K.mono (fun i _ h => (hS i).2 h), fun k hk => ?_, ?_⟩
    · rw [hh y u hy]
      unfold fput
      split
      · exact Iff.rfl
      · exact ⟨fun ⟨j, hj, _⟩ => by omega, fun h => absurd h (hf y u hy)⟩
    · rcases hk with h | h | h
      · exact .inl ((hS k).2 h)
      · exact .inr (by omega)
      · exact .inr (by omega)
    · rcases hlen with ⟨_, h⟩ | ⟨⟨u, j, hj, _⟩, _⟩
      · exact .inl ⟨fun u => hf x u hx1, h⟩
      · omega
  · have hpos := G.pos
    have hhalf := G.half
    by_cases hr : 2 * (len + 1) ≤ C
    · refine (putA B bi bv C m ids vals len x v w M G hx hr).mono ?_
      rintro e w' ⟨rfl, ids', vals', len', M', G', K, hh, hlen⟩
      refine ⟨rfl, S, len', .inr ⟨bi, bv, C, m, ids', vals', M', G', hS, fun y u hy => ?_⟩, K.mono (fun i _ h => (hS i).2 h), fun k hk => .inl hk, ?_⟩
      · rw [hh y u hy]
        unfold fput
        split
        · exact Iff.rfl
        · exact hf y u hy
      · rcases hlen with ⟨h1, h2⟩ | ⟨⟨u, h1⟩, h2⟩
        · exact .inl ⟨fun u hu => h1 u ((hf x u hx1).2 hu), h2⟩
        · exact .inr ⟨⟨u, (hf x u hx1).1 h1⟩, h2⟩
    · have hm : m + 1 ≤ 24 := by
        rcases Nat.lt_or_ge 22 m with hh | hh
        · have : 2 ^ 23 ≤ 2 ^ m := Nat.pow_le_pow_right (by decide) hh
          have := G.pow
          omega
        · omega
      have hpw : 2 * C = 2 ^ (m + 1) := by rw [G.pow, Nat.pow_succ, Nat.mul_comm]
      refine (putB B _ _ C ids vals len _ (2 * C) (m + 1) x v w (M.pre G) hT hB1 hpw (by have := G.m1; omega) hm (.inr ⟨hpos.1, rfl⟩) hx (by omega) (by omega) (by omega)).mono ?_
      rintro e w' ⟨rfl, bi', bv', ids', vals', len', M', G', gi, gv, K, hh, hlen⟩
      refine ⟨rfl, Own3 B bi' bv', len', .inr ⟨bi', bv', 2 * C, m + 1, ids', vals', M', G', fun _ => Iff.rfl, fun y u hy => ?_⟩, K.mono (fun i _ h => (hS i).2 (.inl h)), fun k hk => ?_, ?_⟩
      · rw [hh y u hy]
        unfold fput
        split
        · exact Iff.rfl
        · exact hf y u hy
      · rcases hk with h | h | h
        · exact .inl ((hS k).2 (.inl h))
        · exact .inr (by omega)
        · exact .inr (by omega)
      · rcases hlen with ⟨h1, h2⟩ | ⟨⟨u, h1⟩, h2⟩
        · exact .inl ⟨fun u hu => h1 u ((hf x u hx1).2 hu), h2⟩
        · exact .inr ⟨⟨u, (hf x u hx1).1 h1⟩, h2⟩

/-- A content without x. -/
def fdel (f : Int → Int → Prop) (x : Int) : Int → Int → Prop := fun y u => ¬ y = x ∧ f y u

def DelIs (w : World) (B : Nat) (S : Nat → Prop) (f : Int → Int → Prop) (len : Nat) (x : Int) (e : Ending) (w' : World) : Prop :=
  e = .returned (.tuple #[]) ∧ ∃ len', MapIs w' B S (fdel f x) len' ∧ Keeps S w w' ∧ (((∃ u, f x u) ∧ len' + 1 = len) ∨ ((∀ u, ¬ f x u) ∧ len' = len))

theorem del_is (w : World) (B : Nat) (S : Nat → Prop) (f : Int → Int → Prop) (len : Nat) (x : Int) (h : MapIs w B S f len) (hx : ¬ x = -1) :
    Calls Tryf.prog 19 #[.pointer (some ⟨B, 0, none⟩), .int .i64 x] w (DelIs w B S f len x) := by
  rcases h with ⟨z, hS, e0, hf⟩ | ⟨bi, bv, C, m, ids, vals, M, G, hS, hf⟩
  · refine (del_zero B x w z.c2).mono ?_
    rintro e w' ⟨rfl, rfl⟩
    exact ⟨rfl, len, .inl ⟨z, hS, e0, fun y u hy hc => hf y u hy hc.2⟩, Keeps.refl _ _, .inr ⟨fun u => hf x u hx, rfl⟩⟩
  · refine (del19 B bi bv C m ids vals len x w M G hx).mono ?_
    rintro e w' ⟨rfl, ids', vals', len', M', G', K, hh, hlen⟩
    refine ⟨rfl, len', .inr ⟨bi, bv, C, m, ids', vals', M', G', hS, fun y u hy => ?_⟩, K.mono (fun i _ h => (hS i).2 h), ?_⟩
    · rw [hh y u hy, hf y u hy]
      exact Iff.rfl
    · rcases hlen with ⟨⟨u, h1⟩, h2⟩ | ⟨h1, h2⟩
      · exact .inl ⟨⟨u, (hf x u hx).1 h1⟩, h2⟩
      · exact .inr ⟨fun u hu => h1 u ((hf x u hx).2 hu), h2⟩

def RoomIs (w : World) (B : Nat) (S : Nat → Prop) (f : Int → Int → Prop) (len : Nat) (e : Ending) (w' : World) : Prop :=
  e = .returned (.tuple #[]) ∧ ∃ S', MapIs w' B S' f len ∧ Keeps S w w' ∧ (∀ k, S' k → S k ∨ w.heap.size ≤ k)

theorem room_is (w : World) (B : Nat) (S : Nat → Prop) (f : Int → Int → Prop) (len g : Nat) (h : MapIs w B S f len) (hl : len ≤ 1048576) (hg : g < 1048576) (hT : TabAt w) (hB1 : ¬ B = 1) :
    Calls Tryf.prog 20 #[.pointer (some ⟨B, 0, none⟩), .int .i64 g] w (RoomIs w B S f len) := by
  rcases h with ⟨z, hS, e0, hf⟩ | ⟨bi, bv, C, m, ids, vals, M, G, hS, hf⟩
  · subst e0
    refine (room20 B none none 0 _ _ 0 0 g w z.pre hT hB1 (.inl rfl) hl hg).mono ?_
    rintro e w' ⟨rfl, ⟨_, h8⟩ | ⟨C, m, _, bi, bv, ids', vals', M, G, gi, gv, K, hh⟩⟩
    · omega
    · refine ⟨rfl, Own3 B bi bv, .inr ⟨bi, bv, C, m, ids', vals', M, G, fun _ => Iff.rfl, fun y u hy => ?_⟩, K.mono (fun i _ h => (hS i).2 h), fun k hk => ?_⟩
      · rw [hh y u hy]
        exact ⟨fun ⟨j, hj, _⟩ => by omega, fun h => absurd h (hf y u hy)⟩
      · rcases hk with h | h | h
        · exact .inl ((hS k).2 h)
        · exact .inr (by omega)
        · exact .inr (by omega)
  · refine (room20 B _ _ C ids vals len _ g w (M.pre G) hT hB1 (.inr ⟨m, G.m1, G.m2, G.pow⟩) hl hg).mono ?_
    rintro e w' ⟨rfl, ⟨rfl, _⟩ | ⟨C', m', _, bi', bv', ids', vals', M', G', gi, gv, K, hh⟩⟩
    · exact ⟨rfl, S, .inr ⟨bi, bv, C, m, ids, vals, M, G, hS, hf⟩, Keeps.refl _ _, fun k hk => .inl hk⟩
    · refine ⟨rfl, Own3 B bi' bv', .inr ⟨bi', bv', C', m', ids', vals', M', G', fun _ => Iff.rfl, fun y u hy => ?_⟩, K.mono (fun i _ h => (hS i).2 (.inl h)), fun k hk => ?_⟩
      · rw [hh y u hy]
        exact hf y u hy
      · rcases hk with h | h | h
        · exact .inl ((hS k).2 (.inl h))
        · exact .inr (by omega)
        · exact .inr (by omega)
end Go.Proofs.Qxb6003863aFmt
