/- The state of the Map laws: the Map, and the law's own list of keys (and values). -/
import Derived.Test.Qxb6003863aFmtMapOps
import Derived.Deep.AppendLies
import Derived.WalkSmall
namespace Go.Proofs.Qxb6003863aFmt
open Go.RowKit
set_option linter.unusedVariables false

abbrev ints (X : List Int) : List Value := X.map (Value.int .i64)

theorem owns_keeps {w w' : World} {p : Nat → Prop} {base : Nat} {e : TypeId} {size : Nat} {v : Value} {n : Nat} {xs : List Value} (h : w.ownsRow base e size v n xs) (k : Keeps p w w') (hp : ∀ g, v.ownBlock = some g → ¬ p g) : w'.ownsRow base e size v n xs := by
  have hlt := h.lt
  refine ⟨h.1, ?_⟩
  rcases h.2 with hn | ⟨g, cap, cur, hv, hg, hh, rest⟩
  · exact .inl hn
  · subst hv
    have hb : (Value.slice (some ⟨g, 0, none⟩) n cap).ownBlock = some g := rfl
    exact .inr ⟨g, cap, cur, rfl, hg, by rw [k.block g (hlt g hb).2 (hp g hb)]; exact hh, rest⟩

theorem keeps_grown {w w' : World} {row : Option Nat} (h : w.grownBy w' row) : Keeps (fun k => row = some k) w w' :=
  ⟨h.os, h.tape, h.output, h.size, fun k hk hr => h.block k hk (fun e => hr e.symm)⟩

theorem keeps_set (w : World) (g j : Nat) (u : Value) : Keeps (fun i => i = g) w (w.setCell ⟨g, j, none⟩ u) := (Keeps.refl (fun i => i = g) w).setCell (c := ⟨g, j, none⟩) rfl u

/-- What lies in memory: the Map with its content f, a row of keys, a row of values; all apart from one another and from what was there before. -/
structure Ls (w0 wr : World) (B : Nat) (S : Nat → Prop) (f : Int → Int → Prop) (len : Nat) (K V : List Int) (kv vv : Value) : Prop where
  bel : Below w0.heap.size w0 wr
  map : MapIs wr B S f len
  hS : ∀ k, S k → w0.heap.size ≤ k
  ok : wr.ownsRow w0.heap.size 2 1 kv K.length (ints K)
  ov : wr.ownsRow w0.heap.size 2 1 vv V.length (ints V)
  dk : ∀ g, kv.ownBlock = some g → ¬ S g
  dv : ∀ g, vv.ownBlock = some g → ¬ S g
  dkv : ∀ g, kv.ownBlock = some g → ¬ vv.ownBlock = some g

section
variable {w0 wr : World} {B : Nat} {S : Nat → Prop} {f : Int → Int → Prop} {len : Nat} {K V : List Int} {kv vv : Value}

theorem Ls.size (L : Ls w0 wr B S f len K V kv vv) : w0.heap.size ≤ wr.heap.size := L.bel.size
theorem Ls.klt (L : Ls w0 wr B S f len K V kv vv) : ∀ g, kv.ownBlock = some g → w0.heap.size ≤ g ∧ g < wr.heap.size := L.ok.lt
theorem Ls.vlt (L : Ls w0 wr B S f len K V kv vv) : ∀ g, vv.ownBlock = some g → w0.heap.size ≤ g ∧ g < wr.heap.size := L.ov.lt

/-- Blocks that are none of ours may turn. -/
theorem Ls.other (L : Ls w0 wr B S f len K V kv vv) {p : Nat → Prop} {w1 : World} (k : Keeps p wr w1) (h0 : ∀ i, i < w0.heap.size → ¬ p i) (h1 : ∀ i, S i → ¬ p i) (h2 : ∀ g, kv.ownBlock = some g → ¬ p g) (h3 : ∀ g, vv.ownBlock = some g → ¬ p g) : Ls w0 w1 B S f len K V kv vv where
  bel := L.bel.trans (k.below L.size h0)
  map := L.map.later k h1
  hS := L.hS
  ok := owns_keeps L.ok k h2
  ov := owns_keeps L.ov k h3
  dk := L.dk
  dv := L.dv
  dkv := L.dkv
theorem Ls.alloc (L : Ls w0 wr B S f len K V kv vv) (o : Obj) : Ls w0 (wr.alloc o) B S f len K V kv vv :=
  L.other ((Keeps.refl (fun _ => False) wr).alloc o) (fun _ _ h => h) (fun _ _ h => h) (fun _ _ h => h) (fun _ _ h => h)

/-- A method of the Map. -/
theorem Ls.mapop (L : Ls w0 wr B S f len K V kv vv) {w1 : World} {S' : Nat → Prop} {f' : Int → Int → Prop} {len' : Nat} (k : Keeps S wr w1) (m : MapIs w1 B S' f' len') (hs : ∀ k, S' k → S k ∨ wr.heap.size ≤ k) : Ls w0 w1 B S' f' len' K V kv vv where
  bel := L.bel.trans (k.below L.size (fun i hi h => by have := L.hS i h; omega))
  map := m
  hS := fun i hi => by
    rcases hs i hi with h | h
    · exact L.hS i h
    · have := L.size; omega
  ok := owns_keeps L.ok k L.dk
  ov := owns_keeps L.ov k L.dv
  dk := fun g hg hi => by
    rcases hs g hi with h | h
    · exact L.dk g hg h
    · have := (L.klt g hg).2; omega
  dv := fun g hg hi => by
    rcases hs g hi with h | h
    · exact L.dv g hg h
    · have := (L.vlt g hg).2; omega
  dkv := L.dkv

/-- A key appended. -/
theorem Ls.appK (L : Ls w0 wr B S f len K V kv vv) {w1 : World} {x : Int} {g cap : Nat} (hg : wr.grownBy w1 kv.ownBlock) (ho : w1.ownsRow w0.heap.size 2 1 (.slice (some ⟨g, 0, none⟩) (K.length + 1) cap) (K.length + 1) (ints K ++ [.int .i64 x])) (hat : kv.ownBlock = some g ∨ g = wr.heap.size) : Ls w0 w1 B S f len (K ++ [x]) V (.slice (some ⟨g, 0, none⟩) (K.length + 1) cap) vv where
  bel := L.bel.trans ((keeps_grown hg).below L.size (fun i hi h => by have := (L.klt i h).1; omega))
  map := L.map.later (keeps_grown hg) (fun i hi h => L.dk i h hi)
  hS := L.hS
  ok := by simpa [ints] using ho
  ov := owns_keeps L.ov (keeps_grown hg) (fun i hi h => L.dkv i h hi)
  dk := fun i hi => by
    obtain rfl : g = i := by simpa [Value.ownBlock] using hi
    rcases hat with h | h
    · exact L.dk g h
    · intro hs
      have := L.map.lt g hs
      omega
  dv := L.dv
  dkv := fun i hi => by
    obtain rfl : g = i := by simpa [Value.ownBlock] using hi
    rcases hat with h | h
    · exact L.dkv g h
    · intro hs
      have := (L.vlt g hs).2
      omega

/-- A value appended. -/
theorem Ls.appV (L : Ls w0 wr B S f len K V kv vv) {w1 : World} {x : Int} {g cap : Nat} (hg : wr.grownBy w1 vv.ownBlock) (ho : w1.ownsRow w0.heap.size 2 1 (.slice (some ⟨g, 0, none⟩) (V.length + 1) cap) (V.length + 1) (ints V ++ [.int .i64 x])) (hat : vv.ownBlock = some g ∨ g = wr.heap.size) : Ls w0 w1 B S f len K (V ++ [x]) kv (.slice (some ⟨g, 0, none⟩) (V.length + 1) cap) where
  bel := L.bel.trans ((keeps_grown hg).below L.size (fun i hi h => by have := (L.vlt i h).1; omega))
  map := L.map.later (keeps_grown hg) (fun i hi h => L.dv i h hi)
  hS := L.hS
  ov := by simpa [ints] using ho
  ok := owns_keeps L.ok (keeps_grown hg) (fun i hi h => L.dkv i hi h)
  dv := fun i hi => by
    obtain rfl : g = i := by simpa [Value.ownBlock] using hi
    rcases hat with h | h
    · exact L.dv g h
    · intro hs
      have := L.map.lt g hs
      omega
  dk := L.dk
  dkv := fun i hi hs => by
    obtain rfl : g = i := by simpa [Value.ownBlock] using hs
    rcases hat with h | h
    · exact L.dkv g hi h
    · have := (L.klt g hi).2
      omega

/-- A key, a value set. -/
theorem Ls.setK {g cap : Nat} (L : Ls w0 wr B S f len K V (.slice (some ⟨g, 0, none⟩) K.length cap) vv) (j : Nat) (x : Int) : Ls w0 (wr.setCell ⟨g, j, none⟩ (.int .i64 x)) B S f len (K.set j x) V (.slice (some ⟨g, 0, none⟩) (K.set j x).length cap) vv where
  bel := L.bel.setCell (L.klt g rfl).1 _
  map := L.map.later (p := fun i => i = g) (keeps_set wr g j (.int .i64 x)) (fun i hi h => L.dk g rfl (h ▸ hi))
  hS := L.hS
  ok := by
    have := (L.ok.stored j (.int .i64 x)).1
    simpa [ints, List.map_set] using this
  ov := owns_keeps (p := fun i => i = g) L.ov (keeps_set wr g j (.int .i64 x)) (fun i hi h => L.dkv g rfl (h ▸ hi))
  dk := L.dk
  dv := L.dv
  dkv := L.dkv
theorem Ls.setV {g cap : Nat} (L : Ls w0 wr B S f len K V kv (.slice (some ⟨g, 0, none⟩) V.length cap)) (j : Nat) (x : Int) : Ls w0 (wr.setCell ⟨g, j, none⟩ (.int .i64 x)) B S f len K (V.set j x) kv (.slice (some ⟨g, 0, none⟩) (V.set j x).length cap) where
  bel := L.bel.setCell (L.vlt g rfl).1 _
  map := L.map.later (p := fun i => i = g) (keeps_set wr g j (.int .i64 x)) (fun i hi h => L.dv g rfl (h ▸ hi))
  hS := L.hS
  ov := by
    have := (L.ov.stored j (.int .i64 x)).1
    simpa [ints, List.map_set] using this
  ok := owns_keeps (p := fun i => i = g) L.ok (keeps_set wr g j (.int .i64 x)) (fun i hi h => L.dkv i hi (by rw [h]; rfl))
  dk := L.dk
  dv := L.dv
  dkv := L.dkv

theorem ints_drop {K : List Int} {n : Nat} (h : K.length = n + 1) : ints K = ints (K.take n) ++ ints (K.drop n) := by
  unfold ints
  rw [← List.map_append, List.take_append_drop]

/-- The last key, the last value cut off. -/
theorem Ls.popK {g cap n : Nat} (L : Ls w0 wr B S f len K V (.slice (some ⟨g, 0, none⟩) K.length cap) vv) (hn : K.length = n + 1) : Ls w0 wr B S f len (K.take n) V (.slice (some ⟨g, 0, none⟩) n cap) vv where
  bel := L.bel
  map := L.map
  hS := L.hS
  ok := by
    have h := L.ok
    rw [ints_drop hn, hn] at h
    have := ownsRow_pop (by simp [ints]; omega) h
    rwa [show (K.take n).length = n by rw [List.length_take]; omega]
  ov := L.ov
  dk := L.dk
  dv := L.dv
  dkv := L.dkv
theorem Ls.popV {g cap n : Nat} (L : Ls w0 wr B S f len K V kv (.slice (some ⟨g, 0, none⟩) V.length cap)) (hn : V.length = n + 1) : Ls w0 wr B S f len K (V.take n) kv (.slice (some ⟨g, 0, none⟩) n cap) where
  bel := L.bel
  map := L.map
  hS := L.hS
  ov := by
    have h := L.ov
    rw [ints_drop hn, hn] at h
    have := ownsRow_pop (by simp [ints]; omega) h
    rwa [show (V.take n).length = n by rw [List.length_take]; omega]
  ok := L.ok
  dk := L.dk
  dv := L.dv
  dkv := L.dkv

theorem keys_of {w : World} {base : Nat} {v : Value} {X : List Int} {n : Nat} (h : w.ownsRow base 2 1 v n (ints X)) : ∃ a c, v = .slice a n c ∧ X.length = n ∧ Keys w a X ∧ n ≤ c := by
  have hl : X.length = n := by simpa [ints] using h.1
  rcases h.2 with ⟨hv, hn⟩ | ⟨g, cap, cur, hv, _, _, hnc, _⟩
  · subst hn
    exact ⟨none, 0, hv, hl, fun h => by omega, by omega⟩
  · refine ⟨some ⟨g, 0, none⟩, cap, hv, hl, fun _ => ⟨g, 0, rfl, fun i hi => ?_⟩, hnc⟩
    subst hv
    rw [Nat.zero_add, h.cellAt i (by omega)]
    simp [ints, hi]
end
end Go.Proofs.Qxb6003863aFmt
