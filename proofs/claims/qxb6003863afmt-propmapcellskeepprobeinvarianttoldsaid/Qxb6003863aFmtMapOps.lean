/- The walks of the laws' small functions: pnc1MapScriptFits, pnc1Index. -/
import Derived.Test.Qxb6003863aFmtMapIs
namespace Go.Proofs.Qxb6003863aFmt
open Go.RowKit
set_option linter.unusedVariables false

/-- One step of a script, as it lies in memory: its kind, its id, its number, its list. -/
structure Op4 where
  k : Int
  v : Int
  x : Int
  a : Option Addr
  n : Nat
  c : Nat

/-- The script in memory: n steps of four cells each. -/
def Script (w : World) (a : Option Addr) (n : Nat) (op : Nat → Op4) : Prop :=
  0 < n → ∃ b off, a = some ⟨b, off, none⟩ ∧ ∀ i, i < n → w.cell? ⟨b, off + i * 4, none⟩ = some (.int .i64 (op i).k) ∧ w.cell? ⟨b, off + i * 4 + 1, none⟩ = some (.int .i64 (op i).v) ∧ w.cell? ⟨b, off + i * 4 + 1 + 1, none⟩ = some (.int .i64 (op i).x) ∧ w.cell? ⟨b, off + i * 4 + 1 + 1 + 1, none⟩ = some (.slice (op i).a (op i).n (op i).c)

theorem Script.later {w w' : World} {a : Option Addr} {n : Nat} {op : Nat → Op4} (h : Script w a n op) (hb : Below w.heap.size w w') : Script w' a n op := fun h0 => by
  obtain ⟨b, off, e, hc⟩ := h h0
  exact ⟨b, off, e, fun i hi => ⟨cell_later hb (hc i hi).1, cell_later hb (hc i hi).2.1, cell_later hb (hc i hi).2.2.1, cell_later hb (hc i hi).2.2.2⟩⟩

/-- What a script's step must meet. -/
def Fit (k v x : Int) : Prop := (k = 0 ∧ 0 ≤ v) ∨ k = 1 ∨ k = 4 ∨ (k = 2 ∧ ¬ v = -1) ∨ (k = 3 ∧ 0 ≤ x ∧ x < 1048576)

theorem fit0 {k v x : Int} (h : (k == 0) = true) (h2 : 0 ≤ v) : Fit k v x := .inl ⟨by simpa using h, h2⟩
theorem fit1 {k v x : Int} (h : (k == 1) = true) : Fit k v x := .inr (.inl (by simpa using h))
theorem fit4 {k v x : Int} (h : (k == 4) = true) : Fit k v x := .inr (.inr (.inl (by simpa using h)))
theorem fit2 {k v x : Int} (h : (k == 2) = true) (h2 : (v == -1) = false) : Fit k v x := .inr (.inr (.inr (.inl ⟨by simpa using h, by simpa using h2⟩)))
theorem fit3 {k v x : Int} (h : (k == 3) = true) (h2 : 0 ≤ x) (h3 : x < 1048576) : Fit k v x := .inr (.inr (.inr (.inr ⟨by simpa using h, h2, h3⟩)))
theorem fit_snoc {op : Nat → Op4} {i : Nat} {k v x : Int} {oa : Option Addr} {on oc : Nat} (HF : ∀ j, j < i → Fit (op j).k (op j).v (op j).x) (ho : (⟨k, v, x, oa, on, oc⟩ : Op4) = op i) (h : Fit k v x) : ∀ j, j < i + 1 → Fit (op j).k (op j).v (op j).x := fun j hj => by
  by_cases e : j = i
  · subst e; rw [← ho]; exact h
  · exact HF j (by omega)

def FitPost (w : World) (n : Nat) (op : Nat → Op4) (e : Ending) (w' : World) : Prop :=
  ∃ r : Bool, e = .returned (.bool r) ∧ (r = true → ∀ i, i < n → Fit (op i).k (op i).v (op i).x) ∧ Below w.heap.size w w'

set_option maxRecDepth 20000 in
set_option maxHeartbeats 1600000 in
theorem fits14 (a : Option Addr) (n cap : Nat) (op : Nat → Op4) (w : World) (hn : n ≤ 1048576) (hs : Script w a n op) :
    Calls Tryf.prog 14 #[.slice a n cap] w (FitPost w n op) := by
  have HS := hide hs
  clear hs
  go_enter Tryf.func14, Tryf.ntmps14
  go_wp2
  go_loopw [3] (fun p wr => ∃ i : Nat, i ≤ n ∧ p = .int .i64 i ∧ Hid (∀ j, j < i → Fit (op j).k (op j).v (op j).x) ∧ Below w.heap.size w wr) (fun p _ => n - (intOf p).toNat)
  case atStart => exact ⟨0, Nat.zero_le _, rfl, fun j hj => by omega, Below.refl _ _⟩
  case round =>
    obtain ⟨i, hi, rfl, HF, hb⟩ := hrel
    by_cases hlt : i < n
    · obtain ⟨b, off, rfl, hc⟩ := (HS.out.later hb) (by omega)
      obtain ⟨c0, c1, c2, c3⟩ := hc i hlt
      have hii : (i : Int) < (n : Int) := by omega
      obtain ⟨o, ho⟩ : ∃ o, o = op i := ⟨_, rfl⟩
      have HO := hide ho
      rw [← ho] at c0 c1 c2 c3
      obtain ⟨k, v, x, oa, on, oc⟩ := o
      dsimp only at c0 c1 c2 c3
      clear hc ho
      go_wp2
      all_goals first
        | (go_ret; exact ⟨false, rfl, (fun h => by cases h), hb.alloc hb.size _⟩)
        | (go_roundw
           case rel => exact ⟨i + 1, by omega, by go_num, fit_snoc HF.out HO.out (by first | exact fit0 (by assumption) (by omega) | exact fit1 (by assumption) | exact fit4 (by assumption) | exact fit2 (by assumption) (by assumption) | exact fit3 (by assumption) (by omega) (by omega)), hb.alloc hb.size _⟩
           case measure => simp [intOf]; omega)
    · go_wp2
      go_ret
      exact ⟨true, rfl, fun _ j hj => HF.out j (by omega), hb⟩

/-- A row of numbers that the law itself keeps: its cells. -/
def Keys (w : World) (a : Option Addr) (K : List Int) : Prop := 0 < K.length → ∃ b off, a = some ⟨b, off, none⟩ ∧ ∀ i, i < K.length → w.cell? ⟨b, off + i, none⟩ = some (.int .i64 (K.getD i 0))

/-- Where x lies in a list, or -1. -/
def idx (x : Int) : List Int → Int
  | [] => -1
  | y :: r => if y = x then 0 else if idx x r = -1 then -1 else idx x r + 1

theorem idx_cases (x : Int) : ∀ K : List Int, (idx x K = -1 ∧ ∀ j, j < K.length → ¬ K.getD j 0 = x) ∨ ∃ j : Nat, idx x K = (j : Int) ∧ j < K.length ∧ K.getD j 0 = x ∧ ∀ i, i < j → ¬ K.getD i 0 = x
  | [] => .inl ⟨rfl, fun j hj => by simp at hj⟩
  | y :: r => by
    unfold idx
    by_cases hy : y = x
    · rw [if_pos hy]
      exact .inr ⟨0, rfl, by simp, by simpa using hy, fun i hi => by omega⟩
    · rw [if_neg hy]
      rcases idx_cases x r with ⟨h1, h2⟩ | ⟨j, h1, h2, h3, h4⟩
      · rw [if_pos h1]
        refine .inl ⟨rfl, fun j hj => ?_⟩
        cases j with
        | zero => simpa using hy
        | succ j => simpa using h2 j (by simpa using hj)
      · rw [if_neg (by omega)]
        refine .inr ⟨j + 1, by omega, by simpa using h2, by simpa using h3, fun i hi => ?_⟩
        cases i with
        | zero => simpa using hy
        | succ i => simpa using h4 i (by omega)

set_option maxHeartbeats 800000 in
theorem index16 (a : Option Addr) (n cap : Nat) (K : List Int) (x : Int) (w : World) (hK : K.length = n) (hn : n ≤ 1048576) (hr : Keys w a K) :
    Calls Tryf.prog 16 #[.slice a n cap, .int .i64 x] w fun e w' => e = .returned (.int .i64 (idx x K)) ∧ w' = w := by
  have HK := hide hK
  have HR := hide hr
  clear hK hr
  go_enter Tryf.func16, Tryf.ntmps16
  go_wp2
  go_loop [5] (fun p => ∃ i : Nat, i ≤ n ∧ p = .int .i64 i ∧ Hid (∀ j, j < i → ¬ K.getD j 0 = x)) (fun p => n - (intOf p).toNat)
  case atStart => exact ⟨0, Nat.zero_le _, rfl, fun j hj => by omega⟩
  case round =>
    obtain ⟨i, hi, rfl, HF⟩ := hrel
    by_cases hlt : i < n
    · obtain ⟨b, off, rfl, hc⟩ := HR.out (by rw [HK.out]; omega)
      have c1 := hc i (by rw [HK.out]; exact hlt)
      obtain ⟨y, hy⟩ : ∃ y, y = K.getD i 0 := ⟨_, rfl⟩
      have HY := hide hy
      rw [← hy] at c1
      have hii : (i : Int) < (n : Int) := by omega
      clear hc hy
      by_cases hyx : y = x
      · have t1 : (y == x) = true := by simp [hyx]
        have hix : Hid (idx x K = (i : Int)) := by
          rcases idx_cases x K with ⟨_, h2⟩ | ⟨j, h1, h2, h3, h4⟩
          · exact absurd (HY.out ▸ hyx) (h2 i (by rw [HK.out]; exact hlt))
          · rcases Nat.lt_trichotomy i j with h | h | h
            · exact absurd (HY.out ▸ hyx) (h4 i h)
            · rw [h]; exact h1
            · exact absurd h3 (HF.out j h)
        clear hyx
        go_wp2
        go_ret
        exact ⟨by rw [hix.out]; rfl, rfl⟩
      · have t1 : (y == x) = false := by simp [hyx]
        have HF' : Hid (∀ j, j < i + 1 → ¬ K.getD j 0 = x) := fun j hj => by
          by_cases e : j = i
          · subst e; rw [← HY.out]; exact hyx
          · exact HF.out j (by omega)
        clear hyx
        go_wp2
        go_round
        case rel => exact ⟨i + 1, by omega, by go_num, HF'⟩
        case measure => simp [intOf]; omega
    · have hix : Hid (idx x K = -1) := by
        rcases idx_cases x K with ⟨h1, _⟩ | ⟨j, h1, h2, h3, h4⟩
        · exact h1
        · exact absurd h3 (HF.out j (by rw [HK.out] at h2; omega))
      go_wp2
      go_ret
      exact ⟨by rw [hix.out]; rfl, rfl⟩
end Go.Proofs.Qxb6003863aFmt
