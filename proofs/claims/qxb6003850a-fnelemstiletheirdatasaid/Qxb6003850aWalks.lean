import Derived.Test.Qxb6003850aRows
import Derived.WalkKit
import Derived.WalkSpells
import Derived.ProofKit
import Derived.Below
import Derived.Deep.OwnRows
import Derived.Deep.QuietTactic
import Derived.BigQuiet
namespace Go.Proofs.Qxb6003850a
open Go.RowKit
set_option linter.unusedVariables false

theorem Try.info25 : (Try.prog.info? 25).map (fun i => (i.zero, i.size, i.bytes)) = some (some (.int .u32 0), 1, 4) := by kernel_rfl
theorem Try.info5 : (Try.prog.info? 5).map (fun i => (i.zero, i.size, i.bytes)) = some (some (.int .u8 0), 1, 1) := by kernel_rfl

theorem cell_set_off (w : World) (B : Nat) (u : Value) {j k : Nat} (e : ¬ j = k) : (w.setCell ⟨B, k, none⟩ u).cell? ⟨B, j, none⟩ = w.cell? ⟨B, j, none⟩ := by
  apply World.cell?_setCell_other
  intro h
  injection h
  omega

/-! ### Copying a slice of numbers into a new row -/
structure Cop (kd : IntKind) (w wr : World) (len k : Nat) (x : Nat → Int) : Prop where
  bel : Below w.heap.size w wr
  size : w.heap.size < wr.heap.size
  done : ∀ j, j < k → wr.cell? ⟨w.heap.size, j, none⟩ = some (.int kd (x j))
  todo : ∀ j, j < len → ∃ z, wr.cell? ⟨w.heap.size, j, none⟩ = some (.int kd z)
  frz : ∀ j, wr.frozen? ⟨w.heap.size, j, none⟩ = false

theorem Cop.start (kd : IntKind) (w : World) (len : Nat) (t : TypeId) (x : Nat → Int) : Cop kd w (w.alloc (.cells (madeCells #[.int kd 0] len) t)) len 0 x where
  bel := (Below.refl _ _).alloc (Nat.le_refl _) _
  size := by simp
  done := fun j hj => absurd hj (Nat.not_lt_zero _)
  todo := fun j hj => ⟨0, by
    rw [World.cell?_alloc_at _ _ _ _ rfl, ← Array.getElem?_toList, toList_madeCells_one]
    simp [hj]⟩
  frz := fun j => World.frozen?_alloc_new _ _ _ _

theorem Cop.step {kd : IntKind} {w wr : World} {len k : Nat} {x : Nat → Int} (h : Cop kd w wr len k x) (hk : k < len) : Cop kd w (wr.setCell ⟨w.heap.size, k, none⟩ (.int kd (x k))) len (k + 1) x where
  bel := h.bel.setCell (Nat.le_refl _) _
  size := by have := h.size; simpa [World.setCell] using this
  done := fun j hj => by
    by_cases e : j = k
    · subst e
      obtain ⟨z, hz⟩ := h.todo j hk
      exact World.cell?_setCell_same _ _ _ hz
    · rw [cell_set_off _ _ _ e]
      exact h.done j (by omega)
  todo := fun j hj => by
    by_cases e : j = k
    · subst e
      obtain ⟨z, hz⟩ := h.todo j hk
      exact ⟨_, World.cell?_setCell_same _ _ _ hz⟩
    · rw [cell_set_off _ _ _ e]
      exact h.todo j hj
  frz := fun j => by rw [World.frozen?_setCell]; exact h.frz j

set_option maxHeartbeats 400000 in
theorem clone32_at (b off len cap : Nat) (x : Nat → Int) (w : World) (hl : len ≤ 1048576) (hc : ∀ i, i < len → w.cell? ⟨b, off + i, none⟩ = some (.int .u32 (x i))) :
    Calls Try.prog 7 #[.slice (some ⟨b, off, none⟩) len cap] w fun e w' => e = .returned (.slice (some ⟨w.heap.size, 0, none⟩) len len) ∧ Cop .u32 w w' len len x := by
  have hnil := fun (w : World) => Lib.run_eql_slice_nil (P := Try.prog) w 22 25 (some ⟨b, off, none⟩) len cap 0 0 Try.underlying22
  have hmk := run_make_row' (P := Try.prog) 22 25 (.int .u32 0) 4 Try.underlying22 Try.info25 rfl .i64 .i64 len (by omega) (by omega)
  go_enter Try.func7, Try.ntmps7
  go_wp2
  clear hnil hmk
  go_loopw [4] (fun i wr => ∃ k : Nat, k ≤ len ∧ i = .int .i64 k ∧ Cop .u32 w wr len k x) (fun i _ => len - (intOf i).toNat)
  case atStart => exact ⟨0, Nat.zero_le _, rfl, Cop.start _ _ _ _ _⟩
  case round =>
    obtain ⟨k, hk, rfl, H⟩ := hrel
    by_cases hlt : k < len
    · have hbl : b < w.heap.size := World.block_lt_of_cell? _ _ (hc k hlt)
      have c1 : wr.cell? ⟨b, off + k, none⟩ = some (.int .u32 (x k)) := (H.bel.cell (p := ⟨b, off + k, none⟩) hbl).trans (hc k hlt)
      obtain ⟨z, c2⟩ := H.todo k hlt
      have c3 := H.frz k
      have HH := H.step hlt
      go_wp2
      go_roundw
      case rel => exact ⟨k + 1, by omega, by go_num, HH⟩
      case measure => simp [intOf]; omega
    · go_wp2
      go_ret
      obtain rfl : k = len := by omega
      exact ⟨rfl, H⟩

/-! ### nonDecreasing -/
set_option maxHeartbeats 400000 in
theorem nd14 (b off len cap : Nat) (x : Nat → Int) (w : World) (hl : len ≤ 1048576) (hc : ∀ i, i < len → w.cell? ⟨b, off + i, none⟩ = some (.int .u32 (x i))) :
    Calls Try.prog 14 #[.slice (some ⟨b, off, none⟩) len cap] w fun e w' => ∃ (r : Bool) (n : Nat), e = .returned (.bool r) ∧ w' = w.drewN n ∧ (r = true ↔ ∀ i, i + 1 < len → x i ≤ x (i + 1)) := by
  go_enter Try.func14, Try.ntmps14
  go_wp2
  go_loopw [3] (fun i wr => ∃ k n : Nat, k < len + 1 ∧ i = .int .i64 (k + 1) ∧ wr = w.drewN n ∧ ∀ j, j < k → j + 1 < len → x j ≤ x (j + 1)) (fun i _ => len + 1 - (intOf i).toNat)
  case atStart => exact ⟨0, 0, by omega, by go_num, rfl, fun j hj => absurd hj (Nat.not_lt_zero _)⟩
  case round =>
    obtain ⟨k, n, hk, rfl, rfl, H⟩ := hrel
    by_cases hlt : k + 1 < len
    · have c1 := hc (k + 1) hlt
      have c2 := hc k (by omega)
      have i0 : (0 : Int) ≤ (k : Int) + 1 := by omega
      have i1 : (k : Int) + 1 < (len : Int) := by omega
      have i2 : (k : Int) < (len : Int) := by omega
      by_cases hx : x (k + 1) < x k
      · go_wp2
        go_quiet (fail)
        go_wp2
        go_ret
        refine ⟨false, n + nq, rfl, by simp, ?_⟩
        constructor
        · intro h; cases h
        · intro h; have := h k (by omega); omega
      · go_wp2
        go_quiet (fail)
        go_wp2
        go_roundw
        case rel => exact ⟨k + 1, n + nq, by omega, by go_num, by simp, fun j hj hj' => by
          by_cases e : j = k
          · subst e; omega
          · exact H j (by omega) hj'⟩
        case measure => simp [intOf]; omega
    · go_wp2
      go_ret
      exact ⟨true, n, rfl, rfl, by simp; intro i hi; exact H i (by omega) hi⟩

set_option maxHeartbeats 400000 in
theorem nd8 (b off len cap : Nat) (x : Nat → Int) (w : World) (hl : len ≤ 1048576) (hc : ∀ i, i < len → w.cell? ⟨b, off + i, none⟩ = some (.int .u32 (x i))) :
    Calls Try.prog 8 #[.slice (some ⟨b, off, none⟩) len cap] w fun e w' => ∃ (r : Bool) (n : Nat), e = .returned (.bool r) ∧ w' = w.drewN n ∧ (r = true ↔ ∀ i, i + 1 < len → x i ≤ x (i + 1)) := by
  go_enter Try.func8, Try.ntmps8
  go_wp2_with (go_at_call 14; refine (nd14 b off len cap x _ hl hc).mono ?_; rintro e w' ⟨r, n, rfl, rfl, hr⟩)
  go_ret
  exact ⟨r, n, rfl, rfl, hr⟩

/-! ### The same at no elements, whatever the address -/
set_option maxHeartbeats 400000 in
theorem clone32_zero (a : Option Addr) (cap : Nat) (w : World) :
    Calls Try.prog 7 #[.slice a 0 cap] w fun e w' => (∃ a' c', e = .returned (.slice a' 0 c')) ∧ Below w.heap.size w w' := by
  have hmk : ∀ w : World, (Instr.makeSlice 22 (.int .i64 0) (.int .i64 0)).run Try.prog w = .ok (.slice (some ⟨w.heap.size, 0, none⟩) 0 0) (w.alloc (.cells (madeCells #[.int .u32 0] 0) 25)) := fun w =>
    run_make_row' (P := Try.prog) 22 25 (.int .u32 0) 4 Try.underlying22 Try.info25 rfl .i64 .i64 0 (by omega) (by omega) w
  have hnil := fun (w : World) => Lib.run_eql_slice_nil (P := Try.prog) w 22 25 a 0 cap 0 0 Try.underlying22
  cases a with
  | none =>
    go_enter Try.func7, Try.ntmps7
    go_wp2
    go_ret
    exact ⟨⟨_, _, rfl⟩, Below.refl _ _⟩
  | some ad =>
    go_enter Try.func7, Try.ntmps7
    go_wp2
    clear hnil hmk
    go_loopw [4] (fun i wr => i = .int .i64 0 ∧ Below w.heap.size w wr) (fun i _ => 0)
    case atStart => exact ⟨rfl, (Below.refl _ _).alloc (Nat.le_refl _) _⟩
    case round =>
      obtain ⟨rfl, H⟩ := hrel
      go_wp2
      go_ret
      exact ⟨⟨_, _, rfl⟩, H⟩

set_option maxHeartbeats 400000 in
theorem nd8_zero (a : Option Addr) (cap : Nat) (w : World) :
    Calls Try.prog 8 #[.slice a 0 cap] w fun e w' => e = .returned (.bool true) ∧ w' = w := by
  have h14 : Calls Try.prog 14 #[.slice a 0 cap] w fun e w' => e = .returned (.bool true) ∧ w' = w := by
    go_enter Try.func14, Try.ntmps14
    go_wp2
    go_loop [3] (fun i => i = .int .i64 1) (fun i => 0)
    case atStart => rfl
    case round =>
      obtain rfl := hrel
      go_wp2
      go_ret
      exact ⟨rfl, rfl⟩
  go_enter Try.func8, Try.ntmps8
  go_wp2_with (go_at_call 14; refine h14.mono ?_; rintro e w' ⟨rfl, rfl⟩)
  go_ret
  exact ⟨rfl, rfl⟩

/-! ### lastOr0 -/
set_option maxHeartbeats 400000 in
theorem last10 (b off len cap : Nat) (x : Nat → Int) (w : World) (h0 : 0 < len) (hl : len ≤ 1048576) (hc : ∀ i, i < len → w.cell? ⟨b, off + i, none⟩ = some (.int .u32 (x i))) :
    Calls Try.prog 10 #[.slice (some ⟨b, off, none⟩) len cap] w fun e w' => e = .returned (.int .u32 (x (len - 1))) ∧ w' = w := by
  have c1 := hc (len - 1) (by omega)
  have hn : ((len : Int) == 0) = false := by simp; omega
  go_enter Try.func10, Try.ntmps10
  go_wp2
  go_ret
  exact ⟨rfl, rfl⟩

set_option maxHeartbeats 400000 in
theorem last10_zero (a : Option Addr) (cap : Nat) (w : World) :
    Calls Try.prog 10 #[.slice a 0 cap] w fun e w' => e = .returned (.int .u32 0) ∧ w' = w := by
  go_enter Try.func10, Try.ntmps10
  go_wp2
  go_ret
  exact ⟨rfl, rfl⟩

/-- Neighbours in order: all pairs in order. -/
theorem pairs {x : Nat → Int} {len : Nat} (h : ∀ i, i + 1 < len → x i ≤ x (i + 1)) : ∀ d i, i + d < len → x i ≤ x (i + d)
  | 0, i, _ => Int.le_refl _
  | d + 1, i, hd => Int.le_trans (pairs h d i (by omega)) (by have := h (i + d) (by omega); simpa [Nat.add_assoc] using this)

theorem pairs' {x : Nat → Int} {len : Nat} (h : ∀ i, i + 1 < len → x i ≤ x (i + 1)) (i j : Nat) (hij : i ≤ j) (hj : j < len) : x i ≤ x j := by
  have := pairs h (j - i) i (by omega)
  rwa [show i + (j - i) = j by omega] at this

theorem below_drewN' {B : Nat} {a w : World} (h : Below B a w) (n : Nat) : Below B a (w.drewN n) := ⟨h.os, h.tape, h.output, h.size, h.block⟩
end Go.Proofs.Qxb6003850a
