/- The walks of zzIntsPrefix and zzEdgesPrefix, where the prefix stands. -/
import Derived.Test.Qxb6003863aFmtAdjZZ
namespace Go.Proofs.Qxb6003863aFmt
open Go.RowKit
set_option linter.unusedVariables false

set_option maxHeartbeats 800000 in
theorem ints12 (aG : Option Addr) (nG cG : Nat) (x : Nat → Int) (aW : Option Addr) (nW cW : Nat) (y : Nat → Int) (w : World) (hG : nG ≤ 4194304) (hW : nW ≤ nG) (hx : Row .i64 w aG nG x) (hy : Row .i64 w aW nW y) (he : ∀ i, i < nW → x i = y i) :
    Calls Tryf.prog 12 #[.slice aG nG cG, .slice aW nW cW] w fun e w' => e = .returned (.bool true) ∧ ∃ k, w' = w.drewN k := by
  have HE := hid he
  clear he
  go_enter Tryf.func12, Tryf.ntmps12
  go_wp2
  go_loopw [5] (fun p wr => ∃ i k : Nat, i ≤ nW ∧ p = .int .i64 i ∧ wr = w.drewN k) (fun p _ => nW - (intOf p).toNat)
  case atStart => exact ⟨0, 0, Nat.zero_le _, rfl, rfl⟩
  case round =>
    obtain ⟨i, k, hi, rfl, rfl⟩ := hrel
    by_cases hlt : i < nW
    · obtain ⟨b1, o1, rfl, h1⟩ := hx (by omega)
      obtain ⟨b2, o2, rfl, h2⟩ := hy (by omega)
      have c1 := h1 i (by omega)
      have c2 := h2 i hlt
      rw [HE.out i hlt] at c1
      have i1 : (i : Int) < (nG : Int) := by omega
      have i2 : (i : Int) < (nW : Int) := by omega
      clear h1 h2
      go_wp2
      go_quiet (fail)
      go_wp2
      go_roundw
      case rel => exact ⟨i + 1, k + nq, by omega, by go_num, by simp⟩
      case measure => simp [intOf]; omega
    · go_wp2
      go_ret
      exact ⟨rfl, k, rfl⟩

set_option maxHeartbeats 800000 in
theorem edges13 (aG : Option Addr) (nG cG : Nat) (x : Nat → Int) (aW : Option Addr) (nW cW : Nat) (y : Nat → Int) (w : World) (hG : nG ≤ 4194304) (hW : nW ≤ nG) (hx : Row .i64 w aG (2 * nG) x) (hy : Row .i64 w aW (2 * nW) y) (he : ∀ i, i < 2 * nW → x i = y i) :
    Calls Tryf.prog 13 #[.slice aG nG cG, .slice aW nW cW] w fun e w' => e = .returned (.bool true) ∧ ∃ k, w' = w.drewN k := by
  have HE := hid he
  clear he
  go_enter Tryf.func13, Tryf.ntmps13
  go_wp2
  go_loopw [5] (fun p wr => ∃ i k : Nat, i ≤ nW ∧ p = .int .i64 i ∧ wr = w.drewN k) (fun p _ => nW - (intOf p).toNat)
  case atStart => exact ⟨0, 0, Nat.zero_le _, rfl, rfl⟩
  case round =>
    obtain ⟨i, k, hi, rfl, rfl⟩ := hrel
    by_cases hlt : i < nW
    · obtain ⟨b1, o1, rfl, h1⟩ := hx (by omega)
      obtain ⟨b2, o2, rfl, h2⟩ := hy (by omega)
      have c1 := h1 (2 * i) (by omega)
      have c2 := h2 (2 * i) (by omega)
      have d1 := h1 (2 * i + 1) (by omega)
      have d2 := h2 (2 * i + 1) (by omega)
      rw [HE.out _ (by omega)] at c1 d1
      rw [Nat.mul_comm 2 i] at c1 c2 d1 d2
      rw [← Nat.add_assoc] at d1 d2
      have i1 : (i : Int) < (nG : Int) := by omega
      have i2 : (i : Int) < (nW : Int) := by omega
      clear h1 h2
      go_wp2
      go_quiet (fail)
      go_wp2
      go_roundw
      case rel => exact ⟨i + 1, k + nq, by omega, by go_num, by simp⟩
      case measure => simp [intOf]; omega
    · go_wp2
      go_ret
      exact ⟨rfl, k, rfl⟩
end Go.Proofs.Qxb6003863aFmt
