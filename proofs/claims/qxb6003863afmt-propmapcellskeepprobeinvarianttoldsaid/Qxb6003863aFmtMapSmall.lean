/- Small walks of the Map: home, Len, TrailingZeros at powers of two; a mask's arithmetic. -/
import Derived.Test.Qxb6003863aFmtRows
import Derived.Test.Qxb6003863aFmtMapPlain
import Derived.WalkKit
import Derived.WalkSpells
import Derived.ProofKit
import Derived.Below
import Derived.Deep.OwnRows
import Derived.Deep.QuietTactic
import Derived.BigQuiet
import Derived.Laws.Bits64b
import Derived.Lib.TrailingZeros
namespace Go.Proofs.Qxb6003863aFmt
open Go.RowKit
set_option linter.unusedVariables false

theorem hide {p : Prop} (h : p) : Hid p := h

theorem i64_mask {C m : Nat} (hC : C = 2 ^ m) (hm : m ≤ 40) (n : Int) : bits .and .i64 n ((C : Int) - 1) = n % (C : Int) := by
  have hp : 0 < 2 ^ m := Nat.two_pow_pos m
  have hle : 2 ^ m ≤ 2 ^ 40 := Nat.pow_le_pow_right (by decide) hm
  have h1 : (BitVec.ofInt 64 ((C : Int) - 1)).toNat = 2 ^ m - 1 := by
    rw [BitVec.toNat_ofInt, hC]
    omega
  have key : (BitVec.ofInt 64 n &&& BitVec.ofInt 64 ((C : Int) - 1)).toNat = (n % ((2 ^ 64 : Nat) : Int)).toNat % 2 ^ m := by
    rw [BitVec.toNat_and, BitVec.toNat_ofInt, h1, Nat.and_two_pow_sub_one_eq_mod]
  show IntKind.i64.wrap ((BitVec.ofInt 64 n &&& BitVec.ofInt 64 ((C : Int) - 1)).toNat : Nat) = n % (C : Int)
  have hd : ((2 ^ m : Nat) : Int) ∣ ((2 ^ 64 : Nat) : Int) := Int.natCast_dvd_natCast.2 (Nat.pow_dvd_pow 2 (by omega))
  have h2 : (((n % ((2 ^ 64 : Nat) : Int)).toNat % 2 ^ m : Nat) : Int) = n % ((2 ^ m : Nat) : Int) := by
    rw [Int.natCast_emod, Int.toNat_of_nonneg (Int.emod_nonneg _ (by decide)), Int.emod_emod_of_dvd _ hd]
  rw [key, IntKind.wrap_i64, h2, hC]
  have h3 : 0 ≤ n % ((2 ^ m : Nat) : Int) := Int.emod_nonneg _ (by omega)
  have h4 : n % ((2 ^ m : Nat) : Int) < ((2 ^ m : Nat) : Int) := Int.emod_lt_of_pos _ (by omega)
  omega

/-- One step on, by the mask. -/
theorem mask_step {C m : Nat} (hC : C = 2 ^ m) (hm : m ≤ 40) (i : Nat) : bits .and .i64 ((i : Int) + 1) ((C : Int) - 1) = (((i + 1) % C : Nat) : Int) := by
  rw [i64_mask hC hm, Int.natCast_emod]
  rfl
/-- A distance, by the mask. -/
theorem mask_off {C m : Nat} (hC : C = 2 ^ m) (hm : m ≤ 40) {j s : Nat} (hj : j < C) (hs : s < C) : bits .and .i64 ((j : Int) - (s : Int)) ((C : Int) - 1) = (off C j s : Int) := by
  rw [i64_mask hC hm]
  rcases off_cases hj hs with ⟨h1, h2⟩ | ⟨h1, h2⟩ <;> rw [h2]
  · rw [Int.emod_eq_of_lt (by omega) (by omega)]; omega
  · rw [← Int.add_emod_right, Int.emod_eq_of_lt (by omega) (by omega)]; omega

/-- The home of an id among 2^m cells. -/
def hm (m : Nat) (x : Int) : Nat := (IntKind.u64.wrap (IntKind.u64.wrap x * 11400714819323198485) / 2 ^ (64 - m)).toNat
theorem hm_val (m : Nat) (x : Int) (h3 : m ≤ 40) : wrap64 (IntKind.u64.wrap (IntKind.u64.wrap x * 11400714819323198485) / 2 ^ (64 - m)) = (hm m x : Int) ∧ hm m x < 2 ^ m := by
  obtain ⟨y, hy⟩ : ∃ y, y = IntKind.u64.wrap (IntKind.u64.wrap x * 11400714819323198485) := ⟨_, rfl⟩
  have hb : 0 ≤ y ∧ y < 18446744073709551616 := by rw [hy, IntKind.wrap_u64]; omega
  unfold hm
  rw [← hy]
  have hpow : (2 : Int) ^ (64 - m) = ((2 ^ (64 - m) : Nat) : Int) := by rw [Int.natCast_pow]; rfl
  have hpp : 0 < 2 ^ (64 - m) := Nat.two_pow_pos _
  have hle : 2 ^ m ≤ 2 ^ 40 := Nat.pow_le_pow_right (by decide) h3
  have hmul : 2 ^ m * 2 ^ (64 - m) = 18446744073709551616 := by rw [← Nat.pow_add, show m + (64 - m) = 64 by omega]
  have h0 : 0 ≤ y / 2 ^ (64 - m) := by rw [hpow]; exact Int.ediv_nonneg hb.1 (by omega)
  have h1 : y / 2 ^ (64 - m) < ((2 ^ m : Nat) : Int) := by
    rw [hpow]
    apply Int.ediv_lt_of_lt_mul (by omega)
    rw [← Int.natCast_mul, hmul]
    exact hb.2
  refine ⟨?_, by omega⟩
  rw [IntWalk.wrap64_in _ ⟨by omega, by omega⟩]
  omega
theorem hm_lt (m : Nat) (x : Int) (h3 : m ≤ 40) : hm m x < 2 ^ m := (hm_val m x h3).2

set_option maxHeartbeats 400000 in
theorem home29 (B : Nat) (x : Int) (m : Nat) (w : World) (hm1 : 3 ≤ m) (hm2 : m ≤ 40) (c3 : w.cell? ⟨B, 3, none⟩ = some (.int .u64 ((64 - m : Nat) : Int))) :
    Calls Tryf.prog 29 #[.pointer (some ⟨B, 0, none⟩), .int .i64 x] w fun e w' => e = .returned (.int .i64 (hm m x)) ∧ w' = w := by
  go_enter Tryf.func29, Tryf.ntmps29
  go_wp2
  go_ret
  exact ⟨by rw [← (hm_val m x hm2).1]; rfl, rfl⟩

theorem len21 (B : Nat) (n : Int) (w : World) (c2 : w.cell? ⟨B, 2, none⟩ = some (.int .i64 n)) :
    Calls Tryf.prog 21 #[.pointer (some ⟨B, 0, none⟩)] w fun e w' => e = .returned (.int .i64 n) ∧ w' = w := by
  go_enter Tryf.func21, Tryf.ntmps21
  go_wp2
  go_ret
  exact ⟨rfl, rfl⟩

/-- math/bits.deBruijn64tab, as its initialiser lays it, in its variable. -/
def TabAt (w : World) : Prop := ∀ j, j < 64 → w.cell? ⟨1, j, none⟩ = some (.int .u8 (Lib.deBruijn64tab.getD j 0))

theorem tz_key (x a : Nat) (hx : x < 18446744073709551616) (hx0 : x ≠ 0) (hlow : x &&& (18446744073709551616 - x) = a) :
    IntKind.u64.wrap (bits BinOp.and IntKind.u64 (x : Int) (IntKind.u64.wrap (-(x : Int))) * 285870213051353865) / 288230376151711744 = ((a * 285870213051353865 % 18446744073709551616 / 288230376151711744 : Nat) : Int) := by
  have e1 : IntKind.u64.wrap (-(x : Int)) = ((18446744073709551616 - x : Nat) : Int) := by rw [IntKind.wrap_u64]; omega
  rw [e1, bits_and_u64_nat x _ hx (by omega), hlow, IntKind.wrap_u64]
  omega

set_option maxHeartbeats 1000000 in
theorem tz46 (x k idx : Nat) (w : World) (hx0 : ((x : Int) == 0) = false)
    (key : IntKind.u64.wrap (bits BinOp.and IntKind.u64 (x : Int) (IntKind.u64.wrap (-(x : Int))) * 285870213051353865) / 288230376151711744 = (idx : Int))
    (hi : idx < 64) (hk : k < 64) (hcell : w.cell? ⟨1, idx, none⟩ = some (.int .u8 k)) :
    Calls Tryf.prog 46 #[.int .u64 x] w fun e w' => e = .returned (.int .i64 k) ∧ w' = w := by
  go_enter Tryf.func46, Tryf.ntmps46
  go_wp2_with (simp only [key])
  go_ret
  exact ⟨rfl, rfl⟩

set_option maxHeartbeats 1000000 in
theorem tz40 (m : Nat) (X : Nat) (w : World) (hm : m ≤ 40) (hX : X = 2 ^ m) (hT : TabAt w) :
    Calls Tryf.prog 40 #[.int .u64 X] w fun e w' => e = .returned (.int .i64 m) ∧ w' = w := by
  have hp : 0 < X := by rw [hX]; exact Nat.two_pow_pos m
  have hle : X ≤ 2 ^ 40 := by rw [hX]; exact Nat.pow_le_pow_right (by decide) hm
  have hlow : X &&& (18446744073709551616 - X) = X := by
    have := Lib.and_neg 64 m 0 (by rw [hX] at hle; omega)
    rw [hX]
    simpa using this
  obtain ⟨hi, htab⟩ := Lib.deBruijn64_at m (by omega)
  rw [← hX] at hi htab
  have hcell := hT _ hi
  rw [htab] at hcell
  have H := hide (tz46 X m _ w (by simp; omega) (tz_key X _ (by omega) (by omega) hlow) hi (by omega) hcell)
  clear hcell htab hi hlow hp hle hT hX
  go_enter Tryf.func40, Tryf.ntmps40
  go_wp2_with (go_at_call 46; refine H.out.mono ?_; rintro e w' ⟨rfl, rfl⟩)
  go_ret
  exact ⟨rfl, rfl⟩
end Go.Proofs.Qxb6003863aFmt
