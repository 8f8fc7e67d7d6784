/- zzParseCanon on a numeral. -/
import Derived.Test.Qxb6606236aFmtOvNum
namespace Go.Proofs.Qxb6606236aFmt
open Go.RowKit
set_option linter.unusedVariables false

theorem pow_le_of (u : Nat) : u < 10 ∨ 10 ^ (Lib.nDigits u - 1) ≤ u := by
  induction u using Nat.strongRecOn with
  | _ u ih =>
    by_cases h : u < 10
    · exact .inl h
    · right
      rw [Lib.nDigits_big h, Nat.add_sub_cancel]
      rcases ih (u / 10) (by omega) with h1 | h1
      · rw [Lib.nDigits_small h1]; omega
      · have hp := Lib.nDigits_pos (u / 10)
        obtain ⟨k, hk⟩ : ∃ k, Lib.nDigits (u / 10) = k + 1 := ⟨Lib.nDigits (u / 10) - 1, by omega⟩
        rw [hk] at h1 ⊢
        rw [Nat.add_sub_cancel] at h1
        rw [Nat.pow_succ]
        omega

/-- A digit of u, as a number. -/
def dgt (u n i : Nat) : Nat := u / 10 ^ (n - 1 - i) % 10
theorem lead (u : Nat) (h : 1 < Lib.nDigits u) : ¬ dgt u (Lib.nDigits u) 0 = 0 := by
  have h10 : ¬ u < 10 := fun h1 => by rw [Lib.nDigits_small h1] at h; omega
  have h1 := (pow_le_of u).resolve_left h10
  have h2 := Lib.lt_pow_nDigits u
  obtain ⟨k, hk⟩ : ∃ k, Lib.nDigits u = k + 1 := ⟨Lib.nDigits u - 1, by omega⟩
  rw [hk] at h1 h2 ⊢
  unfold dgt
  simp only [Nat.add_sub_cancel, Nat.sub_zero] at h1 ⊢
  have hp : 0 < 10 ^ k := Nat.pow_pos (by decide)
  have h3 : 1 ≤ u / 10 ^ k := (Nat.le_div_iff_mul_le hp).2 (by omega)
  have h4 : u / 10 ^ k < 10 := (Nat.div_lt_iff_lt_mul hp).2 (by rw [Nat.pow_succ] at h2; omega)
  rw [Nat.mod_eq_of_lt h4]
  omega

/-- What has been read of u behind i digits of n. -/
def read (u n i : Nat) : Nat := u / 10 ^ (n - i)
theorem read_step (u n i : Nat) (h : i < n) : read u n (i + 1) = read u n i * 10 + dgt u n i := by
  unfold read dgt
  have h1 : n - (i + 1) = n - 1 - i := by omega
  have h2 : n - i = (n - 1 - i) + 1 := by omega
  rw [h1, h2, Nat.pow_succ, ← Nat.div_div_eq_div_mul]
  omega
theorem read_zero (u : Nat) : read u (Lib.nDigits u) 0 = 0 := by
  unfold read
  rw [Nat.sub_zero]
  exact Nat.div_eq_of_lt (Lib.lt_pow_nDigits u)
theorem read_all (u n : Nat) : read u n n = u := by unfold read; simp
theorem read_le (u n i : Nat) : read u n i ≤ u := Nat.div_le_self _ _

theorem byte_at (u i : Nat) (h : i < Lib.nDigits u) : (Lib.decDigits u)[i]? = some (UInt8.ofNat (48 + dgt u (Lib.nDigits u) i)) := by
  rw [Lib.decDigits_eq]
  simp [h, Lib.dg, dgt]

set_option maxHeartbeats 800000 in
theorem canon11 (u : Nat) (hu : u < 18446744073709551616) (s : ByteArray) (w : World) (hs : s.data.toList = Lib.decDigits u) :
    Calls Tryf.prog 11 #[.string s] w fun e w' => e = .returned (.tuple #[.int .u64 u, .bool true]) ∧ w' = w := by
  have hn1 := Lib.nDigits_pos u
  have hn20 : Lib.nDigits u ≤ 20 := by
    by_cases h0 : u = 0
    · subst h0; rw [Lib.nDigits_small (by omega)]; omega
    · have := Lib.numDigits_eq u (by omega) hu; split at this <;> omega
  have hsz : s.size = Lib.nDigits u := by rw [← Lib.decDigits_length, ← hs]; rfl
  have HB : Hid (∀ i (h : i < s.size), ((s[i]'h).toNat : Int) = 48 + (dgt u (Lib.nDigits u) i : Int)) := fun i h => by
    have h1 := byte_at u i (by omega)
    rw [← hs] at h1
    have h2 : s.data.toList[i]? = some (s[i]'h) := by simp [ByteArray.getElem_eq_getElem_data]
    rw [h2] at h1
    have h3 := Option.some.inj h1
    rw [h3]
    have : dgt u (Lib.nDigits u) i < 10 := Nat.mod_lt _ (by omega)
    simp
    omega
  have HL := hide (lead u)
  have HZ := hide (read_zero u)
  obtain ⟨n, hn⟩ : ∃ n, n = Lib.nDigits u := ⟨_, rfl⟩
  rw [← hn] at hn1 hn20 hsz HB HL HZ
  clear hs hn
  have HD : Hid (∀ i, dgt u n i < 10) := fun i => Nat.mod_lt _ (by omega)
  have HS := hide (read_step u n)
  have HE := hide (read_all u n)
  have HU := hide (read_le u n)
  obtain ⟨d, hd⟩ : ∃ d, d = dgt u n 0 := ⟨_, rfl⟩
  have e0 := HB.out 0 (by omega)
  rw [← hd] at e0
  have t0 : 1 < n → ((48 + (d : Int)) == 48) = false := fun h1 => by
    have := HL.out h1
    rw [← hd] at this
    simp
    omega
  clear hd
  have tn0 : ((n : Int) == 0) = false := by simp; omega
  have tn20 : (n : Int) ≤ 20 := by omega
  have key : (((48 + (d : Int)) == 48) = false ∧ 1 < (n : Int)) ∨ (n : Int) ≤ 1 := by
    by_cases h1 : 1 < n
    · exact .inl ⟨t0 h1, by omega⟩
    · exact .inr (by omega)
  clear t0
  rcases key with ⟨t1, t2⟩ | t1
  all_goals
    go_enter Tryf.func11, Tryf.ntmps11
    go_wp2_with fail
    go_loop [4, 5] (fun p q => ∃ i v : Nat, i ≤ n ∧ q = .int .i64 i ∧ p = .int .u64 v ∧ Hid (v = read u n i)) (fun _ q => n - (intOf q).toNat)
    case atStart => exact ⟨0, 0, Nat.zero_le _, rfl, rfl, HZ.out.symm⟩
    case round =>
      obtain ⟨i, v, hi, rfl, rfl, HV⟩ := hrel
      clear e0 t1
      by_cases hlt : i < n
      · have e1 := HB.out i (by omega)
        have h10 := HD.out i
        have hst := HS.out i hlt
        have hle := HU.out (i + 1)
        rw [hst, ← HV.out] at hle
        rw [← HV.out] at hst
        obtain ⟨c, hc⟩ : ∃ c, c = dgt u n i := ⟨_, rfl⟩
        rw [← hc] at e1 h10 hst hle
        have HST := hide hst
        have hii : (i : Int) < (n : Int) := by omega
        have hq : (v : Int) ≤ (18446744073709551615 - (c : Int)) / 10 := by omega
        clear hst hc
        go_wp2_with fail
        go_round
        case rel => exact ⟨i + 1, v * 10 + c, by omega, by go_num, by go_num, HST.out.symm⟩
        case measure => simp [intOf]; omega
      · obtain rfl : i = n := by omega
        obtain rfl : v = u := by rw [HV.out, HE.out]
        go_wp2_with fail
        go_ret2
        exact ⟨rfl, rfl⟩
end Go.Proofs.Qxb6606236aFmt
