/- The walk of Grow. -/
import Derived.Test.Qxb6003863aFmtMapDel
namespace Go.Proofs.Qxb6003863aFmt
open Go.RowKit
set_option linter.unusedVariables false

/-- Behind Grow: nothing has turned, or the table was laid anew. -/
def RoomPost (w : World) (B n : Nat) (ids vals : Nat → Int) (len : Nat) (e : Ending) (w' : World) : Prop :=
  e = .returned (.tuple #[]) ∧ ((w' = w ∧ 8 ≤ n) ∨ ∃ C m, HashPost w B n ids vals len C m e w')

set_option maxRecDepth 20000 in
set_option maxHeartbeats 1600000 in
theorem room20 (B : Nat) (aI aV : Option Addr) (n : Nat) (ids vals : Nat → Int) (len : Nat) (s : Int) (g : Nat) (w : World) (h : Pre w B aI aV n ids vals len s) (hT : TabAt w) (hB1 : ¬ B = 1) (hpow : n = 0 ∨ ∃ m, 3 ≤ m ∧ m ≤ 24 ∧ n = 2 ^ m) (hl : len ≤ 1048576) (hg : g < 1048576) :
    Calls Tryf.prog 20 #[.pointer (some ⟨B, 0, none⟩), .int .i64 g] w (RoomPost w B n ids vals len) := by
  have hn := h.hn
  have c0 := h.c0
  have c2 := h.c2
  have hn8 : n = 0 ∨ 8 ≤ n := by
    rcases hpow with h | ⟨m, h1, _, h3⟩
    · exact .inl h
    · have : 2 ^ 3 ≤ 2 ^ m := Nat.pow_le_pow_right (by decide) h1
      exact .inr (by omega)
  have HH := hide h
  have HT := hide hT
  have st : ∃ c m, 3 ≤ m ∧ m ≤ 24 ∧ c = 2 ^ m ∧ ((n = 0 ∧ c = 8) ∨ (8 ≤ n ∧ c = n)) := by
    rcases hpow with h | ⟨m, h1, h2, h3⟩
    · exact ⟨8, 3, by omega, by omega, rfl, .inl ⟨h, rfl⟩⟩
    · have : 2 ^ 3 ≤ 2 ^ m := Nat.pow_le_pow_right (by decide) h1
      exact ⟨n, m, h1, h2, h3, .inr ⟨by omega, rfl⟩⟩
  obtain ⟨c, m0, hm1, hm2, hc, hcs⟩ := st
  have HC0 := hide hc
  clear h hT hpow hn8 hc
  rcases hcs with ⟨h1, h2⟩ | ⟨h1, h2⟩
  · subst h1
    subst h2
    go_enter Tryf.func20, Tryf.ntmps20
    go_wp2_with fail
    go_loop [4] (fun c => ∃ C m : Nat, c = .int .i64 C ∧ 3 ≤ m ∧ m ≤ 24 ∧ C ≤ 16777216 ∧ 8 ≤ C ∧ 0 ≤ C ∧ Hid (C = 2 ^ m)) (fun c => 2 * (len + g) - (intOf c).toNat)
    case atStart => exact ⟨8, m0, rfl, hm1, hm2, by omega, by omega, by omega, HC0⟩
    case round =>
      obtain ⟨C, m, rfl, k1, k2, k3, k4, k5, HC⟩ := hrel
      by_cases hlt : C < 2 * (len + g)
      · have hli : (C : Int) < 2 * ((len : Int) + (g : Int)) := by omega
        have k6 : m + 1 ≤ 24 := by
          rcases Nat.lt_or_ge 22 m with hh | hh
          · have : 2 ^ 23 ≤ 2 ^ m := Nat.pow_le_pow_right (by decide) hh
            have := HC.out
            omega
          · omega
        have HC' : Hid (C * 2 = 2 ^ (m + 1)) := by rw [HC.out]; exact (Nat.pow_succ 2 m).symm
        go_wp2_with fail
        go_round
        case rel => exact ⟨C * 2, m + 1, by go_num, by omega, k6, by omega, by omega, by omega, HC'⟩
        case measure => simp [intOf]; omega
      · have hli : 2 * ((len : Int) + (g : Int)) ≤ (C : Int) := by omega
        have H := hide (HH.out.rehash C m HT.out hB1 HC.out k1 k2 (by omega))
        have hgi : (0 : Int) < (C : Int) := by omega
        go_wp2_with (go_at_call 30; refine H.out.mono ?_; rintro e w' ⟨rfl, hp⟩)
        go_end0
        exact ⟨rfl, .inr ⟨C, m, rfl, hp⟩⟩
  · have HC1 : Hid (n = 2 ^ m0) := by rw [← h2]; exact HC0.out
    clear HC0 h2
    have HC0 := HC1
    rcases Nat.eq_or_lt_of_le h1 with h8 | h8
    · subst h8
      go_enter Tryf.func20, Tryf.ntmps20
      go_wp2_with fail
      go_loop [4] (fun c => ∃ C m : Nat, c = .int .i64 C ∧ 3 ≤ m ∧ m ≤ 24 ∧ C ≤ 16777216 ∧ 8 ≤ C ∧ 8 ≤ C ∧ Hid (C = 2 ^ m)) (fun c => 2 * (len + g) - (intOf c).toNat)
      case atStart => exact ⟨8, m0, rfl, hm1, hm2, by omega, by omega, by omega, HC0⟩
      case round =>
        obtain ⟨C, m, rfl, k1, k2, k3, k4, k5, HC⟩ := hrel
        by_cases hlt : C < 2 * (len + g)
        · have hli : (C : Int) < 2 * ((len : Int) + (g : Int)) := by omega
          have k6 : m + 1 ≤ 24 := by
            rcases Nat.lt_or_ge 22 m with hh | hh
            · have : 2 ^ 23 ≤ 2 ^ m := Nat.pow_le_pow_right (by decide) hh
              have := HC.out
              omega
            · omega
          have HC' : Hid (C * 2 = 2 ^ (m + 1)) := by rw [HC.out]; exact (Nat.pow_succ 2 m).symm
          go_wp2_with fail
          go_round
          case rel => exact ⟨C * 2, m + 1, by go_num, by omega, k6, by omega, by omega, by omega, HC'⟩
          case measure => simp [intOf]; omega
        · have hli : 2 * ((len : Int) + (g : Int)) ≤ (C : Int) := by omega
          by_cases hgt : 8 < C
          · have H := hide (HH.out.rehash C m HT.out hB1 HC.out k1 k2 (by omega))
            have hgi : (8 : Int) < (C : Int) := by omega
            go_wp2_with (go_at_call 30; refine H.out.mono ?_; rintro e w' ⟨rfl, hp⟩)
            go_end0
            exact ⟨rfl, .inr ⟨C, m, rfl, hp⟩⟩
          · have hgi : ¬ (8 : Int) < (C : Int) := by omega
            go_wp2_with fail
            go_end0
            exact ⟨rfl, .inl ⟨rfl, by omega⟩⟩
    · clear h1
      have h1 : 8 ≤ n := by omega
      go_enter Tryf.func20, Tryf.ntmps20
      go_wp2_with fail
      go_loop [4] (fun c => ∃ C m : Nat, c = .int .i64 C ∧ 3 ≤ m ∧ m ≤ 24 ∧ C ≤ 16777216 ∧ 8 ≤ C ∧ n ≤ C ∧ Hid (C = 2 ^ m)) (fun c => 2 * (len + g) - (intOf c).toNat)
      case atStart => exact ⟨n, m0, rfl, hm1, hm2, by omega, by omega, by omega, HC0⟩
      case round =>
        obtain ⟨C, m, rfl, k1, k2, k3, k4, k5, HC⟩ := hrel
        by_cases hlt : C < 2 * (len + g)
        · have hli : (C : Int) < 2 * ((len : Int) + (g : Int)) := by omega
          have k6 : m + 1 ≤ 24 := by
            rcases Nat.lt_or_ge 22 m with hh | hh
            · have : 2 ^ 23 ≤ 2 ^ m := Nat.pow_le_pow_right (by decide) hh
              have := HC.out
              omega
            · omega
          have HC' : Hid (C * 2 = 2 ^ (m + 1)) := by rw [HC.out]; exact (Nat.pow_succ 2 m).symm
          go_wp2_with fail
          go_round
          case rel => exact ⟨C * 2, m + 1, by go_num, by omega, k6, by omega, by omega, by omega, HC'⟩
          case measure => simp [intOf]; omega
        · have hli : 2 * ((len : Int) + (g : Int)) ≤ (C : Int) := by omega
          by_cases hgt : n < C
          · have H := hide (HH.out.rehash C m HT.out hB1 HC.out k1 k2 (by omega))
            have hgi : (n : Int) < (C : Int) := by omega
            go_wp2_with (go_at_call 30; refine H.out.mono ?_; rintro e w' ⟨rfl, hp⟩)
            go_end0
            exact ⟨rfl, .inr ⟨C, m, rfl, hp⟩⟩
          · have hgi : ¬ (n : Int) < (C : Int) := by omega
            go_wp2_with fail
            go_end0
            exact ⟨rfl, .inl ⟨rfl, h1⟩⟩
end Go.Proofs.Qxb6003863aFmt
