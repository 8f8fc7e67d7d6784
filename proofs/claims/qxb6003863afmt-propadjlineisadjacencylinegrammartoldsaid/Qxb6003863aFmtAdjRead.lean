/- The walks of the reading functions: isBlank, zzIsBlank, fieldEnd, zzNextField, zzID. -/
import Derived.Test.Qxb6003863aFmtRows
import Derived.Test.Qxb6003863aFmtAdjPlain
import Derived.WalkKit
import Derived.WalkSpells
import Derived.ProofKit
import Derived.Below
import Derived.Deep.OwnRows
import Derived.Deep.QuietTactic
import Derived.BigQuiet
namespace Go.Proofs.Qxb6003863aFmt
open Go.RowKit
set_option linter.unusedVariables false

theorem isBlank34 (v : Int) (w : World) : Calls Tryf.prog 34 #[.int .u8 v] w fun e w' => e = .returned (.bool (bl v)) ∧ w' = w := by
  by_cases h : v = 32
  · subst h
    go_enter Tryf.func34, Tryf.ntmps34
    go_wp2
    go_ret
    exact ⟨rfl, rfl⟩
  · have h1 : (v == 32) = false := by simp [h]
    have hb : bl v = (v == 9) := by simp [bl, h1]
    rw [hb]
    clear hb
    go_enter Tryf.func34, Tryf.ntmps34
    go_wp2
    go_ret
    exact ⟨rfl, rfl⟩

theorem isBlank25 (v : Int) (w : World) : Calls Tryf.prog 25 #[.int .u8 v] w fun e w' => e = .returned (.bool (bl v)) ∧ w' = w := by
  by_cases h : v = 32
  · subst h
    go_enter Tryf.func25, Tryf.ntmps25
    go_wp2
    go_ret
    exact ⟨rfl, rfl⟩
  · have h1 : (v == 32) = false := by simp [h]
    have hb : bl v = (v == 9) := by simp [bl, h1]
    rw [hb]
    clear hb
    go_enter Tryf.func25, Tryf.ntmps25
    go_wp2
    go_ret
    exact ⟨rfl, rfl⟩

set_option maxHeartbeats 400000 in
theorem fieldEnd37 (b off n cap i : Nat) (c : Nat → Int) (w : World) (hn : n ≤ 1048576) (hi : i ≤ n) (hc : ∀ j, j < n → w.cell? ⟨b, off + j, none⟩ = some (.int .u8 (c j))) :
    Calls Tryf.prog 37 #[.slice (some ⟨b, off, none⟩) n cap, .int .i64 i] w fun e w' => e = .returned (.int .i64 (skip nbl c n i)) ∧ w' = w := by
  go_enter Tryf.func37, Tryf.ntmps37
  go_wp2
  go_loop [1] (fun p => ∃ k : Nat, k ≤ n ∧ p = .int .i64 k ∧ Hid (skip nbl c n i = skip nbl c n k)) (fun p => n - (intOf p).toNat)
  case atStart => exact ⟨i, hi, rfl, rfl⟩
  case round =>
    obtain ⟨k, hk, rfl, H⟩ := hrel
    by_cases hlt : k < n
    · have c1 := hc k hlt
      have d1 : decide ((k : Int) < (n : Int)) = true := decide_eq_true (by omega)
      cases hb : bl (c k) with
      | true =>
        go_wp2_with (go_at_call 34; refine (isBlank34 _ _).mono ?_; rintro e w' ⟨rfl, rfl⟩)
        go_ret
        exact ⟨by rw [H.out, skip_miss (by simp [nbl, hb])]; rfl, rfl⟩
      | false =>
        go_wp2_with (go_at_call 34; refine (isBlank34 _ _).mono ?_; rintro e w' ⟨rfl, rfl⟩)
        go_round
        case rel => exact ⟨k + 1, by omega, by go_num, by rw [H.out]; exact skip_hit hlt (by simp [nbl, hb])⟩
        case measure => simp [intOf]; omega
    · have d1 : decide ((k : Int) < (n : Int)) = false := decide_eq_false (by omega)
      go_wp2
      go_ret
      exact ⟨by rw [H.out, skip_end (by omega)]; rfl, rfl⟩

/-- A slice of numbers of kind kd, read at its m cells: where there is one, they lie at its address. -/
def Row (kd : IntKind) (w : World) (a : Option Addr) (m : Nat) (x : Nat → Int) : Prop :=
  0 < m → ∃ b off, a = some ⟨b, off, none⟩ ∧ ∀ i, i < m → w.cell? ⟨b, off + i, none⟩ = some (.int kd (x i))

theorem Row.later {kd : IntKind} {w w' : World} {a : Option Addr} {m : Nat} {x : Nat → Int} (h : Row kd w a m x) (hb : Below w.heap.size w w') : Row kd w' a m x := fun h0 => by
  obtain ⟨b, off, e, hc⟩ := h h0
  exact ⟨b, off, e, fun i hi => cell_later hb (hc i hi)⟩

set_option maxHeartbeats 800000 in
theorem nextField8 (a : Option Addr) (n cap i : Nat) (c : Nat → Int) (w : World) (hn : n ≤ 1048576) (hi : i ≤ n) (hr : Row .u8 w a n c) :
    Calls Tryf.prog 8 #[.slice a n cap, .int .i64 i] w fun e w' => e = .returned (.tuple #[.int .i64 (fs c n i), .int .i64 (fe c n i)]) ∧ w' = w := by
  go_enter Tryf.func8, Tryf.ntmps8
  go_wp2
  go_loop [1] (fun p => ∃ k : Nat, k ≤ n ∧ p = .int .i64 k ∧ Hid (fs c n i = fs c n k)) (fun p => n - (intOf p).toNat)
  case atStart => exact ⟨i, hi, rfl, rfl⟩
  case round =>
    obtain ⟨k, hk, rfl, H⟩ := hrel
    by_cases hlt : k < n
    · obtain ⟨b, off, rfl, hc⟩ := hr (by omega)
      have c1 := hc k hlt
      have d1 : decide ((k : Int) < (n : Int)) = true := decide_eq_true (by omega)
      cases hb : bl (c k) with
      | true =>
        go_wp2_with (go_at_call 25; refine (isBlank25 _ _).mono ?_; rintro e w' ⟨rfl, rfl⟩)
        go_round
        case rel => exact ⟨k + 1, by omega, by go_num, by rw [H.out]; exact skip_hit hlt hb⟩
        case measure => simp [intOf]; omega
      | false =>
        have H1 : Hid (fs c n i = k) := by rw [H.out]; exact fs_at hb
        clear H
        go_wp2_with (go_at_call 25; refine (isBlank25 _ _).mono ?_; rintro e w' ⟨rfl, rfl⟩)
        clear c1 d1 hb hlt
        go_loop [1] (fun p => ∃ q : Nat, q ≤ n ∧ p = .int .i64 q ∧ Hid (skip nbl c n k = skip nbl c n q)) (fun p => n - (intOf p).toNat)
        case atStart => exact ⟨k, hk, rfl, rfl⟩
        case round =>
          obtain ⟨q, hq, rfl, H2⟩ := hrel
          by_cases hlt : q < n
          · have c1 := hc q hlt
            have d1 : decide ((q : Int) < (n : Int)) = true := decide_eq_true (by omega)
            cases hb : bl (c q) with
            | true =>
              go_wp2_with (go_at_call 25; refine (isBlank25 _ _).mono ?_; rintro e w' ⟨rfl, rfl⟩)
              go_ret2
              exact ⟨by unfold fe; rw [H1.out, H2.out, skip_miss (by simp [nbl, hb])]; rfl, rfl⟩
            | false =>
              go_wp2_with (go_at_call 25; refine (isBlank25 _ _).mono ?_; rintro e w' ⟨rfl, rfl⟩)
              go_round
              case rel => exact ⟨q + 1, by omega, by go_num, by rw [H2.out]; exact skip_hit hlt (by simp [nbl, hb])⟩
              case measure => simp [intOf]; omega
          · have d1 : decide ((q : Int) < (n : Int)) = false := decide_eq_false (by omega)
            go_wp2
            go_ret2
            exact ⟨by unfold fe; rw [H1.out, H2.out, skip_end (by omega)]; rfl, rfl⟩
    · have d1 : decide ((k : Int) < (n : Int)) = false := decide_eq_false (by omega)
      have H1 : Hid (fs c n i = k) := by rw [H.out]; exact skip_end (by omega)
      have H3 : Hid (fe c n i = k) := by unfold fe; rw [H1.out]; exact skip_end (by omega)
      go_wp2
      go_loop [1] (fun p => p = .int .i64 k) (fun p => 0)
      case atStart => rfl
      case round =>
        obtain rfl := hrel
        go_wp2
        go_ret2
        exact ⟨by rw [H1.out, H3.out]; rfl, rfl⟩

/-- What zzID hands back. -/
def idRes : Option Int → Value
  | some v => .tuple #[.int .i64 v, .bool true]
  | none => .tuple #[.int .i64 0, .bool false]

set_option maxHeartbeats 800000 in
theorem zzID9 (b off m cap s : Nat) (c : Nat → Int) (w : World) (hm : m ≤ 1048576) (h0 : 0 < m) (hcb : ∀ j, 0 ≤ c j ∧ c j ≤ 255) (hc : ∀ j, j < m → w.cell? ⟨b, off + j, none⟩ = some (.int .u8 (c (s + j)))) :
    Calls Tryf.prog 9 #[.slice (some ⟨b, off, none⟩) m cap] w fun e w' => e = .returned (idRes (idGo c m s 0)) ∧ w' = w := by
  have hn : ((m : Int) == 0) = false := by simp; omega
  go_enter Tryf.func9, Tryf.ntmps9
  go_wp2
  go_loop [4, 5] (fun v i => ∃ (k : Nat) (x : Int), k ≤ m ∧ 0 ≤ x ∧ x ≤ 9223372036854775807 ∧ v = .int .u64 x ∧ i = .int .i64 k ∧ Hid (idGo c m s 0 = idGo c (m - k) (s + k) x)) (fun _ i => m - (intOf i).toNat)
  case atStart => exact ⟨0, 0, Nat.zero_le _, by omega, by omega, rfl, rfl, rfl⟩
  case round =>
    obtain ⟨k, x, hk, hx0, hx1, rfl, rfl, H⟩ := hrel
    by_cases hlt : k < m
    · have c1 := hc k hlt
      have hb := hcb (s + k)
      obtain ⟨y, hy⟩ : ∃ y, y = c (s + k) := ⟨_, rfl⟩
      have HY : Hid (y = c (s + k)) := hy
      rw [← hy] at c1 hb
      clear hc hcb
      have hms : m - k = (m - (k + 1)) + 1 := by omega
      by_cases hd : 48 ≤ y ∧ y ≤ 57
      · obtain ⟨hd1, hd2⟩ := hd
        by_cases hv : x * 10 + (y - 48) ≤ 9223372036854775807
        · have H2 : Hid (idGo c m s 0 = idGo c (m - (k + 1)) (s + (k + 1)) (x * 10 + (y - 48))) := by
            rw [H.out, hms, idGo_hit (by rw [← hy]; omega), hy]; rfl
          clear H hms hy
          have t1 : ¬ (9223372036854775807 - (y - 48)) / 10 < x := by omega
          go_wp2
          go_round
          case rel => exact ⟨k + 1, x * 10 + (y - 48), by omega, by omega, by omega, by go_num, by go_num, H2⟩
          case measure => simp [intOf]; omega
        · have H2 : Hid (idGo c m s 0 = none) := by
            rw [H.out, hms, idGo_miss (by rw [← hy]; omega)]; rfl
          clear H hms hy
          have t1 : (9223372036854775807 - (y - 48)) / 10 < x := by omega
          go_wp2
          go_ret2
          exact ⟨by rw [H2.out]; rfl, rfl⟩
      · have H2 : Hid (idGo c m s 0 = none) := by
          rw [H.out, hms, idGo_miss (by rw [← hy]; omega)]; rfl
        clear H hms hy
        by_cases hd1 : y < 48
        · have d1 : decide (y < 48) = true := decide_eq_true hd1
          go_wp2
          go_ret2
          exact ⟨by rw [H2.out]; rfl, rfl⟩
        · have d1 : decide (y < 48) = false := decide_eq_false hd1
          have hd2 : 57 < y := by omega
          go_wp2
          go_ret2
          exact ⟨by rw [H2.out]; rfl, rfl⟩
    · have H2 : Hid (idGo c m s 0 = some x) := by rw [H.out, show m - k = 0 by omega]; rfl
      clear H
      go_wp2
      go_ret2
      exact ⟨by rw [H2.out]; rfl, rfl⟩
end Go.Proofs.Qxb6003863aFmt
