import Derived.Test.Qxb6003850aWalks
import Derived.OpenShut
namespace Go.Proofs.Qxb6003850a
open Go.RowKit
set_option linter.unusedVariables false

/-- A slice of numbers, read at its length alone: where there is an element its cells lie there. -/
def Row (kd : IntKind) (w : World) (a : Option Addr) (len : Nat) (x : Nat → Int) : Prop :=
  0 < len → ∃ b off, a = some ⟨b, off, none⟩ ∧ ∀ i, i < len → w.cell? ⟨b, off + i, none⟩ = some (.int kd (x i))

theorem Row.later {kd : IntKind} {w w' : World} {a : Option Addr} {len : Nat} {x : Nat → Int} (h : Row kd w a len x) (hb : Below w.heap.size w w') : Row kd w' a len x := fun h0 => by
  obtain ⟨b, off, e, hc⟩ := h h0
  exact ⟨b, off, e, fun i hi => cell_later hb (hc i hi)⟩

theorem row_of_cop {kd : IntKind} {w w' : World} {len : Nat} {x : Nat → Int} (h : Cop kd w w' len len x) : Row kd w' (some ⟨w.heap.size, 0, none⟩) len x := fun _ =>
  ⟨_, _, rfl, fun i hi => by rw [Nat.zero_add]; exact h.done i hi⟩

theorem clone32_row (a : Option Addr) (len cap : Nat) (x : Nat → Int) (w : World) (hl : len ≤ 1048576) (hr : Row .u32 w a len x) :
    Calls Try.prog 7 #[.slice a len cap] w fun e w' => ∃ a' c', e = .returned (.slice a' len c') ∧ Below w.heap.size w w' ∧ Row .u32 w' a' len x := by
  by_cases h0 : 0 < len
  · obtain ⟨b, off, rfl, hc⟩ := hr h0
    refine (clone32_at b off len cap x w hl hc).mono ?_
    rintro e w' ⟨rfl, h⟩
    exact ⟨_, _, rfl, h.bel, row_of_cop h⟩
  · obtain rfl : len = 0 := by omega
    refine (clone32_zero a cap w).mono ?_
    rintro e w' ⟨⟨a', c', rfl⟩, h⟩
    exact ⟨_, _, rfl, h, fun h => absurd h (by omega)⟩

set_option maxHeartbeats 400000 in
theorem clone8_at (b off len cap : Nat) (x : Nat → Int) (w : World) (hl : len ≤ 1048576) (hc : ∀ i, i < len → w.cell? ⟨b, off + i, none⟩ = some (.int .u8 (x i))) :
    Calls Try.prog 12 #[.slice (some ⟨b, off, none⟩) len cap] w fun e w' => e = .returned (.slice (some ⟨w.heap.size, 0, none⟩) len len) ∧ Cop .u8 w w' len len x := by
  have hnil := fun (w : World) => Lib.run_eql_slice_nil (P := Try.prog) w 27 5 (some ⟨b, off, none⟩) len cap 0 0 Try.underlying27
  have hmk := run_make_row' (P := Try.prog) 27 5 (.int .u8 0) 1 Try.underlying27 Try.info5 rfl .i64 .i64 len (by omega) (by omega)
  go_enter Try.func12, Try.ntmps12
  go_wp2
  clear hnil hmk
  go_loopw [4] (fun i wr => ∃ k : Nat, k ≤ len ∧ i = .int .i64 k ∧ Cop .u8 w wr len k x) (fun i _ => len - (intOf i).toNat)
  case atStart => exact ⟨0, Nat.zero_le _, rfl, Cop.start _ _ _ _ _⟩
  case round =>
    obtain ⟨k, hk, rfl, H⟩ := hrel
    by_cases hlt : k < len
    · have hbl : b < w.heap.size := World.block_lt_of_cell? _ _ (hc k hlt)
      have c1 : wr.cell? ⟨b, off + k, none⟩ = some (.int .u8 (x k)) := (H.bel.cell (p := ⟨b, off + k, none⟩) hbl).trans (hc k hlt)
      obtain ⟨z, c2⟩ := H.todo k hlt
      have c3 := H.frz k
      have HH := H.step hlt
      go_wp2
      go_roundw
      case rel => exact ⟨k + 1, by omega, by go_num, HH⟩
      case measure => simp [intOf]; omega
    · go_wp2
      go_ret
      obtain rfl : k = len := by omega
      exact ⟨rfl, H⟩

set_option maxHeartbeats 400000 in
theorem clone8_zero (a : Option Addr) (cap : Nat) (w : World) :
    Calls Try.prog 12 #[.slice a 0 cap] w fun e w' => (∃ a', e = .returned (.slice a' 0 0)) ∧ Below w.heap.size w w' := by
  have hmk : ∀ w : World, (Instr.makeSlice 27 (.int .i64 0) (.int .i64 0)).run Try.prog w = .ok (.slice (some ⟨w.heap.size, 0, none⟩) 0 0) (w.alloc (.cells (madeCells #[.int .u8 0] 0) 5)) := fun w =>
    run_make_row' (P := Try.prog) 27 5 (.int .u8 0) 1 Try.underlying27 Try.info5 rfl .i64 .i64 0 (by omega) (by omega) w
  have hnil := fun (w : World) => Lib.run_eql_slice_nil (P := Try.prog) w 27 5 a 0 cap 0 0 Try.underlying27
  cases a with
  | none =>
    go_enter Try.func12, Try.ntmps12
    go_wp2
    go_ret
    exact ⟨⟨_, rfl⟩, Below.refl _ _⟩
  | some ad =>
    go_enter Try.func12, Try.ntmps12
    go_wp2
    clear hnil hmk
    go_loopw [4] (fun i wr => i = .int .i64 0 ∧ Below w.heap.size w wr) (fun i _ => 0)
    case atStart => exact ⟨rfl, (Below.refl _ _).alloc (Nat.le_refl _) _⟩
    case round =>
      obtain ⟨rfl, H⟩ := hrel
      go_wp2
      go_ret
      exact ⟨⟨_, rfl⟩, H⟩

theorem clone8_row (a : Option Addr) (len cap : Nat) (x : Nat → Int) (w : World) (hl : len ≤ 1048576) (hr : Row .u8 w a len x) :
    Calls Try.prog 12 #[.slice a len cap] w fun e w' => ∃ a', e = .returned (.slice a' len len) ∧ Below w.heap.size w w' ∧ Row .u8 w' a' len x := by
  by_cases h0 : 0 < len
  · obtain ⟨b, off, rfl, hc⟩ := hr h0
    refine (clone8_at b off len cap x w hl hc).mono ?_
    rintro e w' ⟨rfl, h⟩
    exact ⟨_, rfl, h.bel, row_of_cop h⟩
  · obtain rfl : len = 0 := by omega
    refine (clone8_zero a cap w).mono ?_
    rintro e w' ⟨⟨a', rfl⟩, h⟩
    exact ⟨_, rfl, h, fun h => absurd h (by omega)⟩

theorem nd8_row (a : Option Addr) (len cap : Nat) (x : Nat → Int) (w : World) (hl : len ≤ 1048576) (hr : Row .u32 w a len x) :
    Calls Try.prog 8 #[.slice a len cap] w fun e w' => ∃ (r : Bool) (n : Nat), e = .returned (.bool r) ∧ w' = w.drewN n ∧ Hid (r = true ↔ ∀ i, i + 1 < len → x i ≤ x (i + 1)) := by
  by_cases h0 : 0 < len
  · obtain ⟨b, off, rfl, hc⟩ := hr h0
    exact nd8 b off len cap x w hl hc
  · obtain rfl : len = 0 := by omega
    refine (nd8_zero a cap w).mono ?_
    rintro e w' ⟨rfl, rfl⟩
    exact ⟨true, 0, rfl, rfl, by constructor <;> intro h <;> simp⟩

def endAt (x : Nat → Int) : Nat → Int
  | 0 => 0
  | k + 1 => x k

theorem last10_row (a : Option Addr) (len cap : Nat) (x : Nat → Int) (w : World) (hl : len ≤ 1048576) (hr : Row .u32 w a len x) :
    Calls Try.prog 10 #[.slice a len cap] w fun e w' => e = .returned (.int .u32 (endAt x len)) ∧ w' = w := by
  match len, hr, hl with
  | 0, _, _ => exact last10_zero a cap w
  | k + 1, hr, hl =>
    obtain ⟨b, off, rfl, hc⟩ := hr (by omega)
    exact last10 b off (k + 1) cap x w (by omega) hl hc

/-- What elem hands back: the bytes from lo to hi of the row that begins at ad; nothing is written. -/
def ElemRet (w : World) (ad : Option Addr) (lo hi : Nat) (e : Ending) (w' : World) : Prop :=
  ∃ n a c, e = .returned (.slice a (hi - lo) c) ∧ w' = w.drewN n ∧ (0 < hi - lo → ∃ be oe, ad = some ⟨be, oe, none⟩ ∧ a = some ⟨be, oe + lo, none⟩)

set_option maxHeartbeats 400000 in
theorem elem16_pos (bu b off len cap be oe le k lo hi : Nat) (w : World) (hl : len ≤ 1048576) (hle : le ≤ 1048576) (h0 : 0 < k) (hk : k < len)
    (u1 : w.cell? ⟨bu, 11, none⟩ = some (.slice (some ⟨b, off, none⟩) len cap)) (u2 : w.cell? ⟨bu, 12, none⟩ = some (.slice (some ⟨be, oe, none⟩) le le))
    (c1 : w.cell? ⟨b, off + (k - 1), none⟩ = some (.int .u32 lo)) (c2 : w.cell? ⟨b, off + k, none⟩ = some (.int .u32 hi)) (hlh : lo ≤ hi) (hhi : hi ≤ le) :
    Calls Try.prog 16 #[.pointer (some ⟨bu, 0, none⟩), .int .u32 k] w (ElemRet w (some ⟨be, oe, none⟩) lo hi) := by
  have hk0 : (0 : Int) < (k : Int) := by omega
  have hk1 : (k : Int) < (len : Int) := by omega
  have hh : (hi : Int) ≤ (le : Int) := by omega
  have hh2 : (lo : Int) ≤ (hi : Int) := by omega
  go_enter Try.func16, Try.ntmps16
  go_wp2
  go_quiet (fail)
  go_wp2
  all_goals
    go_ret
    exact ⟨nq, _, _, rfl, rfl, fun h => ⟨be, oe, rfl, by first | rfl | omega⟩⟩

set_option maxHeartbeats 400000 in
theorem elem16_pos_none (bu b off len cap k : Nat) (ae : Option Addr) (w : World) (hl : len ≤ 1048576) (h0 : 0 < k) (hk : k < len)
    (u1 : w.cell? ⟨bu, 11, none⟩ = some (.slice (some ⟨b, off, none⟩) len cap)) (u2 : w.cell? ⟨bu, 12, none⟩ = some (.slice ae 0 0))
    (c1 : w.cell? ⟨b, off + (k - 1), none⟩ = some (.int .u32 0)) (c2 : w.cell? ⟨b, off + k, none⟩ = some (.int .u32 0)) :
    Calls Try.prog 16 #[.pointer (some ⟨bu, 0, none⟩), .int .u32 k] w (ElemRet w ae 0 0) := by
  have hk0 : (0 : Int) < (k : Int) := by omega
  have hk1 : (k : Int) < (len : Int) := by omega
  cases ae
  all_goals
    go_enter Try.func16, Try.ntmps16
    go_wp2
    go_quiet (fail)
    go_wp2
    all_goals
      go_ret
      exact ⟨nq, _, _, rfl, rfl, fun h => absurd h (by omega)⟩

set_option maxHeartbeats 400000 in
theorem elem16_head (bu b off len cap be oe le hi : Nat) (w : World) (hl : len ≤ 1048576) (hle : le ≤ 1048576) (hk : 0 < len)
    (u1 : w.cell? ⟨bu, 11, none⟩ = some (.slice (some ⟨b, off, none⟩) len cap)) (u2 : w.cell? ⟨bu, 12, none⟩ = some (.slice (some ⟨be, oe, none⟩) le le))
    (c2 : w.cell? ⟨b, off, none⟩ = some (.int .u32 hi)) (hhi : hi ≤ le) :
    Calls Try.prog 16 #[.pointer (some ⟨bu, 0, none⟩), .int .u32 0] w (ElemRet w (some ⟨be, oe, none⟩) 0 hi) := by
  have hk1 : (0 : Int) < (len : Int) := by omega
  have hh : (hi : Int) ≤ (le : Int) := by omega
  go_enter Try.func16, Try.ntmps16
  go_wp2
  go_quiet (fail)
  go_wp2
  all_goals
    go_ret
    exact ⟨nq, _, _, rfl, rfl, fun h => ⟨be, oe, rfl, by first | rfl | omega⟩⟩

set_option maxHeartbeats 400000 in
theorem elem16_head_none (bu b off len cap : Nat) (ae : Option Addr) (w : World) (hl : len ≤ 1048576) (hk : 0 < len)
    (u1 : w.cell? ⟨bu, 11, none⟩ = some (.slice (some ⟨b, off, none⟩) len cap)) (u2 : w.cell? ⟨bu, 12, none⟩ = some (.slice ae 0 0))
    (c2 : w.cell? ⟨b, off, none⟩ = some (.int .u32 0)) :
    Calls Try.prog 16 #[.pointer (some ⟨bu, 0, none⟩), .int .u32 0] w (ElemRet w ae 0 0) := by
  have hk1 : (0 : Int) < (len : Int) := by omega
  cases ae
  all_goals
    go_enter Try.func16, Try.ntmps16
    go_wp2
    go_quiet (fail)
    go_wp2
    all_goals
      go_ret
      exact ⟨nq, _, _, rfl, rfl, fun h => absurd h (by omega)⟩

theorem elem16_row (bu b off len cap : Nat) (x : Nat → Int) (ae : Option Addr) (le k lo hi : Nat) (w : World) (hl : len ≤ 1048576) (hle : le ≤ 1048576) (hk : k < len)
    (u1 : w.cell? ⟨bu, 11, none⟩ = some (.slice (some ⟨b, off, none⟩) len cap)) (u2 : w.cell? ⟨bu, 12, none⟩ = some (.slice ae le le))
    (hc : ∀ i, i < len → w.cell? ⟨b, off + i, none⟩ = some (.int .u32 (x i))) (hae : 0 < le → ∃ be oe, ae = some ⟨be, oe, none⟩)
    (h1 : endAt x k = (lo : Int)) (h2 : x k = (hi : Int)) (hlh : lo ≤ hi) (hhi : hi ≤ le) :
    Calls Try.prog 16 #[.pointer (some ⟨bu, 0, none⟩), .int .u32 k] w (ElemRet w ae lo hi) := by
  have c2 := hc k hk
  rw [h2] at c2
  by_cases hz : 0 < le
  · obtain ⟨be, oe, rfl⟩ := hae hz
    match k, h1, hk, c2 with
    | 0, h1, hk, c2 =>
      obtain rfl : lo = 0 := by simp [endAt] at h1; omega
      exact elem16_head bu b off len cap be oe le hi w hl hle hk u1 u2 c2 hhi
    | k + 1, h1, hk, c2 =>
      have c1 := hc k (by omega)
      simp only [endAt] at h1
      rw [h1] at c1
      exact elem16_pos bu b off len cap be oe le (k + 1) lo hi w hl hle (by omega) hk u1 u2 c1 c2 hlh hhi
  · obtain rfl : le = 0 := by omega
    obtain rfl : hi = 0 := by omega
    obtain rfl : lo = 0 := by omega
    match k, h1, hk, c2 with
    | 0, h1, hk, c2 => exact elem16_head_none bu b off len cap ae w hl hk u1 u2 c2
    | k + 1, h1, hk, c2 =>
      have c1 := hc k (by omega)
      simp only [endAt] at h1
      rw [h1] at c1
      exact elem16_pos_none bu b off len cap (k + 1) ae w hl (by omega) hk u1 u2 c1 c2

set_option maxHeartbeats 400000 in
theorem elem13_row (a : Option Addr) (len cap : Nat) (x : Nat → Int) (ae : Option Addr) (le : Nat) (y : Nat → Int) (k lo hi : Nat) (w : World) (hl : len ≤ 1048576) (hle : le ≤ 1048576) (hk : k < len)
    (hr : Row .u32 w a len x) (he : Row .u8 w ae le y) (h1 : endAt x k = (lo : Int)) (h2 : x k = (hi : Int)) (hlh : lo ≤ hi) (hhi : hi ≤ le) :
    Calls Try.prog 13 #[.slice a len cap, .slice ae le le, .int .u32 k] w fun e w' => ∃ a' c', e = .returned (.slice a' (hi - lo) c') ∧ Below w.heap.size w w' ∧ Row .u8 w' a' (hi - lo) (fun t => y (lo + t)) := by
  obtain ⟨b, off, rfl, hc⟩ := hr (by omega)
  have hbl : b < w.heap.size := World.block_lt_of_cell? _ _ (hc k hk)
  have hc' : ∀ (o : Obj) i, i < len → (w.alloc o).cell? ⟨b, off + i, none⟩ = some (.int .u32 (x i)) := fun o i hi => (World.cell?_alloc_past _ _ _ hbl).trans (hc i hi)
  have hae : 0 < le → ∃ be oe, ae = some ⟨be, oe, none⟩ := fun h => by obtain ⟨be, oe, e, _⟩ := he h; exact ⟨be, oe, e⟩
  have H1 : Hid (endAt x k = (lo : Int)) := h1
  have H2 : Hid (x k = (hi : Int)) := h2
  clear h1 h2
  go_enter Try.func13, Try.ntmps13
  go_wp2_with (go_at_call 16; refine (elem16_row w.heap.size b off len cap x ae le k lo hi _ hl hle hk (by simp) (by simp) (hc' _) hae H1.out H2.out hlh hhi).mono ?_; rintro e w' ⟨n, a', c', rfl, rfl, hq⟩)
  go_ret
  have bel : Below w.heap.size w ((w.alloc (.cells #[.slice none 0 0, .int .u32 0, .int .u32 0, .int .u32 0, .int .u32 0, .int .u32 0, .int .u32 0, .int .u32 0, .int .u32 0, .int .u32 0, .int .u32 0, .slice (some ⟨b, off, none⟩) len cap, .slice ae le le, .int .i64 0, .int .u8 0, .int .u8 0, .int .u8 0, .int .u8 0, .int .u8 0, .int .u8 0, .int .u8 0, .int .u8 0] 37)).drewN n) :=
    below_drewN' ((Below.refl _ _).alloc (Nat.le_refl _) _) n
  refine ⟨a', c', rfl, bel, fun hp => ?_⟩
  obtain ⟨be, oe, rfl, rfl⟩ := hq hp
  refine ⟨be, oe + lo, rfl, fun t ht => ?_⟩
  obtain ⟨be', oe', e, hcy⟩ := he (by omega)
  obtain ⟨rfl, rfl⟩ : be = be' ∧ oe = oe' := by simpa using e
  rw [Nat.add_assoc]
  exact cell_later bel (hcy (lo + t) (by omega))
end Go.Proofs.Qxb6003850a
