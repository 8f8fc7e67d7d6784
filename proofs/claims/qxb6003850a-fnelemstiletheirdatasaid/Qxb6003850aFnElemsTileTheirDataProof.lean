/- The proof of Rows.FnElemsTileTheirDataSaid. The frame is the kit's shell for this function; the walk is ours. -/
import Derived.Test.Qxb6003850aElems
import Derived.WalkKit
import Derived.ProofKit
import Derived.OpenShut
import Derived.ShutString
import Derived.ChangeOld
import Derived.Below
namespace Go.Proofs.Qxb6003850a.fnElemsTileTheirData
open Go.ChangeShapes Go.WideShapes Go.ChangeAt Go.RowKit
open Go.ChangeMaps (open_string shut_string)
set_option linter.unusedVariables false

theorem own : ownKnob Try.prog.godebug = none := by kernel_rfl
theorem laidOut : laidOutB Try.prog = true := by kernel_rfl

/-- WHAT THE WALK IS TOLD OF A SLICE OF INTEGERS THAT CAME IN: it is nil; or it leads to a row of 'cap' cells, the numbers 'zs' (the first 'len' are its elements, the rest its spare room), each fitting its kind. -/
def IsRow (k : IntKind) (w : World) (a : Option Addr) (len cap : Nat) (zs : List Int) : Prop :=
  (a = none ∧ len = 0 ∧ cap = 0 ∧ zs = []) ∨
  ∃ x, a = some x ∧ len ≤ cap ∧ cap ≤ maxLen ∧ zs.length = cap ∧ (∀ i, i < zs.length → w.cell? (x.add i) = some (.int k (zs.getD i 0))) ∧ ∀ n ∈ zs, (Lit.int k n).wf = true

/-! ### STEP 1: THE WALK -/
set_option maxHeartbeats 1000000 in
theorem walk_long (a : Option Addr) (len cap : Nat) (a1 : Option Addr) (le cap1 : Nat) (w : World) (hm : len ≤ maxLen) (hm1 : le ≤ maxLen) (h : ¬ (len ≤ 131072 ∧ len * 8 + le ≤ 1048576)) :
    Calls Try.prog 5 #[.slice a len cap, .slice a1 le cap1] w fun e w' => e = .returned (.bool true) ∧ Below w.heap.size w w' := by
  unfold maxLen at hm hm1
  by_cases h1 : 1048576 < len
  · go_enter Try.func5, Try.ntmps5
    go_wp2
    go_ret
    exact ⟨rfl, Below.refl _ _⟩
  by_cases h2 : 1048576 < le
  · go_enter Try.func5, Try.ntmps5
    go_wp2
    go_ret
    exact ⟨rfl, Below.refl _ _⟩
  by_cases h3 : 1048576 < len + le
  · go_enter Try.func5, Try.ntmps5
    go_wp2
    go_ret
    exact ⟨rfl, Below.refl _ _⟩
  by_cases h4 : 131072 < len
  · have h4' : decide ((131072 : Int) < (len : Int)) = true := decide_eq_true (by omega)
    go_enter Try.func5, Try.ntmps5
    go_wp2
    go_ret
    exact ⟨rfl, Below.refl _ _⟩
  · have h4' : decide ((131072 : Int) < (len : Int)) = false := decide_eq_false (by omega)
    have h5 : 1048576 < len * 8 + le := by omega
    go_enter Try.func5, Try.ntmps5
    go_wp2
    go_ret
    exact ⟨rfl, Below.refl _ _⟩

theorem endAt_mono {x : Nat → Int} {len : Nat} (hx : ∀ i, 0 ≤ x i ∧ x i ≤ 4294967295) (h : ∀ i j, i ≤ j → j < len → x i ≤ x j) (k : Nat) (hk : k < len) : 0 ≤ endAt x k ∧ endAt x k ≤ x k ∧ x k ≤ endAt x len := by
  obtain ⟨m, rfl⟩ : ∃ m, len = m + 1 := ⟨len - 1, by omega⟩
  refine ⟨?_, ?_, h k m (by omega) (by omega)⟩
  · match k with
    | 0 => exact Int.le_refl _
    | k + 1 => exact (hx k).1
  · match k, hk with
    | 0, _ => exact (hx 0).1
    | k + 1, hk => exact h k (k + 1) (by omega) hk

theorem endAt_bd {x : Nat → Int} (hx : ∀ i, 0 ≤ x i ∧ x i ≤ 4294967295) : ∀ k, 0 ≤ endAt x k ∧ endAt x k ≤ 4294967295
  | 0 => ⟨Int.le_refl _, by simp [endAt]⟩
  | k + 1 => hx k

set_option maxHeartbeats 2000000 in
theorem walk_at (a : Option Addr) (len cap : Nat) (x : Nat → Int) (a1 : Option Addr) (le cap1 : Nat) (y : Nat → Int) (w : World) (hl : len ≤ 131072) (hle : len * 8 + le ≤ 1048576)
    (hx : ∀ i, 0 ≤ x i ∧ x i ≤ 4294967295) (hr : Row .u32 w a len x) (he : Row .u8 w a1 le y) :
    Calls Try.prog 5 #[.slice a len cap, .slice a1 le cap1] w fun e w' => e = .returned (.bool true) ∧ Below w.heap.size w w' := by
  have h4' : decide ((131072 : Int) < (len : Int)) = false := decide_eq_false (by omega)
  obtain ⟨L, hL⟩ : ∃ L, L = endAt x len := ⟨_, rfl⟩
  have HL : Hid (L = endAt x len) := hL
  have hLb := endAt_bd hx len
  rw [← hL] at hLb
  clear hL
  have hlast := fun (a : Option Addr) (cap : Nat) (w : World) (hr : Row .u32 w a len x) => last10_row a len cap x w (by omega) hr
  rw [← HL.out] at hlast
  go_enter Try.func5, Try.ntmps5
  go_wp2_with (first | (go_at_call 7; refine (clone32_row a len cap x _ (by omega) hr).mono ?_; rintro e w1 ⟨a2, c2, rfl, hb1, hr1⟩) | (go_at_call 12; refine (clone8_row a1 le cap1 y _ (by omega) (he.later hb1)).mono ?_; rintro e w2 ⟨a3, rfl, hb2, hr2⟩) | (go_at_call 8; refine (nd8_row a2 len c2 x _ (by omega) (hr1.later hb2)).mono ?_; rintro e w3 ⟨r, n, rfl, rfl, hn⟩; cases r) | (go_at_call 10; refine (hlast a2 c2 _ ((hr1.later hb2).later (below_drewN' (Below.refl _ _) n))).mono ?_; rintro e w4 ⟨rfl, rfl⟩) | go_in)
  · go_ret
    exact ⟨rfl, below_drewN' (hb1.trans (hb2.mono hb1.size)) n⟩
  · go_ret
    exact ⟨rfl, below_drewN' (hb1.trans (hb2.mono hb1.size)) n⟩
  have hLle : L ≤ (le : Int) := by assumption
  have hs := pairs' (hn.out.1 (by first | rfl | trivial))
  have hm := endAt_mono hx hs
  have HM : Hid (∀ k, k < len → 0 ≤ endAt x k ∧ endAt x k ≤ x k ∧ x k ≤ endAt x len) := hm
  clear hm hs hn
  have hr3 := hr1.later hb2
  have hb3 : Below w.heap.size w w2 := hb1.trans (hb2.mono hb1.size)
  clear hr hr1 he hb1 hb2
  go_loopw [5, 6] (fun p i wr => ∃ k q : Nat, k ≤ len ∧ p = .int .i64 q ∧ i = .int .i64 k ∧ Hid (endAt x k = (q : Int)) ∧ Below w2.heap.size w2 wr) (fun _ i _ => len - (intOf i).toNat)
  case atStart => exact ⟨0, 0, Nat.zero_le _, rfl, rfl, rfl, below_drewN' (Below.refl _ _) n⟩
  case round =>
    obtain ⟨k, q, hk, rfl, rfl, hq, hbr⟩ := hrel
    by_cases hlt : k < len
    · obtain ⟨m1, m2, m3⟩ := HM.out k hlt
      obtain ⟨t, ht⟩ : ∃ t : Nat, x k = (t : Int) := ⟨(x k).toNat, by have := (hx k).1; omega⟩
      have HT : Hid (x k = (t : Int)) := ht
      have hqt : q ≤ t := by have := hq.out; omega
      have htl : t ≤ le := by have := HL.out; omega
      clear ht m1 m2 m3
      have hrr := hr3.later hbr
      have her := hr2.later hbr
      go_wp2_with (go_at_call 13; refine (elem13_row a2 len c2 x a3 le y k q t _ (by omega) (by omega) hlt hrr her hq.out HT.out hqt htl).mono ?_; rintro e w4 ⟨a4, c4, rfl, hb4, hr4⟩)
      have her4 := her.later hb4
      go_loopw [8] (fun i wr => ∃ m d : Nat, m ≤ t - q ∧ i = .int .i64 m ∧ wr = w4.drewN d) (fun i _ => t - q - (intOf i).toNat)
      case atStart => exact ⟨0, 0, Nat.zero_le _, rfl, rfl⟩
      case round =>
        obtain ⟨m, d, hm, rfl, rfl⟩ := hrel
        by_cases hlt2 : m < t - q
        · obtain ⟨b5, o5, rfl, hc5⟩ := hr4 (by omega)
          obtain ⟨b6, o6, rfl, hc6⟩ := her4 (by omega)
          have c5 := hc5 m hlt2
          have c6 := hc6 (q + m) (by omega)
          have i5 : (m : Int) < ((t - q : Nat) : Int) := by omega
          have i6 : (q : Int) + (m : Int) < (le : Int) := by omega
          have i7 : (0 : Int) ≤ (q : Int) + (m : Int) := by omega
          go_wp2
          go_quiet (fail)
          go_wp2
          go_roundw
          case rel => exact ⟨m + 1, d + nq, by omega, by go_num, by simp⟩
          case measure => simp [intOf]; omega
        · obtain rfl : m = t - q := by omega
          go_wp2
          go_roundw
          case rel => exact ⟨k + 1, t, by omega, by go_num, by go_num, HT, below_drewN' (hbr.trans (hb4.mono hbr.size)) d⟩
          case measure => simp [intOf]; omega
    · go_wp2_with (go_at_call 10; refine (hlast a2 c2 _ (hr3.later hbr)).mono ?_; rintro e w4 ⟨rfl, rfl⟩)
      go_ret
      have hkl : k = len := by omega
      have hfin : ((q : Int) == L) = true := by
        have := hq.out; rw [hkl, ← HL.out] at this; simp [this]
      exact ⟨by show Ending.returned (.bool ((q : Int) == L)) = _; rw [hfin], hb3.trans (hbr.mono hb3.size)⟩

theorem row_of {kd : IntKind} {w : World} {a : Option Addr} {len cap : Nat} {zs : List Int} (h : IsRow kd w a len cap zs) : Row kd w a len (fun i => zs.getD i 0) := by
  intro h0
  rcases h with ⟨rfl, rfl, rfl, rfl⟩ | ⟨ad, rfl, hlc, hm, hz, hcell, hwz⟩
  · exact absurd h0 (by omega)
  · obtain ⟨b, off, rfl, hc⟩ := ints_at hcell (by omega)
    exact ⟨b, off, rfl, fun i hi => hc i (by omega)⟩

theorem len_of {kd : IntKind} {w : World} {a : Option Addr} {len cap : Nat} {zs : List Int} (h : IsRow kd w a len cap zs) : len ≤ maxLen ∧ ∀ n ∈ zs, (Lit.int kd n).wf = true := by
  rcases h with ⟨rfl, rfl, rfl, rfl⟩ | ⟨ad, rfl, hlc, hm, hz, hcell, hwz⟩
  · exact ⟨by omega, by simp⟩
  · exact ⟨Nat.le_trans hlc hm, hwz⟩

theorem walk (a0 : Option Addr) (len0 cap0 : Nat) (z0 : List Int) (a1 : Option Addr) (len1 cap1 : Nat) (z1 : List Int) (w : World) (w0 : IsRow .u32 w a0 len0 cap0 z0) (w1 : IsRow .u8 w a1 len1 cap1 z1) :
    Calls Try.prog 5 #[.slice a0 len0 cap0, .slice a1 len1 cap1] w fun e w' => e = .returned (.bool true) ∧ Below w.heap.size w w' := by
  by_cases h : len0 ≤ 131072 ∧ len0 * 8 + len1 ≤ 1048576
  · exact walk_at a0 len0 cap0 (fun i => z0.getD i 0) a1 len1 cap1 (fun i => z1.getD i 0) w h.1 h.2 (fun i => by simpa using range_u32 (len_of w0).2 i) (row_of w0) (row_of w1)
  · exact walk_long a0 len0 cap0 a1 len1 cap1 w (len_of w0).1 (len_of w1).1 h

/-! ### THE ROW's STEP: WRITTEN OUT: LEAVE IT -/
set_option maxRecDepth 100000 in
theorem lifted (os : Os) (started : os.Started) (H : Type) (enc : TypeId × Value → H) :
    ReturnsInHanded {} Try.checked os 5 .any (Rows.fnElemsTileTheirDataSpec.pre6 enc Try.prog Try.f5 Rows.fnElemsTileTheirDataRow.domain false) (Rows.fnElemsTileTheirDataSpec.post enc Try.prog Try.f5 false true false false) := by
  refine returnsInHanded_of_change (C := Try.checked) own started (by kernel_rfl) Try.func5
    (ChangeSpec.witness6 (enc := enc) (C := Try.checked) false ⟨#[], #[.slice none 0 0, .slice none 0 0], []⟩ 8 (by kernel_rfl) (by kernel_rfl) (by kernel_rfl) (by kernel_rfl)) ?_
  intro W base args ds gs before hval0 hW hcnd _
  have hval : ∀ (j : Nat) t v, Try.f5.params[j]? = some t → args[j]? = some v → Value.okWide Try.prog W .any base t v := hval0
  have hW' := hW
  obtain ⟨p, q, hA0, hV, rfl, hfz, hnd⟩ := hW
  have hA : DataW.TrodAll enc Try.prog W 0 (fun _ => true) true Try.f5.params.toList args.toList ds p := hA0
  rw [Try.params5] at hA hval
  obtain ⟨v0, vs0, d0, ds0, p0, q0, hargs, rfl, rfl, h0, r0⟩ := trodAll_cons hA
  obtain ⟨v1, vs1, d1, ds1, p1, q1, rfl, rfl, rfl, h1, r1⟩ := trodAll_cons r0
  obtain ⟨rfl, rfl, rfl⟩ := trodAll_nil r1
  obtain rfl : args = #[v0, v1] := by cases args; simp_all
  obtain ⟨rfl, rfl⟩ := trodVars_none hV
  obtain ⟨a0, len0, cap0, rfl⟩ := okWide_slice Try.underlying22 (hval 0 22 v0 rfl rfl)
  have k0 := h0
  have lt0 : ∀ x ∈ p0, x.block < W.heap.size := by obtain ⟨m, hm⟩ := k0; exact DataW.trod_lt m _ _ _ hm
  obtain ⟨z0, w0⟩ : ∃ zs, IsRow .u32 W a0 len0 cap0 zs := by
    obtain ⟨fuel, hf⟩ := h0
    rcases open_ints Try.underlying22 Try.underlying25 (by kernel_rfl) hf with ⟨hcs, _⟩ | ⟨x, l, c, zs, hcs, _, hl, hm, hz, _, hcell, hwz⟩
    · simp [Value.cells] at hcs
      obtain ⟨rfl, rfl, rfl⟩ := hcs
      exact ⟨[], .inl ⟨rfl, rfl, rfl, rfl⟩⟩
    · simp [Value.cells] at hcs
      obtain ⟨rfl, rfl, rfl⟩ := hcs
      exact ⟨zs, .inr ⟨_, rfl, hl, hm, by simpa using hz, hcell, hwz⟩⟩
  obtain ⟨a1, len1, cap1, rfl⟩ := okWide_slice Try.underlying27 (hval 1 27 v1 rfl rfl)
  have k1 := h1
  have lt1 : ∀ x ∈ p1, x.block < W.heap.size := by obtain ⟨m, hm⟩ := k1; exact DataW.trod_lt m _ _ _ hm
  obtain ⟨z1, w1⟩ : ∃ zs, IsRow .u8 W a1 len1 cap1 zs := by
    obtain ⟨fuel, hf⟩ := h1
    rcases open_ints Try.underlying27 Try.underlying5 (by kernel_rfl) hf with ⟨hcs, _⟩ | ⟨x, l, c, zs, hcs, _, hl, hm, hz, _, hcell, hwz⟩
    · simp [Value.cells] at hcs
      obtain ⟨rfl, rfl, rfl⟩ := hcs
      exact ⟨[], .inl ⟨rfl, rfl, rfl, rfl⟩⟩
    · simp [Value.cells] at hcs
      obtain ⟨rfl, rfl, rfl⟩ := hcs
      exact ⟨zs, .inr ⟨_, rfl, hl, hm, by simpa using hz, hcell, hwz⟩⟩
  clear hA0 hval0
  refine (walk a0 len0 cap0 z0 a1 len1 cap1 z1 W w0 w1).mono fun e W' ⟨he, bel⟩ => ?_
  subst he
  exact ⟨_, rfl, _, _, _, [], _, [], hW', trodAll_mk1 (shut_bool Try.underlying4 _), (trodAll_cons_mk (Below.trod laidOut (by kernel_rfl) (of_decide_eq_true (by kernel_rfl)) k0 bel lt0) (trodAll_cons_mk (Below.trod laidOut (by kernel_rfl) (of_decide_eq_true (by kernel_rfl)) k1 bel lt1) trodAll_mk0)), rfl, bel.frame _, fun h => by cases h⟩

theorem over : Rows.fnElemsTileTheirDataRow.holds Try.pinned (OpenSpec.ofChange Rows.fnElemsTileTheirDataSpec) :=
  OpenClaim.holds_of_wide 5 Try.f5 rfl rfl rfl rfl rfl rfl rfl ⟨rfl, rfl, rfl, rfl, rfl⟩ rfl rfl rfl rfl rfl (by kernel_rfl) Try.func5 (by kernel_rfl)
    (of_decide_eq_true (by kernel_rfl)) (by unfold Func.isWrapper; first | (rw [if_pos (by decide +kernel)]; kernel_rfl) | (rw [if_neg (by decide +kernel)]; exact ⟨rfl, rfl⟩))
    (fun os started H enc _ => lifted os started H enc)

/-- ████ THE STATEMENT ████ -/
theorem proved : Rows.FnElemsTileTheirDataSaid := over
end Go.Proofs.Qxb6003850a.fnElemsTileTheirData
