/- The proof of Rows.FnLastOr0IsMaxOfSortedListSaid. The frame is the kit's shell for this function; the walk is ours. -/
import Derived.Test.Qxb6003850aWalks
import Derived.WalkKit
import Derived.ProofKit
import Derived.OpenShut
import Derived.ShutString
import Derived.ChangeOld
import Derived.Below
namespace Go.Proofs.Qxb6003850a.fnLastOr0IsMaxOfSortedList
open Go.ChangeShapes Go.WideShapes Go.ChangeAt Go.RowKit
open Go.ChangeMaps (open_string shut_string)
set_option linter.unusedVariables false

theorem own : ownKnob Try.prog.godebug = none := by kernel_rfl
theorem laidOut : laidOutB Try.prog = true := by kernel_rfl

/-- WHAT THE WALK IS TOLD OF A SLICE OF INTEGERS THAT CAME IN: it is nil; or it leads to a row of 'cap' cells, the numbers 'zs' (the first 'len' are its elements, the rest its spare room), each fitting its kind. -/
def IsRow (k : IntKind) (w : World) (a : Option Addr) (len cap : Nat) (zs : List Int) : Prop :=
  (a = none ∧ len = 0 ∧ cap = 0 ∧ zs = []) ∨
  ∃ x, a = some x ∧ len ≤ cap ∧ cap ≤ maxLen ∧ zs.length = cap ∧ (∀ i, i < zs.length → w.cell? (x.add i) = some (.int k (zs.getD i 0))) ∧ ∀ n ∈ zs, (Lit.int k n).wf = true

/-! ### STEP 1: THE WALK -/
set_option maxHeartbeats 400000 in
theorem walk_zero (a : Option Addr) (cap : Nat) (w : World) :
    Calls Try.prog 4 #[.slice a 0 cap] w fun e w' => e = .returned (.bool true) ∧ Below w.heap.size w w' := by
  go_enter Try.func4, Try.ntmps4
  go_wp2_with (first | (go_at_call 7; refine (clone32_zero a cap _).mono ?_; rintro e w' ⟨⟨a', c', rfl⟩, hb⟩) | (go_at_call 8; refine (nd8_zero _ _ _).mono ?_; rintro e w' ⟨rfl, rfl⟩) | (go_at_call 10; refine (last10_zero _ _ _).mono ?_; rintro e w' ⟨rfl, rfl⟩) | go_in)
  go_ret
  exact ⟨rfl, hb⟩

set_option maxHeartbeats 400000 in
theorem walk_long (a : Option Addr) (len cap : Nat) (w : World) (h : 131072 < len) (hm : len ≤ maxLen) :
    Calls Try.prog 4 #[.slice a len cap] w fun e w' => e = .returned (.bool true) ∧ Below w.heap.size w w' := by
  unfold maxLen at hm
  by_cases h2 : 1048576 < len
  all_goals
    go_enter Try.func4, Try.ntmps4
    go_wp2
    go_ret
    exact ⟨rfl, Below.refl _ _⟩

set_option maxHeartbeats 1000000 in
theorem walk_at (b off len cap : Nat) (x : Nat → Int) (w : World) (h0 : 0 < len) (hl : len ≤ 131072) (hc : ∀ i, i < len → w.cell? ⟨b, off + i, none⟩ = some (.int .u32 (x i))) :
    Calls Try.prog 4 #[.slice (some ⟨b, off, none⟩) len cap] w fun e w' => e = .returned (.bool true) ∧ Below w.heap.size w w' := by
  have hn : ((len : Int) == 0) = false := by simp; omega
  go_enter Try.func4, Try.ntmps4
  go_wp2_with (first | (go_at_call 7; refine (clone32_at b off len cap x _ (by omega) hc).mono ?_; rintro e w' ⟨rfl, hb⟩) | (go_at_call 8; refine (nd8 w.heap.size 0 len len x _ (by omega) (fun i hi => by rw [Nat.zero_add]; exact hb.done i hi)).mono ?_; rintro e w'' ⟨r, n, rfl, rfl, hr⟩; have HR : Hid (r = true ↔ ∀ i, i + 1 < len → x i ≤ x (i + 1)) := hr; clear hr; cases r) | (go_at_call 10; refine (last10 w.heap.size 0 len len x _ h0 (by omega) (fun i hi => by simpa using hb.done i hi)).mono ?_; rintro e w'' ⟨rfl, rfl⟩) | go_in)
  · go_ret
    exact ⟨rfl, below_drewN' hb.bel _⟩
  have hs := pairs' (HR.out.1 (by first | rfl | trivial))
  go_loop [4, 5] (fun s i => ∃ (k : Nat) (q : Bool), k ≤ len ∧ s = .bool q ∧ i = .int .i64 k ∧ (q = true ↔ ∃ j, j < k ∧ x j = x (len - 1))) (fun _ i => len - (intOf i).toNat)
  case atStart => exact ⟨0, false, Nat.zero_le _, rfl, rfl, by simp⟩
  case round =>
    obtain ⟨k, q, hk, rfl, rfl, H⟩ := hrel
    by_cases hlt : k < len
    · have c1 := hb.done k hlt
      have hle : ¬ x (len - 1) < x k := by have := hs k (len - 1) (by omega) (by omega); omega
      clear hs
      by_cases he : x k = x (len - 1)
      · have he' : (x k == x (len - 1)) = true := by simp [he]
        have HE : Hid (x k = x (len - 1)) := he
        clear he
        go_wp2
        go_round
        case rel => exact ⟨k + 1, true, by omega, rfl, by go_num, by simp; exact ⟨k, by omega, HE.out⟩⟩
        case measure => simp [intOf]; omega
      · have he' : (x k == x (len - 1)) = false := by simp [he]
        go_wp2
        go_round
        case rel => exact ⟨k + 1, q, by omega, rfl, by go_num, by
          rw [H]
          constructor
          · rintro ⟨j, h1, h2⟩; exact ⟨j, by omega, h2⟩
          · rintro ⟨j, h1, h2⟩
            by_cases e : j = k
            · subst e; exact absurd h2 he
            · exact ⟨j, by omega, h2⟩⟩
        case measure => simp [intOf]; omega
    · have hq : q = true := H.2 ⟨len - 1, by omega, rfl⟩
      go_wp2
      go_ret
      exact ⟨rfl, below_drewN' hb.bel _⟩

theorem walk (a0 : Option Addr) (len0 cap0 : Nat) (z0 : List Int) (w : World) (w0 : IsRow .u32 w a0 len0 cap0 z0) :
    Calls Try.prog 4 #[.slice a0 len0 cap0] w fun e w' => e = .returned (.bool true) ∧ Below w.heap.size w w' := by
  rcases w0 with ⟨rfl, rfl, rfl, rfl⟩ | ⟨ad, rfl, hlc, hm, hz, hcell, hwz⟩
  · exact walk_zero _ _ _
  · by_cases h0 : len0 = 0
    · subst h0; exact walk_zero _ _ _
    · by_cases h1 : 131072 < len0
      · exact walk_long _ _ _ _ h1 (Nat.le_trans hlc hm)
      · obtain ⟨b, off, rfl, hc⟩ := ints_at hcell (by omega)
        exact walk_at b off len0 cap0 (fun i => z0.getD i 0) w (by omega) (by omega) (fun i hi => hc i (by omega))

/-! ### THE ROW's STEP: WRITTEN OUT: LEAVE IT -/
set_option maxRecDepth 100000 in
theorem lifted (os : Os) (started : os.Started) (H : Type) (enc : TypeId × Value → H) :
    ReturnsInHanded {} Try.checked os 4 .any (Rows.fnLastOr0IsMaxOfSortedListSpec.pre6 enc Try.prog Try.f4 Rows.fnLastOr0IsMaxOfSortedListRow.domain false) (Rows.fnLastOr0IsMaxOfSortedListSpec.post enc Try.prog Try.f4 false true false false) := by
  refine returnsInHanded_of_change (C := Try.checked) own started (by kernel_rfl) Try.func4
    (ChangeSpec.witness6 (enc := enc) (C := Try.checked) false ⟨#[], #[.slice none 0 0], []⟩ 8 (by kernel_rfl) (by kernel_rfl) (by kernel_rfl) (by kernel_rfl)) ?_
  intro W base args ds gs before hval0 hW hcnd _
  have hval : ∀ (j : Nat) t v, Try.f4.params[j]? = some t → args[j]? = some v → Value.okWide Try.prog W .any base t v := hval0
  have hW' := hW
  obtain ⟨p, q, hA0, hV, rfl, hfz, hnd⟩ := hW
  have hA : DataW.TrodAll enc Try.prog W 0 (fun _ => true) true Try.f4.params.toList args.toList ds p := hA0
  rw [Try.params4] at hA hval
  obtain ⟨v0, vs0, d0, ds0, p0, q0, hargs, rfl, rfl, h0, r0⟩ := trodAll_cons hA
  obtain ⟨rfl, rfl, rfl⟩ := trodAll_nil r0
  obtain rfl : args = #[v0] := by cases args; simp_all
  obtain ⟨rfl, rfl⟩ := trodVars_none hV
  obtain ⟨a0, len0, cap0, rfl⟩ := okWide_slice Try.underlying22 (hval 0 22 v0 rfl rfl)
  have k0 := h0
  have lt0 : ∀ x ∈ p0, x.block < W.heap.size := by obtain ⟨m, hm⟩ := k0; exact DataW.trod_lt m _ _ _ hm
  obtain ⟨z0, w0⟩ : ∃ zs, IsRow .u32 W a0 len0 cap0 zs := by
    obtain ⟨fuel, hf⟩ := h0
    rcases open_ints Try.underlying22 Try.underlying25 (by kernel_rfl) hf with ⟨hcs, _⟩ | ⟨x, l, c, zs, hcs, _, hl, hm, hz, _, hcell, hwz⟩
    · simp [Value.cells] at hcs
      obtain ⟨rfl, rfl, rfl⟩ := hcs
      exact ⟨[], .inl ⟨rfl, rfl, rfl, rfl⟩⟩
    · simp [Value.cells] at hcs
      obtain ⟨rfl, rfl, rfl⟩ := hcs
      exact ⟨zs, .inr ⟨_, rfl, hl, hm, by simpa using hz, hcell, hwz⟩⟩
  clear hA0 hval0
  refine (walk a0 len0 cap0 z0 W w0).mono fun e W' ⟨he, bel⟩ => ?_
  subst he
  exact ⟨_, rfl, _, _, _, [], _, [], hW', trodAll_mk1 (shut_bool Try.underlying4 _), (trodAll_cons_mk (Below.trod laidOut (by kernel_rfl) (of_decide_eq_true (by kernel_rfl)) k0 bel lt0) trodAll_mk0), rfl, bel.frame _, fun h => by cases h⟩

theorem over : Rows.fnLastOr0IsMaxOfSortedListRow.holds Try.pinned (OpenSpec.ofChange Rows.fnLastOr0IsMaxOfSortedListSpec) :=
  OpenClaim.holds_of_wide 4 Try.f4 rfl rfl rfl rfl rfl rfl rfl ⟨rfl, rfl, rfl, rfl, rfl⟩ rfl rfl rfl rfl rfl (by kernel_rfl) Try.func4 (by kernel_rfl)
    (of_decide_eq_true (by kernel_rfl)) (by unfold Func.isWrapper; first | (rw [if_pos (by decide +kernel)]; kernel_rfl) | (rw [if_neg (by decide +kernel)]; exact ⟨rfl, rfl⟩))
    (fun os started H enc _ => lifted os started H enc)

/-- ████ THE STATEMENT ████ -/
theorem proved : Rows.FnLastOr0IsMaxOfSortedListSaid := over
end Go.Proofs.Qxb6003850a.fnLastOr0IsMaxOfSortedList
