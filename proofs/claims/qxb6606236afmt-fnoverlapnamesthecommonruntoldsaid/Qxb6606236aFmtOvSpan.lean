/- zzIndexFrom and zzParseSpan on the texts that span writes. -/
import Derived.Test.Qxb6606236aFmtOvParse
namespace Go.Proofs.Qxb6606236aFmt
open Go.RowKit
set_option linter.unusedVariables false

/-- A dash stands at p, none before it; or there is none, and p is the length. -/
structure Dash (s : ByteArray) (p : Nat) : Prop where
  le : p ≤ s.size
  no : ∀ i (h : i < s.size), i < p → ¬ (s[i]'h).toNat = 45
  yes : ∀ h : p < s.size, (s[p]'h).toNat = 45

theorem index10 (s : ByteArray) (p : Nat) (w : World) (hs : s.size ≤ 1000) (h : Dash s p) :
    Calls Tryf.prog 10 #[.string s, .int .u8 45, .int .i64 0] w fun e w' => e = .returned (.int .i64 (if p < s.size then (p : Int) else -1)) ∧ w' = w := by
  have HD := hide h
  have hle := h.le
  obtain ⟨n, hn⟩ : ∃ n, n = s.size := ⟨_, rfl⟩
  rw [← hn] at hs hle ⊢
  have hsz := hn.symm
  clear h hn
  go_enter Tryf.func10, Tryf.ntmps10
  go_wp2_with fail
  go_loop [7] (fun q => ∃ i : Nat, i ≤ p ∧ q = .int .i64 i) (fun q => n - (intOf q).toNat)
  case atStart => exact ⟨0, Nat.zero_le _, rfl⟩
  case round =>
    obtain ⟨i, hi, rfl⟩ := hrel
    by_cases hlt : i < n
    · have hii : (i : Int) < (n : Int) := by omega
      by_cases hip : i = p
      · subst hip
        have e1 : (((s[i]'(by omega)).toNat : Int) == 45) = true := by rw [HD.out.yes (by omega)]; rfl
        go_wp2_with fail
        go_ret
        first | exact ⟨rfl, rfl⟩ | exact ⟨by simp [hlt], rfl⟩
      · have e1 : (((s[i]'(by omega)).toNat : Int) == 45) = false := by
          have := HD.out.no i (by omega) (by omega)
          simp
          omega
        go_wp2_with fail
        go_round
        case rel => exact ⟨i + 1, by omega, by go_num⟩
        case measure => simp [intOf]; omega
    · have hnp : ¬ p < n := by omega
      go_wp2_with fail
      go_ret
      first | exact ⟨rfl, rfl⟩ | exact ⟨by simp [hnp], rfl⟩

theorem results_tmp4 {fn : Func} {t u v x : Tmp} (h : fn.results = #[.tmp t, .tmp u, .tmp v, .tmp x]) (tmps : Array Value) (P : Program) (w : World) :
    (results fn tmps).run P w = .ok (.tuple #[tmps.getD t undef, tmps.getD u undef, tmps.getD v undef, tmps.getD x undef]) w := by
  simp [results, h]

theorem span_one (u : Nat) (hu : u < 18446744073709551616) (s : ByteArray) (w : World) (hs : s.data.toList = Lib.decDigits u) (hd : Dash s s.size) (hsz : s.size ≤ 1000) :
    Calls Tryf.prog 6 #[.string s] w fun e w' => e = .returned (.tuple #[.int .u64 u, .int .u64 u, .bool false, .bool true]) ∧ w' = w := by
  have HI := hide (index10 s s.size w hsz hd)
  rw [if_neg (Nat.lt_irrefl _)] at HI
  have HC := hide (canon11 u hu s w hs)
  clear hs hd hsz
  go_enter Tryf.func6, Tryf.ntmps6
  go_wp2_with (first | (go_at_call 10; refine HI.out.mono ?_; rintro e w' ⟨rfl, hw⟩; obtain rfl : w = w' := hw.symm) | (go_at_call 11; refine HC.out.mono ?_; rintro e w' ⟨rfl, hw⟩; obtain rfl : w = w' := hw.symm))
  (try simp only [Exit.inBlock, Exit.then])
  refine bodyPost_ret (results_tmp4 rfl _ _ _) rfl ?_
  exact ⟨rfl, rfl⟩

theorem span_two (a b p : Nat) (ha : a < 18446744073709551616) (hb : b < 18446744073709551616) (s : ByteArray) (w : World) (hp : p < s.size) (hd : Dash s p) (hsz : s.size ≤ 1000)
    (h1 : (s.extract 0 p).data.toList = Lib.decDigits a) (h2 : (s.extract (p + 1) s.size).data.toList = Lib.decDigits b) :
    Calls Tryf.prog 6 #[.string s] w fun e w' => e = .returned (.tuple #[.int .u64 a, .int .u64 b, .bool true, .bool true]) ∧ w' = w := by
  have HI := hide (index10 s p w hsz hd)
  rw [if_pos hp] at HI
  have HC1 := hide (canon11 a ha _ w h1)
  have HC2 := hide (canon11 b hb _ w h2)
  clear h1 h2 hd
  go_enter Tryf.func6, Tryf.ntmps6
  go_wp2_with (go_at_call 10; refine HI.out.mono ?_; rintro e w' ⟨rfl, hw⟩; obtain rfl : w = w' := hw.symm)
  refine HC1.out.mono ?_
  rintro e w' ⟨rfl, hw⟩
  obtain rfl : w = w' := hw.symm
  go_wp2_with fail
  refine HC2.out.mono ?_
  rintro e w' ⟨rfl, hw⟩
  obtain rfl : w = w' := hw.symm
  go_wp2_with fail
  (try simp only [Exit.inBlock, Exit.then])
  refine bodyPost_ret (results_tmp4 rfl _ _ _) rfl ?_
  exact ⟨rfl, rfl⟩
end Go.Proofs.Qxb6606236aFmt
