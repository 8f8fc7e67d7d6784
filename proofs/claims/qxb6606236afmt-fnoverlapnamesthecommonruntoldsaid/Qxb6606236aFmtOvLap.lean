/- overlap, ZZoverlap, zzIn. -/
import Derived.Test.Qxb6606236aFmtOvText
namespace Go.Proofs.Qxb6606236aFmt
open Go.RowKit Go.Extern.Stop Go.Stop Go.Extern
set_option linter.unusedVariables false

theorem in9 (x a l : Nat) (hx : x < 18446744073709551616) (ha : a < 4294967296) (hl : l < 4294967296) (w : World) :
    Calls Tryf.prog 9 #[.int .u64 x, .int .u32 a, .int .u32 l] w fun e w' => e = .returned (.bool (decide (a ≤ x ∧ x < a + l))) ∧ w' = w := by
  by_cases h1 : a ≤ x
  · have i1 : (a : Int) ≤ (x : Int) := by omega
    by_cases h2 : x < a + l
    · have i2 : (x : Int) - (a : Int) < (l : Int) := by omega
      have hd : decide (a ≤ x ∧ x < a + l) = true := by simp [h1, h2]
      rw [hd]
      clear hd h1 h2
      go_enter Tryf.func9, Tryf.ntmps9
      go_wp2
      go_ret
      exact ⟨rfl, rfl⟩
    · have i2 : (l : Int) ≤ (x : Int) - (a : Int) := by omega
      have hd : decide (a ≤ x ∧ x < a + l) = false := by simp; omega
      rw [hd]
      clear hd h1 h2
      go_enter Tryf.func9, Tryf.ntmps9
      go_wp2
      go_ret
      refine ⟨congrArg (fun b => Ending.returned (Value.bool b)) (?_ : decide ((x : Int) - (a : Int) < (l : Int)) = false), rfl⟩
      simp
      omega
  · have i1 : (x : Int) < (a : Int) := by omega
    have hd : decide (a ≤ x ∧ x < a + l) = false := by simp; omega
    rw [hd]
    clear hd h1
    go_enter Tryf.func9, Tryf.ntmps9
    go_wp2
    go_ret
    exact ⟨rfl, rfl⟩

/-- What overlap gives. -/
def LapRet (a b la lb : Nat) (w : World) (e : Ending) (w' : World) : Prop :=
  ∃ s : ByteArray, Below w.heap.size w w' ∧
    ((max a b ≤ min (a + la - 1) (b + lb - 1) ∧ e = .returned (.tuple #[.string s, .bool true]) ∧ s.data.toList = namedText (max a b) (min (a + la - 1) (b + lb - 1))) ∨
     (¬ max a b ≤ min (a + la - 1) (b + lb - 1) ∧ e = .returned (.tuple #[.string ⟨#[]⟩, .bool false])))

set_option maxHeartbeats 800000 in
theorem lap13 (F : Interp) (a b la lb : Nat) (ha : a < 4294967296) (hb : b < 4294967296) (hla : la < 4294967296) (hlb : lb < 4294967296) (h1 : 1 ≤ la) (h2 : 1 ≤ lb) (w : World) (hF : F.told.answers w.tape) (htab : Lib.TabIs Tryf.prog w pow10Name .u64 Lib.pow10Tab) :
    Calls Tryf.prog 13 #[.int .u32 a, .int .u32 b, .int .u32 la, .int .u32 lb] w (LapRet a b la lb w) := by
  have HE1 := hide (end16 a la ha hla h1 w)
  have HE2 := hide (end16 b lb hb hlb h2 w)
  unfold LapRet
  obtain ⟨M, hMd⟩ : ∃ M, M = max a b := ⟨_, rfl⟩
  obtain ⟨m, hmd⟩ : ∃ m, m = min (a + la - 1) (b + lb - 1) := ⟨_, rfl⟩
  rw [← hMd, ← hmd]
  have hM : max (a : Int) (b : Int) = (M : Int) := by omega
  have hm : min (((a + la - 1 : Nat)) : Int) (((b + lb - 1 : Nat)) : Int) = (m : Int) := by omega
  have bM : M < 4294967296 := by omega
  have bm : m < 18446744073709551616 := by omega
  have HN := hide (named17 F M m bM bm w hF htab)
  have key : (M : Int) ≤ (m : Int) ∨ (m : Int) < (M : Int) := by omega
  clear hMd hmd hF htab
  rcases key with t | t
  all_goals
    have T : Hid _ := hide t
    go_enter Tryf.func13, Tryf.ntmps13
    go_wp2_with fail
    refine HE1.out.mono ?_
    rintro e w' ⟨rfl, hw⟩
    obtain rfl : w = w' := hw.symm
    go_wp2_with fail
    refine HE2.out.mono ?_
    rintro e w' ⟨rfl, hw⟩
    obtain rfl : w = w' := hw.symm
  · go_wp2_with (go_at_call 17; refine HN.out.mono ?_; rintro e w' ⟨s, rfl, hs, hbw⟩)
    go_ret2
    exact ⟨s, hbw, .inl ⟨by have := T.out; omega, rfl, hs⟩⟩
  · go_wp2_with fail
    go_ret2
    exact ⟨⟨#[]⟩, Below.refl _ _, .inr ⟨by have := T.out; omega, rfl⟩⟩
end Go.Proofs.Qxb6606236aFmt
