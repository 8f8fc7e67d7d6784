/- ZZoverlap; the walk of FnOverlapNamesTheCommonRun. -/
import Derived.Test.Qxb6606236aFmtOvLap
namespace Go.Proofs.Qxb6606236aFmt
open Go.RowKit Go.Extern.Stop Go.Stop Go.Extern
set_option linter.unusedVariables false

theorem zz8 (F : Interp) (a b la lb : Nat) (ha : a < 4294967296) (hb : b < 4294967296) (hla : la < 4294967296) (hlb : lb < 4294967296) (h1 : 1 ≤ la) (h2 : 1 ≤ lb) (w : World) (hF : F.told.answers w.tape) (htab : Lib.TabIs Tryf.prog w pow10Name .u64 Lib.pow10Tab) :
    Calls Tryf.prog 8 #[.int .u32 a, .int .u32 b, .int .u32 la, .int .u32 lb] w (LapRet a b la lb w) := by
  have H := hide (lap13 F a b la lb ha hb hla hlb h1 h2 w hF htab)
  clear hF htab
  go_enter Tryf.func8, Tryf.ntmps8
  go_wp2_with fail
  refine H.out.mono ?_
  rintro e w' ⟨s, hbw, ⟨k, rfl, hs⟩ | ⟨k, rfl⟩⟩
  · have K := hide k
    have HS := hide hs
    clear k hs
    go_wp2_with fail
    go_ret2
    exact ⟨s, hbw, .inl ⟨K.out, rfl, HS.out⟩⟩
  · have K := hide k
    clear k
    go_wp2_with fail
    go_ret2
    exact ⟨s, hbw, .inr ⟨K.out, rfl⟩⟩

/-- No digit is a dash. -/
theorem dash_none (u : Nat) (s : ByteArray) (hs : s.data.toList = Lib.decDigits u) : Dash s s.size where
  le := Nat.le_refl _
  no := fun i h _ => by
    have hl : s.size = Lib.nDigits u := by rw [← Lib.decDigits_length, ← hs]; rfl
    have h1 := byte_at u i (by omega)
    rw [← hs] at h1
    have h2 : s.data.toList[i]? = some (s[i]'h) := by simp [ByteArray.getElem_eq_getElem_data]
    rw [h2] at h1
    rw [Option.some.inj h1]
    have : dgt u (Lib.nDigits u) i < 10 := Nat.mod_lt _ (by omega)
    simp
    omega
  yes := fun h => absurd h (Nat.lt_irrefl _)
theorem dash_at (a b : Nat) (s : ByteArray) (hs : s.data.toList = Lib.decDigits a ++ 45 :: Lib.decDigits b) : Dash s (Lib.nDigits a) where
  le := by
    have hl : s.size = (Lib.decDigits a ++ 45 :: Lib.decDigits b).length := by rw [← hs]; rfl
    rw [hl, List.length_append, Lib.decDigits_length]
    omega
  no := fun i h hi => by
    have h1 := byte_at a i hi
    have h3 : (Lib.decDigits a ++ 45 :: Lib.decDigits b)[i]? = some (UInt8.ofNat (48 + dgt a (Lib.nDigits a) i)) := by
      rw [List.getElem?_append_left (by rw [Lib.decDigits_length]; exact hi)]; exact h1
    rw [← hs] at h3
    have h2 : s.data.toList[i]? = some (s[i]'h) := by simp [ByteArray.getElem_eq_getElem_data]
    rw [h2] at h3
    rw [Option.some.inj h3]
    have : dgt a (Lib.nDigits a) i < 10 := Nat.mod_lt _ (by omega)
    simp
    omega
  yes := fun h => by
    have h3 : (Lib.decDigits a ++ 45 :: Lib.decDigits b)[Lib.nDigits a]? = some 45 := by
      rw [List.getElem?_append_right (by rw [Lib.decDigits_length]; omega), Lib.decDigits_length]
      simp
    rw [← hs] at h3
    have h2 : s.data.toList[Lib.nDigits a]? = some (s[Lib.nDigits a]'h) := by simp [ByteArray.getElem_eq_getElem_data]
    rw [h2] at h3
    rw [Option.some.inj h3]
    rfl
theorem span_text (M m : Nat) (hM : M < 18446744073709551616) (hm : m < 18446744073709551616) (s : ByteArray) (w : World) (hs : s.data.toList = spanText M m) :
    Calls Tryf.prog 6 #[.string s] w fun e w' => e = .returned (.tuple #[.int .u64 M, .int .u64 m, .bool (decide (¬ M = m)), .bool true]) ∧ w' = w := by
  have l1 := dec_len M hM
  have l2 := dec_len m hm
  unfold spanText at hs
  split at hs
  · rename_i e
    subst e
    have hl : s.size = (Lib.decDigits M).length := by rw [← hs]; rfl
    refine (span_one M hM s w hs (dash_none M s hs) (by omega)).mono ?_
    rintro e w' ⟨rfl, rfl⟩
    exact ⟨by simp, rfl⟩
  · rename_i e
    have hl : s.size = (Lib.decDigits M ++ 45 :: Lib.decDigits m).length := by rw [← hs]; rfl
    rw [List.length_append, List.length_cons] at hl
    have hn := Lib.decDigits_length M
    refine (span_two M m (Lib.nDigits M) hM hm s w (by omega) (dash_at M m s hs) (by omega) ?_ ?_).mono ?_
    · rw [ByteArray.data_extract]
      rw [Array.toList_extract, hs]
      simp [List.extract, ← hn]
    · rw [ByteArray.data_extract]
      rw [Array.toList_extract, hs, hl]
      simp [List.extract, ← hn]
      exact List.take_of_length_le (by omega)
    · rintro e w' ⟨rfl, rfl⟩
      exact ⟨by simp [e], rfl⟩
end Go.Proofs.Qxb6606236aFmt
