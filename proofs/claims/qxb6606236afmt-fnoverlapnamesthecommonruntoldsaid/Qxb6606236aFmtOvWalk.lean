/- The walk of FnOverlapNamesTheCommonRun. -/
import Derived.Test.Qxb6606236aFmtOvCut
namespace Go.Proofs.Qxb6606236aFmt
open Go.RowKit Go.Extern.Stop Go.Stop Go.Extern
set_option linter.unusedVariables false
set_option maxRecDepth 100000

def MainRet (w : World) (e : Ending) (w' : World) : Prop := e = .returned (.bool true) ∧ Below w.heap.size w w'

theorem in_yes (x : Int) (a l : Nat) (h1 : (a : Int) ≤ x) (h2 : x < a + l) (ha : a < 4294967296) (hl : l < 4294967296) (w : World) :
    Calls Tryf.prog 9 #[.int .u64 x, .int .u32 a, .int .u32 l] w fun e w' => e = .returned (.bool true) ∧ w' = w := by
  obtain ⟨n, rfl⟩ := Int.eq_ofNat_of_zero_le (show 0 ≤ x by omega)
  refine (in9 n a l (by omega) ha hl w).mono ?_
  rintro e w' ⟨rfl, rfl⟩
  refine ⟨?_, rfl⟩
  have : decide (a ≤ n ∧ n < a + l) = true := by simp; omega
  rw [this]
theorem in_no (x : Int) (a l : Nat) (h0 : 0 ≤ x) (h1 : ¬ ((a : Int) ≤ x ∧ x < a + l)) (hx : x < 18446744073709551616) (ha : a < 4294967296) (hl : l < 4294967296) (w : World) :
    Calls Tryf.prog 9 #[.int .u64 x, .int .u32 a, .int .u32 l] w fun e w' => e = .returned (.bool false) ∧ w' = w := by
  obtain ⟨n, rfl⟩ := Int.eq_ofNat_of_zero_le h0
  refine (in9 n a l (by omega) ha hl w).mono ?_
  rintro e w' ⟨rfl, rfl⟩
  refine ⟨?_, rfl⟩
  have : decide (a ≤ n ∧ n < a + l) = false := by simp; omega
  rw [this]

theorem main5_empty (a b la lb : Nat) (h : la = 0 ∨ ¬ la = 0 ∧ lb = 0) (w : World) :
    Calls Tryf.prog 5 #[.int .u32 a, .int .u32 b, .int .u32 la, .int .u32 lb] w (MainRet w) := by
  rcases h with rfl | ⟨h, rfl⟩
  · go_enter Tryf.func5, Tryf.ntmps5
    go_wp2_with fail
    go_ret
    exact ⟨rfl, Below.refl _ _⟩
  · have t1 : ((la : Int) == 0) = false := by simp; omega
    go_enter Tryf.func5, Tryf.ntmps5
    go_wp2_with fail
    go_ret
    exact ⟨rfl, Below.refl _ _⟩

theorem main5_apart (F : Interp) (a b la lb : Nat) (ha : a < 4294967296) (hb : b < 4294967296) (hla : la < 4294967296) (hlb : lb < 4294967296) (h1 : 1 ≤ la) (h2 : 1 ≤ lb)
    (hdis : (a : Int) + la ≤ b ∨ (b : Int) < a + la ∧ (b : Int) + lb ≤ a) (w : World) (hF : F.told.answers w.tape) (htab : Lib.TabIs Tryf.prog w pow10Name .u64 Lib.pow10Tab) :
    Calls Tryf.prog 5 #[.int .u32 a, .int .u32 b, .int .u32 la, .int .u32 lb] w (MainRet w) := by
  have H := hide (zz8 F a b la lb ha hb hla hlb h1 h2 w hF htab)
  have t1 : ((la : Int) == 0) = false := by simp; omega
  have t2 : ((lb : Int) == 0) = false := by simp; omega
  have N : Hid (¬ max a b ≤ min (a + la - 1) (b + lb - 1)) := hide (by omega)
  clear hF htab
  rcases hdis with t3 | ⟨t3, t4⟩
  all_goals
    go_enter Tryf.func5, Tryf.ntmps5
    go_wp2_with fail
    refine H.out.mono ?_
    rintro e w' ⟨s, hbw, ⟨k, rfl, hs⟩ | ⟨k, rfl⟩⟩
    · exact absurd k N.out
    · have K := hide k
      clear k
      go_wp2_with fail
      go_ret
      exact ⟨rfl, hbw⟩

theorem span_same (M : Nat) (hM : M < 18446744073709551616) (s : ByteArray) (w : World) (hs : s.data.toList = spanText M M) :
    Calls Tryf.prog 6 #[.string s] w fun e w' => e = .returned (.tuple #[.int .u64 M, .int .u64 M, .bool false, .bool true]) ∧ w' = w := by
  refine (span_text M M hM hM s w hs).mono ?_
  rintro e w' ⟨rfl, rfl⟩
  exact ⟨by simp, rfl⟩
theorem span_diff (M m : Nat) (hM : M < 18446744073709551616) (hm : m < 18446744073709551616) (h : ¬ M = m) (s : ByteArray) (w : World) (hs : s.data.toList = spanText M m) :
    Calls Tryf.prog 6 #[.string s] w fun e w' => e = .returned (.tuple #[.int .u64 M, .int .u64 m, .bool true, .bool true]) ∧ w' = w := by
  refine (span_text M m hM hm s w hs).mono ?_
  rintro e w' ⟨rfl, rfl⟩
  exact ⟨by simp [h], rfl⟩

/-- A number that lies not in both ranges. -/
theorem edge (x : Int) (a b la lb : Nat) (h0 : 0 ≤ x) (hx : x < 18446744073709551616) (ha : a < 4294967296) (hb : b < 4294967296) (hla : la < 4294967296) (hlb : lb < 4294967296)
    (h : ¬ (((a : Int) ≤ x ∧ x < a + la) ∧ ((b : Int) ≤ x ∧ x < b + lb))) (w : World) :
    Hid (Calls Tryf.prog 9 #[.int .u64 x, .int .u32 a, .int .u32 la] w fun e w' => e = .returned (.bool false) ∧ w' = w) ∨
    (Hid (Calls Tryf.prog 9 #[.int .u64 x, .int .u32 a, .int .u32 la] w fun e w' => e = .returned (.bool true) ∧ w' = w) ∧
     Hid (Calls Tryf.prog 9 #[.int .u64 x, .int .u32 b, .int .u32 lb] w fun e w' => e = .returned (.bool false) ∧ w' = w)) := by
  by_cases h1 : (a : Int) ≤ x ∧ x < a + la
  · exact .inr ⟨hide (in_yes x a la h1.1 h1.2 ha hla w), hide (in_no x b lb h0 (fun h2 => h ⟨h1, h2⟩) hx hb hlb w)⟩
  · exact .inl (hide (in_no x a la h0 h1 hx ha hla w))

set_option maxHeartbeats 1600000 in
/-- The text is one id. -/
theorem main5_one (F : Interp) (a b la lb M : Nat) (ha : a < 4294967296) (hb : b < 4294967296) (hla : la < 4294967296) (hlb : lb < 4294967296) (h1 : 1 ≤ la) (h2 : 1 ≤ lb)
    (hM : max a b = M) (hm : min (a + la - 1) (b + lb - 1) = M) (w : World) (hF : F.told.answers w.tape) (htab : Lib.TabIs Tryf.prog w pow10Name .u64 Lib.pow10Tab) :
    Calls Tryf.prog 5 #[.int .u32 a, .int .u32 b, .int .u32 la, .int .u32 lb] w (MainRet w) := by
  have H := hide (zz8 F a b la lb ha hb hla hlb h1 h2 w hF htab)
  have t1 : ((la : Int) == 0) = false := by simp; omega
  have t2 : ((lb : Int) == 0) = false := by simp; omega
  have N : Hid (max a b ≤ min (a + la - 1) (b + lb - 1)) := hide (by omega)
  have i1 : (b : Int) < a + la := by omega
  have i2 : (a : Int) < b + lb := by omega
  clear hF htab
  go_enter Tryf.func5, Tryf.ntmps5
  go_wp2_with fail
  refine H.out.mono ?_
  rintro e w' ⟨s, hbw, ⟨k, rfl, hs⟩ | ⟨k, rfl⟩⟩
  · rw [hM, hm] at hs
    unfold namedText spanText at hs
    rw [if_pos rfl, if_pos rfl] at hs
    obtain ⟨x3, hr, x4, z4, z23⟩ := cut_one s M (by omega) hs
    have hr2 : (s.extract 3 s.size).data.toList = spanText M M := by rw [hr]; unfold spanText; rw [if_pos rfl]
    have x4' : ((s.extract 0 4).toList == [105, 100, 115, 32]) = false := by
      rw [ByteArray.toList_eq]
      exact beq_false_of_ne fun h => x4 (ba_eq _ _ h)
    have x3' : ((s.extract 0 3).toList == [105, 100, 32]) = true := by
      rw [ByteArray.toList_eq, x3]
      rfl
    have z4' : (4 : Int) ≤ (s.size : Int) := by omega
    have z3' : (3 : Int) ≤ (s.size : Int) := by omega
    clear hr hs k x3 x4
    have HR := hide hr2
    clear hr2
    go_wp2_with fail
    refine (span_same M (by omega) _ w' HR.out).mono ?_
    rintro e w'' ⟨rfl, hw⟩
    obtain rfl : w' = w'' := hw.symm
    clear HR x3' x4' z4 z23 z4' z3'
    have I1 := hide (in_yes M a la (by omega) (by omega) ha hla w')
    have I2 := hide (in_yes M b lb (by omega) (by omega) hb hlb w')
    have bM : (M : Int) ≤ 17179869184 := by omega
    have EH := hide (edge ((M : Int) + 1) a b la lb (by omega) (by omega) ha hb hla hlb (by omega) w')
    have HMm := hide (And.intro hM hm)
    clear hM hm
    go_wp2_with fail
    refine I1.out.mono ?_
    rintro e w'' ⟨rfl, hw⟩
    obtain rfl : w' = w'' := hw.symm
    go_wp2_with fail
    refine I2.out.mono ?_
    rintro e w'' ⟨rfl, hw⟩
    obtain rfl : w' = w'' := hw.symm
    go_wp2_with fail
    refine I1.out.mono ?_
    rintro e w'' ⟨rfl, hw⟩
    obtain rfl : w' = w'' := hw.symm
    go_wp2_with fail
    refine I2.out.mono ?_
    rintro e w'' ⟨rfl, hw⟩
    obtain rfl : w' = w'' := hw.symm
    go_wp2_with fail
    · rename_i h0
      rcases edge ((M : Int) - 1) a b la lb (by omega) (by omega) ha hb hla hlb (by have := HMm.out; omega) w' with L | ⟨L1, L2⟩
      · refine L.out.mono ?_
        rintro e w'' ⟨rfl, hw⟩
        obtain rfl : w' = w'' := hw.symm
        go_wp2_with fail
        rcases EH.out with E | ⟨E1, E2⟩
        · refine E.out.mono ?_
          rintro e w'' ⟨rfl, hw⟩
          obtain rfl : w' = w'' := hw.symm
          go_wp2_with fail
          go_ret
          exact ⟨rfl, hbw⟩
        · refine E1.out.mono ?_
          rintro e w'' ⟨rfl, hw⟩
          obtain rfl : w' = w'' := hw.symm
          go_wp2_with fail
          refine E2.out.mono ?_
          rintro e w'' ⟨rfl, hw⟩
          obtain rfl : w' = w'' := hw.symm
          go_wp2_with fail
          go_ret
          exact ⟨rfl, hbw⟩
      · refine L1.out.mono ?_
        rintro e w'' ⟨rfl, hw⟩
        obtain rfl : w' = w'' := hw.symm
        go_wp2_with fail
        refine L2.out.mono ?_
        rintro e w'' ⟨rfl, hw⟩
        obtain rfl : w' = w'' := hw.symm
        go_wp2_with fail
        rcases EH.out with E | ⟨E1, E2⟩
        · refine E.out.mono ?_
          rintro e w'' ⟨rfl, hw⟩
          obtain rfl : w' = w'' := hw.symm
          go_wp2_with fail
          go_ret
          exact ⟨rfl, hbw⟩
        · refine E1.out.mono ?_
          rintro e w'' ⟨rfl, hw⟩
          obtain rfl : w' = w'' := hw.symm
          go_wp2_with fail
          refine E2.out.mono ?_
          rintro e w'' ⟨rfl, hw⟩
          obtain rfl : w' = w'' := hw.symm
          go_wp2_with fail
          go_ret
          exact ⟨rfl, hbw⟩
    · rcases EH.out with E | ⟨E1, E2⟩
      · refine E.out.mono ?_
        rintro e w'' ⟨rfl, hw⟩
        obtain rfl : w' = w'' := hw.symm
        go_wp2_with fail
        go_ret
        exact ⟨rfl, hbw⟩
      · refine E1.out.mono ?_
        rintro e w'' ⟨rfl, hw⟩
        obtain rfl : w' = w'' := hw.symm
        go_wp2_with fail
        refine E2.out.mono ?_
        rintro e w'' ⟨rfl, hw⟩
        obtain rfl : w' = w'' := hw.symm
        go_wp2_with fail
        go_ret
        exact ⟨rfl, hbw⟩
  · exact absurd N.out k

set_option maxHeartbeats 1600000 in
/-- The text is two ids. -/
theorem main5_two (F : Interp) (a b la lb M m : Nat) (ha : a < 4294967296) (hb : b < 4294967296) (hla : la < 4294967296) (hlb : lb < 4294967296) (h1 : 1 ≤ la) (h2 : 1 ≤ lb)
    (hM : max a b = M) (hm : min (a + la - 1) (b + lb - 1) = m) (hlt : M < m) (w : World) (hF : F.told.answers w.tape) (htab : Lib.TabIs Tryf.prog w pow10Name .u64 Lib.pow10Tab) :
    Calls Tryf.prog 5 #[.int .u32 a, .int .u32 b, .int .u32 la, .int .u32 lb] w (MainRet w) := by
  have H := hide (zz8 F a b la lb ha hb hla hlb h1 h2 w hF htab)
  have t1 : ((la : Int) == 0) = false := by simp; omega
  have t2 : ((lb : Int) == 0) = false := by simp; omega
  have N : Hid (max a b ≤ min (a + la - 1) (b + lb - 1)) := hide (by omega)
  have i1 : (b : Int) < a + la := by omega
  have i2 : (a : Int) < b + lb := by omega
  clear hF htab
  go_enter Tryf.func5, Tryf.ntmps5
  go_wp2_with fail
  refine H.out.mono ?_
  rintro e w' ⟨s, hbw, ⟨k, rfl, hs⟩ | ⟨k, rfl⟩⟩
  · rw [hM, hm] at hs
    unfold namedText at hs
    rw [if_neg (by omega)] at hs
    obtain ⟨x4, hr, z4, z45⟩ := cut_two s (spanText M m) hs (span_len M m (by omega) (by omega))
    have x4' : ((s.extract 0 4).toList == [105, 100, 115, 32]) = true := by
      rw [ByteArray.toList_eq, x4]
      rfl
    have z4' : (4 : Int) ≤ (s.size : Int) := by omega
    have HR := hide hr
    clear hr hs k x4
    have HMm := hide (And.intro hM (And.intro hm hlt))
    clear hM hm hlt
    go_wp2_with fail
    refine (span_diff M m (by have := HMm.out; omega) (by have := HMm.out; omega) (by have := HMm.out; omega) _ w' HR.out).mono ?_
    rintro e w'' ⟨rfl, hw⟩
    obtain rfl : w' = w'' := hw.symm
    clear HR x4' z4 z45 z4'
    obtain ⟨hM, hm, hlt⟩ := HMm.out
    have I1 := hide (in_yes M a la (by omega) (by omega) ha hla w')
    have I2 := hide (in_yes M b lb (by omega) (by omega) hb hlb w')
    have I3 := hide (in_yes m a la (by omega) (by omega) ha hla w')
    have I4 := hide (in_yes m b lb (by omega) (by omega) hb hlb w')
    have bM : (m : Int) ≤ 17179869184 := by omega
    have bl : (M : Int) ≤ (m : Int) := by omega
    have be : ((M : Int) == (m : Int)) = false := by simp; omega
    have EH := hide (edge ((m : Int) + 1) a b la lb (by omega) (by omega) ha hb hla hlb (by omega) w')
    clear hM hm hlt
    go_wp2_with fail
    refine I1.out.mono ?_
    rintro e w'' ⟨rfl, hw⟩
    obtain rfl : w' = w'' := hw.symm
    go_wp2_with fail
    refine I2.out.mono ?_
    rintro e w'' ⟨rfl, hw⟩
    obtain rfl : w' = w'' := hw.symm
    go_wp2_with fail
    refine I3.out.mono ?_
    rintro e w'' ⟨rfl, hw⟩
    obtain rfl : w' = w'' := hw.symm
    go_wp2_with fail
    refine I4.out.mono ?_
    rintro e w'' ⟨rfl, hw⟩
    obtain rfl : w' = w'' := hw.symm
    go_wp2_with fail
    · rename_i h0
      rcases edge ((M : Int) - 1) a b la lb (by omega) (by omega) ha hb hla hlb (by have := HMm.out; omega) w' with L | ⟨L1, L2⟩
      · refine L.out.mono ?_
        rintro e w'' ⟨rfl, hw⟩
        obtain rfl : w' = w'' := hw.symm
        go_wp2_with fail
        rcases EH.out with E | ⟨E1, E2⟩
        · refine E.out.mono ?_
          rintro e w'' ⟨rfl, hw⟩
          obtain rfl : w' = w'' := hw.symm
          go_wp2_with fail
          go_ret
          exact ⟨rfl, hbw⟩
        · refine E1.out.mono ?_
          rintro e w'' ⟨rfl, hw⟩
          obtain rfl : w' = w'' := hw.symm
          go_wp2_with fail
          refine E2.out.mono ?_
          rintro e w'' ⟨rfl, hw⟩
          obtain rfl : w' = w'' := hw.symm
          go_wp2_with fail
          go_ret
          exact ⟨rfl, hbw⟩
      · refine L1.out.mono ?_
        rintro e w'' ⟨rfl, hw⟩
        obtain rfl : w' = w'' := hw.symm
        go_wp2_with fail
        refine L2.out.mono ?_
        rintro e w'' ⟨rfl, hw⟩
        obtain rfl : w' = w'' := hw.symm
        go_wp2_with fail
        rcases EH.out with E | ⟨E1, E2⟩
        · refine E.out.mono ?_
          rintro e w'' ⟨rfl, hw⟩
          obtain rfl : w' = w'' := hw.symm
          go_wp2_with fail
          go_ret
          exact ⟨rfl, hbw⟩
        · refine E1.out.mono ?_
          rintro e w'' ⟨rfl, hw⟩
          obtain rfl : w' = w'' := hw.symm
          go_wp2_with fail
          refine E2.out.mono ?_
          rintro e w'' ⟨rfl, hw⟩
          obtain rfl : w' = w'' := hw.symm
          go_wp2_with fail
          go_ret
          exact ⟨rfl, hbw⟩
    · rcases EH.out with E | ⟨E1, E2⟩
      · refine E.out.mono ?_
        rintro e w'' ⟨rfl, hw⟩
        obtain rfl : w' = w'' := hw.symm
        go_wp2_with fail
        go_ret
        exact ⟨rfl, hbw⟩
      · refine E1.out.mono ?_
        rintro e w'' ⟨rfl, hw⟩
        obtain rfl : w' = w'' := hw.symm
        go_wp2_with fail
        refine E2.out.mono ?_
        rintro e w'' ⟨rfl, hw⟩
        obtain rfl : w' = w'' := hw.symm
        go_wp2_with fail
        go_ret
        exact ⟨rfl, hbw⟩
  · exact absurd N.out k

theorem main5 (F : Interp) (a b la lb : Nat) (ha : a < 4294967296) (hb : b < 4294967296) (hla : la < 4294967296) (hlb : lb < 4294967296) (w : World) (hF : F.told.answers w.tape) (htab : Lib.TabIs Tryf.prog w pow10Name .u64 Lib.pow10Tab) :
    Calls Tryf.prog 5 #[.int .u32 a, .int .u32 b, .int .u32 la, .int .u32 lb] w (MainRet w) := by
  by_cases h1 : la = 0
  · exact main5_empty a b la lb (.inl h1) w
  by_cases h2 : lb = 0
  · exact main5_empty a b la lb (.inr ⟨h1, h2⟩) w
  by_cases h3 : max a b ≤ min (a + la - 1) (b + lb - 1)
  · by_cases h4 : max a b = min (a + la - 1) (b + lb - 1)
    · exact main5_one F a b la lb _ ha hb hla hlb (by omega) (by omega) h4 rfl w hF htab
    · exact main5_two F a b la lb _ _ ha hb hla hlb (by omega) (by omega) rfl rfl (by omega) w hF htab
  · exact main5_apart F a b la lb ha hb hla hlb (by omega) (by omega) (by omega) w hF htab
end Go.Proofs.Qxb6606236aFmt
