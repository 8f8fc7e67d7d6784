/- span, named, end, overlap: the texts they give. -/
import Derived.Test.Qxb6606236aFmtOvSpan
import Derived.Stop.CallBack
import Derived.Stop.FmtTextKit
import Derived.Stop.Told
import Derived.Stop.Texts
import Derived.Laws.Cells
namespace Go.Proofs.Qxb6606236aFmt
open Go.RowKit Go.Extern.Stop Go.Stop Go.Extern
set_option linter.unusedVariables false

def shape22 : List UInt8 := FmtStop.intCode .u32 :: FmtStop.pack "uint32".toUTF8.data.toList
def shape23 : List UInt8 := FmtStop.intCode .u64 :: FmtStop.pack "uint64".toUTF8.data.toList
theorem Tryf.call15 (args : Array Value) (w : World) : (callFunc 15 args).run Tryf.prog w = ((FmtStop.sprintf #[9, 72] #[9] args).run Tryf.prog w).andThen fun v w' => .ok (.value v) w' :=
  run_callFunc_extern Tryf.func15 (by kernel_rfl) (by kernel_rfl) (by kernel_rfl) (by kernel_rfl) args w
theorem Tryf.guard (name : String) (w : World) : (FmtStop.guard name).run Tryf.prog w = .ok () w := by kernel_rfl
theorem Tryf.fmtD : FmtStop.printed? ⟨#[37, 100, 45, 37, 100]⟩ 2 = some [(0, 100, false), (1, 100, false)] := by kernel_rfl
theorem Tryf.fmtDr (w : World) : (FmtDoors.printed ⟨#[37, 100, 45, 37, 100]⟩ 2).run Tryf.prog w = .ok [(0, 100, false), (1, 100, false)] w := by kernel_rfl
theorem Tryf.op22 (name : String) (x : Int) (w : World) : (FmtStop.operand name false 100 false (.iface 22 (.int .u32 x))).run Tryf.prog w = .ok (shape22, digits 8 (x % 2 ^ 64).toNat) w := by kernel_rfl
theorem Tryf.op23 (name : String) (x : Int) (w : World) : (FmtStop.operand name false 100 false (.iface 23 (.int .u64 x))).run Tryf.prog w = .ok (shape23, digits 8 (x % 2 ^ 64).toNat) w := by kernel_rfl
attribute [local go_sem] Tryf.call15 Tryf.guard Tryf.fmtD Tryf.fmtDr Tryf.op22 Tryf.op23

/-- What fmt is asked. -/
def rd (a b : Nat) : List (List UInt8) := [[37, 100, 45, 37, 100], shape22, digits 8 (a % 18446744073709551616), shape23, digits 8 (b % 18446744073709551616)]
theorem t_parse : (FmtText.parse [37, 100, 45, 37, 100]).map FmtText.glue = some [.verb {} 100, .lit [45], .verb {} 100] := by rfl
theorem wf22 {a : Nat} (h : a < 4294967296) : (Lit.int .u32 (a : Int)).wf = true := by
  simp [Lit.wf, IntKind.min, IntKind.max, IntKind.signed, IntKind.bits]; omega
theorem wf23 {a : Nat} (h : a < 18446744073709551616) : (Lit.int .u64 (a : Int)).wf = true := by
  simp [Lit.wf, IntKind.min, IntKind.max, IntKind.signed, IntKind.bits]; omega
theorem mod_nat (a : Nat) : ((a : Int) % 18446744073709551616).toNat = a % 18446744073709551616 := by omega
theorem t_int (x y : Int) (hx : (Lit.int .u32 x).wf = true) (hy : (Lit.int .u64 y).wf = true) :
    FmtText.text "fmt.Sprintf" [[37, 100, 45, 37, 100], shape22, digits 8 (x % 18446744073709551616).toNat, shape23, digits 8 (y % 18446744073709551616).toNat] = some (Lib.itoa x ++ 45 :: Lib.itoa y) := by
  have hi := FmtText.operand_int_at (sh := shape22) (k := .u32) rfl (FmtText.unpack_pack "uint32".toUTF8.data.toList (by decide)) x hx
  have hj := FmtText.operand_int_at (sh := shape23) (k := .u64) rfl (FmtText.unpack_pack "uint64".toUTF8.data.toList (by decide)) y hy
  rw [FmtText.text_sprintf_glued t_parse (FmtText.operands_cons hi (FmtText.operands_cons hj FmtText.operands_nil))]
  simp [FmtText.render, FmtText.printArg_d _ _ hx, FmtText.printArg_d _ _ hy]
theorem t_text (a b : Nat) (ha : a < 4294967296) (hb : b < 18446744073709551616) : FmtText.text "fmt.Sprintf" (rd a b) = some (Lib.decDigits a ++ 45 :: Lib.decDigits b) := by
  have h := t_int (a : Int) (b : Int) (wf22 ha) (wf23 hb)
  rw [mod_nat, mod_nat, Lib.itoa_nonneg, Lib.itoa_nonneg] at h
  exact h
theorem dec_len (u : Nat) (hu : u < 18446744073709551616) : (Lib.decDigits u).length ≤ 20 := by
  rw [Lib.decDigits_length]
  by_cases h0 : u = 0
  · subst h0; rw [Lib.nDigits_small (by omega)]; omega
  · have := Lib.numDigits_eq u (by omega) hu; split at this <;> omega
theorem told_two (F : Interp) (a b : Nat) (ha : a < 4294967296) (hb : b < 18446744073709551616) : (FmtStop.textOf (F.told "fmt.Sprintf" (rd a b) 0)).data.toList = Lib.decDigits a ++ 45 :: Lib.decDigits b := by
  rw [Go.Kit.textOf_list]
  refine told_string F (t_text a b ha hb) ?_
  have h1 := dec_len a (by omega)
  have h2 := dec_len b hb
  rw [List.length_append, List.length_cons]
  omega

/-- The text of the ids from a to b. -/
def spanText (a b : Nat) : List UInt8 := if a = b then Lib.decDigits a else Lib.decDigits a ++ 45 :: Lib.decDigits b
def TextRet (l : List UInt8) (w : World) (e : Ending) (w' : World) : Prop := ∃ s : ByteArray, e = .returned (.string s) ∧ s.data.toList = l ∧ Below w.heap.size w w'

theorem span12 (F : Interp) (a b : Nat) (ha : a < 4294967296) (hb : b < 18446744073709551616) (w : World) (hF : F.told.answers w.tape) (htab : Lib.TabIs Tryf.prog w pow10Name .u64 Lib.pow10Tab) :
    Calls Tryf.prog 12 #[.int .u32 a, .int .u64 b] w (TextRet (spanText a b) w) := by
  have hF' := answers_open hF
  by_cases hab : a = b
  · subst hab
    have H := hide (fu14 a hb w htab)
    clear hF' htab hF
    go_enter Tryf.func12, Tryf.ntmps12
    go_wp2_with (go_at_call 14; refine H.out.mono ?_; rintro e w' ⟨rfl, hbw⟩)
    go_ret
    exact ⟨_, rfl, by simp [spanText], hbw⟩
  · have t1 : ((a : Int) == (b : Int)) = false := by simp; omega
    have HT := hide (told_two F a b ha hb)
    have HE : Hid (spanText a b = Lib.decDigits a ++ 45 :: Lib.decDigits b) := if_neg hab
    clear htab hab
    go_enter Tryf.func12, Tryf.ntmps12
    go_wp2
    go_ret
    exact ⟨_, rfl, by rw [HE.out]; exact HT.out, ((Below.refl _ w).alloc (Nat.le_refl _) _).drew⟩

theorem end16 (a l : Nat) (ha : a < 4294967296) (hl : l < 4294967296) (h1 : 1 ≤ l) (w : World) :
    Calls Tryf.prog 16 #[.int .u32 a, .int .u32 l] w fun e w' => e = .returned (.int .u64 ((a + l - 1 : Nat) : Int)) ∧ w' = w := by
  go_enter Tryf.func16, Tryf.ntmps16
  go_wp2
  go_ret
  refine ⟨?_, rfl⟩
  rw [show ((a + l - 1 : Nat) : Int) = (a : Int) + l - 1 by omega]
  rfl

theorem span_len (a b : Nat) (ha : a < 4294967296) (hb : b < 18446744073709551616) : (spanText a b).length ≤ 41 := by
  have h1 := dec_len a (by omega)
  have h2 := dec_len b hb
  unfold spanText
  split
  · omega
  · rw [List.length_append, List.length_cons]; omega

/-- What named writes. -/
def namedText (a b : Nat) : List UInt8 := (if a = b then [105, 100, 32] else [105, 100, 115, 32]) ++ spanText a b

theorem named17 (F : Interp) (a b : Nat) (ha : a < 4294967296) (hb : b < 18446744073709551616) (w : World) (hF : F.told.answers w.tape) (htab : Lib.TabIs Tryf.prog w pow10Name .u64 Lib.pow10Tab) :
    Calls Tryf.prog 17 #[.string ⟨#[105, 100]⟩, .int .u32 a, .int .u64 b] w (TextRet (namedText a b) w) := by
  have H := hide (span12 F a b ha hb w hF htab)
  have HL := hide (span_len a b ha hb)
  clear hF htab
  by_cases hab : a = b
  · have t1 : ((a : Int) != (b : Int)) = false := by simp [hab]
    have HE : Hid (namedText a b = [105, 100, 32] ++ spanText a b) := hide (by unfold namedText; rw [if_pos hab])
    clear hab
    go_enter Tryf.func17, Tryf.ntmps17
    go_wp2_with (go_at_call 12; refine H.out.mono ?_; rintro e w' ⟨s, rfl, hs, hbw⟩; have hsz : s.size ≤ 41 := (by have := HL.out; rw [← hs] at this; exact this); have HS := hide hs; have HB := hide hbw; clear hs hbw)
    go_ret
    exact ⟨_, rfl, by rw [HE.out, ← HS.out]; simp, HB.out⟩
  · have t1 : ((a : Int) != (b : Int)) = true := by simp; omega
    have HE : Hid (namedText a b = [105, 100, 115, 32] ++ spanText a b) := hide (by unfold namedText; rw [if_neg hab])
    clear hab
    go_enter Tryf.func17, Tryf.ntmps17
    go_wp2_with (go_at_call 12; refine H.out.mono ?_; rintro e w' ⟨s, rfl, hs, hbw⟩; have hsz : s.size ≤ 41 := (by have := HL.out; rw [← hs] at this; exact this); have HS := hide hs; have HB := hide hbw; clear hs hbw)
    go_ret
    exact ⟨_, rfl, by rw [HE.out, ← HS.out]; simp, HB.out⟩
end Go.Proofs.Qxb6606236aFmt
