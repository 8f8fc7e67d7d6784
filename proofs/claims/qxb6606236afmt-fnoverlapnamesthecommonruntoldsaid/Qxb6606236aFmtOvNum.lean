/- strconv.FormatUint at base 10 in this dump: by the shelf's contracts. -/
import Derived.Test.Qxb6606236aFmtRows
import Derived.Shelf.LaysM
import Derived.Test.Qxb6606236aFmtShelf
import Derived.Shelf.Strconv.Itoa1
import Derived.Shelf.Strconv.Itoa2
import Derived.Lib.ItoaMem
import Derived.Lib.AppendIntMem
import Derived.WalkKit
import Derived.WalkSpells
import Derived.Below
namespace Go.Proofs.Qxb6606236aFmt
open Go.Shelf Go.RowKit Go.Sort
set_option linter.unusedVariables false

theorem hide {p : Prop} (h : p) : Hid p := h

/-- The table's name, off the row. -/
def pow10Name : String := match Rows.fnOverlapNamesTheCommonRunRow.laid with
  | [_, _, x] => x.1
  | _ => ""

theorem small19 (i : Nat) (h : i < 100) (w : World) : Calls Tryf.prog 19 #[.int .i64 i] w fun e w' => e = .returned (.string ⟨(Lib.decDigits i).toArray⟩) ∧ w' = w := Any.internal_strconv_small Tryf.lays283 i h w
theorem nd20 (u : Nat) (h1 : 1 ≤ u) (h2 : u < 18446744073709551616) (w : World) (htab : Lib.TabIs Tryf.prog w pow10Name .u64 Lib.pow10Tab) :
    Calls Tryf.prog 20 #[.int .u64 u] w fun e w' => e = .returned (.int .i64 (Lib.nDigits u)) ∧ w' = w := Any.internal_strconv_numDigits Tryf.lays284 u h1 h2 w htab
theorem fb21 (blk off cap : Nat) (u : Nat) (d : Array UInt8) (w : World) (hH : Holds (fun (b : UInt8) => Value.int .u8 (b.toNat : Int)) w blk off d) (hu : u < 10 ^ d.size) (hu64 : u < 18446744073709551616) (hsz : d.size < 4611686018427387904) :
    Calls Tryf.prog 21 #[.slice (some ⟨blk, off, none⟩) d.size cap, .int .u64 u] w fun e w' =>
      e = .returned (.tuple #[]) ∧ ∃ (n v' : Nat) (dk : Array UInt8), w' = (putRow (fun (b : UInt8) => Value.int .u8 (b.toNat : Int)) w blk off dk).drewN n ∧ Lib.FmtInv d.size u 0 v' dk := Any.internal_strconv_formatBase10 Tryf.lays285 blk off cap u d w hH hu hu64 hsz

/-- What FormatUint gives: the numeral; nothing old has turned. -/
def NumRet (u : Nat) (w : World) (e : Ending) (w' : World) : Prop := e = .returned (.string ⟨(Lib.decDigits u).toArray⟩) ∧ Below w.heap.size w w'

set_option maxRecDepth 100000 in
set_option maxHeartbeats 3200000 in
theorem fu18 (u : Nat) (hu64 : u < 18446744073709551616) (w : World) (htab : Lib.TabIs Tryf.prog w pow10Name .u64 Lib.pow10Tab) :
    Calls Tryf.prog 18 #[.int .u64 u, .int .i64 10] w (NumRet u w) := by
  by_cases hs : u < 100
  · have H := hide (small19 u hs w)
    have iu : (u : Int) < 100 := by omega
    clear htab hs
    go_enter Tryf.func18, Tryf.ntmps18
    go_wp2_with (go_at_call 19; refine H.out.mono ?_; rintro e w' ⟨rfl, hw⟩; obtain rfl : w = w' := hw.symm)
    go_ret
    exact ⟨rfl, Below.refl _ _⟩
  · have hu1 : 1 ≤ u := by omega
    have hnd20 : Lib.nDigits u ≤ 20 := by have := Lib.numDigits_eq u hu1 hu64; split at this <;> omega
    have hal : Tryf.prog.arrayLen 41 = 24 := by simp [Program.arrayLen, Tryf.underlying41]
    have hsl : ∀ W, (Instr.sliceAt 41 (.pointer (some ⟨w.heap.size, 0, none⟩)) none (some (.int .i64 (Lib.nDigits u : Int))) none).run Tryf.prog W = .ok (.slice (some ⟨w.heap.size, 0, none⟩) (Lib.nDigits u) 24) W := fun W => by
      rw [run_sliceAt_array_h W 41 ⟨w.heap.size, 0, none⟩ (by simp [Program.arrayLen, Program.elem, Tryf.underlying41]) .i64 (Lib.nDigits u : Int) (by omega) (by rw [hal]; omega)]
      go_simp
    have hH0 := Lib.holds_zero0 w 41 (Lib.nDigits u) (by omega)
    have hfmt := fb21 w.heap.size 0 24 u (Array.replicate (Lib.nDigits u) 0) (w.alloc (.cells Lib.zeros24 41)) hH0 (by rw [Array.size_replicate]; exact Lib.lt_pow_nDigits u) hu64 (by rw [Array.size_replicate]; omega)
    rw [Array.size_replicate] at hfmt
    have HF := hide hfmt
    have HN := hide (nd20 u hu1 hu64 _ (Lib.tabIs_alloc htab (.cells Lib.zeros24 41)))
    have HH0 := hide hH0
    have iu : (100 : Int) ≤ (u : Int) := by omega
    clear hH0 hal hfmt htab hs
    go_enter Tryf.func18, Tryf.ntmps18
    go_wp2_with (go_at_call 20; refine HN.out.mono ?_; rintro e w' ⟨rfl, rfl⟩)
    refine HF.out.mono ?_
    rintro e w' ⟨rfl, k, v', dk, rfl, hF⟩
    have hcv : (convert 44 9 (.slice (some ⟨w.heap.size, 0, none⟩) (Lib.nDigits u) 24)).run Tryf.prog ((putRow (fun (b : UInt8) => Value.int .u8 (b.toNat : Int)) (w.alloc (.cells Lib.zeros24 41)) w.heap.size 0 dk).drewN k) = .ok (.string ⟨(Lib.decDigits u).toArray⟩) ((putRow (fun (b : UInt8) => Value.int .u8 (b.toNat : Int)) (w.alloc (.cells Lib.zeros24 41)) w.heap.size 0 dk).drewN k) := by
      have h := run_convert_bytes_back (P := Tryf.prog) ((putRow (fun (b : UInt8) => Value.int .u8 (b.toNat : Int)) (w.alloc (.cells Lib.zeros24 41)) w.heap.size 0 dk).drewN k) 44 9 5 ⟨w.heap.size, 0, none⟩ 24 (Lib.decDigits u) Tryf.underlying44 Tryf.underlying5 Tryf.underlying9 (fun j hj => by
        rw [Lib.row_is_numeral hF j hj, Lib.add_plain, World.cell?_drewN]
        exact cell?_putRow (fun (b : UInt8) => Value.int .u8 (b.toNat : Int)) _ w.heap.size 0 _ dk HH0.out (by rw [hF.size, Array.size_replicate]) j (by rw [hF.size]; rw [Lib.decDigits_length] at hj; exact hj))
      rw [Lib.decDigits_length] at h
      exact h
    go_wp2
    go_ret
    obtain ⟨os, eo⟩ := Lib.fin_at w (.cells Lib.zeros24 41) dk k 0
    exact ⟨rfl, by rw [eo]; exact Lib.below_grow _ w (Nat.le_refl _) k os⟩

theorem fu14 (u : Nat) (hu64 : u < 18446744073709551616) (w : World) (htab : Lib.TabIs Tryf.prog w pow10Name .u64 Lib.pow10Tab) :
    Calls Tryf.prog 14 #[.int .u64 u, .int .i64 10] w (NumRet u w) := by
  have H := hide (fu18 u hu64 w htab)
  clear htab
  go_enter Tryf.func14, Tryf.ntmps14
  go_wp2_with (go_at_call 18; refine H.out.mono ?_; rintro e w' ⟨rfl, hb⟩)
  go_ret
  exact ⟨rfl, hb⟩
end Go.Proofs.Qxb6606236aFmt
