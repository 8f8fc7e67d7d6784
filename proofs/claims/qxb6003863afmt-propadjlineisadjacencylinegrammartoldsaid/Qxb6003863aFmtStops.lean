/- The closed facts for a walk that comes to fmt.errorf in this dump, each by the kernel; and what fmt.Errorf does at the two formats of scanID with one slice of bytes as operand. -/
import Derived.Test.Qxb6003863aFmtRows
import Derived.Stop.CallBack
import Derived.Stop.IfaceNil
import Derived.Stop.FmtTextSlices
import Derived.Laws.Cells
import GoSem.ClaimData
import Derived.WalkKit
import Derived.WalkSpells
import Derived.Below
namespace Go.Proofs.Qxb6003863aFmt
open Go.RowKit Go.Extern.Stop Go.Stop Go.Extern

theorem Tryf.call43 (args : Array Value) (w : World) : (callFunc 43 args).run Tryf.prog w = ((FmtStop.errorf #[9, 77] #[25] args).run Tryf.prog w).andThen fun v w' => .ok (.value v) w' :=
  run_callFunc_extern Tryf.func43 (by kernel_rfl) (by kernel_rfl) (by kernel_rfl) (by kernel_rfl) args w
theorem Tryf.guard (name : String) (w : World) : (FmtStop.guard name).run Tryf.prog w = .ok () w := by kernel_rfl
theorem Tryf.fmtS : FmtStop.printed? ⟨#[110, 111, 100, 101, 32, 105, 100, 32, 37, 115, 32, 105, 115, 32, 110, 111, 116, 32, 98, 101, 108, 111, 119, 32, 50, 94, 54, 51]⟩ 1 = some [(0, 115, false)] := by kernel_rfl
theorem Tryf.fmtSr (w : World) : (FmtDoors.printed ⟨#[110, 111, 100, 101, 32, 105, 100, 32, 37, 115, 32, 105, 115, 32, 110, 111, 116, 32, 98, 101, 108, 111, 119, 32, 50, 94, 54, 51]⟩ 1).run Tryf.prog w = .ok [(0, 115, false)] w := by kernel_rfl
theorem Tryf.fmtQ : FmtStop.printed? ⟨#[37, 113, 32, 105, 115, 32, 110, 111, 116, 32, 97, 32, 110, 111, 100, 101, 32, 105, 100, 44, 32, 97, 32, 110, 111, 110, 45, 110, 101, 103, 97, 116, 105, 118, 101, 32, 100, 101, 99, 105, 109, 97, 108, 32, 105, 110, 116, 101, 103, 101, 114]⟩ 1 = some [(0, 113, false)] := by kernel_rfl
theorem Tryf.fmtQr (w : World) : (FmtDoors.printed ⟨#[37, 113, 32, 105, 115, 32, 110, 111, 116, 32, 97, 32, 110, 111, 100, 101, 32, 105, 100, 44, 32, 97, 32, 110, 111, 110, 45, 110, 101, 103, 97, 116, 105, 118, 101, 32, 100, 101, 99, 105, 109, 97, 108, 32, 105, 110, 116, 101, 103, 101, 114]⟩ 1).run Tryf.prog w = .ok [(0, 113, false)] w := by kernel_rfl
theorem Tryf.ptr90 (w : World) : (FmtStop.ptrTo "errors.errorString").run Tryf.prog w = .ok 90 w := by kernel_rfl
theorem Tryf.elem90 (w : World) : (elemOf 90).run Tryf.prog w = .ok 92 w := by kernel_rfl
theorem Tryf.isError90 (w : World) : (FmtDoors.textMethod 90 "Error").run Tryf.prog w = .ok true w := by kernel_rfl
attribute [local go_sem] Tryf.call43 Tryf.guard Tryf.fmtS Tryf.fmtSr Tryf.fmtQ Tryf.fmtQr Tryf.ptr90 Tryf.elem90 Tryf.isError90

theorem Tryf.value5 (name : String) (x : Int) (w : World) : (FmtStop.value name FmtStop.depth 5 [.int .u8 x]).run Tryf.prog w = .ok (digits 8 (x % 2 ^ 64).toNat) w := by kernel_rfl
theorem Tryf.values5 (name : String) (w : World) : ∀ xs : List Int, (List.mapM ((fun c => FmtStop.value name FmtStop.depth 5 [c]) ∘ Value.int IntKind.u8) xs).run Tryf.prog w = .ok (xs.map fun x => digits 8 (x % 18446744073709551616).toNat) w
  | [] => by simp [List.mapM_nil]
  | x :: xs => by
    have ih := Tryf.values5 name w xs
    have h := Tryf.value5 name x w
    simp [List.mapM_cons, h, ih, Result.andThen]

theorem Tryf.opBytes_115 (name : String) (a : Addr) (cap : Nat) (xs : List Int) (w : World) (hc : ∀ j v, (xs.map (Value.int .u8))[j]? = some v → w.cell? (a.add j) = some v) :
    ∃ r, (FmtStop.operand name true 115 false (.iface 22 (.slice (some a) xs.length cap))).run Tryf.prog w = .ok r w := by
  have h1 : (typeStr 22).run Tryf.prog w = .ok Tryf.t22.str w := by kernel_rfl
  have d2 : Tryf.t22.desc = .slice 5 := rfl
  have hb : (FmtStop.bare (FmtStop.asked true 115 false) 22).run Tryf.prog w = .ok true w := by kernel_rfl
  have hs : (FmtStop.scalar 5).run Tryf.prog w = .ok true w := by kernel_rfl
  have hy : (Extern.Stop.isByte 5).run Tryf.prog w = .ok true w := by kernel_rfl
  have hw : Tryf.prog.funcs.any (·.name == FmtStop.writeWord) = true := by kernel_rfl
  have hsh : (FmtStop.shape name (FmtStop.asked true 115 false) FmtStop.depth 5).run Tryf.prog w = .ok (6 :: FmtStop.pack "uint8".toUTF8.data.toList) w := by kernel_rfl
  have hl := run_loadCells_list (P := Tryf.prog) w a (xs.map (Value.int .u8)) hc
  rw [List.length_map] at hl
  refine ⟨(13 :: (FmtStop.pack Tryf.t22.str.toUTF8.data.toList ++ 6 :: FmtStop.pack "uint8".toUTF8.data.toList), 1 :: (digits 8 xs.length ++ FmtText.intValues xs)), ?_⟩
  simp [FmtStop.operand, h1, hb, hs, hy, hsh, hl, Tryf.values5, FmtText.intValues]
  intro hno
  obtain ⟨i, hi, _, _, he⟩ := Array.any_iff_exists.1 hw
  exact absurd (by simpa using he) (hno i hi)

theorem Tryf.opBytes_113 (name : String) (a : Addr) (cap : Nat) (xs : List Int) (w : World) (hc : ∀ j v, (xs.map (Value.int .u8))[j]? = some v → w.cell? (a.add j) = some v) :
    ∃ r, (FmtStop.operand name true 113 false (.iface 22 (.slice (some a) xs.length cap))).run Tryf.prog w = .ok r w := by
  have h1 : (typeStr 22).run Tryf.prog w = .ok Tryf.t22.str w := by kernel_rfl
  have d2 : Tryf.t22.desc = .slice 5 := rfl
  have hb : (FmtStop.bare (FmtStop.asked true 113 false) 22).run Tryf.prog w = .ok true w := by kernel_rfl
  have hs : (FmtStop.scalar 5).run Tryf.prog w = .ok true w := by kernel_rfl
  have hy : (Extern.Stop.isByte 5).run Tryf.prog w = .ok true w := by kernel_rfl
  have hw : Tryf.prog.funcs.any (·.name == FmtStop.writeWord) = true := by kernel_rfl
  have hsh : (FmtStop.shape name (FmtStop.asked true 113 false) FmtStop.depth 5).run Tryf.prog w = .ok (6 :: FmtStop.pack "uint8".toUTF8.data.toList) w := by kernel_rfl
  have hl := run_loadCells_list (P := Tryf.prog) w a (xs.map (Value.int .u8)) hc
  rw [List.length_map] at hl
  refine ⟨(13 :: (FmtStop.pack Tryf.t22.str.toUTF8.data.toList ++ 6 :: FmtStop.pack "uint8".toUTF8.data.toList), 1 :: (digits 8 xs.length ++ FmtText.intValues xs)), ?_⟩
  simp [FmtStop.operand, h1, hb, hs, hy, hsh, hl, Tryf.values5, FmtText.intValues]
  intro hno
  obtain ⟨i, hi, _, _, he⟩ := Array.any_iff_exists.1 hw
  exact absurd (by simpa using he) (hno i hi)

/-- What an Errorf of ours hands back: some new error of errors.New's make; nothing old is touched. -/
def ErrRet (w : World) (e : Ending) (w' : World) : Prop := ∃ p, e = .returned (.iface 90 (.pointer p)) ∧ Below w.heap.size w w'

set_option maxHeartbeats 400000 in
theorem errorfS (F : Interp) (blk : Nat) (a : Addr) (cap : Nat) (xs : List Int) (w : World) (hF : F.answers w.tape)
    (h0 : w.cell? ⟨blk, 0, none⟩ = some (.iface 22 (.slice (some a) xs.length cap))) (hc : ∀ j v, (xs.map (Value.int .u8))[j]? = some v → w.cell? (a.add j) = some v) :
    Calls Tryf.prog 38 #[.string ⟨#[110, 111, 100, 101, 32, 105, 100, 32, 37, 115, 32, 105, 115, 32, 110, 111, 116, 32, 98, 101, 108, 111, 119, 32, 50, 94, 54, 51]⟩, .slice (some ⟨blk, 0, none⟩) 1 1] w (ErrRet w) := by
  have hF' := answers_open hF
  obtain ⟨rd, hop⟩ := Tryf.opBytes_115 "fmt.errorf" a cap xs w hc
  clear hc
  go_enter Tryf.func38, Tryf.ntmps38
  go_wp2
  go_ret
  exact ⟨_, rfl, ((Below.refl _ w).alloc (Nat.le_refl _) _).drew⟩

set_option maxHeartbeats 400000 in
theorem errorfQ (F : Interp) (blk : Nat) (a : Addr) (cap : Nat) (xs : List Int) (w : World) (hF : F.answers w.tape)
    (h0 : w.cell? ⟨blk, 0, none⟩ = some (.iface 22 (.slice (some a) xs.length cap))) (hc : ∀ j v, (xs.map (Value.int .u8))[j]? = some v → w.cell? (a.add j) = some v) :
    Calls Tryf.prog 38 #[.string ⟨#[37, 113, 32, 105, 115, 32, 110, 111, 116, 32, 97, 32, 110, 111, 100, 101, 32, 105, 100, 44, 32, 97, 32, 110, 111, 110, 45, 110, 101, 103, 97, 116, 105, 118, 101, 32, 100, 101, 99, 105, 109, 97, 108, 32, 105, 110, 116, 101, 103, 101, 114]⟩, .slice (some ⟨blk, 0, none⟩) 1 1] w (ErrRet w) := by
  have hF' := answers_open hF
  obtain ⟨rd, hop⟩ := Tryf.opBytes_113 "fmt.errorf" a cap xs w hc
  clear hc
  go_enter Tryf.func38, Tryf.ntmps38
  go_wp2
  go_ret
  exact ⟨_, rfl, ((Below.refl _ w).alloc (Nat.le_refl _) _).drew⟩
end Go.Proofs.Qxb6003863aFmt
