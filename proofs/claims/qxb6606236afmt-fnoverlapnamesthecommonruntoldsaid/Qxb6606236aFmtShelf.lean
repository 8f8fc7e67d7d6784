/-
  DERIVED: THE SHELF's CONTRACTS AT THIS DUMP, IN PLAIN WORDS (tools/lay-plain.mjs out of 'Qxb6606236aFmtShelf.lean', which tools/lay-shelf.mjs wrote): THE SAME DECLARATIONS UNDER THE SAME NAMES: 'import', 'namespace', 'open', 'def', 'theorem' AND NOTHING ELSE: no command of the shelf's: FOR A HAND-IN. Each laying: the table of numbers ('.._ren') and one theorem, a field a fact of the dump's own or the kernel's comparison; each contract: ONE APPLICATION.
-/
import Derived.Shelf.LaysM
import Derived.Ground.NamesProg
import Derived.Test.Qxb6606236aFmtProg
namespace Go.Proofs
open Go.Shelf
def Tryf.lays283_ren : Go.Shelf.Ren := ⟨fun | 283 => 19 | n => n, fun | 3 => 3 | 9 => 9 | 4 => 4 | n => n, fun | n => n⟩
theorem Tryf.lays283 : Go.Proofs.Lays.n283 Tryf.prog Tryf.lays283_ren := {
  mixed := by kernel_rfl
  f283 := Tryf.func19.trans (congrArg some (by kernel_rfl))
  t3 := Tryf.underlying3
  a3 := Tryf.isAgg3
  z3 := Tryf.sizeOf3
  v3 := Tryf.zeroValue3
  t4 := Tryf.underlying4
  a4 := Tryf.isAgg4
  z4 := Tryf.sizeOf4
  v4 := Tryf.zeroValue4
  t9 := Tryf.underlying9
  a9 := Tryf.isAgg9
  z9 := Tryf.sizeOf9
  v9 := Tryf.zeroValue9 }
def Tryf.lays284_ren : Go.Shelf.Ren := ⟨fun | 284 => 20 | 129 => 24 | 317 => 23 | 318 => 25 | n => n, fun | 53 => 23 | 3 => 3 | 212 => 49 | 0 => 0 | 4 => 4 | 46 => 52 | 5 => 5 | 9 => 9 | n => n, fun | 17 => 0 | n => n⟩
theorem Tryf.lays284 : Go.Proofs.LaysM.n284 Tryf.prog Tryf.lays284_ren := {
  mixed := by kernel_rfl
  f129 := Tryf.func24.trans (congrArg some (by kernel_rfl))
  f284 := Tryf.func20.trans (congrArg some (by kernel_rfl))
  f317 := Tryf.func23.trans (congrArg some (by kernel_rfl))
  f318 := Tryf.func25.trans (congrArg some (by kernel_rfl))
  t0 := Tryf.underlying0
  a0 := Tryf.isAgg0
  z0 := Tryf.sizeOf0
  v0 := Tryf.zeroValue0
  t3 := Tryf.underlying3
  a3 := Tryf.isAgg3
  z3 := Tryf.sizeOf3
  v3 := Tryf.zeroValue3
  t4 := Tryf.underlying4
  a4 := Tryf.isAgg4
  z4 := Tryf.sizeOf4
  v4 := Tryf.zeroValue4
  t5 := Tryf.underlying5
  a5 := Tryf.isAgg5
  z5 := Tryf.sizeOf5
  v5 := Tryf.zeroValue5
  t9 := Tryf.underlying9
  a9 := Tryf.isAgg9
  z9 := Tryf.sizeOf9
  v9 := Tryf.zeroValue9
  t46 := Tryf.underlying52
  a46 := Tryf.isAgg52
  z46 := Tryf.sizeOf52
  v46 := Tryf.zeroValue52
  t53 := Tryf.underlying23
  a53 := Tryf.isAgg23
  z53 := Tryf.sizeOf23
  v53 := Tryf.zeroValue23
  t212 := Tryf.underlying49
  a212 := Tryf.isAgg49
  z212 := Tryf.sizeOf49
  v212 := Tryf.zeroValue49
  g17 := by kernel_rfl
  i0 := by kernel_rfl
  i3 := by kernel_rfl
  i4 := by kernel_rfl
  i5 := by kernel_rfl
  i9 := by kernel_rfl
  i46 := by kernel_rfl
  i53 := by kernel_rfl
  i212 := by kernel_rfl
  m17 := by kernel_rfl }
def Tryf.lays285_ren : Go.Shelf.Ren := ⟨fun | 285 => 21 | n => n, fun | 37 => 44 | 53 => 23 | 3 => 3 | 4 => 4 | 51 => 22 | 9 => 9 | 5 => 5 | 0 => 0 | n => n, fun | n => n⟩
theorem Tryf.lays285 : Go.Proofs.Lays.n285 Tryf.prog Tryf.lays285_ren := {
  mixed := by kernel_rfl
  f285 := Tryf.func21.trans (congrArg some (by kernel_rfl))
  t0 := Tryf.underlying0
  a0 := Tryf.isAgg0
  z0 := Tryf.sizeOf0
  v0 := Tryf.zeroValue0
  t3 := Tryf.underlying3
  a3 := Tryf.isAgg3
  z3 := Tryf.sizeOf3
  v3 := Tryf.zeroValue3
  t4 := Tryf.underlying4
  a4 := Tryf.isAgg4
  z4 := Tryf.sizeOf4
  v4 := Tryf.zeroValue4
  t5 := Tryf.underlying5
  a5 := Tryf.isAgg5
  z5 := Tryf.sizeOf5
  v5 := Tryf.zeroValue5
  t9 := Tryf.underlying9
  a9 := Tryf.isAgg9
  z9 := Tryf.sizeOf9
  v9 := Tryf.zeroValue9
  t37 := Tryf.underlying44
  a37 := Tryf.isAgg44
  z37 := Tryf.sizeOf44
  v37 := Tryf.zeroValue44
  t51 := Tryf.underlying22
  a51 := Tryf.isAgg22
  z51 := Tryf.sizeOf22
  v51 := Tryf.zeroValue22
  t53 := Tryf.underlying23
  a53 := Tryf.isAgg23
  z53 := Tryf.sizeOf23
  v53 := Tryf.zeroValue23 }
end Go.Proofs
