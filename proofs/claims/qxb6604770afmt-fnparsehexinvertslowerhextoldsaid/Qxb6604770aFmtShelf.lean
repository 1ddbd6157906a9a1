/-
  DERIVED: THE SHELF's CONTRACTS AT THIS DUMP, IN PLAIN WORDS (tools/lay-plain.mjs out of 'Qxb6604770aFmtShelf0.lean', which tools/lay-shelf.mjs wrote): THE SAME DECLARATIONS UNDER THE SAME NAMES: 'import', 'namespace', 'open', 'def', 'theorem' AND NOTHING ELSE: no command of the shelf's: FOR A HAND-IN. Each laying: the table of numbers ('.._ren') and one theorem, a field a fact of the dump's own or the kernel's comparison; each contract: ONE APPLICATION.
-/
import Derived.Shelf.Hex.Decode
import Derived.Test.Qxb6604770aFmtProg
namespace Go.Proofs
open Go.Shelf
def Tryf.lays43_ren : Go.Shelf.Ren := ⟨fun | 43 => 12 | 42 => 15 | 44 => 16 | n => n, fun | 9 => 9 | 30 => 23 | 35 => 25 | 3 => 3 | 38 => 37 | 4 => 4 | 0 => 0 | 5 => 5 | 47 => 42 | 46 => 31 | 45 => 44 | n => n, fun | 0 => 0 | n => n⟩
theorem Tryf.lays43 : Go.Proofs.Lays.ph43 Tryf.prog Tryf.lays43_ren := {
  mixed := by kernel_rfl
  f42 := Tryf.func15.trans (congrArg some (by kernel_rfl))
  f43 := Tryf.func12.trans (congrArg some (by kernel_rfl))
  f44 := Tryf.func16.trans (congrArg some (by kernel_rfl))
  t0 := Tryf.underlying0
  a0 := Tryf.isAgg0
  z0 := Tryf.sizeOf0
  v0 := Tryf.zeroValue0
  t3 := Tryf.underlying3
  a3 := Tryf.isAgg3
  z3 := Tryf.sizeOf3
  v3 := Tryf.zeroValue3
  t4 := Tryf.underlying4
  a4 := Tryf.isAgg4
  z4 := Tryf.sizeOf4
  v4 := Tryf.zeroValue4
  t5 := Tryf.underlying5
  a5 := Tryf.isAgg5
  z5 := Tryf.sizeOf5
  v5 := Tryf.zeroValue5
  t9 := Tryf.underlying9
  a9 := Tryf.isAgg9
  z9 := Tryf.sizeOf9
  v9 := Tryf.zeroValue9
  t30 := Tryf.underlying23
  a30 := Tryf.isAgg23
  z30 := Tryf.sizeOf23
  v30 := Tryf.zeroValue23
  t35 := Tryf.underlying25
  a35 := Tryf.isAgg25
  z35 := Tryf.sizeOf25
  v35 := Tryf.zeroValue25
  t38 := Tryf.underlying37
  a38 := Tryf.isAgg37
  z38 := Tryf.sizeOf37
  v38 := Tryf.zeroValue37
  t45 := Tryf.underlying44
  a45 := Tryf.isAgg44
  z45 := Tryf.sizeOf44
  v45 := Tryf.zeroValue44
  t46 := Tryf.underlying31
  a46 := Tryf.isAgg31
  z46 := Tryf.sizeOf31
  v46 := Tryf.zeroValue31
  t47 := Tryf.underlying42
  a47 := Tryf.isAgg42
  z47 := Tryf.sizeOf42
  v47 := Tryf.zeroValue42
  g0 := by kernel_rfl
  info5 := by kernel_rfl }
end Go.Proofs
