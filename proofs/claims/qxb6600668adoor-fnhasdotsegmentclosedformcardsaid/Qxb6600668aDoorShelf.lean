/-
  DERIVED: THE SHELF's CONTRACTS AT THIS DUMP, IN PLAIN WORDS (tools/lay-plain.mjs out of 'Qxb6600668aDoorShelf.lean', which tools/lay-shelf.mjs wrote): THE SAME DECLARATIONS UNDER THE SAME NAMES: 'import', 'namespace', 'open', 'def', 'theorem' AND NOTHING ELSE: no command of the shelf's: FOR A HAND-IN. Each laying: the table of numbers ('.._ren') and one theorem, a field a fact of the dump's own or the kernel's comparison; each contract: ONE APPLICATION.
-/
import Derived.Shelf.Strings.Search3
import Derived.Ground.NamesProg
import Derived.Test.Qxb6600668aDoorProg
namespace Go.Proofs
open Go.Shelf
def Tryd.lays143_ren : Go.Shelf.Ren := ⟨fun | 143 => 14 | 219 => 16 | 217 => 17 | 225 => 18 | 224 => 19 | 267 => 20 | 266 => 21 | 314 => 22 | n => n, fun | 9 => 9 | 3 => 3 | 4 => 4 | 5 => 5 | 46 => 32 | 146 => 39 | 51 => 38 | n => n, fun | 1 => 2 | n => n⟩
theorem Tryd.lays143 : Go.Proofs.Lays.n143 Tryd.prog Tryd.lays143_ren := {
  mixed := by kernel_rfl
  f143 := Tryd.func14.trans (congrArg some (by kernel_rfl))
  f217 := Tryd.func17.trans (congrArg some (by kernel_rfl))
  f219 := Tryd.func16.trans (congrArg some (by kernel_rfl))
  f224 := Tryd.func19.trans (congrArg some (by kernel_rfl))
  f225 := Tryd.func18.trans (congrArg some (by kernel_rfl))
  f266 := Tryd.func21.trans (congrArg some (by kernel_rfl))
  f267 := Tryd.func20.trans (congrArg some (by kernel_rfl))
  f314 := Tryd.func22.trans (congrArg some (by kernel_rfl))
  t3 := Tryd.underlying3
  a3 := Tryd.isAgg3
  z3 := Tryd.sizeOf3
  v3 := Tryd.zeroValue3
  t4 := Tryd.underlying4
  a4 := Tryd.isAgg4
  z4 := Tryd.sizeOf4
  v4 := Tryd.zeroValue4
  t5 := Tryd.underlying5
  a5 := Tryd.isAgg5
  z5 := Tryd.sizeOf5
  v5 := Tryd.zeroValue5
  t9 := Tryd.underlying9
  a9 := Tryd.isAgg9
  z9 := Tryd.sizeOf9
  v9 := Tryd.zeroValue9
  t46 := Tryd.underlying32
  a46 := Tryd.isAgg32
  z46 := Tryd.sizeOf32
  v46 := Tryd.zeroValue32
  t51 := Tryd.underlying38
  a51 := Tryd.isAgg38
  z51 := Tryd.sizeOf38
  v51 := Tryd.zeroValue38
  t146 := Tryd.underlying39
  a146 := Tryd.isAgg39
  z146 := Tryd.sizeOf39
  v146 := Tryd.zeroValue39
  g1 := by kernel_rfl }
end Go.Proofs
