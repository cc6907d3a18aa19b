/-
  DERIVED: THE SHELF's CONTRACTS AT THIS DUMP, IN PLAIN WORDS (tools/lay-plain.mjs out of 'TryzLayU.lean', which tools/lay-shelf.mjs wrote): THE SAME DECLARATIONS UNDER THE SAME NAMES: 'import', 'namespace', 'open', 'def', 'theorem' AND NOTHING ELSE: no command of the shelf's: FOR A HAND-IN. Each laying: the table of numbers ('.._ren') and one theorem, a field a fact of the dump's own or the kernel's comparison; each contract: ONE APPLICATION.
-/
import Derived.Shelf.SlGeneric
import Derived.Shelf.SlLaysE
import Derived.Ground.SlgnProg
import Derived.Test.YtpadpdmidiaeoaaGreatDoorProg
namespace Go.Proofs
open Go.Shelf
def Tryz.lContB_ren : Go.Shelf.Ren := ⟨fun | 31 => 48 | 29 => 68 | n => n, fun | 22 => 33 | 23 => 5 | 4 => 4 | 3 => 3 | 0 => 0 | n => n, fun | n => n⟩
theorem Tryz.lContB : Go.Proofs.SlLaysE.n31 Tryz.prog Tryz.lContB_ren := {
  mixed := by kernel_rfl
  f29 := ⟨Tryz.f68.name, by decide, Tryz.func68.trans (congrArg some (by kernel_rfl))⟩
  f31 := ⟨Tryz.f48.name, by decide, Tryz.func48.trans (congrArg some (by kernel_rfl))⟩
  t0 := Tryz.underlying0
  a0 := Tryz.isAgg0
  z0 := Tryz.sizeOf0
  v0 := Tryz.zeroValue0
  t3 := Tryz.underlying3
  a3 := Tryz.isAgg3
  z3 := Tryz.sizeOf3
  v3 := Tryz.zeroValue3
  t4 := Tryz.underlying4
  a4 := Tryz.isAgg4
  z4 := Tryz.sizeOf4
  v4 := Tryz.zeroValue4
  t22 := Tryz.underlying33
  a22 := Tryz.isAgg33
  z22 := Tryz.sizeOf33
  v22 := Tryz.zeroValue33
  a23 := Tryz.isAgg5
  z23 := Tryz.sizeOf5 }
end Go.Proofs
