/-
  DERIVED: THE SHELF's CONTRACTS AT THIS DUMP, IN PLAIN WORDS (tools/lay-plain.mjs out of 'YbGrowShelf.lean', which tools/lay-shelf.mjs wrote): THE SAME DECLARATIONS UNDER THE SAME NAMES: 'import', 'namespace', 'open', 'def', 'theorem' AND NOTHING ELSE: no command of the shelf's: FOR A HAND-IN. Each laying: the table of numbers ('.._ren') and one theorem, a field a fact of the dump's own or the kernel's comparison; each contract: ONE APPLICATION.
-/
import Derived.Shelf.SlGeneric
import Derived.Shelf.Spec.SlicesGrow
import Derived.Ground.Names8Prog
import Derived.Test.YbulkcuegFmtProg
namespace Go.Proofs
open Go.Shelf
def Ybaf.growL_ren : Go.Shelf.Ren := ⟨fun | 4 => 44 | n => n, fun | 22 => 27 | 25 => 29 | 3 => 3 | 4 => 4 | 9 => 9 | 20 => 20 | 0 => 0 | n => n, fun | n => n⟩
theorem Ybaf.growL : Go.Proofs.Lays8.n4 Ybaf.prog Ybaf.growL_ren := {
  mixed := by kernel_rfl
  f4 := ⟨Ybaf.f44.name, by decide, Ybaf.func44.trans (congrArg some (by kernel_rfl))⟩
  t0 := Ybaf.underlying0
  a0 := Ybaf.isAgg0
  z0 := Ybaf.sizeOf0
  v0 := Ybaf.zeroValue0
  t3 := Ybaf.underlying3
  a3 := Ybaf.isAgg3
  z3 := Ybaf.sizeOf3
  v3 := Ybaf.zeroValue3
  t4 := Ybaf.underlying4
  a4 := Ybaf.isAgg4
  z4 := Ybaf.sizeOf4
  v4 := Ybaf.zeroValue4
  t9 := Ybaf.underlying9
  a9 := Ybaf.isAgg9
  z9 := Ybaf.sizeOf9
  v9 := Ybaf.zeroValue9
  t20 := Ybaf.underlying20
  a20 := Ybaf.isAgg20
  z20 := Ybaf.sizeOf20
  v20 := Ybaf.zeroValue20
  t22 := Ybaf.underlying27
  a22 := Ybaf.isAgg27
  z22 := Ybaf.sizeOf27
  v22 := Ybaf.zeroValue27 }
end Go.Proofs
