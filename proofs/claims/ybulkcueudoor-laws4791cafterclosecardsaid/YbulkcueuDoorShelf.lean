/-
  The shelf's contract of path.Base at this dump, in plain words: written by the kit's own lay-shelf.mjs and lay-plain.mjs for this program.
-/
import Derived.Shelf.Path.Small
import Derived.Test.YbulkcueuDoorProg
namespace Go.Proofs
open Go.Shelf
def Ybad.laysPa25_ren : Go.Shelf.Ren := ⟨fun | 25 => 36 | 45 => 49 | n => n, fun | 9 => 9 | 4 => 4 | 3 => 3 | 5 => 5 | n => n, fun | n => n⟩
theorem Ybad.laysPa25 : Go.Proofs.Lays.p25 Ybad.prog Ybad.laysPa25_ren := {
  mixed := by kernel_rfl
  f25 := Ybad.func36.trans (congrArg some (by kernel_rfl))
  f45 := Ybad.func49.trans (congrArg some (by kernel_rfl))
  t3 := Ybad.underlying3
  a3 := Ybad.isAgg3
  z3 := Ybad.sizeOf3
  v3 := Ybad.zeroValue3
  t4 := Ybad.underlying4
  a4 := Ybad.isAgg4
  z4 := Ybad.sizeOf4
  v4 := Ybad.zeroValue4
  t5 := Ybad.underlying5
  a5 := Ybad.isAgg5
  z5 := Ybad.sizeOf5
  v5 := Ybad.zeroValue5
  t9 := Ybad.underlying9
  a9 := Ybad.isAgg9
  z9 := Ybad.sizeOf9
  v9 := Ybad.zeroValue9 }
open Go.RowKit Go.Lib in
theorem Ybad.path_Base (s : ByteArray) (w : World) (hs : s.size ≤ 9223372036854775807) :
    Calls Ybad.prog 36 #[.string s] w fun e w' => e = .returned (.string ⟨(Pa.base s.data.toList).toArray⟩) ∧ w' = w := Any.path_Base Ybad.laysPa25 s w hs
end Go.Proofs
