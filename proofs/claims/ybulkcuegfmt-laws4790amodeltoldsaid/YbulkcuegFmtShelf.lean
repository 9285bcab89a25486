import Derived.Ground.SlgnProg
import Derived.Shelf.SlicesE.Clone
import Derived.Test.YbulkcuegFmtProg
namespace Go.Proofs
open Go.Shelf
def Ybaf.cloneL20_ren : Go.Shelf.Ren := ⟨fun | 41 => 20 | n => n, fun | 22 => 25 | 23 => 43 | 4 => 4 | n => n, fun | n => n⟩
theorem Ybaf.cloneL20 : Go.Proofs.SlLaysE0.n41 Ybaf.prog Ybaf.cloneL20_ren := {
  mixed := by kernel_rfl
  f41 := ⟨Ybaf.f20.name, by decide, Ybaf.func20.trans (congrArg some (by kernel_rfl))⟩
  t4 := Ybaf.underlying4
  a4 := Ybaf.isAgg4
  z4 := Ybaf.sizeOf4
  v4 := Ybaf.zeroValue4
  t22 := Ybaf.underlying25
  a22 := Ybaf.isAgg25
  z22 := Ybaf.sizeOf25
  v22 := Ybaf.zeroValue25 }
def Ybaf.cloneL22_ren : Go.Shelf.Ren := ⟨fun | 41 => 22 | n => n, fun | 22 => 27 | 23 => 29 | 4 => 4 | n => n, fun | n => n⟩
theorem Ybaf.cloneL22 : Go.Proofs.SlLaysE0.n41 Ybaf.prog Ybaf.cloneL22_ren := {
  mixed := by kernel_rfl
  f41 := ⟨Ybaf.f22.name, by decide, Ybaf.func22.trans (congrArg some (by kernel_rfl))⟩
  t4 := Ybaf.underlying4
  a4 := Ybaf.isAgg4
  z4 := Ybaf.sizeOf4
  v4 := Ybaf.zeroValue4
  t22 := Ybaf.underlying27
  a22 := Ybaf.isAgg27
  z22 := Ybaf.sizeOf27
  v22 := Ybaf.zeroValue27 }
def Ybaf.cloneL23_ren : Go.Shelf.Ren := ⟨fun | 41 => 23 | n => n, fun | 22 => 35 | 23 => 105 | 4 => 4 | n => n, fun | n => n⟩
theorem Ybaf.cloneL23 : Go.Proofs.SlLaysE0.n41 Ybaf.prog Ybaf.cloneL23_ren := {
  mixed := by kernel_rfl
  f41 := ⟨Ybaf.f23.name, by decide, Ybaf.func23.trans (congrArg some (by kernel_rfl))⟩
  t4 := Ybaf.underlying4
  a4 := Ybaf.isAgg4
  z4 := Ybaf.sizeOf4
  v4 := Ybaf.zeroValue4
  t22 := Ybaf.underlying35
  a22 := Ybaf.isAgg35
  z22 := Ybaf.sizeOf35
  v22 := Ybaf.zeroValue35 }
def Ybaf.cloneL24_ren : Go.Shelf.Ren := ⟨fun | 41 => 24 | n => n, fun | 22 => 36 | 23 => 3 | 4 => 4 | n => n, fun | n => n⟩
theorem Ybaf.cloneL24 : Go.Proofs.SlLaysE0.n41 Ybaf.prog Ybaf.cloneL24_ren := {
  mixed := by kernel_rfl
  f41 := ⟨Ybaf.f24.name, by decide, Ybaf.func24.trans (congrArg some (by kernel_rfl))⟩
  t4 := Ybaf.underlying4
  a4 := Ybaf.isAgg4
  z4 := Ybaf.sizeOf4
  v4 := Ybaf.zeroValue4
  t22 := Ybaf.underlying36
  a22 := Ybaf.isAgg36
  z22 := Ybaf.sizeOf36
  v22 := Ybaf.zeroValue36 }
def Ybaf.cloneL28_ren : Go.Shelf.Ren := ⟨fun | 41 => 28 | n => n, fun | 22 => 126 | 23 => 129 | 4 => 4 | n => n, fun | n => n⟩
theorem Ybaf.cloneL28 : Go.Proofs.SlLaysE0.n41 Ybaf.prog Ybaf.cloneL28_ren := {
  mixed := by kernel_rfl
  f41 := ⟨Ybaf.f28.name, by decide, Ybaf.func28.trans (congrArg some (by kernel_rfl))⟩
  t4 := Ybaf.underlying4
  a4 := Ybaf.isAgg4
  z4 := Ybaf.sizeOf4
  v4 := Ybaf.zeroValue4
  t22 := Ybaf.underlying126
  a22 := Ybaf.isAgg126
  z22 := Ybaf.sizeOf126
  v22 := Ybaf.zeroValue126 }
def Ybaf.cloneL32_ren : Go.Shelf.Ren := ⟨fun | 41 => 32 | n => n, fun | 22 => 32 | 23 => 117 | 4 => 4 | n => n, fun | n => n⟩
theorem Ybaf.cloneL32 : Go.Proofs.SlLaysE0.n41 Ybaf.prog Ybaf.cloneL32_ren := {
  mixed := by kernel_rfl
  f41 := ⟨Ybaf.f32.name, by decide, Ybaf.func32.trans (congrArg some (by kernel_rfl))⟩
  t4 := Ybaf.underlying4
  a4 := Ybaf.isAgg4
  z4 := Ybaf.sizeOf4
  v4 := Ybaf.zeroValue4
  t22 := Ybaf.underlying32
  a22 := Ybaf.isAgg32
  z22 := Ybaf.sizeOf32
  v22 := Ybaf.zeroValue32 }
end Go.Proofs
