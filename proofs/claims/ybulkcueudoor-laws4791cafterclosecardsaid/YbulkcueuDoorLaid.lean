import Derived.Test.YbulkcueuDoorRows
import Derived.Test.YbulkcueuDoorLaw5
import Derived.ProofKit
import Derived.LaidMore
import Derived.OpenShut
import Derived.MakeChecks
import Derived.LaidEql
import Derived.Stop.LaidErr
import Derived.Stop.Joined
namespace Go.Proofs.YbulkcueuDoor
open Go.ChangeShapes Go.WideShapes Go.ChangeAt Go.RowKit
open Go.ChangeMaps (open_string shut_string)
theorem own : ownKnob Ybad.prog.godebug = none := by kernel_rfl
theorem laidOut : laidOutB Ybad.prog = true := by kernel_rfl
theorem cells169 : Ybad.prog.cellsOf 169 = 1 := by kernel_rfl
theorem cells9 : Ybad.prog.cellsOf 9 = 1 := by kernel_rfl
theorem gtype : (Ybad.prog.globals[3]?).map (·.type) = some 33 := by kernel_rfl
/-- the one listed variable, as both rows list it -/
abbrev laid1 : List (String × DataW Unit) := Rows.lawS4791CStatRow.laid
theorem gname : Ybad.prog.globalNamed ((laid1.map Prod.fst).headD default) = some 3 := by kernel_rfl
/-- the dynamic type's name, as the datum says it -/
def nameIn : DataW Unit → String
  | .iface n _ => n
  | _ => default
theorem row143 (u : TypeId) (h : Ybad.prog.typeName? 3 u = some (nameIn Rows.laid_io_fs_ErrClosed)) : u = 143 :=
  typeName_ptr_named (nm := "errors.errorString") (by kernel_rfl) (by kernel_rfl) (by decide +kernel) u (h.trans (by decide +kernel))
theorem comp143 : (Ybad.prog.info? 143).map (·.comparable) = some true := by kernel_rfl
theorem some169 : (Ybad.prog.info? 169).map (·.size) = some 1 := by kernel_rfl

/-- WHAT THE CONDITION GIVES THE WALKS: the variable's one cell, and that it equals itself. -/
theorem of_laid {W : World} (h : laidMetH Ybad.prog laid1 W) : ∃ p : Addr, W.cell? ⟨3, 0, none⟩ = some (.iface 143 (.pointer (some p))) ∧
    ∀ w, (binOp .eql 33 (.iface 143 (.pointer (some p))) (.iface 143 (.pointer (some p)))).run Ybad.prog w = .ok (.bool true) w := by
  rw [MakeChecks.laidMetH_plain _ _ _ (by kernel_rfl)] at h
  obtain ⟨a0, s0, hv0, _, _, _⟩ := laid_sentinel (n := (laid1.map Prod.fst).headD default) h gname gtype Ybad.underlying33 row143 Ybad.underlying143 Ybad.underlying169 rfl rfl Ybad.underlying9 cells169 cells9
  refine ⟨a0, by simpa using World.var?_cell gname hv0 0, fun w => ?_⟩
  obtain ⟨i, hi, hc⟩ := Option.map_eq_some_iff.1 comp143
  obtain ⟨j, hj, _⟩ := Option.map_eq_some_iff.1 some169
  exact run_eql_iface_ptr_same w a0 Ybad.underlying33 Ybad.underlying143 hi hc hj

/-- The door's own heap meets the condition. -/
theorem door_met (os : Os) (args : Array Value) : laidMetH Ybad.prog laid1 ((World.doorLaid Ybad.prog 400 os).forCall (fun _ _ => 0) ⟨#[], args, []⟩).memory :=
  laidMetH_of_parts3 (fuel := 8) (laidMet_of_run' 8 (by kernel_rfl) (by kernel_rfl)) (by kernel_rfl) (by kernel_rfl)
end Go.Proofs.YbulkcueuDoor
