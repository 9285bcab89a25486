/-
  No cell of these rows narrows 'for every input' (looked for: loops, veiled, ifaces, maps, wideKeys, modest, calm, conditions, laid).
  DERIVED. THE GIVEN ROWS OF THIS SEAT. 3 by the template 'for every input the law returns true; each argument reads behind the call as it read before'; 0 by the template 'total and deterministic' (their statements: YbulkcugyTotals.lean).
  GIVEN WITH THE SEED: the statements are not yours to turn. If you find one false, say at which input.
  Laid BY PROGRAM, IN A SANDBOX (cutbox-rows.mjs): the forced cells as the released guide's own fill.sh prints them over the translation 1af5cec8e529ed53… (all of the seat's roots in one cut). By AI agents, Wed Nov 11 2026. No macro, syntax, notation, axiom, sorry.
-/
import Derived.Test.YbulkcugyChecked
import GoSem.Claim
import GoSem.ClaimJoined
import GoSem.ClaimMapViews
import Derived.JoinedTies
import Derived.KernelRfl
namespace Go.Proofs.Ybulkcugy
/- THE CELL 'sum', in the pinned program and in every row, IS THE sha256 OF THE DUMP (.gsa) THAT YbulkcugyProg.lean LOADS. Nothing in Lean hashes anything: it is a label: what it is worth is what the hold of that sum in a sandbox is worth. -/
noncomputable def Yba.pinned : Pinned := { name := "ybulkcugy", sum := "1af5cec8e529ed53ad97b6b602e01f566ce12e4cd73bacda0b6bfbfb9d1eb0ae", checked := Yba.checked }
namespace Rows
def none {H : Type} : Left H := { results := [], args := [] }

/-- 'nat.LawS4795AShoup': WHATEVER THE INPUT: true; the input reads as it did. -/
def lawS4795AShoupSpec : ChangeSpec := { name := "lawS4795AShoup", fn := fun _ => fun
  | [d1, d2] => { results := [.lit (.bool true)], args := [d1, d2] }
  | _ => none }
def lawS4795AShoupRow : OpenClaim := { program := "ybulkcugy", sum := "1af5cec8e529ed53ad97b6b602e01f566ce12e4cd73bacda0b6bfbfb9d1eb0ae", func := "example.com/trybble/trybble/internal/nat.LawS4795AShoup", spec := "lawS4795AShoup", apart := false }
def LawS4795AShoupSaid : Prop := lawS4795AShoupRow.holds Yba.pinned (OpenSpec.ofChange lawS4795AShoupSpec)

/-- ITS FALSE NEIGHBOUR: 'it returns false'. Refute it at one input. -/
def lawS4795AShoupWrong : ChangeSpec := { name := "lawS4795AShoup", fn := fun _ => fun
  | [d1, d2] => { results := [.lit (.bool false)], args := [d1, d2] }
  | _ => none }
def LawS4795AShoupWrongFalsely : Prop := lawS4795AShoupRow.holds Yba.pinned (OpenSpec.ofChange lawS4795AShoupWrong)

/-- 'nat.LawS4795ASibling': WHATEVER THE INPUT: true; the input reads as it did. -/
def lawS4795ASiblingSpec : ChangeSpec := { name := "lawS4795ASibling", fn := fun _ => fun
  | [d1, d2] => { results := [.lit (.bool true)], args := [d1, d2] }
  | _ => none }
def lawS4795ASiblingRow : OpenClaim := { program := "ybulkcugy", sum := "1af5cec8e529ed53ad97b6b602e01f566ce12e4cd73bacda0b6bfbfb9d1eb0ae", func := "example.com/trybble/trybble/internal/nat.LawS4795ASibling", spec := "lawS4795ASibling", named := ["math/bits.divideError", "math/bits.overflowError"], apart := false }
def LawS4795ASiblingSaid : Prop := lawS4795ASiblingRow.holds Yba.pinned (OpenSpec.ofChange lawS4795ASiblingSpec)

/-- ITS FALSE NEIGHBOUR: 'it returns false'. Refute it at one input. -/
def lawS4795ASiblingWrong : ChangeSpec := { name := "lawS4795ASibling", fn := fun _ => fun
  | [d1, d2] => { results := [.lit (.bool false)], args := [d1, d2] }
  | _ => none }
def LawS4795ASiblingWrongFalsely : Prop := lawS4795ASiblingRow.holds Yba.pinned (OpenSpec.ofChange lawS4795ASiblingWrong)

/-- 'nat.LawS4795CConstants': WHATEVER THE INPUT: true; the input reads as it did. -/
def lawS4795CConstantsSpec : ChangeSpec := { name := "lawS4795CConstants", fn := fun _ => fun
  | [d1, d2] => { results := [.lit (.bool true)], args := [d1, d2] }
  | _ => none }
def lawS4795CConstantsRow : OpenClaim := { program := "ybulkcugy", sum := "1af5cec8e529ed53ad97b6b602e01f566ce12e4cd73bacda0b6bfbfb9d1eb0ae", func := "example.com/trybble/trybble/internal/nat.LawS4795CConstants", spec := "lawS4795CConstants", inPlace := ["math/bits.Sub64"], named := ["math/bits.divideError", "math/bits.overflowError"], apart := false }
def LawS4795CConstantsSaid : Prop := lawS4795CConstantsRow.holds Yba.pinned (OpenSpec.ofChange lawS4795CConstantsSpec)

/-- ITS FALSE NEIGHBOUR: 'it returns false'. Refute it at one input. -/
def lawS4795CConstantsWrong : ChangeSpec := { name := "lawS4795CConstants", fn := fun _ => fun
  | [d1, d2] => { results := [.lit (.bool false)], args := [d1, d2] }
  | _ => none }
def LawS4795CConstantsWrongFalsely : Prop := lawS4795CConstantsRow.holds Yba.pinned (OpenSpec.ofChange lawS4795CConstantsWrong)

end Rows
end Go.Proofs.Ybulkcugy
