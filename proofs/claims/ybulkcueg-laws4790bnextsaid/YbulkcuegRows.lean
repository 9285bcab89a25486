/-
  No cell of these rows narrows 'for every input' (looked for: loops, veiled, ifaces, maps, wideKeys, modest, calm, conditions, laid).
  DERIVED. THE GIVEN ROWS OF THIS SEAT. 1 by the template 'for every input the law returns true; each argument reads behind the call as it read before'; 0 by the template 'total and deterministic' (their statements: YbulkcuegTotals.lean).
  GIVEN WITH THE SEED: the statements are not yours to turn. If you find one false, say at which input.
  Laid BY PROGRAM, IN A SANDBOX (cutbox-rows.mjs): the forced cells as the released guide's own fill.sh prints them over the translation e668e0e44e481141… (all of the seat's roots in one cut). By AI agents, Wed Nov 11 2026. No macro, syntax, notation, axiom, sorry.
-/
import Derived.Test.YbulkcuegChecked
import GoSem.Claim
import GoSem.ClaimJoined
import GoSem.ClaimMapViews
import Derived.JoinedTies
import Derived.KernelRfl
namespace Go.Proofs.Ybulkcueg
/- THE CELL 'sum', in the pinned program and in every row, IS THE sha256 OF THE DUMP (.gsa) THAT YbulkcuegProg.lean LOADS. Nothing in Lean hashes anything: it is a label: what it is worth is what the hold of that sum in a sandbox is worth. -/
noncomputable def Yba.pinned : Pinned := { name := "ybulkcueg", sum := "e668e0e44e4811410b1bd45016a7fca166abdae12d816df6bf972ff2171b3525", checked := Yba.checked }
namespace Rows
def none {H : Type} : Left H := { results := [], args := [] }

/-- 'homeward.LawS4790BNext': WHATEVER THE INPUT: true; the input reads as it did. -/
def lawS4790BNextSpec : ChangeSpec := { name := "lawS4790BNext", fn := fun _ => fun
  | [d1, d2, d3, d4, d5, d6, d7, d8, d9, d10] => { results := [.lit (.bool true)], args := [d1, d2, d3, d4, d5, d6, d7, d8, d9, d10] }
  | _ => none }
def lawS4790BNextRow : OpenClaim := { program := "ybulkcueg", sum := "e668e0e44e4811410b1bd45016a7fca166abdae12d816df6bf972ff2171b3525", func := "example.com/homeward/homeward.LawS4790BNext", spec := "lawS4790BNext", unfollowed := true, recurses := true, plainKeys := false, apart := false }
def LawS4790BNextSaid : Prop := lawS4790BNextRow.holds Yba.pinned (OpenSpec.ofChange lawS4790BNextSpec)

/-- ITS FALSE NEIGHBOUR: 'it returns false'. Refute it at one input. -/
def lawS4790BNextWrong : ChangeSpec := { name := "lawS4790BNext", fn := fun _ => fun
  | [d1, d2, d3, d4, d5, d6, d7, d8, d9, d10] => { results := [.lit (.bool false)], args := [d1, d2, d3, d4, d5, d6, d7, d8, d9, d10] }
  | _ => none }
def LawS4790BNextWrongFalsely : Prop := lawS4790BNextRow.holds Yba.pinned (OpenSpec.ofChange lawS4790BNextWrong)

end Rows
end Go.Proofs.Ybulkcueg
