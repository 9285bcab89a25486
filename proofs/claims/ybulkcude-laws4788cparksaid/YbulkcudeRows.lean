/-
  No cell of these rows narrows 'for every input' (looked for: loops, veiled, ifaces, maps, wideKeys, modest, calm, conditions, laid).
  DERIVED. THE GIVEN ROWS OF THIS SEAT. 2 by the template 'for every input the law returns true; each argument reads behind the call as it read before'; 0 by the template 'total and deterministic' (their statements: YbulkcudeTotals.lean).
  GIVEN WITH THE SEED: the statements are not yours to turn. If you find one false, say at which input.
  Laid BY PROGRAM, IN A SANDBOX (cutbox-rows.mjs): the forced cells as the released guide's own fill.sh prints them over the translation 8f330744fb03e8c4… (all of the seat's roots in one cut). By AI agents, Wed Nov 11 2026. No macro, syntax, notation, axiom, sorry.
-/
import Derived.Test.YbulkcudeChecked
import GoSem.Claim
import GoSem.ClaimJoined
import GoSem.ClaimMapViews
import Derived.JoinedTies
import Derived.KernelRfl
namespace Go.Proofs.Ybulkcude
/- THE CELL 'sum', in the pinned program and in every row, IS THE sha256 OF THE DUMP (.gsa) THAT YbulkcudeProg.lean LOADS. Nothing in Lean hashes anything: it is a label: what it is worth is what the hold of that sum in a sandbox is worth. -/
noncomputable def Yba.pinned : Pinned := { name := "ybulkcude", sum := "8f330744fb03e8c464f606bb317cb6929c2ec2f322b0874b91c7d56083d8710a", checked := Yba.checked }
namespace Rows
def none {H : Type} : Left H := { results := [], args := [] }

/-- 'mutask.LawS4788BSettledReturns': WHATEVER THE INPUT: true; the input reads as it did. -/
def lawS4788BSettledReturnsSpec : ChangeSpec := { name := "lawS4788BSettledReturns", fn := fun _ => fun
  | [d] => { results := [.lit (.bool true)], args := [d] }
  | _ => none }
def lawS4788BSettledReturnsRow : OpenClaim := { program := "ybulkcude", sum := "8f330744fb03e8c464f606bb317cb6929c2ec2f322b0874b91c7d56083d8710a", func := "example.com/mutask/mutask.LawS4788BSettledReturns", spec := "lawS4788BSettledReturns", inPlace := ["sync/atomic.AddUint64", "sync/atomic.LoadUint64", "(*sync.Cond).Wait", "(*sync.copyChecker).check", "sync.runtime_notifyListAdd", "internal/race.Read", "sync.runtime_notifyListWait"], unfollowed := true, recurses := true, apart := false }
def LawS4788BSettledReturnsSaid : Prop := lawS4788BSettledReturnsRow.holds Yba.pinned (OpenSpec.ofChange lawS4788BSettledReturnsSpec)

/-- ITS FALSE NEIGHBOUR: 'it returns false'. Refute it at one input. -/
def lawS4788BSettledReturnsWrong : ChangeSpec := { name := "lawS4788BSettledReturns", fn := fun _ => fun
  | [d] => { results := [.lit (.bool false)], args := [d] }
  | _ => none }
def LawS4788BSettledReturnsWrongFalsely : Prop := lawS4788BSettledReturnsRow.holds Yba.pinned (OpenSpec.ofChange lawS4788BSettledReturnsWrong)

/-- 'mutask.LawS4788CPark': WHATEVER THE INPUT: true; the input reads as it did. -/
def lawS4788CParkSpec : ChangeSpec := { name := "lawS4788CPark", fn := fun _ => fun
  | [d1, d2, d3, d4] => { results := [.lit (.bool true)], args := [d1, d2, d3, d4] }
  | _ => none }
def lawS4788CParkRow : OpenClaim := { program := "ybulkcude", sum := "8f330744fb03e8c464f606bb317cb6929c2ec2f322b0874b91c7d56083d8710a", func := "example.com/mutask/mutask.LawS4788CPark", spec := "lawS4788CPark", inPlace := ["sync/atomic.AddInt64", "sync/atomic.StoreInt32", "sync/atomic.CompareAndSwapInt32", "sync/atomic.LoadInt64", "sync/atomic.LoadInt32"], apart := false }
def LawS4788CParkSaid : Prop := lawS4788CParkRow.holds Yba.pinned (OpenSpec.ofChange lawS4788CParkSpec)

/-- ITS FALSE NEIGHBOUR: 'it returns false'. Refute it at one input. -/
def lawS4788CParkWrong : ChangeSpec := { name := "lawS4788CPark", fn := fun _ => fun
  | [d1, d2, d3, d4] => { results := [.lit (.bool false)], args := [d1, d2, d3, d4] }
  | _ => none }
def LawS4788CParkWrongFalsely : Prop := lawS4788CParkRow.holds Yba.pinned (OpenSpec.ofChange lawS4788CParkWrong)

end Rows
end Go.Proofs.Ybulkcude
