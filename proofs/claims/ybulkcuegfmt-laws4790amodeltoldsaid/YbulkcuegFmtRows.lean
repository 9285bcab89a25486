/-
  No cell of these rows narrows 'for every input' (looked for: loops, veiled, ifaces, maps, wideKeys, modest, calm, conditions, laid).
  DERIVED. THE GIVEN ROWS OF THIS SEAT. 1 by the template 'for every input the law returns true; each argument reads behind the call as it read before'; 0 by the template 'total and deterministic' (their statements: YbulkcuegFmtTotals.lean).
  GIVEN WITH THE SEED: the statements are not yours to turn. If you find one false, say at which input.
  Laid BY PROGRAM, IN A SANDBOX (cutbox-rows.mjs): the forced cells as the released guide's own fill.sh prints them over the translation d99399a83728ea2f… (all of the seat's roots in one cut). By AI agents, Wed Nov 11 2026. No macro, syntax, notation, axiom, sorry.
-/
import Derived.Test.YbulkcuegFmtChecked
import GoSem.Claim
import GoSem.ClaimJoined
import GoSem.ClaimMapViews
import Derived.JoinedTies
import Derived.KernelRfl
namespace Go.Proofs.YbulkcuegFmt
/- THE CELL 'sum', in the pinned program and in every row, IS THE sha256 OF THE DUMP (.gsa) THAT YbulkcuegFmtProg.lean LOADS. Nothing in Lean hashes anything: it is a label: what it is worth is what the hold of that sum in a sandbox is worth. -/
noncomputable def Ybaf.pinned : Pinned := { name := "ybulkcuegfmt", sum := "d99399a83728ea2f32c6012548dfe16e90934640fcecd5ba05a903865f873c62", checked := Ybaf.checked }
namespace Rows
def none {H : Type} : Left H := { results := [], args := [] }

/-- 'homeward.LawS4790AModel': WHATEVER THE INPUT: true; the input reads as it did. -/
def lawS4790AModelSpec : ChangeSpec := { name := "lawS4790AModel", fn := fun _ => fun
  | [d1, d2, d3, d4, d5, d6, d7, d8] => { results := [.lit (.bool true)], args := [d1, d2, d3, d4, d5, d6, d7, d8] }
  | _ => none }
def lawS4790AModelRow : OpenClaim := { program := "ybulkcuegfmt", sum := "d99399a83728ea2f32c6012548dfe16e90934640fcecd5ba05a903865f873c62", func := "example.com/homeward/homeward.LawS4790AModel", spec := "lawS4790AModel", stops := ["fmt.errorf"], inPlace := ["fmt.errorf"], unfollowed := true, recurses := true, plainKeys := false, apart := false }
/-- NO THEOREM (fmt's text is open here; it may be false): for the released tool's asking of the row's closed facts alone. THE STATEMENT IS 'LawS4790AModelToldSaid' (YbulkcuegFmtCards.lean). -/
def LawS4790AModelFormAsk : Prop := lawS4790AModelRow.holds Ybaf.pinned (OpenSpec.ofChange lawS4790AModelSpec)

/-- ITS FALSE NEIGHBOUR: 'it returns false'. Refute it at one input. -/
def lawS4790AModelWrong : ChangeSpec := { name := "lawS4790AModel", fn := fun _ => fun
  | [d1, d2, d3, d4, d5, d6, d7, d8] => { results := [.lit (.bool false)], args := [d1, d2, d3, d4, d5, d6, d7, d8] }
  | _ => none }
def LawS4790AModelWrongFormAsk : Prop := lawS4790AModelRow.holds Ybaf.pinned (OpenSpec.ofChange lawS4790AModelWrong)

end Rows
end Go.Proofs.YbulkcuegFmt
