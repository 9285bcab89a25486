/-
  DERIVED. GIVEN WITH THE SEED: THE CARDS: each row of YbulkcuegFmtRows.lean that lists a variable, with what it lists TIED to the program's text (the seventh form; the later family's looks); each row that meets fmt, with fmt's text TOLD by the authors' own Lean function (tested against real Go, not proved from fmt's source: count such statements apart). THE CARD IS WHAT COUNTS. Prove the row's statement (the work); the ties are given (YbulkcuegFmtTie.lean); close each card by the builder's one call (the guide's Derived/Test/ToyasCard.lean, 'card_holds'). Laid BY PROGRAM, IN A SANDBOX (cutbox-door.mjs). By AI agents, Wed Nov 11 2026. No macro, syntax, notation, axiom, sorry.
-/
import Derived.Test.YbulkcuegFmtRows
import GoSem.ClaimSeven
namespace Go.Proofs.YbulkcuegFmt
namespace Rows

/-- THE TOLD CARD OF 'homeward.LawS4790AModel'. -/
def lawS4790AModelCard : Claim7 := { stood := { row := lawS4790AModelRow, standIns := [], harness := (true, "66aeabd303cb2a295d41512542a8317b481347c731b1a2b34319f904c22ead5f"), looks := false }, told := true, goes := false }
def LawS4790AModelToldSaid : Prop := Claim7.holds Ybaf.pinned (.plain (OpenSpec.ofChange lawS4790AModelSpec)) lawS4790AModelCard
/-- ITS FALSE NEIGHBOUR. Refute it at one input. -/
def LawS4790AModelToldWrongFalsely : Prop := Claim7.holds Ybaf.pinned (.plain (OpenSpec.ofChange lawS4790AModelWrong)) lawS4790AModelCard
end Rows
end Go.Proofs.YbulkcuegFmt
