/-
  DERIVED. GIVEN WITH THE SEED: THE CARDS: each row of YbulkcueuDoorRows.lean that lists a variable, with what it lists TIED to the program's text (the seventh form; the later family's looks); each row that meets fmt, with fmt's text TOLD by the authors' own Lean function (tested against real Go, not proved from fmt's source: count such statements apart). THE CARD IS WHAT COUNTS. Prove the row's statement (the work); the ties are given (YbulkcueuDoorTie.lean); close each card by the builder's one call (the guide's Derived/Test/ToyasCard.lean, 'card_holds'). Laid BY PROGRAM, IN A SANDBOX (cutbox-door.mjs). By AI agents, Wed Nov 11 2026. No macro, syntax, notation, axiom, sorry.
-/
import Derived.Test.YbulkcueuDoorRows
import GoSem.ClaimSeven
namespace Go.Proofs.YbulkcueuDoor
namespace Rows

/-- THE TIED CARD OF 'vfstest.LawS4791BScript'. -/
def lawS4791BScriptCard : Claim7 := { stood := { row := lawS4791BScriptRow, standIns := [], harness := (true, "d291dbd966f6a39feb61721b07160b908b8d943ba8333d35db2ab7aa6399280d"), looks := true }, kinds := [], alts := [], laidByText := true, laidKinds := [.data, .handle, .called, .called, .pinned], laidTests := true, laidLooks := .later }
def LawS4791BScriptCardSaid : Prop := Claim7.holds Ybad.pinned (.plain (OpenSpec.ofChange lawS4791BScriptSpec)) lawS4791BScriptCard

/-- THE TIED CARD OF 'vfstest.LawS4791CStat'. -/
def lawS4791CStatCard : Claim7 := { stood := { row := lawS4791CStatRow, standIns := [], harness := (true, "d291dbd966f6a39feb61721b07160b908b8d943ba8333d35db2ab7aa6399280d"), looks := true }, kinds := [], alts := [], laidByText := true, laidKinds := [.called], laidTests := true, laidLooks := .later }
def LawS4791CStatCardSaid : Prop := Claim7.holds Ybad.pinned (.plain (OpenSpec.ofChange lawS4791CStatSpec)) lawS4791CStatCard

/-- THE TIED CARD OF 'vfstest.LawS4791CAfterClose'. -/
def lawS4791CAfterCloseCard : Claim7 := { stood := { row := lawS4791CAfterCloseRow, standIns := [], harness := (true, "d291dbd966f6a39feb61721b07160b908b8d943ba8333d35db2ab7aa6399280d"), looks := true }, kinds := [], alts := [], laidByText := true, laidKinds := [.called], laidTests := true, laidLooks := .later }
def LawS4791CAfterCloseCardSaid : Prop := Claim7.holds Ybad.pinned (.plain (OpenSpec.ofChange lawS4791CAfterCloseSpec)) lawS4791CAfterCloseCard
end Rows
end Go.Proofs.YbulkcueuDoor
