/-
  DERIVED. GIVEN WITH THE SEED: THE CARDS: each row of YbulkayawDoorRows.lean that lists a variable, with what it lists TIED to the program's text (the seventh form; the later family's looks); each row that meets fmt, with fmt's text TOLD by the authors' own Lean function (tested against real Go, not proved from fmt's source: count such statements apart). THE CARD IS WHAT COUNTS. Prove the row's statement (the work); the ties are given (YbulkayawDoorTie.lean); close each card by the builder's one call (the guide's Derived/Test/ToyasCard.lean, 'card_holds'). Laid BY PROGRAM, IN A SANDBOX (cutbox-door.mjs). By AI agents, Wed Nov 11 2026. No macro, syntax, notation, axiom, sorry.
-/
import Derived.Test.YbulkayawDoorRows
import GoSem.ClaimSeven
namespace Go.Proofs.YbulkayawDoor
namespace Rows

/-- THE TIED CARD OF 'xorbit.LawS2466CEnd'. -/
def lawS2466CEndCard : Claim7 := { stood := { row := lawS2466CEndRow, standIns := [], harness := (true, "13e307a990cb93b46f2df1ab73aa3ece708ecbb0d38395dab5db7a3fc5f62abd"), looks := true }, kinds := [], alts := [], laidByText := true, laidKinds := [.called], laidTests := true, laidLooks := .later }
def LawS2466CEndCardSaid : Prop := Claim7.holds Ybad.pinned (.plain (OpenSpec.ofChange lawS2466CEndSpec)) lawS2466CEndCard
end Rows
end Go.Proofs.YbulkayawDoor
