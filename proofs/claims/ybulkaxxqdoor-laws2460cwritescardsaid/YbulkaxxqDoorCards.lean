/-
  DERIVED. GIVEN WITH THE SEED: THE CARDS: each row of YbulkaxxqDoorRows.lean that lists a variable, with what it lists TIED to the program's text (the seventh form; the later family's looks); each row that meets fmt, with fmt's text TOLD by the authors' own Lean function (tested against real Go, not proved from fmt's source: count such statements apart). THE CARD IS WHAT COUNTS. Prove the row's statement (the work); the ties are given (YbulkaxxqDoorTie.lean); close each card by the builder's one call (the guide's Derived/Test/ToyasCard.lean, 'card_holds'). Laid BY PROGRAM, IN A SANDBOX (cutbox-door.mjs). By AI agents, Wed Nov 11 2026. No macro, syntax, notation, axiom, sorry.
-/
import Derived.Test.YbulkaxxqDoorRows
import GoSem.ClaimSeven
namespace Go.Proofs.YbulkaxxqDoor
namespace Rows

/-- THE TIED CARD OF 'gatewright.LawS2460BCompact'. -/
def lawS2460BCompactCard : Claim7 := { stood := { row := lawS2460BCompactRow, standIns := [], harness := (true, "cd8177e8a398cb76c0e61c4426ede443199f1c7a6db879fc975c553646c8bb0e"), looks := true }, kinds := [], alts := [], laidByText := true, laidKinds := [.data, .data, .data, .wider, .wider, .wider, .data, .wider, .wider, .wider, .wider, .wider, .wider, .widerDeep, .widerDeep], laidTests := true, laidLooks := .later }
def LawS2460BCompactCardSaid : Prop := Claim7.holds Ybad.pinned (.plain (OpenSpec.ofChange lawS2460BCompactSpec)) lawS2460BCompactCard

/-- THE TIED CARD OF 'gatewright.LawS2460BPretty'. -/
def lawS2460BPrettyCard : Claim7 := { stood := { row := lawS2460BPrettyRow, standIns := [], harness := (true, "cd8177e8a398cb76c0e61c4426ede443199f1c7a6db879fc975c553646c8bb0e"), looks := true }, kinds := [], alts := [], laidByText := true, laidKinds := [.data, .data, .data, .wider, .wider, .wider, .data, .wider, .wider, .wider, .wider, .wider, .wider, .widerDeep, .widerDeep], laidTests := true, laidLooks := .later }
def LawS2460BPrettyCardSaid : Prop := Claim7.holds Ybad.pinned (.plain (OpenSpec.ofChange lawS2460BPrettySpec)) lawS2460BPrettyCard

/-- THE TIED CARD OF 'gatewright.LawS2460CWrites'. -/
def lawS2460CWritesCard : Claim7 := { stood := { row := lawS2460CWritesRow, standIns := [], harness := (true, "cd8177e8a398cb76c0e61c4426ede443199f1c7a6db879fc975c553646c8bb0e"), looks := true }, kinds := [], alts := [], laidByText := true, laidKinds := [.data, .data, .data, .wider], laidTests := true, laidLooks := .later }
def LawS2460CWritesCardSaid : Prop := Claim7.holds Ybad.pinned (.plain (OpenSpec.ofChange lawS2460CWritesSpec)) lawS2460CWritesCard
end Rows
end Go.Proofs.YbulkaxxqDoor
