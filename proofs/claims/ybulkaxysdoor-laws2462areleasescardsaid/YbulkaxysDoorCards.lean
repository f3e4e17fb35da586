/-
  DERIVED. GIVEN WITH THE SEED: THE CARDS: each row of YbulkaxysDoorRows.lean that lists a variable, with what it lists TIED to the program's text (the seventh form; the later family's looks); each row that meets fmt, with fmt's text TOLD by the authors' own Lean function (tested against real Go, not proved from fmt's source: count such statements apart). THE CARD IS WHAT COUNTS. Prove the row's statement (the work); the ties are given (YbulkaxysDoorTie.lean); close each card by the builder's one call (the guide's Derived/Test/ToyasCard.lean, 'card_holds'). Laid BY PROGRAM, IN A SANDBOX (cutbox-door.mjs). By AI agents, Wed Nov 11 2026. No macro, syntax, notation, axiom, sorry.
-/
import Derived.Test.YbulkaxysDoorRows
import GoSem.ClaimSeven
namespace Go.Proofs.YbulkaxysDoor
namespace Rows

/-- THE TIED CARD OF 'alloc.LawS2462AReleases'. -/
def lawS2462AReleasesCard : Claim7 := { stood := { row := lawS2462AReleasesRow, standIns := [], harness := (true, "b04a5821dc85d22a77a1da96259ba955faa5de88a8dae0be8f5c4ecf8f3d3505"), looks := true }, kinds := [], alts := [], laidByText := true, laidKinds := [.called, .called, .zero], laidTests := true, laidLooks := .later }
def LawS2462AReleasesCardSaid : Prop := Claim7.holds Ybad.pinned (.plain (OpenSpec.ofChange lawS2462AReleasesSpec)) lawS2462AReleasesCard
end Rows
end Go.Proofs.YbulkaxysDoor
