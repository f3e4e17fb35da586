/-
  DERIVED. GIVEN WITH THE SEED: THE CARDS: each row of YbulkaxwoFmtRows.lean that lists a variable, with what it lists TIED to the program's text (the seventh form; the later family's looks); each row that meets fmt, with fmt's text TOLD by the authors' own Lean function (tested against real Go, not proved from fmt's source: count such statements apart). THE CARD IS WHAT COUNTS. Prove the row's statement (the work); the ties are given (YbulkaxwoFmtTie.lean); close each card by the builder's one call (the guide's Derived/Test/ToyasCard.lean, 'card_holds'). Laid BY PROGRAM, IN A SANDBOX (cutbox-door.mjs). By AI agents, Wed Nov 11 2026. No macro, syntax, notation, axiom, sorry.
-/
import Derived.Test.YbulkaxwoFmtRows
import GoSem.ClaimSeven
namespace Go.Proofs.YbulkaxwoFmt
namespace Rows

/-- THE TOLD AND TIED CARD OF 'moltwire.LawS2458AAnyString'. -/
def lawS2458AAnyStringCard : Claim7 := { stood := { row := lawS2458AAnyStringRow, standIns := [], harness := (true, "f03463804f6be93fea719cf0392a35e9ba847e16e3279b038ff95db82dde168f"), looks := true }, told := true, laidByText := true, laidKinds := [.data, .data, .data, .sentinel, .sentinel], laidTests := true, laidLooks := .later, goes := false }
def LawS2458AAnyStringToldSaid : Prop := Claim7.holds Ybaf.pinned (.plain (OpenSpec.ofChange lawS2458AAnyStringSpec)) lawS2458AAnyStringCard
/-- ITS FALSE NEIGHBOUR. Refute it at one input. -/
def LawS2458AAnyStringToldWrongFalsely : Prop := Claim7.holds Ybaf.pinned (.plain (OpenSpec.ofChange lawS2458AAnyStringWrong)) lawS2458AAnyStringCard

/-- THE TOLD AND TIED CARD OF 'moltwire.LawS2458ADigits'. -/
def lawS2458ADigitsCard : Claim7 := { stood := { row := lawS2458ADigitsRow, standIns := [], harness := (true, "f03463804f6be93fea719cf0392a35e9ba847e16e3279b038ff95db82dde168f"), looks := true }, told := true, laidByText := true, laidKinds := [.data, .data, .data, .sentinel, .sentinel], laidTests := true, laidLooks := .later, goes := false }
def LawS2458ADigitsToldSaid : Prop := Claim7.holds Ybaf.pinned (.plain (OpenSpec.ofChange lawS2458ADigitsSpec)) lawS2458ADigitsCard
/-- ITS FALSE NEIGHBOUR. Refute it at one input. -/
def LawS2458ADigitsToldWrongFalsely : Prop := Claim7.holds Ybaf.pinned (.plain (OpenSpec.ofChange lawS2458ADigitsWrong)) lawS2458ADigitsCard

/-- THE TOLD AND TIED CARD OF 'moltwire.LawS2458ARoundTrip'. -/
def lawS2458ARoundTripCard : Claim7 := { stood := { row := lawS2458ARoundTripRow, standIns := [], harness := (true, "f03463804f6be93fea719cf0392a35e9ba847e16e3279b038ff95db82dde168f"), looks := true }, told := true, laidByText := true, laidKinds := [.data, .data, .data, .sentinel, .sentinel], laidTests := true, laidLooks := .later, goes := false }
def LawS2458ARoundTripToldSaid : Prop := Claim7.holds Ybaf.pinned (.plain (OpenSpec.ofChange lawS2458ARoundTripSpec)) lawS2458ARoundTripCard
/-- ITS FALSE NEIGHBOUR. Refute it at one input. -/
def LawS2458ARoundTripToldWrongFalsely : Prop := Claim7.holds Ybaf.pinned (.plain (OpenSpec.ofChange lawS2458ARoundTripWrong)) lawS2458ARoundTripCard

/-- THE TOLD AND TIED CARD OF 'moltwire.LawS2458CExact'. -/
def lawS2458CExactCard : Claim7 := { stood := { row := lawS2458CExactRow, standIns := [], harness := (true, "f03463804f6be93fea719cf0392a35e9ba847e16e3279b038ff95db82dde168f"), looks := true }, told := true, laidByText := true, laidKinds := [.data, .data, .data], laidTests := true, laidLooks := .later, goes := false }
def LawS2458CExactToldSaid : Prop := Claim7.holds Ybaf.pinned (.plain (OpenSpec.ofChange lawS2458CExactSpec)) lawS2458CExactCard
/-- ITS FALSE NEIGHBOUR. Refute it at one input. -/
def LawS2458CExactToldWrongFalsely : Prop := Claim7.holds Ybaf.pinned (.plain (OpenSpec.ofChange lawS2458CExactWrong)) lawS2458CExactCard

/-- THE TOLD CARD OF 'moltwire.LawS2458CSuffix'. -/
def lawS2458CSuffixCard : Claim7 := { stood := { row := lawS2458CSuffixRow, standIns := [], harness := (true, "f03463804f6be93fea719cf0392a35e9ba847e16e3279b038ff95db82dde168f"), looks := true }, told := true, goes := false }
def LawS2458CSuffixToldSaid : Prop := Claim7.holds Ybaf.pinned (.plain (OpenSpec.ofChange lawS2458CSuffixSpec)) lawS2458CSuffixCard
/-- ITS FALSE NEIGHBOUR. Refute it at one input. -/
def LawS2458CSuffixToldWrongFalsely : Prop := Claim7.holds Ybaf.pinned (.plain (OpenSpec.ofChange lawS2458CSuffixWrong)) lawS2458CSuffixCard
end Rows
end Go.Proofs.YbulkaxwoFmt
