/-
  NARROWER THAN 'FOR EVERY INPUT', by the rows' own cells (each row's printed sentence says how): LawS2466CEnd: laid.
  DERIVED. THE GIVEN ROWS OF THIS SEAT. 1 by the template 'for every input the law returns true; each argument reads behind the call as it read before'; 0 by the template 'total and deterministic' (their statements: YbulkayawDoorTotals.lean).
  GIVEN WITH THE SEED: the statements are not yours to turn. If you find one false, say at which input.
  Laid BY PROGRAM, IN A SANDBOX (cutbox-rows.mjs): the forced cells as the released guide's own fill.sh prints them over the translation 22da11e76e048883… (all of the seat's roots in one cut). By AI agents, Wed Nov 11 2026. No macro, syntax, notation, axiom, sorry.
-/
import Derived.Test.YbulkayawDoorChecked
import GoSem.Claim
import GoSem.ClaimJoined
import GoSem.ClaimMapViews
import Derived.JoinedTies
import Derived.KernelRfl
namespace Go.Proofs.YbulkayawDoor
/- THE CELL 'sum', in the pinned program and in every row, IS THE sha256 OF THE DUMP (.gsa) THAT YbulkayawDoorProg.lean LOADS. Nothing in Lean hashes anything: it is a label: what it is worth is what the hold of that sum in a sandbox is worth. -/
noncomputable def Ybad.pinned : Pinned := { name := "ybulkayawdoor", sum := "22da11e76e048883a2d609c6fb45de6b63d10c3f447d0a8aafbc8f5bcf4e0c52", checked := Ybad.checked }
namespace Rows
def none {H : Type} : Left H := { results := [], args := [] }

/- WHAT THE LISTED PACKAGE-LEVEL VARIABLES READ AS WHEN THE CALL BEGINS. Each datum BY PROGRAM (the guide's laid-datum.mjs) off the statement by which the dump's own 'gosem.cut.vars' lays the variable. In a bare row this is a premise. The card (YbulkayawDoorCards.lean) ties it to the program's text. -/
def laid_net_netip_z4 {H : Type} : DataW H := .agg [.ptr (.agg [.lit (.bool false), .lit (.string [])])]

/-- 'xorbit.LawS2466CEnd': WHATEVER THE INPUT: true; the input reads as it did. -/
def lawS2466CEndSpec : ChangeSpec := { name := "lawS2466CEnd", fn := fun _ => fun
  | [d1, d2, d3, d4, d5, d6, d7] => { results := [.lit (.bool true)], args := [d1, d2, d3, d4, d5, d6, d7] }
  | _ => none }
def lawS2466CEndRow : OpenClaim := { program := "ybulkayawdoor", sum := "22da11e76e048883a2d609c6fb45de6b63d10c3f447d0a8aafbc8f5bcf4e0c52", func := "example.com/xorbit/xorbit.LawS2466CEnd", spec := "lawS2466CEnd", unfollowed := true, recurses := true, named := ["encoding/binary.BigEndian", "net/netip.z4"], plainKeys := false, apart := false, laid := [("net/netip.z4", laid_net_netip_z4)] }
def LawS2466CEndSaid : Prop := lawS2466CEndRow.holds Ybad.pinned (OpenSpec.ofChange lawS2466CEndSpec)

/-- ITS FALSE NEIGHBOUR: 'it returns false'. Refute it at one input. -/
def lawS2466CEndWrong : ChangeSpec := { name := "lawS2466CEnd", fn := fun _ => fun
  | [d1, d2, d3, d4, d5, d6, d7] => { results := [.lit (.bool false)], args := [d1, d2, d3, d4, d5, d6, d7] }
  | _ => none }
def LawS2466CEndWrongFalsely : Prop := lawS2466CEndRow.holds Ybad.pinned (OpenSpec.ofChange lawS2466CEndWrong)

end Rows
end Go.Proofs.YbulkayawDoor
