/-
  NARROWER THAN 'FOR EVERY INPUT', by the rows' own cells (each row's printed sentence says how): LawS2462AReleases: laid.
  DERIVED. THE GIVEN ROWS OF THIS SEAT. 1 by the template 'for every input the law returns true; each argument reads behind the call as it read before'; 0 by the template 'total and deterministic' (their statements: YbulkaxysDoorTotals.lean).
  GIVEN WITH THE SEED: the statements are not yours to turn. If you find one false, say at which input.
  Laid BY PROGRAM, IN A SANDBOX (cutbox-rows.mjs): the forced cells as the released guide's own fill.sh prints them over the translation 67a7ef3a280d6d63… (all of the seat's roots in one cut). By AI agents, Wed Nov 11 2026. No macro, syntax, notation, axiom, sorry.
-/
import Derived.Test.YbulkaxysDoorChecked
import GoSem.Claim
import GoSem.ClaimJoined
import GoSem.ClaimMapViews
import Derived.JoinedTies
import Derived.KernelRfl
namespace Go.Proofs.YbulkaxysDoor
/- THE CELL 'sum', in the pinned program and in every row, IS THE sha256 OF THE DUMP (.gsa) THAT YbulkaxysDoorProg.lean LOADS. Nothing in Lean hashes anything: it is a label: what it is worth is what the hold of that sum in a sandbox is worth. -/
noncomputable def Ybad.pinned : Pinned := { name := "ybulkaxysdoor", sum := "67a7ef3a280d6d638ab4af19fce468615b37d7bfc95c6f29f117c53042c3a2bc", checked := Ybad.checked }
namespace Rows
def none {H : Type} : Left H := { results := [], args := [] }

/- WHAT THE LISTED PACKAGE-LEVEL VARIABLES READ AS WHEN THE CALL BEGINS. Each datum BY PROGRAM (the guide's laid-datum.mjs) off the statement by which the dump's own 'gosem.cut.vars' lays the variable. In a bare row this is a premise. The card (YbulkaxysDoorCards.lean) ties it to the program's text. -/
def laid_net_netip_z4 {H : Type} : DataW H := .agg [.ptr (.agg [.lit (.bool false), .lit (.string [])])]
def laid_net_netip_z6noz {H : Type} : DataW H := .agg [.ptr (.agg [.lit (.bool true), .lit (.string [])])]
def laid_net_netip_z0 {H : Type} : DataW H := .agg [.nil]

/-- 'alloc.LawS2462AReleases': WHATEVER THE INPUT: true; the input reads as it did. -/
def lawS2462AReleasesSpec : ChangeSpec := { name := "lawS2462AReleases", fn := fun _ => fun
  | [d1, d2, d3, d4, d5, d6, d7] => { results := [.lit (.bool true)], args := [d1, d2, d3, d4, d5, d6, d7] }
  | _ => none }
def lawS2462AReleasesRow : OpenClaim := { program := "ybulkaxysdoor", sum := "67a7ef3a280d6d638ab4af19fce468615b37d7bfc95c6f29f117c53042c3a2bc", func := "example.com/allotter/allotter/alloc.LawS2462AReleases", spec := "lawS2462AReleases", unfollowed := true, recurses := true, named := ["net/netip.z4", "net/netip.z0", "net/netip.z6noz", "encoding/binary.BigEndian"], plainKeys := false, apart := false, laid := [("net/netip.z4", laid_net_netip_z4), ("net/netip.z6noz", laid_net_netip_z6noz), ("net/netip.z0", laid_net_netip_z0)] }
def LawS2462AReleasesSaid : Prop := lawS2462AReleasesRow.holds Ybad.pinned (OpenSpec.ofChange lawS2462AReleasesSpec)

/-- ITS FALSE NEIGHBOUR: 'it returns false'. Refute it at one input. -/
def lawS2462AReleasesWrong : ChangeSpec := { name := "lawS2462AReleases", fn := fun _ => fun
  | [d1, d2, d3, d4, d5, d6, d7] => { results := [.lit (.bool false)], args := [d1, d2, d3, d4, d5, d6, d7] }
  | _ => none }
def LawS2462AReleasesWrongFalsely : Prop := lawS2462AReleasesRow.holds Ybad.pinned (OpenSpec.ofChange lawS2462AReleasesWrong)

end Rows
end Go.Proofs.YbulkaxysDoor
