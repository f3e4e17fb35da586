/-
  No cell of these rows narrows 'for every input' (looked for: loops, veiled, ifaces, maps, wideKeys, modest, calm, conditions, laid).
  DERIVED. THE GIVEN ROWS OF THIS SEAT. 2 by the template 'for every input the law returns true; each argument reads behind the call as it read before'; 0 by the template 'total and deterministic' (their statements: YbulkaxysTotals.lean).
  GIVEN WITH THE SEED: the statements are not yours to turn. If you find one false, say at which input.
  Laid BY PROGRAM, IN A SANDBOX (cutbox-rows.mjs): the forced cells as the released guide's own fill.sh prints them over the translation effc095522077de8… (all of the seat's roots in one cut). By AI agents, Wed Nov 11 2026. No macro, syntax, notation, axiom, sorry.
-/
import Derived.Test.YbulkaxysChecked
import GoSem.Claim
import GoSem.ClaimJoined
import GoSem.ClaimMapViews
import Derived.JoinedTies
import Derived.KernelRfl
namespace Go.Proofs.Ybulkaxys
/- THE CELL 'sum', in the pinned program and in every row, IS THE sha256 OF THE DUMP (.gsa) THAT YbulkaxysProg.lean LOADS. Nothing in Lean hashes anything: it is a label: what it is worth is what the hold of that sum in a sandbox is worth. -/
noncomputable def Yba.pinned : Pinned := { name := "ybulkaxys", sum := "effc095522077de8661102fa57e015fc393ff052a2deff9d6b621469a092a3d1", checked := Yba.checked }
namespace Rows
def none {H : Type} : Left H := { results := [], args := [] }

/-- 'alloc.LawS2462BBits': WHATEVER THE INPUT: true; the input reads as it did. -/
def lawS2462BBitsSpec : ChangeSpec := { name := "lawS2462BBits", fn := fun _ => fun
  | [d1, d2, d3] => { results := [.lit (.bool true)], args := [d1, d2, d3] }
  | _ => none }
def lawS2462BBitsRow : OpenClaim := { program := "ybulkaxys", sum := "effc095522077de8661102fa57e015fc393ff052a2deff9d6b621469a092a3d1", func := "example.com/allotter/allotter/alloc.LawS2462BBits", spec := "lawS2462BBits", apart := false }
def LawS2462BBitsSaid : Prop := lawS2462BBitsRow.holds Yba.pinned (OpenSpec.ofChange lawS2462BBitsSpec)

/-- ITS FALSE NEIGHBOUR: 'it returns false'. Refute it at one input. -/
def lawS2462BBitsWrong : ChangeSpec := { name := "lawS2462BBits", fn := fun _ => fun
  | [d1, d2, d3] => { results := [.lit (.bool false)], args := [d1, d2, d3] }
  | _ => none }
def LawS2462BBitsWrongFalsely : Prop := lawS2462BBitsRow.holds Yba.pinned (OpenSpec.ofChange lawS2462BBitsWrong)

/-- 'alloc.LawS2462BCompose': WHATEVER THE INPUT: true; the input reads as it did. -/
def lawS2462BComposeSpec : ChangeSpec := { name := "lawS2462BCompose", fn := fun _ => fun
  | [d1, d2, d3, d4] => { results := [.lit (.bool true)], args := [d1, d2, d3, d4] }
  | _ => none }
def lawS2462BComposeRow : OpenClaim := { program := "ybulkaxys", sum := "effc095522077de8661102fa57e015fc393ff052a2deff9d6b621469a092a3d1", func := "example.com/allotter/allotter/alloc.LawS2462BCompose", spec := "lawS2462BCompose", apart := false }
def LawS2462BComposeSaid : Prop := lawS2462BComposeRow.holds Yba.pinned (OpenSpec.ofChange lawS2462BComposeSpec)

/-- ITS FALSE NEIGHBOUR: 'it returns false'. Refute it at one input. -/
def lawS2462BComposeWrong : ChangeSpec := { name := "lawS2462BCompose", fn := fun _ => fun
  | [d1, d2, d3, d4] => { results := [.lit (.bool false)], args := [d1, d2, d3, d4] }
  | _ => none }
def LawS2462BComposeWrongFalsely : Prop := lawS2462BComposeRow.holds Yba.pinned (OpenSpec.ofChange lawS2462BComposeWrong)

end Rows
end Go.Proofs.Ybulkaxys
