/-
  THE CLOSED FACTS FOR A WALK OVER fmt.Sprintf AT THIS DUMP (after the guide's LabelFmt.lean, turned to this program): function 17, type 45 = []interface{}, type 25 = uint64.
-/
import Derived.Test.YbulkaxwoFmtProg
import Derived.Stop.CallBack
import Derived.Stop.IfaceNil
import GoSem.ClaimData
namespace Go.Proofs.YbulkaxwoFmt
open Go.Extern.Stop Go.Stop Go.Extern

theorem call17 (args : Array Value) (w : World) : (callFunc 17 args).run Ybaf.prog w = ((FmtStop.sprintf #[9, 45] #[9] args).run Ybaf.prog w).andThen fun v w' => .ok (.value v) w' :=
  run_callFunc_extern Ybaf.func17 (by kernel_rfl) (by kernel_rfl) (by kernel_rfl) (by kernel_rfl) args w
theorem guardF (name : String) (w : World) : (FmtStop.guard name).run Ybaf.prog w = .ok () w := by kernel_rfl
-- "%d.%d.%d", 3 operands
theorem fmt3 : FmtStop.printed? ⟨#[37, 100, 46, 37, 100, 46, 37, 100]⟩ 3 = some [(0, 100, false), (1, 100, false), (2, 100, false)] := by kernel_rfl
theorem fmt3r (w : World) : (FmtDoors.printed ⟨#[37, 100, 46, 37, 100, 46, 37, 100]⟩ 3).run Ybaf.prog w = .ok [(0, 100, false), (1, 100, false), (2, 100, false)] w := by kernel_rfl
def shape25 : List UInt8 := [9, 6, 0, 0, 0, 0, 0, 0, 0, 117, 105, 110, 116, 54, 52]
theorem op25_100 (name : String) (x : Int) (w : World) : (FmtStop.operand name false 100 false (.iface 25 (.int .u64 x))).run Ybaf.prog w = .ok (shape25, Go.Extern.Stop.digits 8 (x % 2 ^ 64).toNat) w := by kernel_rfl
end Go.Proofs.YbulkaxwoFmt
