/-
  Node.end (6), where nothing is taken.
-/
import Derived.Test.YbulkayawDoorEnd
namespace Go.Proofs.YbulkayawDoor
open Go.RowKit

set_option maxRecDepth 100000 in
set_option maxHeartbeats 1000000 in
theorem end_none (nb : Nat) (x0 x1 x2 x3 x4 x5 t : Int) (why : Value) (w : World)
    (hw : ∀ w1, Below w.heap.size w w1 → Calls Ybad.prog 15 #[.pointer (some ⟨nb, 29, none⟩), .agg #[.int .u8 x0, .int .u8 x1, .int .u8 x2, .int .u8 x3, .int .u8 x4, .int .u8 x5, .int .u16 t]] w1 fun e w' => e = .returned (.pointer none) ∧ Below w1.heap.size w1 w') :
    Calls Ybad.prog 6 #[.pointer (some ⟨nb, 0, none⟩), .agg (tx7 x0 x1 x2 x3 x4 x5 t), why] w fun e w' => e = .returned (.tuple #[]) ∧ Below w.heap.size w w' := by
  have b0 : Below w.heap.size w ((w.alloc (.cells (tx7 x0 x1 x2 x3 x4 x5 t) 26)).drew) := by
    have h := (Below.refl w.heap.size w).alloc (Nat.le_refl _) (.cells (tx7 x0 x1 x2 x3 x4 x5 t) 26)
    exact ⟨h.os, h.tape, h.output, h.size, h.block⟩
  have ht := take_none nb 29 x0 x1 x2 x3 x4 x5 t _ (fun w1 h1 => hw w1 (b0.trans (h1.mono b0.size)))
  have HT := Lib.hid ht
  have HB := Lib.hid b0
  clear ht b0 hw
  unfold tx7
  go_enter_defers Ybad.func6, Ybad.ntmps6
  go_wp2_with fail
  refine calm_region ?_
  go_region_with (go_at_call 10; refine HT.out.mono ?_; rintro e w1 ⟨rfl, hb1⟩)
  have h := HB.out.trans (hb1.mono HB.out.size)
  clear hb1 HT HB
  refine calm_end ?_
  go_wp2_with fail
  exact ⟨_, results_none rfl _ _ _, rfl, h⟩
end Go.Proofs.YbulkayawDoor
