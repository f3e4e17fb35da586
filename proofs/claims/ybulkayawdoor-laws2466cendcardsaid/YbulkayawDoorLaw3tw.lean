/-
  THE WALK OF THE LAW (3), where there are no slots.
-/
import Derived.Test.YbulkayawDoorLawNone
namespace Go.Proofs.YbulkayawDoor
open Go.RowKit

set_option maxRecDepth 100000 in
set_option maxHeartbeats 4000000 in
theorem law3_tw (x0 x1 x2 x3 x4 x5 t sl md : Int) (m : ByteArray) (z : Option Addr) (w : World) (n idx : Nat) (hz : w.cell? ⟨1, 0, none⟩ = some (.pointer z)) (hmd : (wrap64 md).tmod 4 = 3) (ht0 : 0 ≤ t) (ht1 : t ≤ 65535) (hn0 : 0 < n) (hn : n ≤ 32) (hi : bits BinOp.and IntKind.i64 t ((n : Int) - 1) = (idx : Int)) (hlt : idx < n)
    (hsh : ∀ W, (Op.shift .shl .i64 1 .i64 ((wrap64 sl).tmod 6)).run Ybad.prog W = .ok (.int .i64 (n : Int)) W) :
    Calls Ybad.prog 3 #[.agg #[.int .u8 x0, .int .u8 x1, .int .u8 x2, .int .u8 x3, .int .u8 x4, .int .u8 x5], .int .u16 t, .int .u8 sl, .int .u8 md, .bool true, .bool true, .string m] w fun e w' => e = .returned (.bool true) ∧ Below w.heap.size w w' := by
  have hB : 1 < w.heap.size := World.block_lt_of_cell? w _ hz
  have hlt2 : (idx : Int) < (n : Int) := by omega
  have hmk := fun W => make27 n hn W
  have hz95 := nz_zero
  have z29 := nz29
  have z30 := nz30
  have hmc := made_at n idx hlt
  go_enter Ybad.func3, Ybad.ntmps3
  go_wp2_with (first | (go_at_call 6; refine Hid.out ?_) | (go_at_call 5; refine (new_any _ _).mono ?_; rintro e w' ⟨rfl, rfl⟩))
  have HI := Lib.hid hi
  have HM := Lib.hid hmc
  clear hi hz hmc hmk hz95 z29 z30 hsh
  refine Lib.hid ?_
  refine (end_m3 (w.heap.size + 1 + 1 + 1 + 1 + 1 + 1 + 1 + 1 + 1) x0 x1 x2 x3 x4 x5 t (((NZof Ybad.prog).setIfInBounds 29 (.slice none 0 0)).setIfInBounds 30 (.int .i64 0)) _ _ (by repeat (first | exact heap_new _ _ (by simp) | refine heap_old ?_ _)) (nzN _ _).1).mono ?_
  rintro e w' ⟨rfl, hb⟩
  have aN : w'.heap[w.heap.size + 1 + 1 + 1 + 1 + 1 + 1 + 1 + 1 + 1]? = some (.cells (((NZof Ybad.prog).setIfInBounds 29 (.slice none 0 0)).setIfInBounds 30 (.int .i64 0)) 95 (0, 0)) := (hb.block _ (by simp)).trans (by repeat (first | exact heap_new _ _ (by simp) | refine heap_old ?_ _))
  have aC : w'.heap[w.heap.size + 1 + 1 + 1]? = some (.cells #[.int .i64 0] 3 (0, 0)) := (hb.block _ (by simp)).trans (by repeat (first | exact heap_new _ _ (by simp) | refine heap_old ?_ _))
  have aT : w'.heap[w.heap.size + 1 + 1]? = some (.cells #[.int .i64 0] 30 (0, 0)) := (hb.block _ (by simp)).trans (by repeat (first | exact heap_new _ _ (by simp) | refine heap_old ?_ _))
  obtain ⟨dn, aq⟩ : ∃ dn, w'.heap[w.heap.size + 1 + 1 + 1 + 1 + 1 + 1 + 1 + 1]? = some (.cells (qCells 0 0 0 0 0 0 0 m (.iface 28 (.pointer (some ⟨w.heap.size + 1 + 1, 0, none⟩))) dn) 45 (0, 0)) := ⟨_, (hb.block _ (by simp)).trans (by repeat (first | exact heap_new _ _ (by simp) | refine heap_old ?_ _))⟩
  have cN30 : w'.cell? ⟨w.heap.size + 1 + 1 + 1 + 1 + 1 + 1 + 1 + 1 + 1, 30, none⟩ = some (.int .i64 0) := (cell_of_row w' _ 30 _ _ _ aN).trans (nzN _ _).2.1
  have cN32 : w'.cell? ⟨w.heap.size + 1 + 1 + 1 + 1 + 1 + 1 + 1 + 1 + 1, 32, none⟩ = some (.slice none 0 0) := (cell_of_row w' _ 32 _ _ _ aN).trans (nzN _ _).2.2
  have cC := cell_of_row w' _ 0 _ _ _ aC
  have cT := cell_of_row w' _ 0 _ _ _ aT
  have cQ : w'.cell? ⟨w.heap.size + 1 + 1 + 1 + 1 + 1 + 1 + 1 + 1, 28, none⟩ = some (.string m) := cell_of_row w' _ 28 _ _ _ aq
  have HL := Lib.hid (Below.trans (by go_grown) (hb.mono (by simp <;> omega)) : Below w.heap.size w w')
  clear hb aN aC aT aq 
  have hnq := eql_q
  go_wp2_with fail
  go_ret
  exact ⟨rfl, HL.out⟩

end Go.Proofs.YbulkayawDoor
