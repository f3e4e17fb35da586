/-
  THE WALK OF THE LAW (3), where a query waits with the transaction.
-/
import Derived.Test.YbulkayawDoorLawNone
namespace Go.Proofs.YbulkayawDoor
open Go.RowKit

set_option maxRecDepth 100000 in
set_option maxHeartbeats 4000000 in
theorem law0_o (x0 x1 x2 x3 x4 x5 t sl md : Int) (m : ByteArray) (z : Option Addr) (w : World) (n idx : Nat) (hz : w.cell? ⟨1, 0, none⟩ = some (.pointer z)) (hmd : (wrap64 md).tmod 4 = 0) (ht0 : 0 ≤ t) (ht1 : t ≤ 65535) (hn0 : 0 < n) (hn : n ≤ 32) (hi : bits BinOp.and IntKind.i64 t ((n : Int) - 1) = (idx : Int)) (hlt : idx < n) 
    (hsh : ∀ W, (Op.shift .shl .i64 1 .i64 ((wrap64 sl).tmod 6)).run Ybad.prog W = .ok (.int .i64 (n : Int)) W) :
    Calls Ybad.prog 3 #[.agg #[.int .u8 x0, .int .u8 x1, .int .u8 x2, .int .u8 x3, .int .u8 x4, .int .u8 x5], .int .u16 t, .int .u8 sl, .int .u8 md, .bool false, .bool false, .string m] w fun e w' => e = .returned (.bool true) ∧ Below w.heap.size w w' := by
  have hB : 1 < w.heap.size := World.block_lt_of_cell? w _ hz
  have hlt2 : (idx : Int) < (n : Int) := by omega
  have hmk := fun W => make27 n hn W
  have hz95 := nz_zero
  have z29 := nz29
  have z30 := nz30
  have hmc := made_at n idx hlt
  go_enter Ybad.func3, Ybad.ntmps3
  go_wp2_with (first | (go_at_call 6; refine Hid.out ?_) | (go_at_call 5; refine (new_any _ _).mono ?_; rintro e w' ⟨rfl, rfl⟩))
  have HI := Lib.hid hi
  have HZ := Lib.hid hz
  have HM := Lib.hid hmc
  clear hi hz hmc hmk hz95 z29 z30 hsh
  refine Lib.hid ?_
  refine (end_o (w.heap.size + 1 + 1 + 1 + 1 + 1 + 1 + 1 + 1 + 1 + 1) (w.heap.size + 1 + 1) n idx (w.heap.size + 1 + 1 + 1 + 1 + 1 + 1 + 1 + 1 + 1) (w.heap.size + 1 + 1 + 1) (w.heap.size + 1 + 1 + 1 + 1) (w.heap.size + 1 + 1 + 1 + 1 + 1) (w.heap.size + 1 + 1 + 1 + 1 + 1 + 1) (w.heap.size + 1 + 1 + 1 + 1 + 1 + 1 + 1) (w.heap.size + 1 + 1 + 1 + 1 + 1 + 1 + 1 + 1) x0 x1 x2 x3 x4 x5 t m (((NZof Ybad.prog).setIfInBounds 29 (.slice (some ⟨w.heap.size + 1 + 1, 0, none⟩) n n)).setIfInBounds 30 (.int .i64 1)) ((madeCells #[.pointer none] n).setIfInBounds idx (.pointer (some ⟨w.heap.size + 1 + 1 + 1 + 1 + 1 + 1 + 1 + 1 + 1, 0, none⟩))) z _ ⟨?_, ?_, ?_, ?_, ?_, ?_, ?_, ?_, ?_, ?_, (nzN _ _).1, (nzN _ _).2.1, (nzN _ _).2.2, made_set n idx hlt _, by omega⟩ ht0 ht1 hn0 hn HI.out hlt ).mono ?_
  iterate 9 (focus (repeat (first | exact heap_new _ _ (by simp) | refine heap_old ?_ _)))
  focus (repeat (first | exact HZ.out | refine cell_old ?_ _))
  rintro e w' ⟨rfl, E⟩
  obtain ⟨fb, cap, eN, hfb, eF⟩ := E.hN
  have K := Lib.hid E.kept
  have aA : w'.heap[w.heap.size]? = some (.cells #[.int .u8 x0, .int .u8 x1, .int .u8 x2, .int .u8 x3, .int .u8 x4, .int .u8 x5] 22 (0, 0)) := E.kept.at (by repeat (first | exact heap_new _ _ (by simp) | refine heap_old ?_ _)) (by simp <;> omega)
  have aX : w'.heap[w.heap.size + 1]? = some (.cells #[.int .u8 x0, .int .u8 x1, .int .u8 x2, .int .u8 x3, .int .u8 x4, .int .u8 x5, .int .u16 t] 26 (0, 0)) := E.kept.at (by repeat (first | exact heap_new _ _ (by simp) | refine heap_old ?_ _)) (by simp <;> omega)
  have cS : w'.cell? ⟨w.heap.size + 1 + 1, idx, none⟩ = some (.pointer none) := (cell_of_row w' _ idx _ _ _ E.hS).trans (made_set2 n idx hlt _ _)
  have cN30 : w'.cell? ⟨w.heap.size + 1 + 1 + 1 + 1 + 1 + 1 + 1 + 1 + 1 + 1, 30, none⟩ = some (.int .i64 0) := (cell_of_row w' _ 30 _ _ _ eN).trans (nzM _ _ _).1
  have cN32 : w'.cell? ⟨w.heap.size + 1 + 1 + 1 + 1 + 1 + 1 + 1 + 1 + 1 + 1, 32, none⟩ = some (.slice (some ⟨fb, 0, none⟩) 1 cap) := (cell_of_row w' _ 32 _ _ _ eN).trans (nzM _ _ _).2
  have cQ0 : w'.cell? ⟨w.heap.size + 1 + 1 + 1 + 1 + 1 + 1 + 1 + 1 + 1, 0, none⟩ = some (.int .u8 0) := cell_of_row w' _ 0 _ _ _ E.hq
  have cQ1 : w'.cell? ⟨w.heap.size + 1 + 1 + 1 + 1 + 1 + 1 + 1 + 1 + 1, 1, none⟩ = some (.int .u8 0) := cell_of_row w' _ 1 _ _ _ E.hq
  have cQ2 : w'.cell? ⟨w.heap.size + 1 + 1 + 1 + 1 + 1 + 1 + 1 + 1 + 1, 2, none⟩ = some (.int .u8 0) := cell_of_row w' _ 2 _ _ _ E.hq
  have cQ3 : w'.cell? ⟨w.heap.size + 1 + 1 + 1 + 1 + 1 + 1 + 1 + 1 + 1, 3, none⟩ = some (.int .u8 0) := cell_of_row w' _ 3 _ _ _ E.hq
  have cQ4 : w'.cell? ⟨w.heap.size + 1 + 1 + 1 + 1 + 1 + 1 + 1 + 1 + 1, 4, none⟩ = some (.int .u8 0) := cell_of_row w' _ 4 _ _ _ E.hq
  have cQ5 : w'.cell? ⟨w.heap.size + 1 + 1 + 1 + 1 + 1 + 1 + 1 + 1 + 1, 5, none⟩ = some (.int .u8 0) := cell_of_row w' _ 5 _ _ _ E.hq
  have cQ6 : w'.cell? ⟨w.heap.size + 1 + 1 + 1 + 1 + 1 + 1 + 1 + 1 + 1, 6, none⟩ = some (.int .u16 0) := cell_of_row w' _ 6 _ _ _ E.hq
  have cQ28 : w'.cell? ⟨w.heap.size + 1 + 1 + 1 + 1 + 1 + 1 + 1 + 1 + 1, 28, none⟩ = some (.string ⟨#[]⟩) := cell_of_row w' _ 28 _ _ _ E.hq
  have cQ29 : w'.cell? ⟨w.heap.size + 1 + 1 + 1 + 1 + 1 + 1 + 1 + 1 + 1, 29, none⟩ = some .nilIface := cell_of_row w' _ 29 _ _ _ E.hq
  have cQ30 : w'.cell? ⟨w.heap.size + 1 + 1 + 1 + 1 + 1 + 1 + 1 + 1 + 1, 30, none⟩ = some .nilFunc := cell_of_row w' _ 30 _ _ _ E.hq
  have hl39 := load_to E.hq
  unfold zeros21 at hl39
  have cT := cell_of_row w' _ 0 _ _ _ E.hT
  have cC := cell_of_row w' _ 0 _ _ _ E.hc
  have hsz : w.heap.size ≤ w'.heap.size := by have := K.out.size; simp at this; omega
  have bK := K.out.below (B := w.heap.size) (by simp <;> omega) (by simp <;> omega)
  have hlow : Below w.heap.size w w' := Below.trans (by go_grown) bK
  clear bK
  clear E eN aA aX
  have HL := Lib.hid hlow
  clear hlow
  have heq24 := fun W => eq24 0 0 0 0 0 0 W
  have hnq := neq_q
  have hnf := nfunc
  have hws := why_same
  have he32 := eq32'
  unfold zeros20 at he32
  have heqx := fun W => eq24 x0 x1 x2 x3 x4 x5 W
  have he39 := eq39
  unfold zeros21 at he39
  have HL39 := Lib.hid hl39
  clear hl39
  go_wp2_with (first | (refine wpList_load_g (by rfl) 39 _ rfl _ rfl _ HL39.out ?_))
  go_ret
  exact ⟨rfl, HL.out⟩


end Go.Proofs.YbulkayawDoor
