/-
  reuse, entered as a deferred call; take, told by blocks.
-/
import Derived.Test.YbulkayawDoorClo
import Derived.Defers
namespace Go.Proofs.YbulkayawDoor
open Go.RowKit

set_option maxRecDepth 100000 in
set_option maxHeartbeats 1000000 in
/-- reuse, entered as a deferred call. -/
theorem reuse_d (nb o qb : Nat) (x0 x1 x2 x3 x4 x5 t : Int) (m : ByteArray) (tm dn : Value) (w : World) (hq : w.heap[qb]? = some (.cells (qCells x0 x1 x2 x3 x4 x5 t m tm dn) 45 (0, 0))) (hfree : w.cell? ⟨nb, o + 3, none⟩ = some (.slice none 0 0)) (hff : w.frozen? ⟨nb, o + 3, none⟩ = false) (hne : nb ≠ qb) (u : FrameMode) :
    CallsD Ybad.prog 11 #[.pointer (some ⟨nb, o, none⟩), .pointer (some ⟨qb, 0, none⟩)] u w fun e u' w' => u' = u ∧ (e = .returned (.tuple #[]) ∧
      ∃ fb cap, Kept [qb, nb] w w' ∧ w'.heap[qb]? = some (.cells qZero 45 (0, 0)) ∧ (∀ arr T, w.heap[nb]? = some (.cells arr T (0, 0)) → w'.heap[nb]? = some (.cells (arr.setIfInBounds (o + 3) (.slice (some ⟨fb, 0, none⟩) 1 cap)) T (0, 0))) ∧ w.heap.size ≤ fb ∧ w'.cell? ⟨fb, 0, none⟩ = some (.pointer (some ⟨qb, 0, none⟩))) := by
  have hqb : qb < w.heap.size := (Array.getElem?_eq_some_iff.1 hq).1
  have hnb := World.block_lt_of_cell? w _ hfree
  have HQ := Lib.hid hq
  clear hq
  have h45 : (Ybad.prog.info? 45).map (·.size) = some 31 := by kernel_rfl
  have hone : qZero.all (·.oneCell') = true := by kernel_rfl
  go_enter_d Ybad.func11, Ybad.ntmps11
  go_wp2_with (refine wpList_store_hide rfl 45 _ _ rfl qb qZero rfl rfl 45 _ HQ.out h45 rfl hone ?_; intro w1 hk1 hq1 hs1; refine Hid.out ?_)
  have HQ1 := Lib.hid hq1
  have HK1 := Lib.hid hk1
  have hfree1 : w1.cell? ⟨nb, o + 3, none⟩ = some (.slice none 0 0) := by
    rw [← hfree]; simp only [World.cell?, hk1.block nb hnb (by simp [hne])]
  have hff1 : w1.frozen? ⟨nb, o + 3, none⟩ = false := by
    rw [← hff]; simp only [World.frozen?, hk1.block nb hnb (by simp [hne])]
  have hqb1 : qb < w1.heap.size := by omega
  have hnb1 : nb < w1.heap.size := by omega
  clear hk1 hq1 hff hfree HQ
  refine Lib.hid ?_
  go_wp2
  go_end0
  refine ⟨rfl, w.heap.size + 1, _, ((((HK1.out.mono (by simp)).set (by simp) _ _).alloc _).alloc _).drew, heap_old (heap_old (heap_set_other HQ1.out (Ne.symm hne) _ _) _) _, fun arr T h => heap_old (heap_old (heap_set ((HK1.out.block nb hnb (by simp [hne])).trans h) _ _) _) _, by omega, ?_⟩
  refine (cell_of_row _ _ _ _ 37 (0, 0) (heap_new _ _ (by simp [World.setCell, hs1]))).trans ?_
  rw [Array.getElem?_append]
  rfl

/-- take, where the query waits: told by blocks. -/
theorem take_kept (nb sb n idx qb : Nat) (x0 x1 x2 x3 x4 x5 t c : Int) (m : ByteArray) (tm dn : Value) (N SL : Array Value) (w : World) (hN : w.heap[nb]? = some (.cells N 95 (0, 0))) (hS : w.heap[sb]? = some (.cells SL 37 (0, 0))) (hq : w.heap[qb]? = some (.cells (qCells x0 x1 x2 x3 x4 x5 t m tm dn) 45 (0, 0)))
    (N29 : N[29]? = some (.slice (some ⟨sb, 0, none⟩) n n)) (N30 : N[30]? = some (.int .i64 c)) (hSL : SL[idx]? = some (.pointer (some ⟨qb, 0, none⟩))) (ht0 : 0 ≤ t) (ht1 : t ≤ 65535) (hn0 : 0 < n) (hn : n ≤ 32) (hi : bits BinOp.and IntKind.i64 t ((n : Int) - 1) = (idx : Int)) (hlt : idx < n) (hne : nb ≠ sb) :
    Calls Ybad.prog 10 #[.pointer (some ⟨nb, 29, none⟩), .agg (tx7 x0 x1 x2 x3 x4 x5 t)] w fun e w' => e = .returned (.pointer (some ⟨qb, 0, none⟩)) ∧ Kept [nb, sb] w w' ∧
      w'.heap[nb]? = some (.cells (N.setIfInBounds 30 (.int .i64 (wrap64 (c - 1)))) 95 (0, 0)) ∧ w'.heap[sb]? = some (.cells (SL.setIfInBounds idx (.pointer none)) 37 (0, 0)) := by
  have cq := fun j => cell_of_row w qb j _ _ _ hq
  refine (take_some nb 29 sb n idx qb x0 x1 x2 x3 x4 x5 t c w ((cell_of_row w nb 29 _ _ _ hN).trans N29) ht0 ht1 hn0 hn hi hlt ((cell_of_row w sb idx _ _ _ hS).trans hSL) ((cell_of_row w nb 30 _ _ _ hN).trans N30) (by simp [World.frozen?, hS]) (by simp [World.frozen?, hN]) hne (cq 0) (cq 1) (cq 2) (cq 3) (cq 4) (cq 5) (cq 6)).mono ?_
  rintro e w' ⟨rfl, w1, hb, rfl⟩
  have ln := (Array.getElem?_eq_some_iff.1 hN).1
  have ls := (Array.getElem?_eq_some_iff.1 hS).1
  have h1 := (hb.block nb ln).trans hN
  have h2 := (hb.block sb ls).trans hS
  exact ⟨rfl, ((Kept.of_below hb).set (by simp) _ _).set (by simp) _ _, heap_set (heap_set_other h1 hne _ _) _ _, heap_set_other (heap_set h2 _ _) hne.symm _ _⟩
end Go.Proofs.YbulkayawDoor
