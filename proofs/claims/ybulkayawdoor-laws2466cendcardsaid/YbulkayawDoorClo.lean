/-
  The law's own closure (4: done) and errors.New (5).
-/
import Derived.Test.YbulkayawDoorReuse
import Derived.Handy
namespace Go.Proofs.YbulkayawDoor
open Go.RowKit

def id0 : Array Value := #[.int .u8 0, .int .u8 0, .int .u8 0, .int .u8 0, .int .u8 0, .int .u8 0, .int .u8 0, .int .u8 0, .int .u8 0, .int .u8 0, .int .u8 0, .int .u8 0, .int .u8 0, .int .u8 0, .int .u8 0, .int .u8 0, .int .u8 0, .int .u8 0, .int .u8 0, .int .u8 0]
def tx7 (x0 x1 x2 x3 x4 x5 t : Int) : Array Value := #[.int .u8 x0, .int .u8 x1, .int .u8 x2, .int .u8 x3, .int .u8 x4, .int .u8 x5, .int .u16 t]

theorem new_any (s : ByteArray) (w : World) :
    Calls Ybad.prog 5 #[.string s] w fun e w' => e = .returned (.iface 117 (.pointer (some ⟨w.heap.size, 0, none⟩))) ∧ w' = w.alloc (.cells #[.string s] 119) := by
  go_enter Ybad.func5, Ybad.ntmps5
  go_wp2
  go_ret
  exact ⟨rfl, rfl⟩

set_option maxRecDepth 100000 in
set_option maxHeartbeats 1000000 in
theorem clo_any (cb gb ib bb eb : Nat) (x0 x1 x2 x3 x4 x5 t : Int) (T : TypeId) (v : Value) (w : World)
    (hc : w.heap[cb]? = some (.cells #[.int .i64 0] 3 (0, 0))) (hg : w.heap[gb]? = some (.cells (tx7 0 0 0 0 0 0 0) 26 (0, 0))) (hi : w.heap[ib]? = some (.cells id0 32 (0, 0)))
    (hb : w.heap[bb]? = some (.cells #[.slice none 0 0] 34 (0, 0))) (he : w.heap[eb]? = some (.cells #[.nilIface] 36 (0, 0)))
    (n1 : cb ≠ gb) (n2 : cb ≠ ib) (n3 : cb ≠ bb) (n4 : cb ≠ eb) (n5 : gb ≠ ib) (n6 : gb ≠ bb) (n7 : gb ≠ eb) (n8 : ib ≠ bb) (n9 : ib ≠ eb) (n10 : bb ≠ eb) :
    Calls Ybad.prog 4 #[.agg (tx7 x0 x1 x2 x3 x4 x5 t), .agg id0, .slice none 0 0, .iface T v, .pointer (some ⟨cb, 0, none⟩), .pointer (some ⟨gb, 0, none⟩), .pointer (some ⟨ib, 0, none⟩), .pointer (some ⟨bb, 0, none⟩), .pointer (some ⟨eb, 0, none⟩)] w fun e w' =>
      e = .returned (.tuple #[]) ∧ Kept [cb, gb, ib, bb, eb] w w' ∧ w'.heap[cb]? = some (.cells #[.int .i64 1] 3 (0, 0)) ∧ w'.heap[gb]? = some (.cells (tx7 x0 x1 x2 x3 x4 x5 t) 26 (0, 0)) ∧ w'.heap[ib]? = some (.cells id0 32 (0, 0)) ∧ w'.heap[bb]? = some (.cells #[.slice none 0 0] 34 (0, 0)) ∧ w'.heap[eb]? = some (.cells #[.iface T v] 36 (0, 0)) := by
  have lc := (Array.getElem?_eq_some_iff.1 hc).1
  have lg := (Array.getElem?_eq_some_iff.1 hg).1
  have li := (Array.getElem?_eq_some_iff.1 hi).1
  have lb := (Array.getElem?_eq_some_iff.1 hb).1
  have le := (Array.getElem?_eq_some_iff.1 he).1
  have h26 : (Ybad.prog.info? 26).map (·.size) = some 7 := by kernel_rfl
  have h32 : (Ybad.prog.info? 32).map (·.size) = some 20 := by kernel_rfl
  have cc := cell_of_row w cb 0 _ _ _ hc
  have fc : w.frozen? ⟨cb, 0, none⟩ = false := by simp [World.frozen?, hc]
  have HG := Lib.hid hg
  have HI := Lib.hid hi
  have HB := Lib.hid hb
  have HE := Lib.hid he
  have HC := Lib.hid hc
  clear hg hi hb he hc
  have ho7 : (tx7 x0 x1 x2 x3 x4 x5 t).all (·.oneCell') = true := by simp [tx7, Value.oneCell']
  have ho20 : id0.all (·.oneCell') = true := by kernel_rfl
  have u26 := Ybad.underlying26
  have u32 := Ybad.underlying32
  go_enter Ybad.func4, Ybad.ntmps4
  go_wp2_with (first
    | (refine wpList_load_row rfl 26 _ rfl w.heap.size rfl 26 (tx7 x0 x1 x2 x3 x4 x5 t) (0, 0) _ (heap_old (heap_new _ _ (by simp)) _) u26 rfl h26 ?_)
    | (refine wpList_store_hide rfl 26 _ _ rfl gb (tx7 x0 x1 x2 x3 x4 x5 t) rfl rfl 26 _ (heap_old (heap_old (heap_set_other HG.out n1.symm _ _) _) _) h26 rfl ho7 ?_; intro w1 hk1 hq1 hs1; refine Hid.out ?_))
  have hI1 : w1.heap[w.heap.size + 1]? = some (.cells id0 32 (0, 0)) := hk1.at (heap_new _ _ (by simp)) (by simp; omega)
  have HI1 := Lib.hid hI1
  have K0 := Lib.hid (((((Kept.refl [cb, gb, ib, bb, eb] w).set (b := cb) (by simp) 0 (.int .i64 1)).alloc (.cells (tx7 x0 x1 x2 x3 x4 x5 t) 26)).alloc (.cells id0 32)).trans (hk1.mono (by simp)))
  have C1 := Lib.hid (hk1.at (heap_old (heap_old (heap_set HC.out 0 (.int .i64 1)) _) _) (by simp [n1]))
  have I1 := Lib.hid (hk1.at (heap_old (heap_old (heap_set_other HI.out n2.symm _ _) _) _) (by simp [n5.symm]))
  have B1 := Lib.hid (hk1.at (heap_old (heap_old (heap_set_other HB.out n3.symm _ _) _) _) (by simp [n6.symm]))
  have E1 := Lib.hid (hk1.at (heap_old (heap_old (heap_set_other HE.out n4.symm _ _) _) _) (by simp [n7.symm]))
  have Q1 := Lib.hid hq1
  have hs1' : w1.heap.size = w.heap.size + 2 := by rw [hs1]; simp
  clear hk1 hq1 hI1 hs1 cc fc
  refine Lib.hid ?_
  go_wp2_with (first
    | (refine wpList_load_row rfl 32 _ rfl (w.heap.size + 1) rfl 32 id0 (0, 0) _ HI1.out u32 rfl h32 ?_)
    | (refine wpList_store_hide rfl 32 _ _ rfl ib id0 rfl rfl 32 _ I1.out h32 rfl ho20 ?_; intro w2 hk2 hq2 hs2; refine Hid.out ?_))
  have K2 := Lib.hid (K0.out.trans (hk2.mono (by simp)))
  have C2 := Lib.hid (hk2.at C1.out (by simp [n2]))
  have G2 := Lib.hid (hk2.at Q1.out (by simp [n5]))
  have bB2 := hk2.at B1.out (by simp [n8.symm])
  have bE2 := hk2.at E1.out (by simp [n9.symm])
  have B2 := Lib.hid bB2
  have E2 := Lib.hid bE2
  have I2 := Lib.hid hq2
  have cB := cell_of_row w2 bb 0 _ _ _ bB2
  have cE := cell_of_row w2 eb 0 _ _ _ bE2
  have fB : w2.frozen? ⟨bb, 0, none⟩ = false := by simp [World.frozen?, bB2]
  have fE : w2.frozen? ⟨eb, 0, none⟩ = false := by simp [World.frozen?, bE2]
  clear hk2 hq2 bB2 bE2
  refine Lib.hid ?_
  go_wp2
  go_end0
  refine ⟨rfl, (K2.out.set (by simp) _ _).set (by simp) _ _, ?_, ?_, ?_, ?_, ?_⟩
  · exact heap_set_other (heap_set_other C2.out n3 _ _) n4 _ _
  · exact heap_set_other (heap_set_other G2.out n6 _ _) n7 _ _
  · exact heap_set_other (heap_set_other I2.out n8 _ _) n9 _ _
  · exact heap_set_other (heap_set B2.out _ _) n10 _ _
  · exact heap_set (heap_set_other E2.out n10.symm _ _) _ _
end Go.Proofs.YbulkayawDoor
