/-
  reuse (11): the query zeroed and put on the free list.
-/
import Derived.Test.YbulkayawDoorPend
import Derived.OwnWalk
import Derived.Laws.AppendOwn
import Derived.Lib.SmallJoins
namespace Go.Proofs.YbulkayawDoor
open Go.RowKit

/-- A query's cells. -/
def qCells (x0 x1 x2 x3 x4 x5 t : Int) (m : ByteArray) (tm dn : Value) : Array Value :=
  #[.int .u8 x0, .int .u8 x1, .int .u8 x2, .int .u8 x3, .int .u8 x4, .int .u8 x5, .int .u16 t, .int .u8 0, .int .u8 0, .int .u8 0, .int .u8 0, .int .u8 0, .int .u8 0, .int .u8 0, .int .u8 0, .int .u8 0, .int .u8 0, .int .u8 0, .int .u8 0, .int .u8 0, .int .u8 0, .int .u8 0, .int .u8 0, .int .u8 0, .int .u8 0, .int .u8 0, .int .u8 0, .bool false, .string m, tm, dn]

/-- All but the blocks S stand as they stood; what is new lies behind. -/
structure Kept (S : List Nat) (w w' : World) : Prop where
  os : w'.os = w.os
  tape : w'.tape = w.tape
  output : w'.output = w.output
  size : w.heap.size ≤ w'.heap.size
  block : ∀ k, k < w.heap.size → k ∉ S → w'.heap[k]? = w.heap[k]?

section
variable {S : List Nat} {a w w' : World}
theorem Kept.refl (S : List Nat) (w : World) : Kept S w w := ⟨rfl, rfl, rfl, Nat.le_refl _, fun _ _ _ => rfl⟩
theorem Kept.trans (h : Kept S a w) (k : Kept S w w') : Kept S a w' := ⟨k.os.trans h.os, k.tape.trans h.tape, k.output.trans h.output, Nat.le_trans h.size k.size, fun i hi hn => (k.block i (Nat.lt_of_lt_of_le hi h.size) hn).trans (h.block i hi hn)⟩
theorem Kept.of_below (h : Below w.heap.size w w') : Kept S w w' := ⟨h.os, h.tape, h.output, h.size, fun k hk _ => h.block k hk⟩
theorem Kept.alloc (h : Kept S a w) (o : Obj) : Kept S a (w.alloc o) := h.trans ⟨rfl, rfl, rfl, by simp, fun k hk _ => Below.heap_alloc w o k hk⟩
theorem Kept.drew (h : Kept S a w) : Kept S a w.drew := ⟨h.os, h.tape, h.output, h.size, h.block⟩
theorem Kept.drewN (h : Kept S a w) (n : Nat) : Kept S a (w.drewN n) := ⟨h.os, h.tape, h.output, h.size, h.block⟩
theorem Kept.set (h : Kept S a w) {b : Nat} (hb : b ∈ S) (j : Nat) (v : Value) : Kept S a (w.setCell ⟨b, j, none⟩ v) :=
  h.trans ⟨rfl, rfl, rfl, by simp [World.setCell], fun k _ hk => Below.heap_setCell _ _ _ _ (fun e => hk (by rw [e]; exact hb))⟩
theorem Kept.mono {S' : List Nat} (h : Kept S w w') (hs : ∀ x ∈ S, x ∈ S') : Kept S' w w' := ⟨h.os, h.tape, h.output, h.size, fun k hk hn => h.block k hk (fun hx => hn (hs k hx))⟩
theorem Kept.below {B : Nat} (h : Kept S w w') (hs : ∀ x ∈ S, B ≤ x) (hB : B ≤ w.heap.size) : Below B w w' := ⟨h.os, h.tape, h.output, h.size, fun k hk => h.block k (by omega) (fun hx => by have := hs k hx; omega)⟩
theorem Kept.at (h : Kept S w w') {b : Nat} {o : Obj} (hb : w.heap[b]? = some o) (hn : b ∉ S) : w'.heap[b]? = some o := (h.block b (Array.getElem?_eq_some_iff.1 hb).1 hn).trans hb
end

theorem heap_set {w : World} {b : Nat} {arr : Array Value} {T : TypeId} {fr : Nat × Nat} (h : w.heap[b]? = some (.cells arr T fr)) (j : Nat) (v : Value) : (w.setCell ⟨b, j, none⟩ v).heap[b]? = some (.cells (arr.setIfInBounds j v) T fr) := by
  simp [World.setCell, Array.getElem?_modify, h]
theorem heap_set_other {w : World} {b k : Nat} {o : Obj} (h : w.heap[k]? = some o) (hne : k ≠ b) (j : Nat) (v : Value) : (w.setCell ⟨b, j, none⟩ v).heap[k]? = some o := by
  rw [Below.heap_setCell _ _ _ _ hne]; exact h
theorem heap_old {w : World} {k : Nat} {x : Obj} (h : w.heap[k]? = some x) (o : Obj) : (w.alloc o).heap[k]? = some x := by
  rw [Below.heap_alloc _ _ _ (Array.getElem?_eq_some_iff.1 h).1]; exact h

theorem heap_new {k : Nat} (W : World) (o : Obj) (h : W.heap.size = k) : (W.alloc o).heap[k]? = some o := by rw [← h]; exact Array.getElem?_push_size

def qZero : Array Value := qCells 0 0 0 0 0 0 0 ⟨#[]⟩ .nilIface .nilFunc

theorem wpList_store_hide {P : Program} {ops : Array Oper} {rest : List Oper} {o : Oper} {a : Act} {w : World} {Q : Exit → Act → World → Prop} (hgd : o.guard = none) (ty : TypeId) (x y : Operand) (ho : o.op = .store ty x y)
    (g : Nat) (cells : Array Value) (hx : a.eval x = .pointer (some ⟨g, 0, none⟩)) (hy : a.eval y = .agg cells)
    (t : TypeId) (old : Array Value) (hg : w.heap[g]? = some (.cells old t (0, 0))) (hi : (P.info? ty).map (·.size) = some cells.size)
    (hold : old.size = cells.size) (h1 : cells.all (·.oneCell') = true)
    (h : ∀ w1, Kept [g] w w1 → w1.heap[g]? = some (.cells cells t (0, 0)) → w1.heap.size = w.heap.size → wpList P ops Q rest (a.put o.dst undef) w1) : wpList P ops Q (o :: rest) a w :=
  wpList_store_row hgd ty x y ho g cells hx hy t old hg hi hold h1 (h _ ⟨rfl, rfl, rfl, by simp [World.setRow], fun k _ hk => by
    have : g ≠ k := fun e => hk (by simp [e])
    simp [World.setRow, Array.getElem?_modify, this]⟩ (setRow_heap w g old cells t _ hg) (by simp [World.setRow]))

set_option maxRecDepth 100000 in
set_option maxHeartbeats 1000000 in
theorem reuse_any (nb o qb : Nat) (x0 x1 x2 x3 x4 x5 t : Int) (m : ByteArray) (tm dn : Value) (w : World) (hq : w.heap[qb]? = some (.cells (qCells x0 x1 x2 x3 x4 x5 t m tm dn) 45 (0, 0))) (hfree : w.cell? ⟨nb, o + 3, none⟩ = some (.slice none 0 0)) (hff : w.frozen? ⟨nb, o + 3, none⟩ = false) (hne : nb ≠ qb) :
    Calls Ybad.prog 11 #[.pointer (some ⟨nb, o, none⟩), .pointer (some ⟨qb, 0, none⟩)] w fun e w' => e = .returned (.tuple #[]) ∧
      ∃ fb cap, Kept [qb, nb] w w' ∧ w'.heap[qb]? = some (.cells qZero 45 (0, 0)) ∧ (∀ arr T, w.heap[nb]? = some (.cells arr T (0, 0)) → w'.heap[nb]? = some (.cells (arr.setIfInBounds (o + 3) (.slice (some ⟨fb, 0, none⟩) 1 cap)) T (0, 0))) ∧ w.heap.size ≤ fb ∧ w'.cell? ⟨fb, 0, none⟩ = some (.pointer (some ⟨qb, 0, none⟩)) := by
  have hqb : qb < w.heap.size := (Array.getElem?_eq_some_iff.1 hq).1
  have hnb := World.block_lt_of_cell? w _ hfree
  have HQ := Lib.hid hq
  clear hq
  have h45 : (Ybad.prog.info? 45).map (·.size) = some 31 := by kernel_rfl
  have hone : qZero.all (·.oneCell') = true := by kernel_rfl
  go_enter Ybad.func11, Ybad.ntmps11
  go_wp2_with (refine wpList_store_hide rfl 45 _ _ rfl qb qZero rfl rfl 45 _ HQ.out h45 rfl hone ?_; intro w1 hk1 hq1 hs1; refine Hid.out ?_)
  have HQ1 := Lib.hid hq1
  have HK1 := Lib.hid hk1
  have hfree1 : w1.cell? ⟨nb, o + 3, none⟩ = some (.slice none 0 0) := by
    rw [← hfree]; simp only [World.cell?, hk1.block nb hnb (by simp [hne])]
  have hff1 : w1.frozen? ⟨nb, o + 3, none⟩ = false := by
    rw [← hff]; simp only [World.frozen?, hk1.block nb hnb (by simp [hne])]
  have hqb1 : qb < w1.heap.size := by omega
  have hnb1 : nb < w1.heap.size := by omega
  clear hk1 hq1 hff hfree HQ
  refine Lib.hid ?_
  go_wp2
  go_end0
  refine ⟨rfl, w.heap.size + 1, _, ((((HK1.out.mono (by simp)).set (by simp) _ _).alloc _).alloc _).drew, heap_old (heap_old (heap_set_other HQ1.out (Ne.symm hne) _ _) _) _, fun arr T h => heap_old (heap_old (heap_set ((HK1.out.block nb hnb (by simp [hne])).trans h) _ _) _) _, by omega, ?_⟩
  refine (cell_of_row _ _ _ _ 37 (0, 0) (heap_new _ _ (by simp [World.setCell, hs1]))).trans ?_
  rw [Array.getElem?_append]
  rfl
end Go.Proofs.YbulkayawDoor
