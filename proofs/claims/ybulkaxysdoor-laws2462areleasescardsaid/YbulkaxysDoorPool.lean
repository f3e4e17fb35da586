/-
  pool.numberOf (18).
-/
import Derived.Test.YbulkaxysDoorNum
import Derived.Deep.RegionHeld
namespace Go.Proofs.YbulkaxysDoor
open Go.RowKit

theorem second_free (w : World) (A : Obj) (cs : Array Value) (T : TypeId) (j : Nat) : ((w.alloc A).alloc (.cells cs T)).frozen? ⟨w.heap.size + 1, j, none⟩ = false := by
  unfold World.frozen?
  rw [second_row w A cs T]
  simp

structure G (pb : Nat) (z : Addr) (v : Nat) (w X : World) : Prop where
  zs : Zs z X
  bits : X.cell? ⟨pb, 7, none⟩ = some (.int .i64 32)
  a : ∀ j, X.cell? ⟨w.heap.size, j, none⟩ = (#[.int .u64 0, .int .u64 (lov v), .pointer (some z)] : Array Value)[j]?
  r : ∀ j, X.cell? ⟨w.heap.size + 1, j, none⟩ = (#[.int .u64 0, .int .u64 0] : Array Value)[j]?
  f : ∀ j, X.frozen? ⟨w.heap.size + 1, j, none⟩ = false
  s : w.heap.size + 1 < X.heap.size
  low : Below w.heap.size w X

theorem G.next {pb : Nat} {z : Addr} {v : Nat} {w X Y : World} (g : G pb z v w X) (hp : pb < w.heap.size) (hb : Below X.heap.size X Y) : G pb z v w Y := by
  have h2 := g.zs.two
  have hs := g.s
  exact ⟨g.zs.below hb (by omega), (hb.cell (p := ⟨pb, 7, none⟩) (by show pb < _; omega)).trans g.bits, fun j => (hb.cell (p := ⟨w.heap.size, j, none⟩) (by show w.heap.size < _; omega)).trans (g.a j), fun j => (hb.cell (p := ⟨w.heap.size + 1, j, none⟩) hs).trans (g.r j), fun j => (hb.frozen (p := ⟨w.heap.size + 1, j, none⟩) hs).trans (g.f j), Nat.lt_of_lt_of_le hs hb.size, g.low.trans (hb.mono (by omega))⟩

theorem G.reads {pb : Nat} {z : Addr} {v : Nat} {w X : World} (g : G pb z v w X) : X.cell? ⟨pb, 7, none⟩ = some (.int .i64 32) ∧ X.cell? ⟨w.heap.size, 0, none⟩ = some (.int .u64 0) ∧ X.cell? ⟨w.heap.size, 1, none⟩ = some (.int .u64 (lov v)) ∧ X.cell? ⟨w.heap.size, 2, none⟩ = some (.pointer (some z)) := ⟨g.bits, g.a 0, g.a 1, g.a 2⟩

theorem G.left {pb : Nat} {z : Addr} {v : Nat} {w X : World} (g : G pb z v w X) : X.cell? ⟨w.heap.size + 1, 0, none⟩ = some (.int .u64 0) ∧ X.cell? ⟨w.heap.size + 1, 1, none⟩ = some (.int .u64 0) ∧ (∀ j, X.frozen? ⟨w.heap.size + 1, j, none⟩ = false) ∧ w.heap.size < X.heap.size ∧ w.heap.size + 1 < X.heap.size :=
  ⟨g.r 0, g.r 1, g.f, by have := g.s; omega, g.s⟩

theorem G.set {pb : Nat} {z : Addr} {v : Nat} {w X : World} (g : G pb z v w X) (hp : pb < w.heap.size) (u u' : Value) : ((X.setCell ⟨w.heap.size + 1, 0, none⟩ u).setCell ⟨w.heap.size + 1, 1, none⟩ u').cell? ⟨pb, 7, none⟩ = some (.int .i64 32) ∧ ((X.setCell ⟨w.heap.size + 1, 0, none⟩ u).setCell ⟨w.heap.size + 1, 1, none⟩ u').cell? ⟨w.heap.size, 0, none⟩ = some (.int .u64 0) ∧ ((X.setCell ⟨w.heap.size + 1, 0, none⟩ u).setCell ⟨w.heap.size + 1, 1, none⟩ u').cell? ⟨w.heap.size, 1, none⟩ = some (.int .u64 (lov v)) ∧ ((X.setCell ⟨w.heap.size + 1, 0, none⟩ u).setCell ⟨w.heap.size + 1, 1, none⟩ u').cell? ⟨w.heap.size, 2, none⟩ = some (.pointer (some z)) := by
  have key : ∀ b, b ≠ w.heap.size + 1 → ∀ j, ((X.setCell ⟨w.heap.size + 1, 0, none⟩ u).setCell ⟨w.heap.size + 1, 1, none⟩ u').cell? ⟨b, j, none⟩ = X.cell? ⟨b, j, none⟩ := fun b hb j => by
    refine World.cell?_of_block ?_
    show (World.setCell _ _ _).heap[b]? = _
    rw [Below.heap_setCell _ _ _ _ hb, Below.heap_setCell _ _ _ _ hb]
  rw [key pb (by omega), key w.heap.size (by omega), key w.heap.size (by omega), key w.heap.size (by omega)]
  exact g.reads

set_option maxRecDepth 100000 in
set_option maxHeartbeats 4000000 in
/-- pool.numberOf, of a pool of 32 bits. -/
theorem pool18 (pb v : Nat) (hv : v < 4294967296) (z : Addr) (w : World) (hz : Zs z w) (hbits : w.cell? ⟨pb, 7, none⟩ = some (.int .i64 32)) :
    Calls Ybad.prog 18 #[.pointer (some ⟨pb, 0, none⟩), .agg #[.int .u64 0, .int .u64 (lov v), .pointer (some z)]] w fun e w' => e = .returned (.agg #[.int .u64 0, .int .u64 (v : Int)]) ∧ Below w.heap.size w w' := by
  have h2 := hz.two
  have hp := World.block_lt_of_cell? w _ hbits
  have hp' : pb < w.heap.size := hp
  obtain ⟨W0, hW0⟩ : ∃ W0, W0 = (w.alloc (.cells #[.int .u64 0, .int .u64 (lov v), .pointer (some z)] 35)).alloc (.cells #[.int .u64 0, .int .u64 0] 46) := ⟨_, rfl⟩
  have low0 : Below w.heap.size w W0 := by rw [hW0]; exact ((Below.refl _ w).alloc (Nat.le_refl _) _).alloc (by simp) _
  have g0 : G pb z v w W0.drew := by
    refine ⟨hz.below low0.drew (by omega), (low0.drew.cell (p := ⟨pb, 7, none⟩) hp).trans hbits, fun j => ?_, fun j => ?_, fun j => ?_, ?_, low0.drew⟩
    · rw [hW0]; exact first_cell w _ _ _ j
    · rw [hW0]; exact second_cell w _ _ _ j
    · rw [hW0]; exact second_free w _ _ _ j
    · rw [hW0]; show w.heap.size + 1 < ((w.alloc _).alloc _).heap.size; simp
  have HW := Lib.hid hW0
  have HP := Lib.hid hp'
  go_enter Ybad.func18, Ybad.ntmps18
  go_wp2
  rw [← HW.out]
  clear hW0 low0 hz hbits
  have G0 := Lib.hid g0
  have hS0 := g0.reads
  clear g0
  go_region_held (fun X => X.cell? ⟨pb, 7, none⟩ = some (.int .i64 32) ∧ X.cell? ⟨w.heap.size, 0, none⟩ = some (.int .u64 0) ∧ X.cell? ⟨w.heap.size, 1, none⟩ = some (.int .u64 (lov v)) ∧ X.cell? ⟨w.heap.size, 2, none⟩ = some (.pointer (some z)))
    (first | assumption | exact GC.out.set HP.out _ _)
    (first
    | (go_at_call 23; refine (number23 v hv z _ (Hid.out (p := G pb z v w _) (by assumption)).zs).mono ?_; rintro e wA ⟨rfl, hbA⟩; have GA : Hid (G pb z v w wA) := Lib.hid (G.next (Hid.out (p := G pb z v w _) (by assumption)) HP.out hbA); have hSA := GA.out.reads; clear hbA)
    | (go_at_call 12; refine (bitLen12 0 (lov v) z _ (Hid.out (p := G pb z v w _) (by assumption)).zs).mono ?_; rintro e wB ⟨rfl, hbB⟩; have GB : Hid (G pb z v w wB) := Lib.hid (G.next (Hid.out (p := G pb z v w _) (by assumption)) HP.out hbB); have hSB := GB.out.reads; clear hbB)
    | (go_at_call 24; refine (shr24 v hv _).mono ?_; rintro e wC ⟨rfl, hbC⟩; have GC : Hid (G pb z v w wC) := Lib.hid (G.next (Hid.out (p := G pb z v w _) (by assumption)) HP.out hbC); have hSC := GC.out.reads; obtain ⟨n0, n1, n2, n3, n4⟩ := GC.out.left; clear hbC))
  have hlow := GC.out.low
  go_wp2
  exact bodyPost_ret (v := .agg #[.int .u64 0, .int .u64 (v : Int)]) (by simp [results, Ybad.results18, go_sem, n0, n1]) rfl ⟨rfl, (hlow.setCell (by simp) _).setCell (by simp) _⟩
end Go.Proofs.YbulkaxysDoor
