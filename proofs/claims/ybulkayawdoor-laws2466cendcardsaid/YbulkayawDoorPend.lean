/-
  THE WALKS OF THE PENDING QUERIES: slot (16), waiting (15), take (10), reuse (11).
-/
import Derived.Test.YbulkayawDoorAs16
import Derived.Laws.EntriesVeiled
import Derived.Test.YbulkayawDoorEq
namespace Go.Proofs.YbulkayawDoor
open Go.RowKit

set_option maxHeartbeats 400000 in
theorem slot_any (nb o sb n idx : Nat) (t : Int) (w : World) (hs : w.cell? ⟨nb, o, none⟩ = some (.slice (some ⟨sb, 0, none⟩) n n)) (ht0 : 0 ≤ t) (ht1 : t ≤ 65535) (hn : n ≤ 32) (hi : bits BinOp.and IntKind.i64 t ((n : Int) - 1) = (idx : Int)) (hlt : idx < n) :
    Calls Ybad.prog 16 #[.pointer (some ⟨nb, o, none⟩), .int .u16 t] w fun e w' => e = .returned (.pointer (some ⟨sb, idx, none⟩)) ∧ ∃ k, w' = w.drewN k := by
  have hlt2 : (idx : Int) < (n : Int) := by omega
  go_enter Ybad.func16, Ybad.ntmps16
  go_wp2
  go_quiet (fail)
  go_wp2
  go_ret
  exact ⟨rfl, _, rfl⟩

theorem below_drewN {B : Nat} {a w : World} (h : Below B a w) (k : Nat) : Below B a (w.drewN k) := ⟨h.os, h.tape, h.output, h.size, h.block⟩

set_option maxHeartbeats 400000 in
theorem waiting_none (nb o : Nat) (x0 x1 x2 x3 x4 x5 t : Int) (w : World) (hs : w.cell? ⟨nb, o, none⟩ = some (.slice none 0 0)) :
    Calls Ybad.prog 15 #[.pointer (some ⟨nb, o, none⟩), .agg #[.int .u8 x0, .int .u8 x1, .int .u8 x2, .int .u8 x3, .int .u8 x4, .int .u8 x5, .int .u16 t]] w fun e w' => e = .returned (.pointer none) ∧ Below w.heap.size w w' := by
  have hb := World.block_lt_of_cell? w _ hs
  go_enter Ybad.func15, Ybad.ntmps15
  go_wp2
  go_ret
  exact ⟨rfl, (Below.refl _ w).alloc (Nat.le_refl _) _⟩

set_option maxHeartbeats 400000 in
theorem waiting_empty (nb o sb n idx : Nat) (x0 x1 x2 x3 x4 x5 t : Int) (w : World) (hs : w.cell? ⟨nb, o, none⟩ = some (.slice (some ⟨sb, 0, none⟩) n n)) (ht0 : 0 ≤ t) (ht1 : t ≤ 65535) (hn0 : 0 < n) (hn : n ≤ 32) (hi : bits BinOp.and IntKind.i64 t ((n : Int) - 1) = (idx : Int)) (hlt : idx < n)
    (hq : w.cell? ⟨sb, idx, none⟩ = some (.pointer none)) :
    Calls Ybad.prog 15 #[.pointer (some ⟨nb, o, none⟩), .agg #[.int .u8 x0, .int .u8 x1, .int .u8 x2, .int .u8 x3, .int .u8 x4, .int .u8 x5, .int .u16 t]] w fun e w' => e = .returned (.pointer none) ∧ Below w.heap.size w w' := by
  have hb := World.block_lt_of_cell? w _ hs
  have hb2 := World.block_lt_of_cell? w _ hq
  have hn2 : ((n : Int) == 0) = false := by simp; omega
  have HI := Lib.hid hi
  clear hi
  have hs1 : (w.alloc (.cells #[.int .u8 x0, .int .u8 x1, .int .u8 x2, .int .u8 x3, .int .u8 x4, .int .u8 x5, .int .u16 t] 26)).cell? ⟨nb, o, none⟩ = some (.slice (some ⟨sb, 0, none⟩) n n) := (((Below.refl w.heap.size w).alloc (Nat.le_refl _) _).cell (p := ⟨nb, o, none⟩) hb).trans hs
  have hq1 : (w.alloc (.cells #[.int .u8 x0, .int .u8 x1, .int .u8 x2, .int .u8 x3, .int .u8 x4, .int .u8 x5, .int .u16 t] 26)).cell? ⟨sb, idx, none⟩ = some (.pointer none) := (((Below.refl w.heap.size w).alloc (Nat.le_refl _) _).cell (p := ⟨sb, idx, none⟩) hb2).trans hq
  go_enter Ybad.func15, Ybad.ntmps15
  go_wp2_with fail
  refine (slot_any nb o sb n idx t _ hs1 ht0 ht1 hn HI.out hlt).mono ?_
  rintro e w1 ⟨rfl, k, rfl⟩
  go_wp2
  go_quiet (fail)
  go_wp2
  go_ret
  exact ⟨rfl, below_drewN (below_drewN ((Below.refl _ w).alloc (Nat.le_refl _) _) _) _⟩

set_option maxHeartbeats 400000 in
/-- A query waits in the slot: the answer hangs on its transaction. -/
theorem waiting_some (nb o sb n idx qb : Nat) (x0 x1 x2 x3 x4 x5 t u : Int) (w : World) (hs : w.cell? ⟨nb, o, none⟩ = some (.slice (some ⟨sb, 0, none⟩) n n)) (ht0 : 0 ≤ t) (ht1 : t ≤ 65535) (hn0 : 0 < n) (hn : n ≤ 32) (hi : bits BinOp.and IntKind.i64 t ((n : Int) - 1) = (idx : Int)) (hlt : idx < n)
    (hq : w.cell? ⟨sb, idx, none⟩ = some (.pointer (some ⟨qb, 0, none⟩)))
    (q0 : w.cell? ⟨qb, 0, none⟩ = some (.int .u8 x0)) (q1 : w.cell? ⟨qb, 1, none⟩ = some (.int .u8 x1)) (q2 : w.cell? ⟨qb, 2, none⟩ = some (.int .u8 x2)) (q3 : w.cell? ⟨qb, 3, none⟩ = some (.int .u8 x3)) (q4 : w.cell? ⟨qb, 4, none⟩ = some (.int .u8 x4)) (q5 : w.cell? ⟨qb, 5, none⟩ = some (.int .u8 x5)) (q6 : w.cell? ⟨qb, 6, none⟩ = some (.int .u16 u)) :
    Calls Ybad.prog 15 #[.pointer (some ⟨nb, o, none⟩), .agg #[.int .u8 x0, .int .u8 x1, .int .u8 x2, .int .u8 x3, .int .u8 x4, .int .u8 x5, .int .u16 t]] w fun e w' => e = .returned (.pointer (if u = t then some ⟨qb, 0, none⟩ else none)) ∧ Below w.heap.size w w' := by
  have hb := World.block_lt_of_cell? w _ hs
  have hb2 := World.block_lt_of_cell? w _ hq
  have hb3 := World.block_lt_of_cell? w _ q0
  have hn2 : ((n : Int) == 0) = false := by simp; omega
  have HI := Lib.hid hi
  clear hi
  have hbel := (Below.refl w.heap.size w).alloc (Nat.le_refl _) (.cells #[.int .u8 x0, .int .u8 x1, .int .u8 x2, .int .u8 x3, .int .u8 x4, .int .u8 x5, .int .u16 t] 26)
  have hs1 := (hbel.cell (p := ⟨nb, o, none⟩) hb).trans hs
  have hq1 := (hbel.cell (p := ⟨sb, idx, none⟩) hb2).trans hq
  have r0 := (hbel.cell (p := ⟨qb, 0, none⟩) hb3).trans q0
  have r1 := (hbel.cell (p := ⟨qb, 1, none⟩) hb3).trans q1
  have r2 := (hbel.cell (p := ⟨qb, 2, none⟩) hb3).trans q2
  have r3 := (hbel.cell (p := ⟨qb, 3, none⟩) hb3).trans q3
  have r4 := (hbel.cell (p := ⟨qb, 4, none⟩) hb3).trans q4
  have r5 := (hbel.cell (p := ⟨qb, 5, none⟩) hb3).trans q5
  have r6 := (hbel.cell (p := ⟨qb, 6, none⟩) hb3).trans q6
  clear hs hq q0 q1 q2 q3 q4 q5 q6
  have heq := fun W => eq24 x0 x1 x2 x3 x4 x5 W
  by_cases hut : u = t
  · subst hut
    rw [if_pos rfl]
    go_enter Ybad.func15, Ybad.ntmps15
    go_wp2_with fail
    refine (slot_any nb o sb n idx u _ hs1 ht0 ht1 hn HI.out hlt).mono ?_
    rintro e w1 ⟨rfl, k, rfl⟩
    go_wp2
    go_quiet (fail)
    go_wp2
    go_ret
    exact ⟨rfl, below_drewN (below_drewN hbel _) _⟩
  · rw [if_neg hut]
    have hne : (u == t) = false := by simpa using hut
    go_enter Ybad.func15, Ybad.ntmps15
    go_wp2_with fail
    refine (slot_any nb o sb n idx t _ hs1 ht0 ht1 hn HI.out hlt).mono ?_
    rintro e w1 ⟨rfl, k, rfl⟩
    go_wp2
    go_quiet (fail)
    go_wp2
    go_ret
    exact ⟨rfl, below_drewN (below_drewN hbel _) _⟩

set_option maxHeartbeats 400000 in
/-- take, where nothing is taken. -/
theorem take_none (nb o : Nat) (x0 x1 x2 x3 x4 x5 t : Int) (w : World)
    (hw : ∀ w1, Below w.heap.size w w1 → Calls Ybad.prog 15 #[.pointer (some ⟨nb, o, none⟩), .agg #[.int .u8 x0, .int .u8 x1, .int .u8 x2, .int .u8 x3, .int .u8 x4, .int .u8 x5, .int .u16 t]] w1 fun e w' => e = .returned (.pointer none) ∧ Below w1.heap.size w1 w') :
    Calls Ybad.prog 10 #[.pointer (some ⟨nb, o, none⟩), .agg #[.int .u8 x0, .int .u8 x1, .int .u8 x2, .int .u8 x3, .int .u8 x4, .int .u8 x5, .int .u16 t]] w fun e w' => e = .returned (.pointer none) ∧ Below w.heap.size w w' := by
  have hbel := (Below.refl w.heap.size w).alloc (Nat.le_refl _) (.cells #[.int .u8 x0, .int .u8 x1, .int .u8 x2, .int .u8 x3, .int .u8 x4, .int .u8 x5, .int .u16 t] 26)
  have hc := hw _ hbel
  clear hw
  go_enter Ybad.func10, Ybad.ntmps10
  go_wp2_with fail
  refine hc.mono ?_
  rintro e w1 ⟨rfl, hb1⟩
  clear hc
  go_wp2
  go_ret
  exact ⟨rfl, hbel.trans (hb1.mono hbel.size)⟩

set_option maxHeartbeats 400000 in
/-- take, where the query waits. -/
theorem take_some (nb o sb n idx qb : Nat) (x0 x1 x2 x3 x4 x5 t c : Int) (w : World) (hs : w.cell? ⟨nb, o, none⟩ = some (.slice (some ⟨sb, 0, none⟩) n n)) (ht0 : 0 ≤ t) (ht1 : t ≤ 65535) (hn0 : 0 < n) (hn : n ≤ 32) (hi : bits BinOp.and IntKind.i64 t ((n : Int) - 1) = (idx : Int)) (hlt : idx < n)
    (hq : w.cell? ⟨sb, idx, none⟩ = some (.pointer (some ⟨qb, 0, none⟩))) (hcn : w.cell? ⟨nb, o + 1, none⟩ = some (.int .i64 c)) (hfs : w.frozen? ⟨sb, idx, none⟩ = false) (hfn : w.frozen? ⟨nb, o + 1, none⟩ = false) (hne : nb ≠ sb)
    (q0 : w.cell? ⟨qb, 0, none⟩ = some (.int .u8 x0)) (q1 : w.cell? ⟨qb, 1, none⟩ = some (.int .u8 x1)) (q2 : w.cell? ⟨qb, 2, none⟩ = some (.int .u8 x2)) (q3 : w.cell? ⟨qb, 3, none⟩ = some (.int .u8 x3)) (q4 : w.cell? ⟨qb, 4, none⟩ = some (.int .u8 x4)) (q5 : w.cell? ⟨qb, 5, none⟩ = some (.int .u8 x5)) (q6 : w.cell? ⟨qb, 6, none⟩ = some (.int .u16 t)) :
    Calls Ybad.prog 10 #[.pointer (some ⟨nb, o, none⟩), .agg #[.int .u8 x0, .int .u8 x1, .int .u8 x2, .int .u8 x3, .int .u8 x4, .int .u8 x5, .int .u16 t]] w fun e w' => e = .returned (.pointer (some ⟨qb, 0, none⟩)) ∧ ∃ w1, Below w.heap.size w w1 ∧ w' = (w1.setCell ⟨sb, idx, none⟩ (.pointer none)).setCell ⟨nb, o + 1, none⟩ (.int .i64 (wrap64 (c - 1))) := by
  have hb := World.block_lt_of_cell? w _ hs
  have hb2 := World.block_lt_of_cell? w _ hq
  have hb3 := World.block_lt_of_cell? w _ q0
  have HI := Lib.hid hi
  clear hi
  have hbel := (Below.refl w.heap.size w).alloc (Nat.le_refl _) (.cells #[.int .u8 x0, .int .u8 x1, .int .u8 x2, .int .u8 x3, .int .u8 x4, .int .u8 x5, .int .u16 t] 26)
  have hc := waiting_some nb o sb n idx qb x0 x1 x2 x3 x4 x5 t t _ ((hbel.cell (p := ⟨nb, o, none⟩) hb).trans hs) ht0 ht1 hn0 hn HI.out hlt ((hbel.cell (p := ⟨sb, idx, none⟩) hb2).trans hq) ((hbel.cell (p := ⟨qb, 0, none⟩) hb3).trans q0) ((hbel.cell (p := ⟨qb, 1, none⟩) hb3).trans q1) ((hbel.cell (p := ⟨qb, 2, none⟩) hb3).trans q2) ((hbel.cell (p := ⟨qb, 3, none⟩) hb3).trans q3) ((hbel.cell (p := ⟨qb, 4, none⟩) hb3).trans q4) ((hbel.cell (p := ⟨qb, 5, none⟩) hb3).trans q5) ((hbel.cell (p := ⟨qb, 6, none⟩) hb3).trans q6)
  rw [if_pos rfl] at hc
  go_enter Ybad.func10, Ybad.ntmps10
  go_wp2_with fail
  refine hc.mono ?_
  rintro e w1 ⟨rfl, hb1'⟩
  have hb1 := hbel.trans (hb1'.mono hbel.size)
  have s1 := (hb1.cell (p := ⟨nb, o, none⟩) hb).trans hs
  have s2 := (hb1.cell (p := ⟨nb, o + 1, none⟩) hb).trans hcn
  have s3 := (hb1.cell (p := ⟨sb, idx, none⟩) hb2).trans hq
  have s4 := (hb1.frozen (p := ⟨nb, o + 1, none⟩) hb).trans hfn
  have s5 := (hb1.frozen (p := ⟨sb, idx, none⟩) hb2).trans hfs
  have s6 : w1.cell? ⟨w.heap.size, 6, none⟩ = some (.int .u16 t) := by rw [hb1'.cell (by simp)]; simp
  have H1 := Lib.hid hb1
  clear hc hb1' hs hq q0 q1 q2 q3 q4 q5 q6 hcn hfs hfn hb1 hbel
  go_wp2_with fail
  refine (slot_any nb o sb n idx t _ s1 ht0 ht1 hn HI.out hlt).mono ?_
  rintro e w2 ⟨rfl, k, rfl⟩
  go_wp2
  go_ret
  refine ⟨rfl, w1.drewN k, below_drewN H1.out k, ?_⟩
  rfl

set_option maxRecDepth 100000 in
set_option maxHeartbeats 1000000 in
theorem stop_any (tb : Nat) (c : Int) (w : World) (h : w.cell? ⟨tb, 0, none⟩ = some (.int .i64 c)) (hf : w.frozen? ⟨tb, 0, none⟩ = false) :
    Calls Ybad.prog 37 #[.pointer (some ⟨tb, 0, none⟩)] w fun e w' => e = .returned (.bool true) ∧ w' = w.setCell ⟨tb, 0, none⟩ (.int .i64 (wrap64 (c + 1))) := by
  go_enter Ybad.func37, Ybad.ntmps37
  go_wp2
  go_ret
  exact ⟨rfl, rfl⟩
end Go.Proofs.YbulkayawDoor
