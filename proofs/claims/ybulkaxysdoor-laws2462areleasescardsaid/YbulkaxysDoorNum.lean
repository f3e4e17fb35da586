/-
  The number of an IPv4 address: BEPutUint32 (32), As4 (27), Uint32 (28), numberOf (23), shr by nothing (24), pool.numberOf (18).
-/
import Derived.Test.YbulkaxysDoorNet
namespace Go.Proofs.YbulkaxysDoor
open Go.RowKit

theorem heap_second (w : World) (A B : Obj) : ((w.alloc A).alloc B).drew.heap[w.heap.size + 1]? = some B := by
  have e : (w.alloc A).heap.size = w.heap.size + 1 := by simp
  show ((w.alloc A).alloc B).heap[w.heap.size + 1]? = some B
  rw [← e]; exact Array.getElem?_push_size

theorem put32 (b c : Nat) (v : Nat) (hv : v < 4294967296) (w : World) (u0 u1 u2 u3 : Value) (hb : w.heap[b]? = some (.cells #[u0, u1, u2, u3] 27 (0, 0))) :
    Calls Ybad.prog 32 #[.slice (some ⟨b, 0, none⟩) 4 c, .int .u32 (v : Int)] w fun e w' => e = .returned (.tuple #[]) ∧ w' = (((w.setCell ⟨b, 0, none⟩ (.int .u8 (b0 v))).setCell ⟨b, 1, none⟩ (.int .u8 (b1 v))).setCell ⟨b, 2, none⟩ (.int .u8 (b2 v))).setCell ⟨b, 3, none⟩ (.int .u8 (b3 v)) := by
  have c0 : w.cell? ⟨b, 0, none⟩ = some u0 := cell_of_row w b 0 _ _ _ hb
  have c1 : w.cell? ⟨b, 1, none⟩ = some u1 := cell_of_row w b 1 _ _ _ hb
  have c2 : w.cell? ⟨b, 2, none⟩ = some u2 := cell_of_row w b 2 _ _ _ hb
  have c3 : w.cell? ⟨b, 3, none⟩ = some u3 := cell_of_row w b 3 _ _ _ hb
  have hf : ∀ j, w.frozen? ⟨b, j, none⟩ = false := fun j => by simp [World.frozen?, hb]
  have hlt := World.block_lt_of_cell? w _ c0
  have e0 : (v : Int) / 16777216 = b0 v := by unfold b0; omega
  have e1 : (v : Int) / 65536 % 256 = b1 v := by unfold b1; omega
  have e2 : (v : Int) / 256 % 256 = b2 v := by unfold b2; omega
  have e3 : (v : Int) % 256 = b3 v := by unfold b3; omega
  have hv2 : (v : Int) < 4294967296 := by omega
  go_enter Ybad.func32, Ybad.ntmps32
  go_wp2
  go_end0
  exact ⟨rfl, rfl⟩

theorem lov32 (v : Nat) (hv : v < 4294967296) : IntKind.u32.wrap (lov v) = (v : Int) := by
  have : IntKind.u32.wrap (lov v) = (lov v) % 4294967296 := by kernel_rfl
  rw [this]; unfold lov; omega

set_option maxRecDepth 100000 in
set_option maxHeartbeats 1000000 in
/-- As4. -/
theorem as4 (v : Nat) (hv : v < 4294967296) (z : Addr) (w : World) (hz : Zs z w) :
    Calls Ybad.prog 27 #[.agg #[.int .u64 0, .int .u64 (lov v), .pointer (some z)]] w fun e w' => e = .returned (.agg #[.int .u8 (b0 v), .int .u8 (b1 v), .int .u8 (b2 v), .int .u8 (b3 v)]) ∧ Below w.heap.size w w' := by
  have hz4 := hz.z4
  have h2 := hz.two
  have g0 : (0 : Nat) < w.heap.size := by omega
  have g2 : (0 : Nat) < w.heap.size + 1 := by omega
  have g4 : (0 : Nat) < w.heap.size + 1 + 1 := by omega
  have he := eqz z
  have hl := lov32 v hv
  go_enter Ybad.func27, Ybad.ntmps27
  go_wp2
  go_region_with (first | (go_at_call 32; refine (put32 (w.heap.size + 1) 4 v hv _ _ _ _ _ (heap_second w _ _)).mono ?_; rintro e w1 ⟨rfl, rfl⟩))
  go_wp2
  refine bodyPost_ret (v := .agg #[.int .u8 (b0 v), .int .u8 (b1 v), .int .u8 (b2 v), .int .u8 (b3 v)]) (by simp [results, Ybad.results27, go_sem]) rfl ⟨rfl, ?_⟩
  exact (((Below.refl _ w).alloc (Nat.le_refl _) _).alloc (by simp) _).drew

theorem or32 (v : Nat) (hv : v < 4294967296) : bits BinOp.or IntKind.u32 (bits BinOp.or IntKind.u32 (bits BinOp.or IntKind.u32 (b3 v) (b2 v * 256)) (b1 v * 65536)) (b0 v * 16777216) = (v : Int) := by
  have j : ∀ (i x y : Nat), x < 2 ^ i → y % 2 ^ i = 0 → x < 4294967296 → y < 4294967296 → bits BinOp.or IntKind.u32 (x : Int) (y : Int) = ((x + y : Nat) : Int) := fun i x y hx hy hX hY => by
    have h := u32_or_nat x y hX hY
    rw [Nat.or_comm, nat_join i y x hy hx, Nat.add_comm] at h
    exact h
  unfold b0 b1 b2 b3
  have e1 : bits BinOp.or IntKind.u32 ((v % 256 : Nat) : Int) (((v / 256 % 256 : Nat) : Int) * 256) = ((v % 256 + v / 256 % 256 * 256 : Nat) : Int) := j 8 _ (v / 256 % 256 * 256) (by omega) (by omega) (by omega) (by omega)
  rw [e1]
  have e2 : bits BinOp.or IntKind.u32 ((v % 256 + v / 256 % 256 * 256 : Nat) : Int) (((v / 65536 % 256 : Nat) : Int) * 65536) = ((v % 256 + v / 256 % 256 * 256 + v / 65536 % 256 * 65536 : Nat) : Int) := j 16 _ (v / 65536 % 256 * 65536) (by omega) (by omega) (by omega) (by omega)
  rw [e2]
  have e3 : bits BinOp.or IntKind.u32 ((v % 256 + v / 256 % 256 * 256 + v / 65536 % 256 * 65536 : Nat) : Int) (((v / 16777216 : Nat) : Int) * 16777216) = ((v % 256 + v / 256 % 256 * 256 + v / 65536 % 256 * 65536 + v / 16777216 * 16777216 : Nat) : Int) := j 24 _ (v / 16777216 * 16777216) (by omega) (by omega) (by omega) (by omega)
  rw [e3]
  omega

set_option maxHeartbeats 1000000 in
/-- Uint32. -/
theorem uint28 (b c : Nat) (v : Nat) (hv : v < 4294967296) (w : World) (c0 : w.cell? ⟨b, 0, none⟩ = some (.int .u8 (b0 v))) (c1 : w.cell? ⟨b, 1, none⟩ = some (.int .u8 (b1 v))) (c2 : w.cell? ⟨b, 2, none⟩ = some (.int .u8 (b2 v))) (c3 : w.cell? ⟨b, 3, none⟩ = some (.int .u8 (b3 v))) :
    Calls Ybad.prog 28 #[.agg #[], .slice (some ⟨b, 0, none⟩) 4 c] w fun e w' => e = .returned (.int .u32 (v : Int)) ∧ Below w.heap.size w w' := by
  have hb := World.block_lt_of_cell? w _ c0
  have i0 : 0 ≤ b0 v ∧ b0 v ≤ 255 := by unfold b0; omega
  have i1 : 0 ≤ b1 v ∧ b1 v ≤ 255 := by unfold b1; omega
  have i2 : 0 ≤ b2 v ∧ b2 v ≤ 255 := by unfold b2; omega
  have i3 : 0 ≤ b3 v ∧ b3 v ≤ 255 := by unfold b3; omega
  have ho := or32 v hv
  go_enter Ybad.func28, Ybad.ntmps28
  go_wp2
  go_quiet (fail)
  go_wp2
  go_ret
  exact ⟨rfl, (Below.refl _ w).trans ⟨rfl, rfl, rfl, by simp, fun k hk => Below.heap_alloc w _ k hk⟩⟩

theorem third_row (w2 : World) (cs : Array Value) (T : TypeId) : (w2.alloc (.cells cs T)).drew.heap[w2.heap.size]? = some (.cells cs T (0, 0)) := Array.getElem?_push_size
theorem third_cell (w2 : World) (cs : Array Value) (T : TypeId) (j : Nat) : (w2.alloc (.cells cs T)).drew.cell? ⟨w2.heap.size, j, none⟩ = cs[j]? := cell_of_row _ _ j _ _ _ (third_row w2 cs T)

theorem keep3 {w2 w3 : World} {B : Nat} {o : Obj} {a : World} (hb : Below (w2.alloc o).drew.heap.size (w2.alloc o).drew w3) (hB : B < w2.heap.size) {ds : Array Value} (hc : ∀ j, w2.cell? ⟨B, j, none⟩ = ds[j]?) (hf : ∀ j, w2.frozen? ⟨B, j, none⟩ = false) {C : Nat} (hl : Below C a w2) (hC : C ≤ w2.heap.size) :
    (∀ j, w3.cell? ⟨B, j, none⟩ = ds[j]?) ∧ (∀ j, w3.frozen? ⟨B, j, none⟩ = false) ∧ B < w3.heap.size ∧ Below C a w3 := by
  have e : w3.heap[B]? = w2.heap[B]? := (hb.block B (by show B < (w2.alloc o).heap.size; simp; omega)).trans (Below.heap_alloc w2 o B hB)
  have hs : (w2.alloc o).heap.size ≤ w3.heap.size := hb.size
  simp at hs
  refine ⟨fun j => (World.cell?_of_block (w := w2) e).trans (hc j), fun j => (World.frozen?_of_block (w := w2) e).trans (hf j), by omega, ?_⟩
  have h1 : Below C a (w2.alloc o).drew := (hl.alloc hC o).drew
  exact h1.trans (hb.mono (by show C ≤ (w2.alloc o).heap.size; simp; omega))

set_option maxRecDepth 100000 in
set_option maxHeartbeats 1000000 in
/-- numberOf. -/
theorem number23 (v : Nat) (hv : v < 4294967296) (z : Addr) (w : World) (hz : Zs z w) :
    Calls Ybad.prog 23 #[.agg #[.int .u64 0, .int .u64 (lov v), .pointer (some z)]] w fun e w' => e = .returned (.agg #[.int .u64 0, .int .u64 (v : Int)]) ∧ Below w.heap.size w w' := by
  have h2 := hz.two
  have hv2 : (v : Int) < 4294967296 := by omega
  have hw64 : IntKind.u64.wrap (v : Int) = (v : Int) := IntWalk.u64_in _ (by omega)
  go_enter Ybad.func23, Ybad.ntmps23
  go_wp2_with (first | (go_at_call 26; refine Hid.out ?_))
  refine Lib.hid ?_
  have hz1 := hz.below (((Below.refl _ w).alloc (Nat.le_refl _) (.cells #[.int .u64 0, .int .u64 (lov v), .pointer (some z)] 35)).alloc (by simp) (.cells #[.int .u64 0, .int .u64 0] 46)) (by omega)
  refine (is4 0 (lov v) z _ hz1).mono ?_
  rintro e w1 ⟨rfl, hb1⟩
  have hz2 : Zs z w1 := hz1.below hb1 (by simp)
  obtain ⟨r0, r1, f1, s0, s1, hlow⟩ := keep2 hb1
  go_wp2_with (first | (go_at_call 27; refine Hid.out ?_))
  refine Lib.hid ?_
  refine (as4 v hv z _ hz2).mono ?_
  rintro e w2 ⟨rfl, hb2⟩
  clear r0 r1 f1 s0 s1 hlow
  have hb12 := hb1.trans (hb2.mono hb1.size)
  obtain ⟨r0, r1, f1, s0, s1, hlow⟩ := keep2 hb12
  clear hb1 hb2 hb12 r0
  have hz3 : Zs z w2 := hz.below hlow (by omega)
  have h3 := hz3.two
  go_wp2
  go_region_with (first | (go_at_call 28; refine (uint28 w2.heap.size 4 v hv _ (third_cell w2 _ _ 0) (third_cell w2 _ _ 1) (third_cell w2 _ _ 2) (third_cell w2 _ _ 3)).mono ?_; rintro e w3 ⟨rfl, hb3⟩; obtain ⟨n1, n2, n3, n4⟩ := keep3 hb3 s1 r1 f1 hlow (by omega); clear hb3))
  all_goals
    clear r1 f1 s0 s1 hlow
    go_wp2
    exact bodyPost_ret (v := .agg #[.int .u64 0, .int .u64 (v : Int)]) (by simp [results, Ybad.results23, go_sem, n1]) rfl ⟨rfl, (n4.setCell (by simp) _).setCell (by simp) _⟩

set_option maxHeartbeats 1000000 in
/-- shr, by nothing. -/
theorem shr24 (v : Nat) (hv : v < 4294967296) (w : World) :
    Calls Ybad.prog 24 #[.agg #[.int .u64 0, .int .u64 (v : Int)], .int .i64 0] w fun e w' => e = .returned (.agg #[.int .u64 0, .int .u64 (v : Int)]) ∧ Below w.heap.size w w' := by
  have ho : bits BinOp.or IntKind.u64 (v : Int) 0 = (v : Int) := by
    have := u64_or_nat v 0 (by omega) (by omega)
    simpa using this
  have hs1 : ∀ W, (Op.shift .shr .u64 0 .i64 0).run Ybad.prog W = .ok (.int .u64 0) W := fun W => by kernel_rfl
  have hs2 : ∀ W, (Op.shift .shl .u64 0 .i64 64).run Ybad.prog W = .ok (.int .u64 0) W := fun W => by kernel_rfl
  go_enter Ybad.func24, Ybad.ntmps24
  go_wp2
  go_region
  go_wp2
  exact bodyPost_ret (v := .agg #[.int .u64 0, .int .u64 (v : Int)]) (by simp [results, Ybad.results24, go_sem]) rfl ⟨rfl, (((Below.refl _ w).alloc (Nat.le_refl _) _).alloc (by simp) _).drew⟩
end Go.Proofs.YbulkaxysDoor
