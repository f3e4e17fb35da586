/-
  THE WALKS OF net/netip's AND encoding/binary's FUNCTIONS ON THE ROAD.
-/
import Derived.Test.YbulkayawDoorProg
import Derived.WalkKit
import Derived.WalkSpells
import Derived.WalkLawsBesides
import Derived.RegionTactic
import Derived.ChangeAlike
import Derived.Deep.QuietTactic
import Derived.BigQuiet
import Derived.Deep.RegionWith
import Derived.Lib.Hide
import Derived.Laws.BitsAllLaws
import Derived.Laws.Cover3
namespace Go.Proofs.YbulkayawDoor
open Go.RowKit

/-- An IPv4 address as netip lays it in its low half. -/
def lo4 (x0 x1 x2 x3 : Int) : Int := bits BinOp.or IntKind.u64 (bits BinOp.or IntKind.u64 (bits BinOp.or IntKind.u64 (bits BinOp.or IntKind.u64 281470681743360 (x0 * 16777216)) (x1 * 65536)) (x2 * 256)) x3

theorem join (i x y : Nat) (hx : x % 2 ^ i = 0) (hy : y < 2 ^ i) (hX : x < 18446744073709551616) (hY : y < 18446744073709551616) : bits BinOp.or IntKind.u64 (x : Int) (y : Int) = ((x + y : Nat) : Int) := by
  rw [u64_or_nat x y hX hY, nat_join i x y hx hy]

theorem lo4_eq (x0 x1 x2 x3 : Int) (h0 : 0 ≤ x0 ∧ x0 ≤ 255) (h1 : 0 ≤ x1 ∧ x1 ≤ 255) (h2 : 0 ≤ x2 ∧ x2 ≤ 255) (h3 : 0 ≤ x3 ∧ x3 ≤ 255) : lo4 x0 x1 x2 x3 = 281470681743360 + x0 * 16777216 + x1 * 65536 + x2 * 256 + x3 := by
  obtain ⟨a, rfl⟩ := Int.eq_ofNat_of_zero_le h0.1
  obtain ⟨b, rfl⟩ := Int.eq_ofNat_of_zero_le h1.1
  obtain ⟨c, rfl⟩ := Int.eq_ofNat_of_zero_le h2.1
  obtain ⟨d, rfl⟩ := Int.eq_ofNat_of_zero_le h3.1
  unfold lo4
  have e1 : bits BinOp.or IntKind.u64 281470681743360 ((a : Int) * 16777216) = ((281470681743360 + a * 16777216 : Nat) : Int) := join 32 281470681743360 (a * 16777216) (by decide) (by omega) (by decide) (by omega)
  rw [e1]
  have e2 : bits BinOp.or IntKind.u64 ((281470681743360 + a * 16777216 : Nat) : Int) ((b : Int) * 65536) = ((281470681743360 + a * 16777216 + b * 65536 : Nat) : Int) := join 24 (281470681743360 + a * 16777216) (b * 65536) (by omega) (by omega) (by omega) (by omega)
  rw [e2]
  have e3 : bits BinOp.or IntKind.u64 ((281470681743360 + a * 16777216 + b * 65536 : Nat) : Int) ((c : Int) * 256) = ((281470681743360 + a * 16777216 + b * 65536 + c * 256 : Nat) : Int) := join 16 (281470681743360 + a * 16777216 + b * 65536) (c * 256) (by omega) (by omega) (by omega) (by omega)
  rw [e3]
  have e4 : bits BinOp.or IntKind.u64 ((281470681743360 + a * 16777216 + b * 65536 + c * 256 : Nat) : Int) (d : Int) = ((281470681743360 + a * 16777216 + b * 65536 + c * 256 + d : Nat) : Int) := join 8 (281470681743360 + a * 16777216 + b * 65536 + c * 256) d (by omega) (by omega) (by omega) (by omega)
  rw [e4]
  omega

set_option maxHeartbeats 400000 in
theorem from4 (x0 x1 x2 x3 : Int) (z : Option Addr) (w : World) (hz : w.cell? ⟨1, 0, none⟩ = some (.pointer z)) (h0 : 0 ≤ x0 ∧ x0 ≤ 255) (h1 : 0 ≤ x1 ∧ x1 ≤ 255) (h2 : 0 ≤ x2 ∧ x2 ≤ 255) (h3 : 0 ≤ x3 ∧ x3 ≤ 255) :
    Calls Ybad.prog 18 #[.agg #[.int .u8 x0, .int .u8 x1, .int .u8 x2, .int .u8 x3]] w fun e w' => e = .returned (.agg #[.int .u64 0, .int .u64 (lo4 x0 x1 x2 x3), .pointer z]) ∧ Below w.heap.size w w' := by
  have hg : (1 : Nat) < w.heap.size := World.block_lt_of_cell? w _ hz
  have hg1 : (1 : Nat) < w.heap.size + 1 := by omega
  go_enter Ybad.func18, Ybad.ntmps18
  go_wp2
  exact bodyPost_ret (v := .agg #[.int .u64 0, .int .u64 (lo4 x0 x1 x2 x3), .pointer z]) (by simp [results, Ybad.results18, go_sem, lo4]) rfl ⟨rfl, ((Below.refl _ w).alloc (Nat.le_refl _) _).alloc (by simp) _⟩

/-- A port as binary.BigEndian reads it. -/
def port2 (x4 x5 : Int) : Int := bits BinOp.or IntKind.u16 x5 (x4 * 256)
theorem port2_comm (x4 x5 : Int) (h4 : 0 ≤ x4 ∧ x4 ≤ 255) (h5 : 0 ≤ x5 ∧ x5 ≤ 255) : bits BinOp.or IntKind.u16 (x4 * 256) x5 = port2 x4 x5 := by
  obtain ⟨a, rfl⟩ := Int.eq_ofNat_of_zero_le h4.1
  obtain ⟨b, rfl⟩ := Int.eq_ofNat_of_zero_le h5.1
  unfold port2
  have e1 : bits BinOp.or IntKind.u16 ((a : Int) * 256) (b : Int) = (((a * 256) ||| b : Nat) : Int) := u16_or_nat (a * 256) b (by omega) (by omega)
  have e2 : bits BinOp.or IntKind.u16 (b : Int) ((a : Int) * 256) = ((b ||| (a * 256) : Nat) : Int) := u16_or_nat b (a * 256) (by omega) (by omega)
  rw [e1, e2, Nat.or_comm]

set_option maxHeartbeats 400000 in
theorem uint16be (b : Nat) (o : Nat) (x4 x5 : Int) (c : Nat) (w : World) (c4 : w.cell? ⟨b, o, none⟩ = some (.int .u8 x4)) (c5 : w.cell? ⟨b, o + 1, none⟩ = some (.int .u8 x5)) (h4 : 0 ≤ x4 ∧ x4 ≤ 255) (h5 : 0 ≤ x5 ∧ x5 ≤ 255) :
    Calls Ybad.prog 20 #[.agg #[], .slice (some ⟨b, o, none⟩) 2 c] w fun e w' => e = .returned (.int .u16 (port2 x4 x5)) ∧ Below w.heap.size w w' := by
  have hb := World.block_lt_of_cell? w _ c4
  go_enter Ybad.func20, Ybad.ntmps20
  go_wp2
  go_quiet (fail)
  go_wp2
  go_ret
  refine ⟨rfl, ?_⟩
  exact (Below.refl _ w).trans ⟨rfl, rfl, rfl, by simp, fun k hk => Below.heap_alloc w _ k hk⟩

set_option maxRecDepth 100000 in
set_option maxHeartbeats 400000 in
theorem ip_any (x0 x1 x2 x3 x4 x5 : Int) (w : World) :
    Calls Ybad.prog 19 #[.agg #[.int .u8 x0, .int .u8 x1, .int .u8 x2, .int .u8 x3, .int .u8 x4, .int .u8 x5]] w fun e w' => e = .returned (.agg #[.int .u8 x0, .int .u8 x1, .int .u8 x2, .int .u8 x3]) ∧ Below w.heap.size w w' := by
  have ha : ∀ (b : Nat) (W : World), (Instr.arrayAt 131 (.slice (some ⟨b, 0, none⟩) 4 6)).run Ybad.prog W = .ok (.pointer (some ⟨b, 0, none⟩)) W := fun b W => run_arrayAt (P := Ybad.prog) (w := W) 131 5 4 _ 4 6 Ybad.underlying131 (Nat.le_refl _)
  go_enter Ybad.func19, Ybad.ntmps19
  go_wp2
  exact bodyPost_ret (v := .agg #[.int .u8 x0, .int .u8 x1, .int .u8 x2, .int .u8 x3]) (by simp [results, Ybad.results19, go_sem]) rfl ⟨rfl, ((Below.refl _ w).alloc (Nat.le_refl _) _).alloc (by simp) _⟩

set_option maxHeartbeats 400000 in
theorem portFrom (a b : Int) (z : Option Addr) (p : Int) (w : World) :
    Calls Ybad.prog 17 #[.agg #[.int .u64 a, .int .u64 b, .pointer z], .int .u16 p] w fun e w' => e = .returned (.agg #[.int .u64 a, .int .u64 b, .pointer z, .int .u16 p]) ∧ Below w.heap.size w w' := by
  go_enter Ybad.func17, Ybad.ntmps17
  go_wp2
  exact bodyPost_ret (v := .agg #[.int .u64 a, .int .u64 b, .pointer z, .int .u16 p]) (by simp [results, Ybad.results17, go_sem]) rfl ⟨rfl, ((Below.refl _ w).alloc (Nat.le_refl _) _).alloc (by simp) _⟩

theorem bcell {W w1 : World} (hb : Below W.heap.size W w1) : (∀ b o, b < W.heap.size → w1.cell? ⟨b, o, none⟩ = W.cell? ⟨b, o, none⟩) ∧ (∀ b o, b < W.heap.size → w1.frozen? ⟨b, o, none⟩ = W.frozen? ⟨b, o, none⟩) :=
  ⟨fun b o h => hb.cell (p := ⟨b, o, none⟩) h, fun b o h => hb.frozen (p := ⟨b, o, none⟩) h⟩

set_option maxHeartbeats 1000000 in
theorem addrPort (x0 x1 x2 x3 x4 x5 : Int) (z : Option Addr) (w : World) (hz : w.cell? ⟨1, 0, none⟩ = some (.pointer z)) (h0 : 0 ≤ x0 ∧ x0 ≤ 255) (h1 : 0 ≤ x1 ∧ x1 ≤ 255) (h2 : 0 ≤ x2 ∧ x2 ≤ 255) (h3 : 0 ≤ x3 ∧ x3 ≤ 255) (h4 : 0 ≤ x4 ∧ x4 ≤ 255) (h5 : 0 ≤ x5 ∧ x5 ≤ 255) :
    Calls Ybad.prog 13 #[.agg #[.int .u8 x0, .int .u8 x1, .int .u8 x2, .int .u8 x3, .int .u8 x4, .int .u8 x5]] w fun e w' => e = .returned (.agg #[.int .u64 0, .int .u64 (lo4 x0 x1 x2 x3), .pointer z, .int .u16 (port2 x4 x5)]) ∧ Below w.heap.size w w' := by
  have hg : (1 : Nat) < w.heap.size := World.block_lt_of_cell? w _ hz
  obtain ⟨W0, hW0⟩ : ∃ W0, W0 = (w.alloc (.cells #[.int .u8 x0, .int .u8 x1, .int .u8 x2, .int .u8 x3, .int .u8 x4, .int .u8 x5] 24)).alloc (.cells #[.int .u64 0, .int .u64 0, .pointer none, .int .u16 0] 108) := ⟨_, rfl⟩
  have sz : W0.heap.size = w.heap.size + 1 + 1 := by rw [hW0]; simp
  have s1 : 1 < W0.heap.size := by omega
  have s2 : w.heap.size < W0.heap.size := by omega
  have s3 : w.heap.size + 1 < W0.heap.size := by omega
  have hb0 : Below w.heap.size w W0 := by rw [hW0]; exact ((Below.refl _ w).alloc (Nat.le_refl _) _).alloc (by simp) _
  have k1 : W0.cell? ⟨1, 0, none⟩ = some (.pointer z) := (hb0.cell (p := ⟨1, 0, none⟩) hg).trans hz
  have k4 : W0.cell? ⟨w.heap.size, 4, none⟩ = some (.int .u8 x4) := by rw [hW0]; simp
  have k5 : W0.cell? ⟨w.heap.size, 5, none⟩ = some (.int .u8 x5) := by rw [hW0]; simp
  have r0 : W0.cell? ⟨w.heap.size + 1, 0, none⟩ = some (.int .u64 0) := by rw [hW0]; simp
  have r1 : W0.cell? ⟨w.heap.size + 1, 1, none⟩ = some (.int .u64 0) := by rw [hW0]; simp
  have r2 : W0.cell? ⟨w.heap.size + 1, 2, none⟩ = some (.pointer none) := by rw [hW0]; simp
  have r3 : W0.cell? ⟨w.heap.size + 1, 3, none⟩ = some (.int .u16 0) := by rw [hW0]; simp
  have q0 : ∀ j, W0.frozen? ⟨w.heap.size + 1, j, none⟩ = false := fun j => by rw [hW0]; simp
  have K := Lib.hid (And.intro s1 (And.intro s2 (And.intro s3 (And.intro k1 (And.intro k4 (And.intro k5 (And.intro r0 (And.intro r1 (And.intro r2 (And.intro r3 q0))))))))))
  have HW := Lib.hid hW0
  clear sz s1 s2 s3 k1 k4 k5 r0 r1 r2 r3 q0
  go_enter Ybad.func13, Ybad.ntmps13
  go_wp2
  rw [← HW.out]
  clear hW0
  have k3 : W0.cell? ⟨w.heap.size, 0, none⟩ = some (.int .u8 x0) ∧ W0.cell? ⟨w.heap.size, 1, none⟩ = some (.int .u8 x1) ∧ W0.cell? ⟨w.heap.size, 2, none⟩ = some (.int .u8 x2) ∧ W0.cell? ⟨w.heap.size, 3, none⟩ = some (.int .u8 x3) ∧ W0.cell? ⟨w.heap.size, 4, none⟩ = some (.int .u8 x4) ∧ W0.cell? ⟨w.heap.size, 5, none⟩ = some (.int .u8 x5) := by rw [HW.out]; simp
  obtain ⟨l0, l1, l2, l3, l4, l5⟩ := k3
  go_region_with (first
    | (go_at_call 19; refine (ip_any x0 x1 x2 x3 x4 x5 _).mono ?_; rintro e w1 ⟨rfl, b1'⟩; have b1 : Below W0.heap.size W0 w1 := ⟨b1'.os, b1'.tape, b1'.output, b1'.size, b1'.block⟩; have z1 : w1.cell? ⟨1, 0, none⟩ = some (.pointer z) := (b1.cell (p := ⟨1, 0, none⟩) K.out.1).trans K.out.2.2.2.1)
    | (go_at_call 18; refine (from4 x0 x1 x2 x3 z _ (by assumption) h0 h1 h2 h3).mono ?_; rintro e w2 ⟨rfl, b2⟩; have b12 : Below W0.heap.size W0 w2 := Below.trans (b := w1) b1 (b2.mono b1.size); have m4 : w2.cell? ⟨w.heap.size, 4, none⟩ = some (.int .u8 x4) := (b12.cell (p := ⟨w.heap.size, 4, none⟩) K.out.2.1).trans K.out.2.2.2.2.1; have m5 : w2.cell? ⟨w.heap.size, 4 + 1, none⟩ = some (.int .u8 x5) := (b12.cell (p := ⟨w.heap.size, 5, none⟩) K.out.2.1).trans K.out.2.2.2.2.2.1)
    | (go_at_call 20; refine (uint16be w.heap.size 4 x4 x5 _ _ (by assumption) (by assumption) h4 h5).mono ?_; rintro e w3 ⟨rfl, b3⟩; have b13 : Below W0.heap.size W0 w3 := Below.trans (b := w2) b12 (b3.mono b12.size))
    | (go_at_call 17; refine (portFrom 0 (lo4 x0 x1 x2 x3) z (port2 x4 x5) _).mono ?_; rintro e w4 ⟨rfl, b4⟩; have b14 : Below W0.heap.size W0 w4 := Below.trans (b := w3) b13 (b4.mono b13.size); have n0 := (b14.cell (p := ⟨w.heap.size + 1, 0, none⟩) K.out.2.2.1).trans K.out.2.2.2.2.2.2.1; have n1 := (b14.cell (p := ⟨w.heap.size + 1, 1, none⟩) K.out.2.2.1).trans K.out.2.2.2.2.2.2.2.1; have n2 := (b14.cell (p := ⟨w.heap.size + 1, 2, none⟩) K.out.2.2.1).trans K.out.2.2.2.2.2.2.2.2.1; have n3 := (b14.cell (p := ⟨w.heap.size + 1, 3, none⟩) K.out.2.2.1).trans K.out.2.2.2.2.2.2.2.2.2.1; have n4 : ∀ j, w4.frozen? ⟨w.heap.size + 1, j, none⟩ = false := fun j => (b14.frozen (p := ⟨w.heap.size + 1, j, none⟩) K.out.2.2.1).trans (K.out.2.2.2.2.2.2.2.2.2.2 j)))
  all_goals
    have hfin : Below w.heap.size w w4 := hb0.trans (b14.mono hb0.size)
    clear b1' b1 b2 b12 b3 b13 b4 b14 z1 m4 m5 l0 l1 l2 l3 l4 l5 hz hb0
    go_wp2
    exact bodyPost_ret (v := .agg #[.int .u64 0, .int .u64 (lo4 x0 x1 x2 x3), .pointer z, .int .u16 (port2 x4 x5)]) (by simp [results, Ybad.results13, go_sem, n0, n1, n2, n3]) rfl ⟨rfl, (((hfin.setCell (by simp) _).setCell (by simp) _).setCell (by simp) _).setCell (by simp) _⟩

set_option maxHeartbeats 400000 in
theorem noAnswer (a b : Int) (z : Option Addr) (p : Int) (m : ByteArray) (why : Value) (hwhy : (∃ t v, why = .iface t v)) (w : World) :
    Calls Ybad.prog 12 #[.agg #[.int .u64 a, .int .u64 b, .pointer z, .int .u16 p], .string m, why] w fun e w' => ∃ k, e = .returned (.iface 98 (.pointer (some ⟨k, 0, none⟩))) ∧ w.heap.size ≤ k ∧ w'.heap[k]? = some (.cells #[.int .u64 a, .int .u64 b, .pointer z, .int .u16 p, .string m, why] 110 (0, 0)) ∧ Below w.heap.size w w' := by
  obtain ⟨t, v, rfl⟩ := hwhy
  go_enter Ybad.func12, Ybad.ntmps12
  go_wp2
  go_ret
  refine ⟨w.heap.size + 1, rfl, by omega, ?_, ((Below.refl _ w).alloc (Nat.le_refl _) _).alloc (by simp) _⟩
  have := heap_alloc_new (w.alloc (.cells #[.int .u64 a, .int .u64 b, .pointer z, .int .u16 p] 108)) (.cells #[.int .u64 a, .int .u64 b, .pointer z, .int .u16 p, .string m, .iface t v] 110)
  simpa using this

set_option maxHeartbeats 400000 in
theorem port_any (a b : Int) (z : Option Addr) (p : Int) (w : World) :
    Calls Ybad.prog 7 #[.agg #[.int .u64 a, .int .u64 b, .pointer z, .int .u16 p]] w fun e w' => e = .returned (.int .u16 p) ∧ Below w.heap.size w w' := by
  go_enter Ybad.func7, Ybad.ntmps7
  go_wp2
  go_ret
  exact ⟨rfl, (Below.refl _ w).alloc (Nat.le_refl _) _⟩

set_option maxHeartbeats 400000 in
theorem addr_any (a b : Int) (z : Option Addr) (p : Int) (w : World) :
    Calls Ybad.prog 8 #[.agg #[.int .u64 a, .int .u64 b, .pointer z, .int .u16 p]] w fun e w' => e = .returned (.agg #[.int .u64 a, .int .u64 b, .pointer z]) ∧ Below w.heap.size w w' := by
  go_enter Ybad.func8, Ybad.ntmps8
  go_wp2
  exact bodyPost_ret (v := .agg #[.int .u64 a, .int .u64 b, .pointer z]) (by simp [results, Ybad.results8, go_sem]) rfl ⟨rfl, ((Below.refl _ w).alloc (Nat.le_refl _) _).alloc (by simp) _⟩

set_option maxRecDepth 100000 in
set_option maxHeartbeats 1000000 in
theorem put64 (b o c : Nat) (v : Int) (u0 u1 u2 u3 u4 u5 u6 u7 : Value) (w : World) (h0 : 0 ≤ v) (h1 : v < 18446744073709551616)
    (c0 : w.cell? ⟨b, o, none⟩ = some u0) (c1 : w.cell? ⟨b, o + 1, none⟩ = some u1) (c2 : w.cell? ⟨b, o + 2, none⟩ = some u2) (c3 : w.cell? ⟨b, o + 3, none⟩ = some u3)
    (c4 : w.cell? ⟨b, o + 4, none⟩ = some u4) (c5 : w.cell? ⟨b, o + 5, none⟩ = some u5) (c6 : w.cell? ⟨b, o + 6, none⟩ = some u6) (c7 : w.cell? ⟨b, o + 7, none⟩ = some u7) (hf : ∀ j, w.frozen? ⟨b, j, none⟩ = false) :
    Calls Ybad.prog 14 #[.slice (some ⟨b, o, none⟩) 8 c, .int .u64 v] w fun e w' => e = .returned (.tuple #[]) ∧ w' = ((((((((w.setCell ⟨b, o, none⟩ (.int .u8 (v / 72057594037927936))).setCell ⟨b, o + 1, none⟩ (.int .u8 (v / 281474976710656 % 256))).setCell ⟨b, o + 2, none⟩ (.int .u8 (v / 1099511627776 % 256))).setCell ⟨b, o + 3, none⟩ (.int .u8 (v / 4294967296 % 256))).setCell ⟨b, o + 4, none⟩ (.int .u8 (v / 16777216 % 256))).setCell ⟨b, o + 5, none⟩ (.int .u8 (v / 65536 % 256))).setCell ⟨b, o + 6, none⟩ (.int .u8 (v / 256 % 256))).setCell ⟨b, o + 7, none⟩ (.int .u8 (v % 256))) := by
  have hb := World.block_lt_of_cell? w _ c0
  go_enter Ybad.func14, Ybad.ntmps14
  go_wp2
  go_end0
  exact ⟨rfl, rfl⟩

/-- put64 into a block that is known whole. -/
theorem put64B (b o c : Nat) (v : Int) (arr : Array Value) (T : TypeId) (w : World) (h0 : 0 ≤ v) (h1 : v < 18446744073709551616) (hb : w.heap[b]? = some (.cells arr T (0, 0))) (hs : o + 8 ≤ arr.size) :
    Calls Ybad.prog 14 #[.slice (some ⟨b, o, none⟩) 8 c, .int .u64 v] w fun e w' => e = .returned (.tuple #[]) ∧ w' = ((((((((w.setCell ⟨b, o, none⟩ (.int .u8 (v / 72057594037927936))).setCell ⟨b, o + 1, none⟩ (.int .u8 (v / 281474976710656 % 256))).setCell ⟨b, o + 2, none⟩ (.int .u8 (v / 1099511627776 % 256))).setCell ⟨b, o + 3, none⟩ (.int .u8 (v / 4294967296 % 256))).setCell ⟨b, o + 4, none⟩ (.int .u8 (v / 16777216 % 256))).setCell ⟨b, o + 5, none⟩ (.int .u8 (v / 65536 % 256))).setCell ⟨b, o + 6, none⟩ (.int .u8 (v / 256 % 256))).setCell ⟨b, o + 7, none⟩ (.int .u8 (v % 256))) := by
  have hc : ∀ j (hj : o + j < arr.size), w.cell? ⟨b, o + j, none⟩ = some arr[o + j] := fun j hj => by rw [cell_of_row w b (o + j) arr T (0, 0) hb]; simp [hj]
  exact put64 b o c v _ _ _ _ _ _ _ _ w h0 h1 (hc 0 (by omega)) (hc 1 (by omega)) (hc 2 (by omega)) (hc 3 (by omega)) (hc 4 (by omega)) (hc 5 (by omega)) (hc 6 (by omega)) (hc 7 (by omega)) (fun j => by simp [World.frozen?, hb])

theorem heap_second0 (w : World) (A B : Obj) : ((w.alloc A).alloc B).heap[w.heap.size + 1]? = some B := by
  have := heap_alloc_new (w.alloc A) B
  simpa using this
theorem heap_second (w : World) (A B : Obj) : ((w.alloc A).alloc B).drew.heap[w.heap.size + 1]? = some B := heap_second0 w A B
theorem heap_second2 (w : World) (A B : Obj) : ((w.alloc A).alloc B).drew.drew.heap[w.heap.size + 1]? = some B := heap_second0 w A B

end Go.Proofs.YbulkayawDoor
