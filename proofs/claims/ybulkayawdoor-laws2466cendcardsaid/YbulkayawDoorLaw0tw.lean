/-
  THE WALK OF THE LAW (3), where a query waits with the transaction.
-/
import Derived.Test.YbulkayawDoorLawNone
import Derived.Deep.Cut
namespace Go.Proofs.YbulkayawDoor
open Go.RowKit

set_option maxRecDepth 100000 in
set_option maxHeartbeats 4000000 in
theorem law0_tw (x0 x1 x2 x3 x4 x5 t sl md : Int) (m : ByteArray) (z : Option Addr) (w : World) (n idx : Nat) (hz : w.cell? ⟨1, 0, none⟩ = some (.pointer z)) (hmd : (wrap64 md).tmod 4 = 0) (ht0 : 0 ≤ t) (ht1 : t ≤ 65535) (hn0 : 0 < n) (hn : n ≤ 32) (hi : bits BinOp.and IntKind.i64 t ((n : Int) - 1) = (idx : Int)) (hlt : idx < n) (h0 : 0 ≤ x0 ∧ x0 ≤ 255) (h1 : 0 ≤ x1 ∧ x1 ≤ 255) (h2 : 0 ≤ x2 ∧ x2 ≤ 255) (h3 : 0 ≤ x3 ∧ x3 ≤ 255) (h4 : 0 ≤ x4 ∧ x4 ≤ 255) (h5 : 0 ≤ x5 ∧ x5 ≤ 255)
    (hsh : ∀ W, (Op.shift .shl .i64 1 .i64 ((wrap64 sl).tmod 6)).run Ybad.prog W = .ok (.int .i64 (n : Int)) W) :
    Calls Ybad.prog 3 #[.agg #[.int .u8 x0, .int .u8 x1, .int .u8 x2, .int .u8 x3, .int .u8 x4, .int .u8 x5], .int .u16 t, .int .u8 sl, .int .u8 md, .bool true, .bool true, .string m] w fun e w' => e = .returned (.bool true) ∧ Below w.heap.size w w' := by
  have hB : 1 < w.heap.size := World.block_lt_of_cell? w _ hz
  have hlt2 : (idx : Int) < (n : Int) := by omega
  have hmk := fun W => make27 n hn W
  have hz95 := nz_zero
  have z29 := nz29
  have z30 := nz30
  have hmc := made_at n idx hlt
  go_enter Ybad.func3, Ybad.ntmps3
  go_wp2_with (first | (go_at_call 6; refine Hid.out ?_) | (go_at_call 5; refine (new_any _ _).mono ?_; rintro e w' ⟨rfl, rfl⟩))
  have HI := Lib.hid hi
  have HZ := Lib.hid hz
  have HM := Lib.hid hmc
  clear hi hz hmc hmk hz95 z29 z30 hsh
  refine Lib.hid ?_
  refine (end_tw (w.heap.size + 1 + 1 + 1 + 1 + 1 + 1 + 1 + 1 + 1 + 1) (w.heap.size + 1 + 1) n idx (w.heap.size + 1 + 1 + 1 + 1 + 1 + 1 + 1 + 1 + 1) (w.heap.size + 1 + 1 + 1) (w.heap.size + 1 + 1 + 1 + 1) (w.heap.size + 1 + 1 + 1 + 1 + 1) (w.heap.size + 1 + 1 + 1 + 1 + 1 + 1) (w.heap.size + 1 + 1 + 1 + 1 + 1 + 1 + 1) (w.heap.size + 1 + 1 + 1 + 1 + 1 + 1 + 1 + 1) x0 x1 x2 x3 x4 x5 t m (((NZof Ybad.prog).setIfInBounds 29 (.slice (some ⟨w.heap.size + 1 + 1, 0, none⟩) n n)).setIfInBounds 30 (.int .i64 1)) ((madeCells #[.pointer none] n).setIfInBounds idx (.pointer (some ⟨w.heap.size + 1 + 1 + 1 + 1 + 1 + 1 + 1 + 1 + 1, 0, none⟩))) z 117 _ _ ⟨?_, ?_, ?_, ?_, ?_, ?_, ?_, ?_, ?_, ?_, (nzN _ _).1, (nzN _ _).2.1, (nzN _ _).2.2, made_set n idx hlt _, by omega⟩ ht0 ht1 hn0 hn HI.out hlt h0 h1 h2 h3 h4 h5).mono ?_
  iterate 9 (focus (repeat (first | exact heap_new _ _ (by simp) | refine heap_old ?_ _)))
  focus (repeat (first | exact HZ.out | refine cell_old ?_ _))
  rintro e w' ⟨rfl, k, hk, hkb, E⟩
  obtain ⟨fb, cap, eN, hfb, eF⟩ := E.hN
  have K := Lib.hid E.kept
  have aA : w'.heap[w.heap.size]? = some (.cells #[.int .u8 x0, .int .u8 x1, .int .u8 x2, .int .u8 x3, .int .u8 x4, .int .u8 x5] 22 (0, 0)) := E.kept.at (by repeat (first | exact heap_new _ _ (by simp) | refine heap_old ?_ _)) (by simp <;> omega)
  have aX : w'.heap[w.heap.size + 1]? = some (.cells #[.int .u8 x0, .int .u8 x1, .int .u8 x2, .int .u8 x3, .int .u8 x4, .int .u8 x5, .int .u16 t] 26 (0, 0)) := E.kept.at (by repeat (first | exact heap_new _ _ (by simp) | refine heap_old ?_ _)) (by simp <;> omega)
  have cS : w'.cell? ⟨w.heap.size + 1 + 1, idx, none⟩ = some (.pointer none) := (cell_of_row w' _ idx _ _ _ E.hS).trans (made_set2 n idx hlt _ _)
  have cN30 : w'.cell? ⟨w.heap.size + 1 + 1 + 1 + 1 + 1 + 1 + 1 + 1 + 1 + 1, 30, none⟩ = some (.int .i64 0) := (cell_of_row w' _ 30 _ _ _ eN).trans (nzM _ _ _).1
  have cN32 : w'.cell? ⟨w.heap.size + 1 + 1 + 1 + 1 + 1 + 1 + 1 + 1 + 1 + 1, 32, none⟩ = some (.slice (some ⟨fb, 0, none⟩) 1 cap) := (cell_of_row w' _ 32 _ _ _ eN).trans (nzM _ _ _).2
  have cQ0 : w'.cell? ⟨w.heap.size + 1 + 1 + 1 + 1 + 1 + 1 + 1 + 1 + 1, 0, none⟩ = some (.int .u8 0) := cell_of_row w' _ 0 _ _ _ E.hq
  have cQ1 : w'.cell? ⟨w.heap.size + 1 + 1 + 1 + 1 + 1 + 1 + 1 + 1 + 1, 1, none⟩ = some (.int .u8 0) := cell_of_row w' _ 1 _ _ _ E.hq
  have cQ2 : w'.cell? ⟨w.heap.size + 1 + 1 + 1 + 1 + 1 + 1 + 1 + 1 + 1, 2, none⟩ = some (.int .u8 0) := cell_of_row w' _ 2 _ _ _ E.hq
  have cQ3 : w'.cell? ⟨w.heap.size + 1 + 1 + 1 + 1 + 1 + 1 + 1 + 1 + 1, 3, none⟩ = some (.int .u8 0) := cell_of_row w' _ 3 _ _ _ E.hq
  have cQ4 : w'.cell? ⟨w.heap.size + 1 + 1 + 1 + 1 + 1 + 1 + 1 + 1 + 1, 4, none⟩ = some (.int .u8 0) := cell_of_row w' _ 4 _ _ _ E.hq
  have cQ5 : w'.cell? ⟨w.heap.size + 1 + 1 + 1 + 1 + 1 + 1 + 1 + 1 + 1, 5, none⟩ = some (.int .u8 0) := cell_of_row w' _ 5 _ _ _ E.hq
  have cQ6 : w'.cell? ⟨w.heap.size + 1 + 1 + 1 + 1 + 1 + 1 + 1 + 1 + 1, 6, none⟩ = some (.int .u16 0) := cell_of_row w' _ 6 _ _ _ E.hq
  have cQ28 : w'.cell? ⟨w.heap.size + 1 + 1 + 1 + 1 + 1 + 1 + 1 + 1 + 1, 28, none⟩ = some (.string ⟨#[]⟩) := cell_of_row w' _ 28 _ _ _ E.hq
  have cQ29 : w'.cell? ⟨w.heap.size + 1 + 1 + 1 + 1 + 1 + 1 + 1 + 1 + 1, 29, none⟩ = some .nilIface := cell_of_row w' _ 29 _ _ _ E.hq
  have cQ30 : w'.cell? ⟨w.heap.size + 1 + 1 + 1 + 1 + 1 + 1 + 1 + 1 + 1, 30, none⟩ = some .nilFunc := cell_of_row w' _ 30 _ _ _ E.hq
  have hl39 := load_to E.hq
  unfold zeros21 at hl39
  have cT := cell_of_row w' _ 0 _ _ _ E.hT
  have cC := cell_of_row w' _ 0 _ _ _ E.hc
  have cG : ∀ j, w'.cell? ⟨w.heap.size + 1 + 1 + 1 + 1 + 1, j, none⟩ = (tx7 x0 x1 x2 x3 x4 x5 t)[j]? := fun j => cell_of_row w' _ j _ _ _ E.hg
  unfold tx7 at cG
  have hl32 := load_id E.hi
  unfold zeros20 at hl32
  have hta := is_no
  have cB := cell_of_row w' _ 0 _ _ _ E.hb
  have cE := cell_of_row w' _ 0 _ _ _ E.he
  have cA : ∀ j, w'.cell? ⟨w.heap.size, j, none⟩ = #[.int .u8 x0, .int .u8 x1, .int .u8 x2, .int .u8 x3, .int .u8 x4, .int .u8 x5][j]? := fun j => cell_of_row w' _ j _ _ _ aA
  have cX : ∀ j, w'.cell? ⟨w.heap.size + 1, j, none⟩ = #[.int .u8 x0, .int .u8 x1, .int .u8 x2, .int .u8 x3, .int .u8 x4, .int .u8 x5, .int .u16 t][j]? := fun j => cell_of_row w' _ j _ _ _ aX
  have cK : ∀ j, w'.cell? ⟨k, j, none⟩ = #[.int .u64 0, .int .u64 (lo4 x0 x1 x2 x3), .pointer z, .int .u16 (port2 x4 x5), .string m, .iface 117 (.pointer (some ⟨w.heap.size + 1 + 1 + 1 + 1 + 1 + 1 + 1 + 1 + 1 + 1 + 1, 0, none⟩))][j]? := fun j => cell_of_row w' _ j _ _ _ hkb
  clear hkb
  have hsz : w.heap.size ≤ w'.heap.size := by have := K.out.size; simp at this; omega
  have bK := K.out.below (B := w.heap.size) (by simp <;> omega) (by simp <;> omega)
  have hlow : Below w.heap.size w w' := Below.trans (by go_grown) bK
  clear bK
  clear E eN aA aX
  have HL := Lib.hid hlow
  clear hlow
  have heq24 := fun W => eq24 0 0 0 0 0 0 W
  have hnq := neq_q
  have hnf := nfunc
  have hws := why_same
  have he32 := eq32'
  unfold zeros20 at he32
  have heqx := fun W => eq24 x0 x1 x2 x3 x4 x5 W
  have he39 := eq39
  unfold zeros21 at he39
  have HL39 := Lib.hid hl39
  have HL32 := Lib.hid hl32
  clear hl39 hl32
  go_wp2_with (first | (refine wpList_load_g (by rfl) 39 _ rfl _ rfl _ HL39.out ?_) | (refine wpList_load_g (by rfl) 32 _ rfl _ rfl _ HL32.out ?_))
  have hS0 : w'.drew.cell? ⟨k, 0, none⟩ = some (.int .u64 0) ∧ w'.drew.cell? ⟨k, 1, none⟩ = some (.int .u64 (lo4 x0 x1 x2 x3)) ∧ w'.drew.cell? ⟨k, 2, none⟩ = some (.pointer z) ∧ w'.drew.cell? ⟨k, 3, none⟩ = some (.int .u16 (port2 x4 x5)) ∧ w'.drew.cell? ⟨w.heap.size, 0, none⟩ = some (.int .u8 x0) ∧ w'.drew.cell? ⟨w.heap.size, 1, none⟩ = some (.int .u8 x1) ∧ w'.drew.cell? ⟨w.heap.size, 2, none⟩ = some (.int .u8 x2) ∧ w'.drew.cell? ⟨w.heap.size, 3, none⟩ = some (.int .u8 x3) ∧ w'.drew.cell? ⟨w.heap.size, 4, none⟩ = some (.int .u8 x4) ∧ w'.drew.cell? ⟨w.heap.size, 5, none⟩ = some (.int .u8 x5) := ⟨cK 0, cK 1, cK 2, cK 3, cA 0, cA 1, cA 2, cA 3, cA 4, cA 5⟩
  have hpc := port2_comm x4 x5 h4 h5
  clear cK cA cX cG cC cT cB cE cS cN30 cN32 cQ0 cQ1 cQ2 cQ3 cQ4 cQ5 cQ6 cQ28 cQ29 cQ30 heq24 heqx he39 he32 hnq hnf hws hta eF
  go_cut [298] from 285 (fun s w3 => s = .bool false ∧ Below w.heap.size w w3 ∧ (w3.cell? ⟨k, 0, none⟩ = some (.int .u64 0) ∧ w3.cell? ⟨k, 1, none⟩ = some (.int .u64 (lo4 x0 x1 x2 x3)) ∧ w3.cell? ⟨k, 2, none⟩ = some (.pointer z) ∧ w3.cell? ⟨k, 3, none⟩ = some (.int .u16 (port2 x4 x5)) ∧ w3.cell? ⟨w.heap.size, 0, none⟩ = some (.int .u8 x0) ∧ w3.cell? ⟨w.heap.size, 1, none⟩ = some (.int .u8 x1) ∧ w3.cell? ⟨w.heap.size, 2, none⟩ = some (.int .u8 x2) ∧ w3.cell? ⟨w.heap.size, 3, none⟩ = some (.int .u8 x3) ∧ w3.cell? ⟨w.heap.size, 4, none⟩ = some (.int .u8 x4) ∧ w3.cell? ⟨w.heap.size, 5, none⟩ = some (.int .u8 x5)))
  focus
    rename_i hJ hK
    refine frame_via 7 31 _ _ 331 rfl rfl rfl (fun T => ((((((((((((((T.setIfInBounds 285 (.pointer (some ⟨k, 0, none⟩))).setIfInBounds 286 (.pointer (some ⟨k, 0, none⟩))).setIfInBounds 287 (.pointer (some ⟨k, 0, none⟩))).setIfInBounds 288 (.agg #[.int .u64 0, .int .u64 (lo4 x0 x1 x2 x3), .pointer z, .int .u16 (port2 x4 x5)])).setIfInBounds 290 (.pointer (some ⟨w.heap.size, 4, none⟩))).setIfInBounds 291 (.int .u8 x4)).setIfInBounds 292 (.int .u16 (IntKind.u16.wrap x4))).setIfInBounds 293 (.int .u16 (IntKind.u16.wrap (IntKind.u16.wrap x4 * 256)))).setIfInBounds 294 (.pointer (some ⟨w.heap.size, 5, none⟩))).setIfInBounds 295 (.int .u8 x5)).setIfInBounds 296 (.int .u16 (IntKind.u16.wrap x5))).setIfInBounds 297 (.int .u16 (bits BinOp.or IntKind.u16 (IntKind.u16.wrap (IntKind.u16.wrap x4 * 256)) (IntKind.u16.wrap x5)))).setIfInBounds 289 (.int .u16 (port2 x4 x5))).setIfInBounds 298 (.bool false))) (fun w3 => Below w.heap.size w w3 ∧ (w3.cell? ⟨k, 0, none⟩ = some (.int .u64 0) ∧ w3.cell? ⟨k, 1, none⟩ = some (.int .u64 (lo4 x0 x1 x2 x3)) ∧ w3.cell? ⟨k, 2, none⟩ = some (.pointer z) ∧ w3.cell? ⟨k, 3, none⟩ = some (.int .u16 (port2 x4 x5)) ∧ w3.cell? ⟨w.heap.size, 0, none⟩ = some (.int .u8 x0) ∧ w3.cell? ⟨w.heap.size, 1, none⟩ = some (.int .u8 x1) ∧ w3.cell? ⟨w.heap.size, 2, none⟩ = some (.int .u8 x2) ∧ w3.cell? ⟨w.heap.size, 3, none⟩ = some (.int .u8 x3) ∧ w3.cell? ⟨w.heap.size, 4, none⟩ = some (.int .u8 x4) ∧ w3.cell? ⟨w.heap.size, 5, none⟩ = some (.int .u8 x5))) ?_ ?_
    focus
      intro T hT7 hT31 hTs
      have q7 : ∀ hh : 7 < T.size, T[7]'hh = .pointer (some ⟨w.heap.size, 0, none⟩) := fun hh => by
        have := hT7; rw [Array.getElem?_eq_getElem hh] at this; exact Option.some.inj this
      have q31 : ∀ hh : 31 < T.size, T[31]'hh = .pointer (some ⟨k, 0, none⟩) := fun hh => by
        have := hT31; rw [Array.getElem?_eq_getElem hh] at this; exact Option.some.inj this
      go_region_held (fun w' => w'.cell? ⟨k, 0, none⟩ = some (.int .u64 0) ∧ w'.cell? ⟨k, 1, none⟩ = some (.int .u64 (lo4 x0 x1 x2 x3)) ∧ w'.cell? ⟨k, 2, none⟩ = some (.pointer z) ∧ w'.cell? ⟨k, 3, none⟩ = some (.int .u16 (port2 x4 x5)) ∧ w'.cell? ⟨w.heap.size, 0, none⟩ = some (.int .u8 x0) ∧ w'.cell? ⟨w.heap.size, 1, none⟩ = some (.int .u8 x1) ∧ w'.cell? ⟨w.heap.size, 2, none⟩ = some (.int .u8 x2) ∧ w'.cell? ⟨w.heap.size, 3, none⟩ = some (.int .u8 x3) ∧ w'.cell? ⟨w.heap.size, 4, none⟩ = some (.int .u8 x4) ∧ w'.cell? ⟨w.heap.size, 5, none⟩ = some (.int .u8 x5))
        (first | exact hS0 | exact hS3)
        (first | (go_at_call 7; refine (port_any _ _ z _ _).mono ?_; rintro e w3 ⟨rfl, hb3⟩; have hS3 := keep61 hb3 hS0))
      rw [ports_eq x4 x5 h4 h5]
      refine calm_end ?_
      exact ⟨rfl, below_up HL.out.drew hb3 hsz, hS3⟩
    rintro w3 hG
    refine hK _ _ (Met.intro (hJ _ _ ?_))
    refine ⟨(.pointer (some ⟨k, 0, none⟩)), (.pointer (some ⟨k, 0, none⟩)), (.pointer (some ⟨k, 0, none⟩)), (.agg #[.int .u64 0, .int .u64 (lo4 x0 x1 x2 x3), .pointer z, .int .u16 (port2 x4 x5)]), (.int .u16 (port2 x4 x5)), (.pointer (some ⟨w.heap.size, 4, none⟩)), (.int .u8 x4), (.int .u16 (IntKind.u16.wrap x4)), (.int .u16 (IntKind.u16.wrap (IntKind.u16.wrap x4 * 256))), (.pointer (some ⟨w.heap.size, 5, none⟩)), (.int .u8 x5), (.int .u16 (IntKind.u16.wrap x5)), (.int .u16 (bits BinOp.or IntKind.u16 (IntKind.u16.wrap (IntKind.u16.wrap x4 * 256)) (IntKind.u16.wrap x5))), (.bool false), undef, undef, undef, undef, undef, undef, undef, undef, undef, undef, undef, undef, undef, undef, undef, undef, undef, undef, undef, undef, undef, undef, undef, undef, undef, undef, undef, undef, undef, undef, undef, undef, ⟨rfl, hG⟩, ?_⟩
    kernel_rfl
  obtain ⟨rfl, hlow3, hS3⟩ := hcut
  have HL3 := Lib.hid hlow3
  have hsz3 : w.heap.size ≤ wc.heap.size := HL3.out.size
  obtain ⟨k0, k1, k2, k3, a0, a1, a2, a3, a4, a5⟩ := hS3
  clear hlow3
  go_wp2_with (go_at_call 8; refine (addr_any _ _ z _ _).mono ?_; rintro e w4 ⟨rfl, hb4⟩; refine Hid.out ?_)
  have hS4 := keep61 hb4 ⟨k0, k1, k2, k3, a0, a1, a2, a3, a4, a5⟩
  have HL4 := Lib.hid (below_up HL3.out hb4 hsz3)
  have hsz4 : w.heap.size ≤ w4.heap.size := HL4.out.size
  clear k0 k1 k2 k3 a0 a1 a2 a3 a4 a5 hb4
  refine Lib.hid ?_
  have hlo := lo4_eq x0 x1 x2 x3 h0 h1 h2 h3
  have hl0 : 0 ≤ lo4 x0 x1 x2 x3 := by omega
  have hl1 : lo4 x0 x1 x2 x3 < 18446744073709551616 := by omega
  have y12 : lo4 x0 x1 x2 x3 / 16777216 % 256 = x0 := by omega
  have y13 : lo4 x0 x1 x2 x3 / 65536 % 256 = x1 := by omega
  have y14 : lo4 x0 x1 x2 x3 / 256 % 256 = x2 := by omega
  have y15 : lo4 x0 x1 x2 x3 % 256 = x3 := by omega
  clear hlo
  go_wp2_with (go_at_call 9; refine (as16 _ z hl0 hl1 _).mono ?_; rintro e w5 ⟨⟨y0, y1, y2, y3, y4, y5, y6, y7, y8, y9, y10, y11, rfl⟩, hb5⟩; refine Hid.out ?_)
  obtain ⟨-, -, -, -, a0, a1, a2, a3, -, -⟩ := keep61 hb5 hS4
  have HL5 := Lib.hid (below_up HL4.out hb5 hsz4)
  have hsz5 : w.heap.size ≤ w5.heap.size := HL5.out.size
  have lA5 : w.heap.size < w5.heap.size := World.block_lt_of_cell? w5 _ a0
  clear hS4 hb5 hl0 hl1
  refine Lib.hid ?_
  go_wp2_with fail
  go_ret
  exact ⟨rfl, HL5.out.alloc hsz5 _⟩


end Go.Proofs.YbulkayawDoor
