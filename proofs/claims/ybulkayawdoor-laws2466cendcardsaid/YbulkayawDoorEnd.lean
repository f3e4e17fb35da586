/-
  Node.end (6).
-/
import Derived.Test.YbulkayawDoorTake
import Derived.Deep.RegionHeld
namespace Go.Proofs.YbulkayawDoor
open Go.RowKit

/-- A region that ends in no panic, inside a function that defers. -/
def calm (K : Act → World → Prop) : Exit → Act → World → Prop
  | .normal, a, w => K a w
  | _, _, _ => False
theorem calm_region {P : Program} {c : Code} {K : Act → World → Prop} {Q : Exit → Act → World → Prop} {a : Act} {w : World} (h : c.wp P (calm K) a w) : c.wp P (Exit.then K Q) a w :=
  Code.wp_mono (fun e _ _ hq => by cases e <;> first | exact hq | exact hq.elim) h
theorem calm_last {P : Program} {c : Code} {Q : Exit → Act → World → Prop} {a : Act} {w : World} (h : c.wp P (calm (Q .normal)) a w) : c.wp P Q a w :=
  Code.wp_mono (fun e _ _ hq => by cases e <;> first | exact hq | exact hq.elim) h
theorem calm_end {K : Act → World → Prop} {a : Act} {w : World} (h : K a w) : calm K .normal a w := h

/-- The world in which end is called: a query waits with the transaction. -/
structure Laid (nb sb n idx qb tb cb gb ib bb eb : Nat) (x0 x1 x2 x3 x4 x5 t : Int) (m : ByteArray) (tm : Value) (N SL : Array Value) (z : Option Addr) (w : World) : Prop where
  hN : w.heap[nb]? = some (.cells N 95 (0, 0))
  hS : w.heap[sb]? = some (.cells SL 37 (0, 0))
  hq : w.heap[qb]? = some (.cells (qCells x0 x1 x2 x3 x4 x5 t m tm (.func (.func 4) #[] #[.pointer (some ⟨cb, 0, none⟩), .pointer (some ⟨gb, 0, none⟩), .pointer (some ⟨ib, 0, none⟩), .pointer (some ⟨bb, 0, none⟩), .pointer (some ⟨eb, 0, none⟩)])) 45 (0, 0))
  hT : w.heap[tb]? = some (.cells #[.int .i64 0] 30 (0, 0))
  hc : w.heap[cb]? = some (.cells #[.int .i64 0] 3 (0, 0))
  hg : w.heap[gb]? = some (.cells (tx7 0 0 0 0 0 0 0) 26 (0, 0))
  hi : w.heap[ib]? = some (.cells id0 32 (0, 0))
  hb : w.heap[bb]? = some (.cells #[.slice none 0 0] 34 (0, 0))
  he : w.heap[eb]? = some (.cells #[.nilIface] 36 (0, 0))
  hz : w.cell? ⟨1, 0, none⟩ = some (.pointer z)
  N29 : N[29]? = some (.slice (some ⟨sb, 0, none⟩) n n)
  N30 : N[30]? = some (.int .i64 1)
  N32 : N[32]? = some (.slice none 0 0)
  hSL : SL[idx]? = some (.pointer (some ⟨qb, 0, none⟩))
  ord : 1 < sb ∧ sb < tb ∧ tb < cb ∧ cb < gb ∧ gb < ib ∧ ib < bb ∧ bb < eb ∧ eb < qb ∧ qb < nb

/-- What end leaves. -/
structure Ended (nb sb idx qb tb cb gb ib bb eb : Nat) (N SL : Array Value) (stops calls : Int) (G : Array Value) (ev : Value) (w w' : World) : Prop where
  kept : Kept [nb, sb, qb, tb, cb, gb, ib, bb, eb] w w'
  hN : ∃ fb cap, w'.heap[nb]? = some (.cells ((N.setIfInBounds 30 (.int .i64 0)).setIfInBounds 32 (.slice (some ⟨fb, 0, none⟩) 1 cap)) 95 (0, 0)) ∧ w.heap.size ≤ fb ∧ w'.cell? ⟨fb, 0, none⟩ = some (.pointer (some ⟨qb, 0, none⟩))
  hS : w'.heap[sb]? = some (.cells (SL.setIfInBounds idx (.pointer none)) 37 (0, 0))
  hq : w'.heap[qb]? = some (.cells qZero 45 (0, 0))
  hT : w'.heap[tb]? = some (.cells #[.int .i64 stops] 30 (0, 0))
  hc : w'.heap[cb]? = some (.cells #[.int .i64 calls] 3 (0, 0))
  hg : w'.heap[gb]? = some (.cells G 26 (0, 0))
  hi : w'.heap[ib]? = some (.cells id0 32 (0, 0))
  hb : w'.heap[bb]? = some (.cells #[.slice none 0 0] 34 (0, 0))
  he : w'.heap[eb]? = some (.cells #[ev] 36 (0, 0))

theorem set30_32 {N : Array Value} {u : Value} (v : Value) (h : N[32]? = some u) : (N.setIfInBounds 30 v)[32]? = some u := by
  rw [Array.getElem?_setIfInBounds_ne (by decide)]; exact h
theorem wrap0 : wrap64 (1 - 1) = 0 := by simp [wrap64]
theorem wrap1 : wrap64 (0 + 1) = 1 := by simp [wrap64]

theorem stop_kept (tb : Nat) (w : World) (h : w.heap[tb]? = some (.cells #[.int .i64 0] 30 (0, 0))) :
    Calls Ybad.prog 37 #[.pointer (some ⟨tb, 0, none⟩)] w fun e w' => e = .returned (.bool true) ∧ Kept [tb] w w' ∧ w'.heap[tb]? = some (.cells #[.int .i64 1] 30 (0, 0)) := by
  refine (stop_any tb 0 w (cell_of_row w tb 0 _ _ _ h) (by simp [World.frozen?, h])).mono ?_
  rintro e w' ⟨rfl, rfl⟩
  exact ⟨rfl, (Kept.refl _ _).set (by simp) _ _, by rw [heap_set h, wrap1]; rfl⟩

theorem keep_kept {S : List Nat} {B qb : Nat} {x0 x1 x2 x3 x4 x5 t : Int} {m : ByteArray} {dn : Value} {w w' : World} (hK : Kept S w w') (hB : B ∉ S) (hq : qb ∉ S)
    (h : w.cell? ⟨B, 0, none⟩ = some (.int .u8 x0) ∧ w.cell? ⟨B, 1, none⟩ = some (.int .u8 x1) ∧ w.cell? ⟨B, 2, none⟩ = some (.int .u8 x2) ∧ w.cell? ⟨B, 3, none⟩ = some (.int .u8 x3) ∧ w.cell? ⟨B, 4, none⟩ = some (.int .u8 x4) ∧ w.cell? ⟨B, 5, none⟩ = some (.int .u8 x5) ∧ w.cell? ⟨B, 6, none⟩ = some (.int .u16 t) ∧ w.cell? ⟨qb, 28, none⟩ = some (.string m) ∧ w.cell? ⟨qb, 30, none⟩ = some dn) :
    w'.cell? ⟨B, 0, none⟩ = some (.int .u8 x0) ∧ w'.cell? ⟨B, 1, none⟩ = some (.int .u8 x1) ∧ w'.cell? ⟨B, 2, none⟩ = some (.int .u8 x2) ∧ w'.cell? ⟨B, 3, none⟩ = some (.int .u8 x3) ∧ w'.cell? ⟨B, 4, none⟩ = some (.int .u8 x4) ∧ w'.cell? ⟨B, 5, none⟩ = some (.int .u8 x5) ∧ w'.cell? ⟨B, 6, none⟩ = some (.int .u16 t) ∧ w'.cell? ⟨qb, 28, none⟩ = some (.string m) ∧ w'.cell? ⟨qb, 30, none⟩ = some dn := by
  have lB := World.block_lt_of_cell? w _ h.1
  have lq := World.block_lt_of_cell? w _ h.2.2.2.2.2.2.2.1
  have eB : ∀ j, w'.cell? ⟨B, j, none⟩ = w.cell? ⟨B, j, none⟩ := fun j => by simp only [World.cell?, hK.block B lB hB]
  have eq : ∀ j, w'.cell? ⟨qb, j, none⟩ = w.cell? ⟨qb, j, none⟩ := fun j => by simp only [World.cell?, hK.block qb lq hq]
  simp only [eB, eq]
  exact h

set_option maxRecDepth 100000 in
set_option maxHeartbeats 2000000 in
theorem end_tw (nb sb n idx qb tb cb gb ib bb eb : Nat) (x0 x1 x2 x3 x4 x5 t : Int) (m : ByteArray) (N SL : Array Value) (z : Option Addr) (T : TypeId) (v : Value) (w : World)
    (L : Laid nb sb n idx qb tb cb gb ib bb eb x0 x1 x2 x3 x4 x5 t m (.iface 28 (.pointer (some ⟨tb, 0, none⟩))) N SL z w)
    (ht0 : 0 ≤ t) (ht1 : t ≤ 65535) (hn0 : 0 < n) (hn : n ≤ 32) (hi : bits BinOp.and IntKind.i64 t ((n : Int) - 1) = (idx : Int)) (hlt : idx < n) (h0 : 0 ≤ x0 ∧ x0 ≤ 255) (h1 : 0 ≤ x1 ∧ x1 ≤ 255) (h2 : 0 ≤ x2 ∧ x2 ≤ 255) (h3 : 0 ≤ x3 ∧ x3 ≤ 255) (h4 : 0 ≤ x4 ∧ x4 ≤ 255) (h5 : 0 ≤ x5 ∧ x5 ≤ 255) :
    Calls Ybad.prog 6 #[.pointer (some ⟨nb, 0, none⟩), .agg (tx7 x0 x1 x2 x3 x4 x5 t), .iface T v] w fun e w' => e = .returned (.tuple #[]) ∧ ∃ k, w.heap.size ≤ k ∧ w'.heap[k]? = some (.cells #[.int .u64 0, .int .u64 (lo4 x0 x1 x2 x3), .pointer z, .int .u16 (port2 x4 x5), .string m, .iface T v] 110 (0, 0)) ∧ Ended nb sb idx qb tb cb gb ib bb eb N SL 1 1 (tx7 x0 x1 x2 x3 x4 x5 t) (.iface 98 (.pointer (some ⟨k, 0, none⟩))) w w' := by
  have NI := Lib.hid hi
  clear hi
  obtain ⟨o1, o2, o3, o4, o5, o6, o7, o8, o9⟩ := L.ord
  have LL := Lib.hid L
  have lN := (Array.getElem?_eq_some_iff.1 L.hN).1
  have K0 : Kept [] w ((w.alloc (.cells (tx7 x0 x1 x2 x3 x4 x5 t) 26)).drew) := ((Kept.refl _ w).alloc _).drew
  have ht := take_kept nb sb n idx qb x0 x1 x2 x3 x4 x5 t 1 m (.iface 28 (.pointer (some ⟨tb, 0, none⟩))) _ N SL _ (K0.at L.hN (by simp)) (K0.at L.hS (by simp)) (K0.at L.hq (by simp)) L.N29 L.N30 L.hSL ht0 ht1 hn0 hn NI.out hlt (by omega)
  have HT := Lib.hid ht
  have HK0 := Lib.hid K0
  clear L ht K0
  unfold tx7
  go_enter_defers Ybad.func6, Ybad.ntmps6
  go_wp2_with fail
  refine calm_region ?_
  go_region_with (go_at_call 10; refine HT.out.mono ?_; rintro e w1 ⟨rfl, hk1, hn1, hs1⟩)
  have K1' : Kept [nb, sb] w w1 := (HK0.out.mono (by simp)).trans hk1
  have B1' : w1.heap[w.heap.size]? = some (.cells (tx7 x0 x1 x2 x3 x4 x5 t) 26 (0, 0)) := hk1.at (heap_new w (.cells (tx7 x0 x1 x2 x3 x4 x5 t) 26) rfl) (by simp; omega)
  have q1' := K1'.at LL.out.hq (by simp; omega)
  have s1' : w.heap.size < w1.heap.size := (Array.getElem?_eq_some_iff.1 B1').1
  have c29 : w1.cell? ⟨qb, 29, none⟩ = some (.iface 28 (.pointer (some ⟨tb, 0, none⟩))) := cell_of_row w1 qb 29 _ _ _ q1'
  have T1' := K1'.at LL.out.hT (by simp; omega)
  have TT1 := Lib.hid T1'
  have KK1 := Lib.hid K1'
  have BB1 := Lib.hid B1'
  have QQ1 := Lib.hid q1'
  have NN1 := Lib.hid hn1
  have SS1 := Lib.hid hs1
  clear K1' B1' q1' hn1 hs1 hk1 HT HK0 T1'
  refine calm_end ?_
  go_wp2_with (go_at_call 37; refine (stop_kept tb _ TT1.out).mono ?_; rintro e w2 ⟨rfl, k2, t2⟩; refine Hid.out ?_)
  have T2 := Lib.hid t2
  have B2 := Lib.hid (k2.at BB1.out (by simp; omega))
  have Q2 := Lib.hid (k2.at QQ1.out (by simp; omega))
  have N2 := Lib.hid (k2.at NN1.out (by simp; omega))
  have S2 := Lib.hid (k2.at SS1.out (by simp; omega))
  have K2 := Lib.hid ((KK1.out.mono (S' := [nb, sb, tb]) (by simp)).trans (k2.mono (by simp)))
  have s2' := k2.size
  clear t2 k2 c29 TT1 BB1 QQ1 NN1 SS1 KK1
  refine Lib.hid ?_
  go_wp2_with fail
  have C2 := K2.out.at LL.out.hc (by simp; omega)
  have G2 := K2.out.at LL.out.hg (by simp; omega)
  have I2 := K2.out.at LL.out.hi (by simp; omega)
  have Y2 := K2.out.at LL.out.hb (by simp; omega)
  have E2 := K2.out.at LL.out.he (by simp; omega)
  have hz2 : w2.drew.cell? ⟨1, 0, none⟩ = some (.pointer z) := by
    rw [← LL.out.hz]; show w2.cell? ⟨1, 0, none⟩ = _
    simp only [World.cell?, K2.out.block 1 (by omega) (by simp; omega)]
  have hS0 : w2.drew.cell? ⟨w.heap.size, 0, none⟩ = some (.int .u8 x0) ∧ w2.drew.cell? ⟨w.heap.size, 1, none⟩ = some (.int .u8 x1) ∧ w2.drew.cell? ⟨w.heap.size, 2, none⟩ = some (.int .u8 x2) ∧ w2.drew.cell? ⟨w.heap.size, 3, none⟩ = some (.int .u8 x3) ∧ w2.drew.cell? ⟨w.heap.size, 4, none⟩ = some (.int .u8 x4) ∧ w2.drew.cell? ⟨w.heap.size, 5, none⟩ = some (.int .u8 x5) ∧ w2.drew.cell? ⟨w.heap.size, 6, none⟩ = some (.int .u16 t) ∧ w2.drew.cell? ⟨qb, 28, none⟩ = some (.string m) ∧ w2.drew.cell? ⟨qb, 30, none⟩ = some (.func (.func 4) #[] #[.pointer (some ⟨cb, 0, none⟩), .pointer (some ⟨gb, 0, none⟩), .pointer (some ⟨ib, 0, none⟩), .pointer (some ⟨bb, 0, none⟩), .pointer (some ⟨eb, 0, none⟩)]) :=
    ⟨cell_of_row w2 _ 0 _ _ _ B2.out, cell_of_row w2 _ 1 _ _ _ B2.out, cell_of_row w2 _ 2 _ _ _ B2.out, cell_of_row w2 _ 3 _ _ _ B2.out, cell_of_row w2 _ 4 _ _ _ B2.out, cell_of_row w2 _ 5 _ _ _ B2.out, cell_of_row w2 _ 6 _ _ _ B2.out, cell_of_row w2 _ 28 _ _ _ Q2.out, cell_of_row w2 _ 30 _ _ _ Q2.out⟩
  have HC2 := Lib.hid C2
  have HG2 := Lib.hid G2
  have HI2 := Lib.hid I2
  have HY2 := Lib.hid Y2
  have HE2 := Lib.hid E2
  clear C2 G2 I2 Y2 E2
  refine calm_last ?_
  go_region_held (fun w' => w'.cell? ⟨w.heap.size, 0, none⟩ = some (.int .u8 x0) ∧ w'.cell? ⟨w.heap.size, 1, none⟩ = some (.int .u8 x1) ∧ w'.cell? ⟨w.heap.size, 2, none⟩ = some (.int .u8 x2) ∧ w'.cell? ⟨w.heap.size, 3, none⟩ = some (.int .u8 x3) ∧ w'.cell? ⟨w.heap.size, 4, none⟩ = some (.int .u8 x4) ∧ w'.cell? ⟨w.heap.size, 5, none⟩ = some (.int .u8 x5) ∧ w'.cell? ⟨w.heap.size, 6, none⟩ = some (.int .u16 t) ∧ w'.cell? ⟨qb, 28, none⟩ = some (.string m) ∧ w'.cell? ⟨qb, 30, none⟩ = some (.func (.func 4) #[] #[.pointer (some ⟨cb, 0, none⟩), .pointer (some ⟨gb, 0, none⟩), .pointer (some ⟨ib, 0, none⟩), .pointer (some ⟨bb, 0, none⟩), .pointer (some ⟨eb, 0, none⟩)]))
    (first | exact hS0 | exact hS3 | exact hS4 | exact hS5)
    (first
      | (go_at_call 13; refine (addrPort x0 x1 x2 x3 x4 x5 z _ hz2 h0 h1 h2 h3 h4 h5).mono ?_; rintro e w3 ⟨rfl, hb3⟩; have K3 := Kept.of_below (S := []) hb3; have hS3 := keep_kept K3 (by simp) (by simp) hS0)
      | (go_at_call 12; refine (noAnswer _ _ z _ m (.iface T v) ⟨T, v, rfl⟩ _).mono ?_; rintro e w4 ⟨k, rfl, hk4, hh4, hb4⟩; have K4 := K3.trans (Kept.of_below (S := []) hb4); have hS4 := keep_kept K4 (by simp) (by simp) hS0)
      | (go_at_call 4; refine (clo_any cb gb ib bb eb x0 x1 x2 x3 x4 x5 t 98 _ _ (K4.at HC2.out (by simp)) (K4.at HG2.out (by simp)) (K4.at HI2.out (by simp)) (K4.at HY2.out (by simp)) (K4.at HE2.out (by simp)) (by omega) (by omega) (by omega) (by omega) (by omega) (by omega) (by omega) (by omega) (by omega) (by omega)).mono ?_; rintro e w5 ⟨rfl, hk5, hC5, hG5, hI5, hY5, hE5⟩; have hS5 := keep_kept hk5 (by simp; omega) (by simp; omega) hS4))
  have d2 : w2.drew.heap.size = w2.heap.size := rfl
  have z3 := K3.size
  have z4 := hb4.size
  have z5 := hk5.size
  have K5 : Kept [nb, sb, qb, tb, cb, gb, ib, bb, eb] w w5 := (K2.out.drew.mono (by simp)).trans ((K4.mono (by simp)).trans (hk5.mono (by simp)))
  have N5 := hk5.at (K4.at N2.out (by simp)) (by simp; omega)
  rw [wrap0] at N5
  have S5 := hk5.at (K4.at S2.out (by simp)) (by simp; omega)
  have Q5 := hk5.at (K4.at Q2.out (by simp)) (by simp; omega)
  have T5 := hk5.at (K4.at T2.out (by simp)) (by simp; omega)
  have R5 := hk5.at hh4 (by simp; omega)
  refine calm_end ?_
  refine leaves_cons (f := 11) (args := #[.pointer (some ⟨nb, 29, none⟩), .pointer (some ⟨qb, 0, none⟩)]) (by simp) (by simp [go_sem]) ?_
  refine (reuse_d nb 29 qb x0 x1 x2 x3 x4 x5 t m (.iface 28 (.pointer (some ⟨tb, 0, none⟩))) _ w5 Q5 ((cell_of_row w5 nb 32 _ _ _ N5).trans (set30_32 _ LL.out.N32)) (by simp [World.frozen?, N5]) (by omega) .returning).mono ?_
  rintro e u' w6 ⟨rfl, rfl, fb, cap, k6, q6, n6, hfb, c6⟩
  refine ⟨_, results_none rfl _ _ _, rfl, k, by omega, k6.at R5 (by simp; omega), ?_⟩
  exact ⟨K5.trans (k6.mono (by simp)), ⟨fb, cap, n6 _ _ N5, by omega, c6⟩, k6.at S5 (by simp; omega), q6, k6.at T5 (by simp; omega), k6.at hC5 (by simp; omega), k6.at hG5 (by simp; omega), k6.at hI5 (by simp; omega), k6.at hY5 (by simp; omega), k6.at hE5 (by simp; omega)⟩

set_option maxRecDepth 100000 in
set_option maxHeartbeats 2000000 in
theorem end_t (nb sb n idx qb tb cb gb ib bb eb : Nat) (x0 x1 x2 x3 x4 x5 t : Int) (m : ByteArray) (N SL : Array Value) (z : Option Addr) (w : World)
    (L : Laid nb sb n idx qb tb cb gb ib bb eb x0 x1 x2 x3 x4 x5 t m (.iface 28 (.pointer (some ⟨tb, 0, none⟩))) N SL z w)
    (ht0 : 0 ≤ t) (ht1 : t ≤ 65535) (hn0 : 0 < n) (hn : n ≤ 32) (hi : bits BinOp.and IntKind.i64 t ((n : Int) - 1) = (idx : Int)) (hlt : idx < n)  :
    Calls Ybad.prog 6 #[.pointer (some ⟨nb, 0, none⟩), .agg (tx7 x0 x1 x2 x3 x4 x5 t), .nilIface] w fun e w' => e = .returned (.tuple #[]) ∧ Ended nb sb idx qb tb cb gb ib bb eb N SL 1 0 (tx7 0 0 0 0 0 0 0) .nilIface w w' := by
  have NI := Lib.hid hi
  clear hi
  obtain ⟨o1, o2, o3, o4, o5, o6, o7, o8, o9⟩ := L.ord
  have LL := Lib.hid L
  have lN := (Array.getElem?_eq_some_iff.1 L.hN).1
  have K0 : Kept [] w ((w.alloc (.cells (tx7 x0 x1 x2 x3 x4 x5 t) 26)).drew) := ((Kept.refl _ w).alloc _).drew
  have ht := take_kept nb sb n idx qb x0 x1 x2 x3 x4 x5 t 1 m (.iface 28 (.pointer (some ⟨tb, 0, none⟩))) _ N SL _ (K0.at L.hN (by simp)) (K0.at L.hS (by simp)) (K0.at L.hq (by simp)) L.N29 L.N30 L.hSL ht0 ht1 hn0 hn NI.out hlt (by omega)
  have HT := Lib.hid ht
  have HK0 := Lib.hid K0
  clear L ht K0
  unfold tx7
  go_enter_defers Ybad.func6, Ybad.ntmps6
  go_wp2_with fail
  refine calm_region ?_
  go_region_with (go_at_call 10; refine HT.out.mono ?_; rintro e w1 ⟨rfl, hk1, hn1, hs1⟩)
  have K1' : Kept [nb, sb] w w1 := (HK0.out.mono (by simp)).trans hk1
  have B1' : w1.heap[w.heap.size]? = some (.cells (tx7 x0 x1 x2 x3 x4 x5 t) 26 (0, 0)) := hk1.at (heap_new w (.cells (tx7 x0 x1 x2 x3 x4 x5 t) 26) rfl) (by simp; omega)
  have q1' := K1'.at LL.out.hq (by simp; omega)
  have s1' : w.heap.size < w1.heap.size := (Array.getElem?_eq_some_iff.1 B1').1
  have c29 : w1.cell? ⟨qb, 29, none⟩ = some (.iface 28 (.pointer (some ⟨tb, 0, none⟩))) := cell_of_row w1 qb 29 _ _ _ q1'
  have T1' := K1'.at LL.out.hT (by simp; omega)
  have TT1 := Lib.hid T1'
  have KK1 := Lib.hid K1'
  have BB1 := Lib.hid B1'
  have QQ1 := Lib.hid q1'
  have NN1 := Lib.hid hn1
  have SS1 := Lib.hid hs1
  clear K1' B1' q1' hn1 hs1 hk1 HT HK0 T1'
  refine calm_end ?_
  go_wp2_with (go_at_call 37; refine (stop_kept tb _ TT1.out).mono ?_; rintro e w2 ⟨rfl, k2, t2⟩; refine Hid.out ?_)
  have T2 := Lib.hid t2
  have B2 := Lib.hid (k2.at BB1.out (by simp; omega))
  have Q2 := Lib.hid (k2.at QQ1.out (by simp; omega))
  have N2 := Lib.hid (k2.at NN1.out (by simp; omega))
  have S2 := Lib.hid (k2.at SS1.out (by simp; omega))
  have K2 := Lib.hid ((KK1.out.mono (S' := [nb, sb, tb]) (by simp)).trans (k2.mono (by simp)))
  have s2' := k2.size
  clear t2 k2 c29 TT1 BB1 QQ1 NN1 SS1 KK1
  refine Lib.hid ?_
  go_wp2_with fail
  have K5 : Kept [nb, sb, qb, tb, cb, gb, ib, bb, eb] w w2 := K2.out.mono (by simp)
  have N5 := N2.out
  rw [wrap0] at N5
  have C5 := K2.out.at LL.out.hc (by simp; omega)
  have G5 := K2.out.at LL.out.hg (by simp; omega)
  have I5 := K2.out.at LL.out.hi (by simp; omega)
  have Y5 := K2.out.at LL.out.hb (by simp; omega)
  have E5 := K2.out.at LL.out.he (by simp; omega)
  refine leaves_cons (f := 11) (args := #[.pointer (some ⟨nb, 29, none⟩), .pointer (some ⟨qb, 0, none⟩)]) (by simp) (by simp [go_sem]) ?_
  refine (reuse_d nb 29 qb x0 x1 x2 x3 x4 x5 t m (.iface 28 (.pointer (some ⟨tb, 0, none⟩))) _ w2 Q2.out ((cell_of_row w2 nb 32 _ _ _ N5).trans (set30_32 _ LL.out.N32)) (by simp [World.frozen?, N5]) (by omega) .returning).mono ?_
  rintro e u' w6 ⟨rfl, rfl, fb, cap, k6, q6, n6, hfb, c6⟩
  refine ⟨_, results_none rfl _ _ _, rfl, ?_⟩
  exact ⟨K5.trans (k6.mono (by simp)), ⟨fb, cap, n6 _ _ N5, by omega, c6⟩, k6.at S2.out (by simp; omega), q6, k6.at T2.out (by simp; omega), k6.at C5 (by simp; omega), k6.at G5 (by simp; omega), k6.at I5 (by simp; omega), k6.at Y5 (by simp; omega), k6.at E5 (by simp; omega)⟩

set_option maxRecDepth 100000 in
set_option maxHeartbeats 2000000 in
theorem end_w (nb sb n idx qb tb cb gb ib bb eb : Nat) (x0 x1 x2 x3 x4 x5 t : Int) (m : ByteArray) (N SL : Array Value) (z : Option Addr) (T : TypeId) (v : Value) (w : World)
    (L : Laid nb sb n idx qb tb cb gb ib bb eb x0 x1 x2 x3 x4 x5 t m .nilIface N SL z w)
    (ht0 : 0 ≤ t) (ht1 : t ≤ 65535) (hn0 : 0 < n) (hn : n ≤ 32) (hi : bits BinOp.and IntKind.i64 t ((n : Int) - 1) = (idx : Int)) (hlt : idx < n) (h0 : 0 ≤ x0 ∧ x0 ≤ 255) (h1 : 0 ≤ x1 ∧ x1 ≤ 255) (h2 : 0 ≤ x2 ∧ x2 ≤ 255) (h3 : 0 ≤ x3 ∧ x3 ≤ 255) (h4 : 0 ≤ x4 ∧ x4 ≤ 255) (h5 : 0 ≤ x5 ∧ x5 ≤ 255) :
    Calls Ybad.prog 6 #[.pointer (some ⟨nb, 0, none⟩), .agg (tx7 x0 x1 x2 x3 x4 x5 t), .iface T v] w fun e w' => e = .returned (.tuple #[]) ∧ ∃ k, w.heap.size ≤ k ∧ w'.heap[k]? = some (.cells #[.int .u64 0, .int .u64 (lo4 x0 x1 x2 x3), .pointer z, .int .u16 (port2 x4 x5), .string m, .iface T v] 110 (0, 0)) ∧ Ended nb sb idx qb tb cb gb ib bb eb N SL 0 1 (tx7 x0 x1 x2 x3 x4 x5 t) (.iface 98 (.pointer (some ⟨k, 0, none⟩))) w w' := by
  have NI := Lib.hid hi
  clear hi
  obtain ⟨o1, o2, o3, o4, o5, o6, o7, o8, o9⟩ := L.ord
  have LL := Lib.hid L
  have lN := (Array.getElem?_eq_some_iff.1 L.hN).1
  have K0 : Kept [] w ((w.alloc (.cells (tx7 x0 x1 x2 x3 x4 x5 t) 26)).drew) := ((Kept.refl _ w).alloc _).drew
  have ht := take_kept nb sb n idx qb x0 x1 x2 x3 x4 x5 t 1 m .nilIface _ N SL _ (K0.at L.hN (by simp)) (K0.at L.hS (by simp)) (K0.at L.hq (by simp)) L.N29 L.N30 L.hSL ht0 ht1 hn0 hn NI.out hlt (by omega)
  have HT := Lib.hid ht
  have HK0 := Lib.hid K0
  clear L ht K0
  unfold tx7
  go_enter_defers Ybad.func6, Ybad.ntmps6
  go_wp2_with fail
  refine calm_region ?_
  go_region_with (go_at_call 10; refine HT.out.mono ?_; rintro e w1 ⟨rfl, hk1, hn1, hs1⟩)
  have K1' : Kept [nb, sb] w w1 := (HK0.out.mono (by simp)).trans hk1
  have B1' : w1.heap[w.heap.size]? = some (.cells (tx7 x0 x1 x2 x3 x4 x5 t) 26 (0, 0)) := hk1.at (heap_new w (.cells (tx7 x0 x1 x2 x3 x4 x5 t) 26) rfl) (by simp; omega)
  have q1' := K1'.at LL.out.hq (by simp; omega)
  have s1' : w.heap.size < w1.heap.size := (Array.getElem?_eq_some_iff.1 B1').1
  have c29 : w1.cell? ⟨qb, 29, none⟩ = some .nilIface := cell_of_row w1 qb 29 _ _ _ q1'
  have KK1 := Lib.hid K1'
  have BB1 := Lib.hid B1'
  have QQ1 := Lib.hid q1'
  have NN1 := Lib.hid hn1
  have SS1 := Lib.hid hs1
  clear K1' B1' q1' hn1 hs1 hk1 HT HK0
  refine calm_end ?_
  go_wp2_with fail
  have T2 := Lib.hid (KK1.out.at LL.out.hT (by simp; omega))
  have B2 := BB1
  have Q2 := QQ1
  have N2 := NN1
  have S2 := SS1
  have K2 := Lib.hid (KK1.out.mono (S' := [nb, sb, tb]) (by simp))
  have s2' := Nat.le_refl w1.heap.size
  clear c29 BB1 QQ1 NN1 SS1 KK1
  have C2 := K2.out.at LL.out.hc (by simp; omega)
  have G2 := K2.out.at LL.out.hg (by simp; omega)
  have I2 := K2.out.at LL.out.hi (by simp; omega)
  have Y2 := K2.out.at LL.out.hb (by simp; omega)
  have E2 := K2.out.at LL.out.he (by simp; omega)
  have hz2 : w1.drew.cell? ⟨1, 0, none⟩ = some (.pointer z) := by
    rw [← LL.out.hz]; show w1.cell? ⟨1, 0, none⟩ = _
    simp only [World.cell?, K2.out.block 1 (by omega) (by simp; omega)]
  have hS0 : w1.drew.cell? ⟨w.heap.size, 0, none⟩ = some (.int .u8 x0) ∧ w1.drew.cell? ⟨w.heap.size, 1, none⟩ = some (.int .u8 x1) ∧ w1.drew.cell? ⟨w.heap.size, 2, none⟩ = some (.int .u8 x2) ∧ w1.drew.cell? ⟨w.heap.size, 3, none⟩ = some (.int .u8 x3) ∧ w1.drew.cell? ⟨w.heap.size, 4, none⟩ = some (.int .u8 x4) ∧ w1.drew.cell? ⟨w.heap.size, 5, none⟩ = some (.int .u8 x5) ∧ w1.drew.cell? ⟨w.heap.size, 6, none⟩ = some (.int .u16 t) ∧ w1.drew.cell? ⟨qb, 28, none⟩ = some (.string m) ∧ w1.drew.cell? ⟨qb, 30, none⟩ = some (.func (.func 4) #[] #[.pointer (some ⟨cb, 0, none⟩), .pointer (some ⟨gb, 0, none⟩), .pointer (some ⟨ib, 0, none⟩), .pointer (some ⟨bb, 0, none⟩), .pointer (some ⟨eb, 0, none⟩)]) :=
    ⟨cell_of_row w1 _ 0 _ _ _ B2.out, cell_of_row w1 _ 1 _ _ _ B2.out, cell_of_row w1 _ 2 _ _ _ B2.out, cell_of_row w1 _ 3 _ _ _ B2.out, cell_of_row w1 _ 4 _ _ _ B2.out, cell_of_row w1 _ 5 _ _ _ B2.out, cell_of_row w1 _ 6 _ _ _ B2.out, cell_of_row w1 _ 28 _ _ _ Q2.out, cell_of_row w1 _ 30 _ _ _ Q2.out⟩
  have HC2 := Lib.hid C2
  have HG2 := Lib.hid G2
  have HI2 := Lib.hid I2
  have HY2 := Lib.hid Y2
  have HE2 := Lib.hid E2
  clear C2 G2 I2 Y2 E2
  refine calm_last ?_
  go_region_held (fun w' => w'.cell? ⟨w.heap.size, 0, none⟩ = some (.int .u8 x0) ∧ w'.cell? ⟨w.heap.size, 1, none⟩ = some (.int .u8 x1) ∧ w'.cell? ⟨w.heap.size, 2, none⟩ = some (.int .u8 x2) ∧ w'.cell? ⟨w.heap.size, 3, none⟩ = some (.int .u8 x3) ∧ w'.cell? ⟨w.heap.size, 4, none⟩ = some (.int .u8 x4) ∧ w'.cell? ⟨w.heap.size, 5, none⟩ = some (.int .u8 x5) ∧ w'.cell? ⟨w.heap.size, 6, none⟩ = some (.int .u16 t) ∧ w'.cell? ⟨qb, 28, none⟩ = some (.string m) ∧ w'.cell? ⟨qb, 30, none⟩ = some (.func (.func 4) #[] #[.pointer (some ⟨cb, 0, none⟩), .pointer (some ⟨gb, 0, none⟩), .pointer (some ⟨ib, 0, none⟩), .pointer (some ⟨bb, 0, none⟩), .pointer (some ⟨eb, 0, none⟩)]))
    (first | exact hS0 | exact hS3 | exact hS4 | exact hS5)
    (first
      | (go_at_call 13; refine (addrPort x0 x1 x2 x3 x4 x5 z _ hz2 h0 h1 h2 h3 h4 h5).mono ?_; rintro e w3 ⟨rfl, hb3⟩; have K3 := Kept.of_below (S := []) hb3; have hS3 := keep_kept K3 (by simp) (by simp) hS0)
      | (go_at_call 12; refine (noAnswer _ _ z _ m (.iface T v) ⟨T, v, rfl⟩ _).mono ?_; rintro e w4 ⟨k, rfl, hk4, hh4, hb4⟩; have K4 := K3.trans (Kept.of_below (S := []) hb4); have hS4 := keep_kept K4 (by simp) (by simp) hS0)
      | (go_at_call 4; refine (clo_any cb gb ib bb eb x0 x1 x2 x3 x4 x5 t 98 _ _ (K4.at HC2.out (by simp)) (K4.at HG2.out (by simp)) (K4.at HI2.out (by simp)) (K4.at HY2.out (by simp)) (K4.at HE2.out (by simp)) (by omega) (by omega) (by omega) (by omega) (by omega) (by omega) (by omega) (by omega) (by omega) (by omega)).mono ?_; rintro e w5 ⟨rfl, hk5, hC5, hG5, hI5, hY5, hE5⟩; have hS5 := keep_kept hk5 (by simp; omega) (by simp; omega) hS4))
  have d2 : w1.drew.heap.size = w1.heap.size := rfl
  have z3 := K3.size
  have z4 := hb4.size
  have z5 := hk5.size
  have K5 : Kept [nb, sb, qb, tb, cb, gb, ib, bb, eb] w w5 := (K2.out.drew.mono (by simp)).trans ((K4.mono (by simp)).trans (hk5.mono (by simp)))
  have N5 := hk5.at (K4.at N2.out (by simp)) (by simp; omega)
  rw [wrap0] at N5
  have S5 := hk5.at (K4.at S2.out (by simp)) (by simp; omega)
  have Q5 := hk5.at (K4.at Q2.out (by simp)) (by simp; omega)
  have T5 := hk5.at (K4.at T2.out (by simp)) (by simp; omega)
  have R5 := hk5.at hh4 (by simp; omega)
  refine calm_end ?_
  refine leaves_cons (f := 11) (args := #[.pointer (some ⟨nb, 29, none⟩), .pointer (some ⟨qb, 0, none⟩)]) (by simp) (by simp [go_sem]) ?_
  refine (reuse_d nb 29 qb x0 x1 x2 x3 x4 x5 t m .nilIface _ w5 Q5 ((cell_of_row w5 nb 32 _ _ _ N5).trans (set30_32 _ LL.out.N32)) (by simp [World.frozen?, N5]) (by omega) .returning).mono ?_
  rintro e u' w6 ⟨rfl, rfl, fb, cap, k6, q6, n6, hfb, c6⟩
  refine ⟨_, results_none rfl _ _ _, rfl, k, by omega, k6.at R5 (by simp; omega), ?_⟩
  exact ⟨K5.trans (k6.mono (by simp)), ⟨fb, cap, n6 _ _ N5, by omega, c6⟩, k6.at S5 (by simp; omega), q6, k6.at T5 (by simp; omega), k6.at hC5 (by simp; omega), k6.at hG5 (by simp; omega), k6.at hI5 (by simp; omega), k6.at hY5 (by simp; omega), k6.at hE5 (by simp; omega)⟩

set_option maxRecDepth 100000 in
set_option maxHeartbeats 2000000 in
theorem end_o (nb sb n idx qb tb cb gb ib bb eb : Nat) (x0 x1 x2 x3 x4 x5 t : Int) (m : ByteArray) (N SL : Array Value) (z : Option Addr) (w : World)
    (L : Laid nb sb n idx qb tb cb gb ib bb eb x0 x1 x2 x3 x4 x5 t m .nilIface N SL z w)
    (ht0 : 0 ≤ t) (ht1 : t ≤ 65535) (hn0 : 0 < n) (hn : n ≤ 32) (hi : bits BinOp.and IntKind.i64 t ((n : Int) - 1) = (idx : Int)) (hlt : idx < n)  :
    Calls Ybad.prog 6 #[.pointer (some ⟨nb, 0, none⟩), .agg (tx7 x0 x1 x2 x3 x4 x5 t), .nilIface] w fun e w' => e = .returned (.tuple #[]) ∧ Ended nb sb idx qb tb cb gb ib bb eb N SL 0 0 (tx7 0 0 0 0 0 0 0) .nilIface w w' := by
  have NI := Lib.hid hi
  clear hi
  obtain ⟨o1, o2, o3, o4, o5, o6, o7, o8, o9⟩ := L.ord
  have LL := Lib.hid L
  have lN := (Array.getElem?_eq_some_iff.1 L.hN).1
  have K0 : Kept [] w ((w.alloc (.cells (tx7 x0 x1 x2 x3 x4 x5 t) 26)).drew) := ((Kept.refl _ w).alloc _).drew
  have ht := take_kept nb sb n idx qb x0 x1 x2 x3 x4 x5 t 1 m .nilIface _ N SL _ (K0.at L.hN (by simp)) (K0.at L.hS (by simp)) (K0.at L.hq (by simp)) L.N29 L.N30 L.hSL ht0 ht1 hn0 hn NI.out hlt (by omega)
  have HT := Lib.hid ht
  have HK0 := Lib.hid K0
  clear L ht K0
  unfold tx7
  go_enter_defers Ybad.func6, Ybad.ntmps6
  go_wp2_with fail
  refine calm_region ?_
  go_region_with (go_at_call 10; refine HT.out.mono ?_; rintro e w1 ⟨rfl, hk1, hn1, hs1⟩)
  have K1' : Kept [nb, sb] w w1 := (HK0.out.mono (by simp)).trans hk1
  have B1' : w1.heap[w.heap.size]? = some (.cells (tx7 x0 x1 x2 x3 x4 x5 t) 26 (0, 0)) := hk1.at (heap_new w (.cells (tx7 x0 x1 x2 x3 x4 x5 t) 26) rfl) (by simp; omega)
  have q1' := K1'.at LL.out.hq (by simp; omega)
  have s1' : w.heap.size < w1.heap.size := (Array.getElem?_eq_some_iff.1 B1').1
  have c29 : w1.cell? ⟨qb, 29, none⟩ = some .nilIface := cell_of_row w1 qb 29 _ _ _ q1'
  have KK1 := Lib.hid K1'
  have BB1 := Lib.hid B1'
  have QQ1 := Lib.hid q1'
  have NN1 := Lib.hid hn1
  have SS1 := Lib.hid hs1
  clear K1' B1' q1' hn1 hs1 hk1 HT HK0
  refine calm_end ?_
  go_wp2_with fail
  have T2 := Lib.hid (KK1.out.at LL.out.hT (by simp; omega))
  have B2 := BB1
  have Q2 := QQ1
  have N2 := NN1
  have S2 := SS1
  have K2 := Lib.hid (KK1.out.mono (S' := [nb, sb, tb]) (by simp))
  have s2' := Nat.le_refl w1.heap.size
  clear c29 BB1 QQ1 NN1 SS1 KK1
  have K5 : Kept [nb, sb, qb, tb, cb, gb, ib, bb, eb] w w1 := K2.out.mono (by simp)
  have N5 := N2.out
  rw [wrap0] at N5
  have C5 := K2.out.at LL.out.hc (by simp; omega)
  have G5 := K2.out.at LL.out.hg (by simp; omega)
  have I5 := K2.out.at LL.out.hi (by simp; omega)
  have Y5 := K2.out.at LL.out.hb (by simp; omega)
  have E5 := K2.out.at LL.out.he (by simp; omega)
  refine leaves_cons (f := 11) (args := #[.pointer (some ⟨nb, 29, none⟩), .pointer (some ⟨qb, 0, none⟩)]) (by simp) (by simp [go_sem]) ?_
  refine (reuse_d nb 29 qb x0 x1 x2 x3 x4 x5 t m .nilIface _ w1 Q2.out ((cell_of_row w1 nb 32 _ _ _ N5).trans (set30_32 _ LL.out.N32)) (by simp [World.frozen?, N5]) (by omega) .returning).mono ?_
  rintro e u' w6 ⟨rfl, rfl, fb, cap, k6, q6, n6, hfb, c6⟩
  refine ⟨_, results_none rfl _ _ _, rfl, ?_⟩
  exact ⟨K5.trans (k6.mono (by simp)), ⟨fb, cap, n6 _ _ N5, by omega, c6⟩, k6.at S2.out (by simp; omega), q6, k6.at T2.out (by simp; omega), k6.at C5 (by simp; omega), k6.at G5 (by simp; omega), k6.at I5 (by simp; omega), k6.at Y5 (by simp; omega), k6.at E5 (by simp; omega)⟩

end Go.Proofs.YbulkayawDoor
