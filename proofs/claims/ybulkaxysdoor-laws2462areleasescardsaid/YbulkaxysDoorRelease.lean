/-
  pool.release (7).
-/
import Derived.Test.YbulkaxysDoorHeap
import Derived.Test.YbulkaxysDoorMap
namespace Go.Proofs.YbulkaxysDoor
open Go.RowKit

/-- The pool as release meets it. -/
structure Pool (w : World) (pb : Nat) (P : Array Value) (occ : Int) (B : Nat) : Prop where
  at_ : w.heap[pb]? = some (.cells P 71 (0, 0))
  bits : P[7]? = some (.int .i64 32)
  map : P[14]? = some (.map (some B))
  occ : P[17]? = some (.int .i64 occ)

/-- The world inside release, behind the count's turn. -/
structure R7 (pb B : Nat) (P : Array Value) (v : Nat) (z : Addr) (x y : Int) (L : List (Int × Nat)) (w X : World) : Prop where
  pool : X.heap[pb]? = some (.cells P 71 (0, 0))
  a : ∀ j, X.cell? ⟨w.heap.size, j, none⟩ = (#[.int .u64 0, .int .u64 (lov v), .pointer (some z), .int .u8 33] : Array Value)[j]?
  t : ∀ j, X.cell? ⟨w.heap.size + 1, j, none⟩ = (#[.int .u64 x, .int .i64 y, .pointer none] : Array Value)[j]?
  zs : Zs z X
  map : MapIs X B L
  kept : Kept [pb] w X
  s : w.heap.size + 1 < X.heap.size
  pl : pb < w.heap.size
  bl : B < w.heap.size

theorem MapIs.of_block {w w' : World} {B : Nat} {L : List (Int × Nat)} (h : MapIs w B L) (e : w'.heap[B]? = w.heap[B]?) : MapIs w' B L := by
  obtain ⟨es, clock, hb, hl⟩ := h
  exact ⟨es, clock, e.trans hb, hl⟩
theorem MapIs.lt {w : World} {B : Nat} {L : List (Int × Nat)} (h : MapIs w B L) : B < w.heap.size := by
  obtain ⟨es, clock, hb, _⟩ := h
  exact (Array.getElem?_eq_some_iff.1 hb).1

theorem R7.next {pb B : Nat} {P : Array Value} {v : Nat} {z : Addr} {x y : Int} {L : List (Int × Nat)} {w X Y : World} (h : R7 pb B P v z x y L w X) (hb : Below X.heap.size X Y) : R7 pb B P v z x y L w Y := by
  have hs := h.s
  have hp := h.pl
  have hB := h.bl
  have h2 := h.zs.two
  exact ⟨(hb.block pb (by omega)).trans h.pool, fun j => (hb.cell (p := ⟨w.heap.size, j, none⟩) (by show w.heap.size < _; omega)).trans (h.a j), fun j => (hb.cell (p := ⟨w.heap.size + 1, j, none⟩) hs).trans (h.t j), h.zs.below hb (by omega), h.map.of_block (hb.block B (by omega)), h.kept.trans (Kept.of_below hb), Nat.lt_of_lt_of_le hs hb.size, hp, hB⟩

theorem R7.start {pb B : Nat} {P : Array Value} {occ : Int} {v : Nat} {z : Addr} {x y : Int} {L : List (Int × Nat)} {w : World} (hz : Zs z w) (hp : Pool w pb P occ B) (hm : MapIs w B L) (h3 : 3 < pb) (hne : pb ≠ B) :
    R7 pb B (P.setIfInBounds 17 (.int .i64 (wrap64 (occ - 1)))) v z x y L w (((w.setCell ⟨pb, 17, none⟩ (.int .i64 (wrap64 (occ - 1)))).alloc (.cells #[.int .u64 0, .int .u64 (lov v), .pointer (some z), .int .u8 33] 37)).alloc (.cells #[.int .u64 x, .int .i64 y, .pointer none] 42)) := by
  have es : (w.setCell ⟨pb, 17, none⟩ (.int .i64 (wrap64 (occ - 1)))).heap.size = w.heap.size := by simp [World.setCell]
  have hpl : pb < w.heap.size := (Array.getElem?_eq_some_iff.1 hp.at_).1
  have k0 : Kept [pb] w (((w.setCell ⟨pb, 17, none⟩ (.int .i64 (wrap64 (occ - 1)))).alloc (.cells #[.int .u64 0, .int .u64 (lov v), .pointer (some z), .int .u8 33] 37)).alloc (.cells #[.int .u64 x, .int .i64 y, .pointer none] 42)) := (((Kept.refl _ w).set (by simp) _ _).alloc _).alloc _
  have h2 := hz.two
  refine ⟨?_, fun j => ?_, fun j => ?_, ⟨?_, ?_, ?_⟩, hm.of_block (k0.block B hm.lt (by simpa using hne.symm)), k0, ?_, hpl, hm.lt⟩
  · rw [Below.heap_alloc _ _ _ (by simp; omega), Below.heap_alloc _ _ _ (by omega)]
    exact heap_set hp.at_ _ _
  · have := first_cell (w.setCell ⟨pb, 17, none⟩ (.int .i64 (wrap64 (occ - 1)))) #[.int .u64 0, .int .u64 (lov v), .pointer (some z), .int .u8 33] 37 (.cells #[.int .u64 x, .int .i64 y, .pointer none] 42) j
    rw [es] at this; exact this
  · have := second_cell (w.setCell ⟨pb, 17, none⟩ (.int .i64 (wrap64 (occ - 1)))) (.cells #[.int .u64 0, .int .u64 (lov v), .pointer (some z), .int .u8 33] 37) #[.int .u64 x, .int .i64 y, .pointer none] 42 j
    rw [es] at this; exact this
  · exact (World.cell?_of_block (k0.block 0 (by omega) (by simp; omega))).trans hz.z4
  · exact (World.cell?_of_block (k0.block 1 (by omega) (by simp; omega))).trans hz.z0
  · exact Nat.lt_of_lt_of_le h2 k0.size
  · simp [es]

set_option maxRecDepth 100000 in
set_option maxHeartbeats 4000000 in
theorem release_in (pb B rb : Nat) (P Rc : Array Value) (occ : Int) (v : Nat) (hv : v < 4294967296) (z : Addr) (x y : Int) (L : List (Int × Nat)) (w : World) (hz : Zs z w) (hp : Pool w pb P occ B) (hm : MapIs w B L) (h3 : 3 < pb) (hne : pb ≠ B) (hget : getm L (v : Int) = some rb)
    (hr : w.heap[rb]? = some (.cells Rc 57 (0, 0))) (hrs : Rc.size = 9) (hrp : rb ≠ pb) :
    Calls Ybad.prog 7 #[.pointer (some ⟨pb, 0, none⟩), .agg #[.int .u64 0, .int .u64 (lov v), .pointer (some z), .int .u8 33], .agg #[.int .u64 x, .int .i64 y, .pointer none]] w fun e w' => e = .returned (.tuple #[]) ∧ w'.heap[pb]? = some (.cells (P.setIfInBounds 17 (.int .i64 (wrap64 (occ - 1)))) 71 (0, 0)) ∧ w'.heap[rb]? = some (.cells ((((Rc.setIfInBounds 5 (.bool false)).setIfInBounds 6 (.int .u64 x)).setIfInBounds 7 (.int .i64 y)).setIfInBounds 8 (.pointer none)) 57 (0, 0)) ∧ Kept [pb, rb] w w' := by
  have h2 := hz.two
  have c17 := (cell_of_row w pb 17 _ _ _ hp.at_).trans hp.occ
  have f17 : w.frozen? ⟨pb, 17, none⟩ = false := by simp [World.frozen?, hp.at_]
  have hpl := World.block_lt_of_cell? w _ c17
  have R0 := Lib.hid (R7.start (v := v) (x := x) (y := y) hz hp hm h3 hne)
  have P7 : (P.setIfInBounds 17 (.int .i64 (wrap64 (occ - 1))))[7]? = some (.int .i64 32) := by rw [Array.getElem?_setIfInBounds_ne (by decide)]; exact hp.bits
  have P14 : (P.setIfInBounds 17 (.int .i64 (wrap64 (occ - 1))))[14]? = some (.map (some B)) := by rw [Array.getElem?_setIfInBounds_ne (by decide)]; exact hp.map
  have HP := Lib.hid hp
  have HR := Lib.hid hr
  clear hp hm hz hr
  go_enter Ybad.func7, Ybad.ntmps7
  go_wp2_with (first | (go_at_call 19; refine Hid.out ?_))
  refine Lib.hid ?_
  refine (addr19 0 (lov v) (some z) 33 _).mono ?_
  rintro e w1 ⟨rfl, hb1⟩
  have r1 := R0.out.next hb1
  have hz1 := r1.zs
  have c7 : w1.cell? ⟨pb, 7, none⟩ = some (.int .i64 32) := (cell_of_row w1 pb 7 _ _ _ r1.pool).trans P7
  have R1 := Lib.hid r1
  clear hb1 r1
  go_wp2_with (first | (go_at_call 18; refine Hid.out ?_))
  refine Lib.hid ?_
  refine (pool18 pb v hv z _ hz1 c7).mono ?_
  rintro e w2 ⟨rfl, hb2⟩
  have r2 := R1.out.next hb2
  have r3 := r2.next ((Below.refl _ w2).alloc (Nat.le_refl _) (.cells #[.int .u64 0, .int .u64 (v : Int)] 46))
  have r4 : R7 pb B _ v z x y L w (w2.alloc (.cells #[.int .u64 0, .int .u64 (v : Int)] 46)).drew := r3.next ⟨rfl, rfl, rfl, Nat.le_refl _, fun _ _ => rfl⟩
  have hlk := (lookup_any _ B L r4.map (v : Int)).2
  rw [hget] at hlk
  have hS0 : (w2.alloc (.cells #[.int .u64 0, .int .u64 (v : Int)] 46)).drew.cell? ⟨pb, 14, none⟩ = some (.map (some B)) ∧ (w2.alloc (.cells #[.int .u64 0, .int .u64 (v : Int)] 46)).drew.cell? ⟨w2.heap.size, 0, none⟩ = some (.int .u64 0) ∧ (w2.alloc (.cells #[.int .u64 0, .int .u64 (v : Int)] 46)).drew.cell? ⟨w2.heap.size, 1, none⟩ = some (.int .u64 (v : Int)) ∧ (Instr.lookup 54 (.map (some B)) (.agg #[.int .u64 0, .int .u64 (v : Int)]) true).run Ybad.prog (w2.alloc (.cells #[.int .u64 0, .int .u64 (v : Int)] 46)).drew = .ok (.tuple #[.pointer (some ⟨rb, 0, none⟩), .bool true]) (w2.alloc (.cells #[.int .u64 0, .int .u64 (v : Int)] 46)).drew :=
    ⟨(cell_of_row _ pb 14 _ _ _ r4.pool).trans P14, third_cell w2 _ _ 0, third_cell w2 _ _ 1, hlk⟩
  have R4 := Lib.hid r4
  clear hb2 r2 r3 r4 c7 hz1 hlk
  go_wp2
  go_region_held (fun X => X.cell? ⟨pb, 14, none⟩ = some (.map (some B)) ∧ X.cell? ⟨w2.heap.size, 0, none⟩ = some (.int .u64 0) ∧ X.cell? ⟨w2.heap.size, 1, none⟩ = some (.int .u64 (v : Int)) ∧ (Instr.lookup 54 (.map (some B)) (.agg #[.int .u64 0, .int .u64 (v : Int)]) true).run Ybad.prog X = .ok (.tuple #[.pointer (some ⟨rb, 0, none⟩), .bool true]) X)
    (first | exact hS0 | assumption) (fail)
  clear hS0
  obtain ⟨X, hX⟩ : ∃ X, X = (w2.alloc (.cells #[.int .u64 0, .int .u64 (v : Int)] 46)).drew := ⟨_, rfl⟩
  rw [← hX] at R4 ⊢
  clear hX
  have hrX : X.heap[rb]? = some (.cells Rc 57 (0, 0)) := R4.out.kept.at HR.out (by simpa using hrp)
  have hrc : ∀ j (hj : j < Rc.size), X.cell? ⟨rb, j, none⟩ = some Rc[j] := fun j hj => by rw [cell_of_row X rb j _ _ _ hrX]; exact Array.getElem?_eq_getElem hj
  have c5 := hrc 5 (by omega)
  have c6 := hrc 6 (by omega)
  have c7 := hrc 7 (by omega)
  have c8 := hrc 8 (by omega)
  have hfr : ∀ j, X.frozen? ⟨rb, j, none⟩ = false := fun j => by simp [World.frozen?, hrX]
  have ht0 : X.cell? ⟨w.heap.size + 1, 0, none⟩ = some (.int .u64 x) := R4.out.t 0
  have ht1 : X.cell? ⟨w.heap.size + 1, 1, none⟩ = some (.int .i64 y) := R4.out.t 1
  have ht2 : X.cell? ⟨w.heap.size + 1, 2, none⟩ = some (.pointer none) := R4.out.t 2
  have HX := Lib.hid hrX
  clear hrc hrX
  go_wp2
  go_region
  clear c5 c6 c7 c8 hfr ht0 ht1 ht2
  go_wp2
  (try simp only [Exit.inBlock, Exit.then])
  refine bodyPost_ret (results_none rfl _ _ _) rfl ⟨rfl, ?_, ?_, ?_⟩
  · exact heap_set_other (heap_set_other (heap_set_other (heap_set_other R4.out.pool hrp.symm _ _) hrp.symm _ _) hrp.symm _ _) hrp.symm _ _
  · exact heap_set (heap_set (heap_set (heap_set HX.out _ _) _ _) _ _) _ _
  · exact (((((R4.out.kept.mono (by simp)).set (by simp) _ _).set (by simp) _ _).set (by simp) _ _).set (by simp) _ _).drew

set_option maxRecDepth 100000 in
set_option maxHeartbeats 4000000 in
theorem release_out (pb B g cap : Nat) (xs : List Rt) (cur P : Array Value) (occ : Int) (v : Nat) (hv : v < 4294967296) (z : Addr) (x y : Int) (L : List (Int × Nat)) (w : World) (hz : Zs z w) (hp : Pool w pb P occ B) (hm : MapIs w B L) (h3 : 3 < pb) (hne : pb ≠ B) (hget : getm L (v : Int) = none)
    (ho : OwnRt w g cap xs cur) (hn : xs.length ≤ 500) (hok : ∀ q ∈ xs, q.ok) (hx0 : 0 ≤ x) (hx1 : x < 1073741824) (hgp : pb ≠ g) (hsl : P[13]? = some (.slice (some ⟨g, 0, none⟩) xs.length cap)) :
    Calls Ybad.prog 7 #[.pointer (some ⟨pb, 0, none⟩), .agg #[.int .u64 0, .int .u64 (lov v), .pointer (some z), .int .u8 33], .agg #[.int .u64 x, .int .i64 y, .pointer none]] w fun e w' => e = .returned (.tuple #[]) ∧ ∃ g' cap' cur' ys, ys.length = xs.length + 1 ∧ (∀ e, countEq ys e = countEq (xs ++ [⟨v, v, x, y⟩]) e) ∧ (∀ q ∈ ys, q.ok) ∧ w'.heap[pb]? = some (.cells ((P.setIfInBounds 17 (.int .i64 (wrap64 (occ - 1)))).setIfInBounds 13 (.slice (some ⟨g', 0, none⟩) (xs.length + 1) cap')) 71 (0, 0)) ∧ OwnRt w' g' cap' ys cur' ∧ (g' = g ∨ w.heap.size ≤ g') ∧ Kept [pb, g] w w' := by
  have h2 := hz.two
  have c17 := (cell_of_row w pb 17 _ _ _ hp.at_).trans hp.occ
  have f17 : w.frozen? ⟨pb, 17, none⟩ = false := by simp [World.frozen?, hp.at_]
  have hpl := World.block_lt_of_cell? w _ c17
  have R0 := Lib.hid (R7.start (v := v) (x := x) (y := y) hz hp hm h3 hne)
  have P7 : (P.setIfInBounds 17 (.int .i64 (wrap64 (occ - 1))))[7]? = some (.int .i64 32) := by rw [Array.getElem?_setIfInBounds_ne (by decide)]; exact hp.bits
  have P14 : (P.setIfInBounds 17 (.int .i64 (wrap64 (occ - 1))))[14]? = some (.map (some B)) := by rw [Array.getElem?_setIfInBounds_ne (by decide)]; exact hp.map
  have HP := Lib.hid hp
  have P13 : (P.setIfInBounds 17 (.int .i64 (wrap64 (occ - 1))))[13]? = some (.slice (some ⟨g, 0, none⟩) xs.length cap) := by rw [Array.getElem?_setIfInBounds_ne (by decide)]; exact hsl
  have HR := Lib.hid ho
  have hgl := ho.lt
  clear hp hm hz ho hsl
  go_enter Ybad.func7, Ybad.ntmps7
  go_wp2_with (first | (go_at_call 19; refine Hid.out ?_))
  refine Lib.hid ?_
  refine (addr19 0 (lov v) (some z) 33 _).mono ?_
  rintro e w1 ⟨rfl, hb1⟩
  have r1 := R0.out.next hb1
  have hz1 := r1.zs
  have c7 : w1.cell? ⟨pb, 7, none⟩ = some (.int .i64 32) := (cell_of_row w1 pb 7 _ _ _ r1.pool).trans P7
  have R1 := Lib.hid r1
  clear hb1 r1
  go_wp2_with (first | (go_at_call 18; refine Hid.out ?_))
  refine Lib.hid ?_
  refine (pool18 pb v hv z _ hz1 c7).mono ?_
  rintro e w2 ⟨rfl, hb2⟩
  have r2 := R1.out.next hb2
  have r3 := r2.next ((Below.refl _ w2).alloc (Nat.le_refl _) (.cells #[.int .u64 0, .int .u64 (v : Int)] 46))
  have r4 : R7 pb B _ v z x y L w (w2.alloc (.cells #[.int .u64 0, .int .u64 (v : Int)] 46)).drew := r3.next ⟨rfl, rfl, rfl, Nat.le_refl _, fun _ _ => rfl⟩
  have hlk := (lookup_any _ B L r4.map (v : Int)).2
  rw [hget] at hlk
  have hS0 : (w2.alloc (.cells #[.int .u64 0, .int .u64 (v : Int)] 46)).drew.cell? ⟨pb, 14, none⟩ = some (.map (some B)) ∧ (w2.alloc (.cells #[.int .u64 0, .int .u64 (v : Int)] 46)).drew.cell? ⟨w2.heap.size, 0, none⟩ = some (.int .u64 0) ∧ (w2.alloc (.cells #[.int .u64 0, .int .u64 (v : Int)] 46)).drew.cell? ⟨w2.heap.size, 1, none⟩ = some (.int .u64 (v : Int)) ∧ (Instr.lookup 54 (.map (some B)) (.agg #[.int .u64 0, .int .u64 (v : Int)]) true).run Ybad.prog (w2.alloc (.cells #[.int .u64 0, .int .u64 (v : Int)] 46)).drew = .ok (.tuple #[.pointer none, .bool false]) (w2.alloc (.cells #[.int .u64 0, .int .u64 (v : Int)] 46)).drew :=
    ⟨(cell_of_row _ pb 14 _ _ _ r4.pool).trans P14, third_cell w2 _ _ 0, third_cell w2 _ _ 1, hlk⟩
  have R2s : w.heap.size ≤ w2.heap.size := r2.kept.size
  have R4 := Lib.hid r4
  clear hb2 r2 r3 r4 c7 hz1 hlk
  go_wp2
  go_region_held (fun X => X.cell? ⟨pb, 14, none⟩ = some (.map (some B)) ∧ X.cell? ⟨w2.heap.size, 0, none⟩ = some (.int .u64 0) ∧ X.cell? ⟨w2.heap.size, 1, none⟩ = some (.int .u64 (v : Int)) ∧ (Instr.lookup 54 (.map (some B)) (.agg #[.int .u64 0, .int .u64 (v : Int)]) true).run Ybad.prog X = .ok (.tuple #[.pointer none, .bool false]) X)
    (first | exact hS0 | assumption) (fail)
  have n0 := hS0.2.1
  have n1 := hS0.2.2.1
  clear hS0
  obtain ⟨X, hX⟩ : ∃ X, X = (w2.alloc (.cells #[.int .u64 0, .int .u64 (v : Int)] 46)).drew := ⟨_, rfl⟩
  have hXs : w2.heap.size < X.heap.size := by rw [hX]; show w2.heap.size < (w2.alloc _).heap.size; simp
  rw [← hX] at R4 n0 n1 ⊢
  clear hX
  have hoX : OwnRt X g cap xs cur := HR.out.of_block (R4.out.kept.block g hgl (by simpa using hgp.symm))
  have h20 := push20 pb g cap xs ⟨v, v, x, y⟩ cur _ 71 X.drew hoX.drew hn hok ⟨hx0, hx1⟩ hgp R4.out.pool P13
  have ht0 : X.cell? ⟨w.heap.size + 1, 0, none⟩ = some (.int .u64 x) := R4.out.t 0
  have ht1 : X.cell? ⟨w.heap.size + 1, 1, none⟩ = some (.int .i64 y) := R4.out.t 1
  have ht2 : X.cell? ⟨w.heap.size + 1, 2, none⟩ = some (.pointer none) := R4.out.t 2
  have hS1 : X.drew.cell? ⟨w2.heap.size, 0, none⟩ = some (.int .u64 0) ∧ X.drew.cell? ⟨w2.heap.size, 1, none⟩ = some (.int .u64 (v : Int)) ∧ X.drew.cell? ⟨w.heap.size + 1, 0, none⟩ = some (.int .u64 x) ∧ X.drew.cell? ⟨w.heap.size + 1, 1, none⟩ = some (.int .i64 y) ∧ X.drew.cell? ⟨w.heap.size + 1, 2, none⟩ = some (.pointer none) := ⟨n0, n1, ht0, ht1, ht2⟩
  have hlw : w.heap.size + 1 < X.heap.size := R4.out.s
  have hw2 : w.heap.size ≤ w2.heap.size := R2s
  have hpl2 : pb < w.heap.size := R4.out.pl
  have hkeep : ∀ Y : World, Kept [pb, g] X.drew Y → Y.cell? ⟨w2.heap.size, 0, none⟩ = some (.int .u64 0) ∧ Y.cell? ⟨w2.heap.size, 1, none⟩ = some (.int .u64 (v : Int)) ∧ Y.cell? ⟨w.heap.size + 1, 0, none⟩ = some (.int .u64 x) ∧ Y.cell? ⟨w.heap.size + 1, 1, none⟩ = some (.int .i64 y) ∧ Y.cell? ⟨w.heap.size + 1, 2, none⟩ = some (.pointer none) := fun Y k => by
    have q1 : ∀ j, Y.cell? ⟨w2.heap.size, j, none⟩ = X.drew.cell? ⟨w2.heap.size, j, none⟩ := fun j => World.cell?_of_block (k.block w2.heap.size (by exact hXs) (by simp; omega))
    have q2 : ∀ j, Y.cell? ⟨w.heap.size + 1, j, none⟩ = X.drew.cell? ⟨w.heap.size + 1, j, none⟩ := fun j => World.cell?_of_block (k.block (w.heap.size + 1) (by exact hlw) (by simp; omega))
    rw [q1, q1, q2, q2, q2]
    exact hS1
  have H20 := Lib.hid h20
  have HKE := Lib.hid hkeep
  clear h20 hkeep n0 n1 ht0 ht1 ht2 hoX
  unfold Rt.cells at H20
  go_wp2
  go_region_held (fun X => X.cell? ⟨w2.heap.size, 0, none⟩ = some (.int .u64 0) ∧ X.cell? ⟨w2.heap.size, 1, none⟩ = some (.int .u64 (v : Int)) ∧ X.cell? ⟨w.heap.size + 1, 0, none⟩ = some (.int .u64 x) ∧ X.cell? ⟨w.heap.size + 1, 1, none⟩ = some (.int .i64 y) ∧ X.cell? ⟨w.heap.size + 1, 2, none⟩ = some (.pointer none))
    (first | exact hS1 | exact hS9 | assumption)
    (first | (go_at_call 20; refine H20.out.mono ?_; rintro e w9 ⟨rfl, g', cap', cur9, ys, q1, q2, q3, q4, q5, q6, k9⟩; have hS9 := HKE.out w9 k9))
  have q7 : g' = g ∨ w.heap.size ≤ g' := q6.imp id (fun h => by have h' : X.heap.size ≤ g' := h; omega)
  have k10 : Kept [pb, g] w w9 := ((R4.out.kept.mono (by simp)).drew).trans k9
  clear hS1 hS9
  go_end0
  exact ⟨rfl, g', cap', cur9, ys, q1, q2, q3, q4, q5, q7, k10⟩
end Go.Proofs.YbulkaxysDoor
