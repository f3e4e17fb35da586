/-
  What the law's walk leans on: the node's zero cells, the made slice.
-/
import Derived.Test.YbulkayawDoorEndNone
import Derived.Deep.OwnRows
import Derived.LaidEqlPtr
import Derived.Deep.MidRow
import Derived.Lib.Builder
namespace Go.Proofs.YbulkayawDoor
open Go.RowKit

def NZof (P : Program) : Array Value := (P.built 95 []).getD #[]
theorem cell_old {w : World} {p : Addr} {v : Value} (h : w.cell? p = some v) (o : Obj) : (w.alloc o).cell? p = some v := by
  rw [World.cell?_alloc_lt _ _ _ (World.block_lt_of_cell? w p h)]; exact h
theorem nz_zero (W : World) : (zeroValue 95).run Ybad.prog W = .ok (.agg (NZof Ybad.prog)) W := by kernel_rfl
theorem nz29 : (NZof Ybad.prog)[29]? = some (.slice none 0 0) := by kernel_rfl
theorem nz30 : (NZof Ybad.prog)[30]? = some (.int .i64 0) := by kernel_rfl
theorem nz32 : (NZof Ybad.prog)[32]? = some (.slice none 0 0) := by kernel_rfl

theorem nzN (s c : Value) : (((NZof Ybad.prog).setIfInBounds 29 s).setIfInBounds 30 c)[29]? = some s ∧ (((NZof Ybad.prog).setIfInBounds 29 s).setIfInBounds 30 c)[30]? = some c ∧ (((NZof Ybad.prog).setIfInBounds 29 s).setIfInBounds 30 c)[32]? = some (.slice none 0 0) := by
  have l29 := (Array.getElem?_eq_some_iff.1 nz29).1
  have l30 := (Array.getElem?_eq_some_iff.1 nz30).1
  refine ⟨?_, ?_, ?_⟩
  · rw [Array.getElem?_setIfInBounds_ne (by decide), Array.getElem?_setIfInBounds_self_of_lt l29]
  · rw [Array.getElem?_setIfInBounds_self_of_lt (by simpa using l30)]
  · rw [Array.getElem?_setIfInBounds_ne (by decide), Array.getElem?_setIfInBounds_ne (by decide)]; exact nz32

theorem nzM (s c f : Value) : (((((NZof Ybad.prog).setIfInBounds 29 s).setIfInBounds 30 c).setIfInBounds 30 (.int .i64 0)).setIfInBounds 32 f)[30]? = some (.int .i64 0) ∧ (((((NZof Ybad.prog).setIfInBounds 29 s).setIfInBounds 30 c).setIfInBounds 30 (.int .i64 0)).setIfInBounds 32 f)[32]? = some f := by
  have l30 := (Array.getElem?_eq_some_iff.1 nz30).1
  have l32 := (Array.getElem?_eq_some_iff.1 nz32).1
  refine ⟨?_, ?_⟩
  · rw [Array.getElem?_setIfInBounds_ne (by decide), Array.getElem?_setIfInBounds_self_of_lt (by simpa using l30)]
  · rw [Array.getElem?_setIfInBounds_self_of_lt (by simpa using l32)]

theorem make27 (n : Nat) (hn : n ≤ 32) (W : World) : (Instr.makeSlice 27 (.int .i64 (n : Int)) (.int .i64 (n : Int))).run Ybad.prog W = .ok (.slice (some ⟨W.heap.size, 0, none⟩) n n) (W.alloc (.cells (madeCells #[.pointer none] n) 37)) :=
  run_make_row' (P := Ybad.prog) 27 37 (.pointer none) 8 Ybad.underlying27 (by kernel_rfl) rfl .i64 .i64 n (by omega) (by omega) W

theorem made_at (n idx : Nat) (h : idx < n) : (madeCells #[Value.pointer none] n)[idx]? = some (.pointer none) := by
  simp [madeCells, h, Nat.mod_one]
theorem made_set (n idx : Nat) (h : idx < n) (v : Value) : ((madeCells #[Value.pointer none] n).setIfInBounds idx v)[idx]? = some v := by
  rw [Array.getElem?_setIfInBounds_self_of_lt (by rw [size_madeCells]; exact h)]
theorem made_set2 (n idx : Nat) (h : idx < n) (u v : Value) : (((madeCells #[Value.pointer none] n).setIfInBounds idx u).setIfInBounds idx v)[idx]? = some v := by
  rw [Array.getElem?_setIfInBounds_self_of_lt (by simp [size_madeCells, h])]

theorem info_of {te : TypeId} (h : (Ybad.prog.info? te).isSome = true) : ∃ j, Ybad.prog.info? te = some j := Option.isSome_iff_exists.1 h

theorem neq_q (a : Addr) (W : World) : (binOp .neq 37 (.pointer (some a)) (.pointer (some a))).run Ybad.prog W = .ok (.bool false) W := by
  obtain ⟨j, hj⟩ := info_of (te := 45) (by kernel_rfl)
  exact Lib.run_neq_ptr_same W a Ybad.underlying37 hj
theorem eql_q (a : Addr) (W : World) : (binOp .eql 37 (.pointer (some a)) (.pointer (some a))).run Ybad.prog W = .ok (.bool true) W := by
  obtain ⟨j, hj⟩ := info_of (te := 45) (by kernel_rfl)
  exact run_eql_ptr_same W a Ybad.underlying37 hj
theorem why_same (a : Addr) (W : World) : (binOp .neq 36 (.iface 117 (.pointer (some a))) (.iface 117 (.pointer (some a)))).run Ybad.prog W = .ok (.bool false) W := by
  obtain ⟨j, hj⟩ := info_of (te := 119) (by kernel_rfl)
  have hc : (Ybad.prog.info? 117).map (·.comparable) = some true := by kernel_rfl
  cases hi : Ybad.prog.info? 117 with
  | none => simp [hi] at hc
  | some i =>
    have hcc : i.comparable = true := by simpa [hi] using hc
    have h : ∀ d : Nat, (Op.equalIn (d + 2) 36 (.iface 117 (.pointer (some a))) (.iface 117 (.pointer (some a)))).run Ybad.prog W = .ok true W := fun d => by
      simp [Op.equalIn, run_underlying Ybad.underlying36, run_underlying Ybad.underlying117, typeInfo, hi, hcc, sizeOf, hj, run_sameAddr_same]
    simp only [binOp]
    simp [Op.equal, Op.maxDepth, h 9998]

def zeros21 : Array Value := #[.int .u8 0, .int .u8 0, .int .u8 0, .int .u8 0, .int .u8 0, .int .u8 0, .int .u8 0, .int .u8 0, .int .u8 0, .int .u8 0, .int .u8 0, .int .u8 0, .int .u8 0, .int .u8 0, .int .u8 0, .int .u8 0, .int .u8 0, .int .u8 0, .int .u8 0, .int .u8 0, .bool false]
theorem eq39 (W : World) : (Op.equalIn 10000 39 (.agg zeros21) (.agg zeros21)).run Ybad.prog W = .ok true W := by kernel_rfl
theorem range_id {W : World} {b : Nat} (h : W.heap[b]? = some (.cells id0 32 (0, 0))) : W.rangeAt b 0 zeros20.toList := fun j v hv => by
  rw [cell_of_row W b (0 + j) _ _ _ h, Nat.zero_add]; simpa [id0, zeros20] using hv
theorem range_to {W : World} {b : Nat} (h : W.heap[b]? = some (.cells qZero 45 (0, 0))) : W.rangeAt b 7 zeros21.toList := fun j v hv => by
  have hj : j < 21 := (List.getElem?_eq_some_iff.1 hv).1
  rw [cell_of_row W b (7 + j) _ _ _ h, ← hv]
  have key : ∀ i, i < 21 → qZero[7 + i]? = zeros21.toList[i]? := by
    intro i hi
    match i, hi with
    | 0, _ => rfl
    | 1, _ => rfl
    | 2, _ => rfl
    | 3, _ => rfl
    | 4, _ => rfl
    | 5, _ => rfl
    | 6, _ => rfl
    | 7, _ => rfl
    | 8, _ => rfl
    | 9, _ => rfl
    | 10, _ => rfl
    | 11, _ => rfl
    | 12, _ => rfl
    | 13, _ => rfl
    | 14, _ => rfl
    | 15, _ => rfl
    | 16, _ => rfl
    | 17, _ => rfl
    | 18, _ => rfl
    | 19, _ => rfl
    | 20, _ => rfl
    | k + 21, h => exact absurd h (by omega)
  exact key j hj
theorem load_id {W : World} {b : Nat} (h : W.heap[b]? = some (.cells id0 32 (0, 0))) : (Instr.loadAt 32 (.pointer (some ⟨b, 0, none⟩))).run Ybad.prog W = .ok (.agg zeros20) W :=
  run_loadAt_mid W b 0 32 _ _ (range_id h) Ybad.underlying32 rfl (by kernel_rfl)
theorem load_to {W : World} {b : Nat} (h : W.heap[b]? = some (.cells qZero 45 (0, 0))) : (Instr.loadAt 39 (.pointer (some ⟨b, 7, none⟩))).run Ybad.prog W = .ok (.agg zeros21) W :=
  run_loadAt_mid W b 7 39 _ _ (range_to h) Ybad.underlying39 rfl (by kernel_rfl)
theorem is_no (a : Addr) (W : World) : (Instr.typeAssert (.iface 98 (.pointer (some a))) 36 98 true).run Ybad.prog W = .ok (.tuple #[.pointer (some a), .bool true]) W := by kernel_rfl
theorem wpList_load_g {P : Program} {ops : Array Oper} {rest : List Oper} {o : Oper} {a : Act} {w : World} {Q : Exit → Act → World → Prop} (hw : Region.wanted o (yielded ops a.tmps) = true) (ty : TypeId) (x : Operand) (ho : o.op = .load ty x)
    (p : Addr) (hx : a.eval x = .pointer (some p)) (cs : Array Value) (hl : (Instr.loadAt ty (.pointer (some p))).run P w = .ok (.agg cs) w)
    (h : wpList P ops Q rest (a.put o.dst (.agg cs)) w) : wpList P ops Q (o :: rest) a w :=
  BigFrame.wpList_want hw fun K hK => by
    unfold Oper.wp execOp
    simp only [ho, hx, Sem.run_bind, Sem.run_pure, Result.andThen_ok, hl]
    exact hK _ _ h
theorem keep61 {k A : Nat} {lo p x0 x1 x2 x3 x4 x5 : Int} {z : Option Addr} {w w1 : World} (hb : Below w.heap.size w w1)
    (h : w.cell? ⟨k, 0, none⟩ = some (.int .u64 0) ∧ w.cell? ⟨k, 1, none⟩ = some (.int .u64 lo) ∧ w.cell? ⟨k, 2, none⟩ = some (.pointer z) ∧ w.cell? ⟨k, 3, none⟩ = some (.int .u16 p) ∧ w.cell? ⟨A, 0, none⟩ = some (.int .u8 x0) ∧ w.cell? ⟨A, 1, none⟩ = some (.int .u8 x1) ∧ w.cell? ⟨A, 2, none⟩ = some (.int .u8 x2) ∧ w.cell? ⟨A, 3, none⟩ = some (.int .u8 x3) ∧ w.cell? ⟨A, 4, none⟩ = some (.int .u8 x4) ∧ w.cell? ⟨A, 5, none⟩ = some (.int .u8 x5)) :
    w1.cell? ⟨k, 0, none⟩ = some (.int .u64 0) ∧ w1.cell? ⟨k, 1, none⟩ = some (.int .u64 lo) ∧ w1.cell? ⟨k, 2, none⟩ = some (.pointer z) ∧ w1.cell? ⟨k, 3, none⟩ = some (.int .u16 p) ∧ w1.cell? ⟨A, 0, none⟩ = some (.int .u8 x0) ∧ w1.cell? ⟨A, 1, none⟩ = some (.int .u8 x1) ∧ w1.cell? ⟨A, 2, none⟩ = some (.int .u8 x2) ∧ w1.cell? ⟨A, 3, none⟩ = some (.int .u8 x3) ∧ w1.cell? ⟨A, 4, none⟩ = some (.int .u8 x4) ∧ w1.cell? ⟨A, 5, none⟩ = some (.int .u8 x5) := by
  have lk := World.block_lt_of_cell? w _ h.1
  have lA := World.block_lt_of_cell? w _ h.2.2.2.2.1
  have ek : ∀ j, w1.cell? ⟨k, j, none⟩ = w.cell? ⟨k, j, none⟩ := fun j => hb.cell (p := ⟨k, j, none⟩) lk
  have eA : ∀ j, w1.cell? ⟨A, j, none⟩ = w.cell? ⟨A, j, none⟩ := fun j => hb.cell (p := ⟨A, j, none⟩) lA
  simp only [ek, eA]
  exact h
theorem below_up {B : Nat} {a w w1 : World} (h : Below B a w) (h1 : Below w.heap.size w w1) (hB : B ≤ w.heap.size) : Below B a w1 := h.trans (h1.mono hB)
theorem frame_gen {P : Program} {c : Code} {Q : Exit → Act → World → Prop} {w : World} {tmps : Array Value} {ds : List Deferred} (i j : Nat) (vi vj : Value) (n : Nat) (hi : tmps[i]? = some vi) (hj : tmps[j]? = some vj) (hn : tmps.size = n)
    (h : ∀ T : Array Value, T[i]? = some vi → T[j]? = some vj → T.size = n → Code.wp P c Q ⟨T, ds⟩ w) : Code.wp P c Q ⟨tmps, ds⟩ w := h tmps hi hj hn
theorem frame_k {K : Act → World → Prop} {w : World} {tmps : Array Value} {ds : List Deferred} (i j l : Nat) (vi vj vl : Value) (n : Nat) (hi : tmps[i]? = some vi) (hj : tmps[j]? = some vj) (hl : tmps[l]? = some vl) (hn : tmps.size = n)
    (h : ∀ T : Array Value, (∀ hh : i < T.size, T[i]'hh = vi) → (∀ hh : j < T.size, T[j]'hh = vj) → (∀ hh : l < T.size, T[l]'hh = vl) → T.size = n → K ⟨T, ds⟩ w) : K ⟨tmps, ds⟩ w := by
  have key : ∀ {i : Nat} {v : Value}, tmps[i]? = some v → ∀ hh : i < tmps.size, tmps[i]'hh = v := fun he hh => by
    rw [Array.getElem?_eq_getElem hh] at he; exact Option.some.inj he
  exact h tmps (key hi) (key hj) (key hl) hn
theorem ports_eq (x4 x5 : Int) (h4 : 0 ≤ x4 ∧ x4 ≤ 255) (h5 : 0 ≤ x5 ∧ x5 ≤ 255) : (port2 x4 x5 != bits BinOp.or IntKind.u16 (IntKind.u16.wrap (IntKind.u16.wrap x4 * 256)) (IntKind.u16.wrap x5)) = false := by
  rw [IntWalk.u16_in x4 (by omega), IntWalk.u16_in x5 (by omega), IntWalk.u16_in (x4 * 256) (by omega), port2_comm x4 x5 h4 h5]
  simp
theorem nfunc (W : World) : (binOp .neq 43 .nilFunc .nilFunc).run Ybad.prog W = .ok (.bool false) W := by kernel_rfl
theorem eq32' (W : World) : (Op.equalIn 10000 32 (.agg zeros20) (.agg zeros20)).run Ybad.prog W = .ok true W := eq32 9998 W
end Go.Proofs.YbulkayawDoor
