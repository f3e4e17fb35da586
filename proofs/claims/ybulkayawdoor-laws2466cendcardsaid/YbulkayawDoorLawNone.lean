/-
  end (6) where nothing waits with the transaction, as the law calls it.
-/
import Derived.Test.YbulkayawDoorLawBase
namespace Go.Proofs.YbulkayawDoor
open Go.RowKit

/-- A region walked in a frame that is a variable, and then laid back into the frame. -/
theorem frame_via {P : Program} {c : Code} {K : Act → World → Prop} {Q : Exit → Act → World → Prop} {w : World} {tmps : Array Value} {ds : List Deferred} (i j : Nat) (vi vj : Value) (n : Nat) (hi : tmps[i]? = some vi) (hj : tmps[j]? = some vj) (hn : tmps.size = n)
    (F : Array Value → Array Value) (G : World → Prop)
    (h1 : ∀ T : Array Value, T[i]? = some vi → T[j]? = some vj → T.size = n → Code.wp P c (calm (fun a w' => a = ⟨F T, ds⟩ ∧ G w')) ⟨T, ds⟩ w)
    (h2 : ∀ w', G w' → K ⟨F tmps, ds⟩ w') : Code.wp P c (Exit.then K Q) ⟨tmps, ds⟩ w := by
  refine calm_region (Code.wp_mono ?_ (h1 tmps hi hj hn))
  intro e a w' h
  cases e <;> first | exact h.elim | (obtain ⟨rfl, hG⟩ := h; exact h2 w' hG)

theorem u16_ne (t : Int) (n : Nat) (ht0 : 0 ≤ t) (ht1 : t ≤ 65535) (hn0 : 0 < n) (hn : n ≤ 32) : IntKind.u16.wrap (t + (n : Int)) ≠ t := by
  by_cases h : t + (n : Int) ≤ 65535
  · rw [IntWalk.u16_in _ (by omega)]; omega
  · have e : IntKind.u16.wrap (t + (n : Int)) = t + (n : Int) - 65536 := by
      have : IntKind.u16.wrap (t + (n : Int)) = (t + (n : Int)) % 65536 := by kernel_rfl
      rw [this]; omega
    rw [e]; omega

/-- Another transaction waits in the slot. -/
theorem end_m1 (nb sb n idx qb : Nat) (x0 x1 x2 x3 x4 x5 t u : Int) (m : ByteArray) (tm dn : Value) (N SL : Array Value) (why : Value) (w : World)
    (hN : w.heap[nb]? = some (.cells N 95 (0, 0))) (hS : w.heap[sb]? = some (.cells SL 37 (0, 0))) (hq : w.heap[qb]? = some (.cells (qCells x0 x1 x2 x3 x4 x5 u m tm dn) 45 (0, 0)))
    (N29 : N[29]? = some (.slice (some ⟨sb, 0, none⟩) n n)) (hSL : SL[idx]? = some (.pointer (some ⟨qb, 0, none⟩))) (hu : u ≠ t)
    (ht0 : 0 ≤ t) (ht1 : t ≤ 65535) (hn0 : 0 < n) (hn : n ≤ 32) (hi : bits BinOp.and IntKind.i64 t ((n : Int) - 1) = (idx : Int)) (hlt : idx < n) :
    Calls Ybad.prog 6 #[.pointer (some ⟨nb, 0, none⟩), .agg (tx7 x0 x1 x2 x3 x4 x5 t), why] w fun e w' => e = .returned (.tuple #[]) ∧ Below w.heap.size w w' := by
  refine end_none nb x0 x1 x2 x3 x4 x5 t why w fun w1 h1 => ?_
  have lN := (Array.getElem?_eq_some_iff.1 hN).1
  have lS := (Array.getElem?_eq_some_iff.1 hS).1
  have lq := (Array.getElem?_eq_some_iff.1 hq).1
  have cN : w1.cell? ⟨nb, 29, none⟩ = some (.slice (some ⟨sb, 0, none⟩) n n) := (cell_of_row w1 _ 29 _ _ _ ((h1.block _ lN).trans hN)).trans N29
  have cS : w1.cell? ⟨sb, idx, none⟩ = some (.pointer (some ⟨qb, 0, none⟩)) := (cell_of_row w1 _ idx _ _ _ ((h1.block _ lS).trans hS)).trans hSL
  have cq : ∀ j, w1.cell? ⟨qb, j, none⟩ = (qCells x0 x1 x2 x3 x4 x5 u m tm dn)[j]? := fun j => cell_of_row w1 _ j _ _ _ ((h1.block _ lq).trans hq)
  have h := waiting_some nb 29 sb n idx qb x0 x1 x2 x3 x4 x5 t u w1 cN ht0 ht1 hn0 hn hi hlt cS (cq 0) (cq 1) (cq 2) (cq 3) (cq 4) (cq 5) (cq 6)
  rw [if_neg hu] at h
  exact h

/-- Nothing lies in the slot. -/
theorem end_m2 (nb sb n idx : Nat) (x0 x1 x2 x3 x4 x5 t : Int) (N SL : Array Value) (why : Value) (w : World)
    (hN : w.heap[nb]? = some (.cells N 95 (0, 0))) (hS : w.heap[sb]? = some (.cells SL 37 (0, 0)))
    (N29 : N[29]? = some (.slice (some ⟨sb, 0, none⟩) n n)) (hSL : SL[idx]? = some (.pointer none))
    (ht0 : 0 ≤ t) (ht1 : t ≤ 65535) (hn0 : 0 < n) (hn : n ≤ 32) (hi : bits BinOp.and IntKind.i64 t ((n : Int) - 1) = (idx : Int)) (hlt : idx < n) :
    Calls Ybad.prog 6 #[.pointer (some ⟨nb, 0, none⟩), .agg (tx7 x0 x1 x2 x3 x4 x5 t), why] w fun e w' => e = .returned (.tuple #[]) ∧ Below w.heap.size w w' := by
  refine end_none nb x0 x1 x2 x3 x4 x5 t why w fun w1 h1 => ?_
  have lN := (Array.getElem?_eq_some_iff.1 hN).1
  have lS := (Array.getElem?_eq_some_iff.1 hS).1
  have cN : w1.cell? ⟨nb, 29, none⟩ = some (.slice (some ⟨sb, 0, none⟩) n n) := (cell_of_row w1 _ 29 _ _ _ ((h1.block _ lN).trans hN)).trans N29
  have cS : w1.cell? ⟨sb, idx, none⟩ = some (.pointer none) := (cell_of_row w1 _ idx _ _ _ ((h1.block _ lS).trans hS)).trans hSL
  exact waiting_empty nb 29 sb n idx x0 x1 x2 x3 x4 x5 t w1 cN ht0 ht1 hn0 hn hi hlt cS

/-- There are no slots. -/
theorem end_m3 (nb : Nat) (x0 x1 x2 x3 x4 x5 t : Int) (N : Array Value) (why : Value) (w : World)
    (hN : w.heap[nb]? = some (.cells N 95 (0, 0))) (N29 : N[29]? = some (.slice none 0 0)) :
    Calls Ybad.prog 6 #[.pointer (some ⟨nb, 0, none⟩), .agg (tx7 x0 x1 x2 x3 x4 x5 t), why] w fun e w' => e = .returned (.tuple #[]) ∧ Below w.heap.size w w' := by
  refine end_none nb x0 x1 x2 x3 x4 x5 t why w fun w1 h1 => ?_
  have lN := (Array.getElem?_eq_some_iff.1 hN).1
  have cN : w1.cell? ⟨nb, 29, none⟩ = some (.slice none 0 0) := (cell_of_row w1 _ 29 _ _ _ ((h1.block _ lN).trans hN)).trans N29
  exact waiting_none nb 29 x0 x1 x2 x3 x4 x5 t w1 cN
end Go.Proofs.YbulkayawDoor
