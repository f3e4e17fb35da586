/-
  A slice of rests that the call has made: its cells one behind the other, and what a step leaves alone.
-/
import Derived.Test.YbulkaxysDoorRows7
namespace Go.Proofs.YbulkaxysDoor
open Go.RowKit

def flat (xs : List Rt) : List Value := xs.flatMap (fun r => r.cells.toList)

theorem flat_nil : flat [] = [] := rfl
theorem flat_cons (r : Rt) (xs : List Rt) : flat (r :: xs) = r.cells.toList ++ flat xs := rfl
theorem flat_snoc (xs : List Rt) (r : Rt) : flat (xs ++ [r]) = flat xs ++ r.cells.toList := by simp [flat]
theorem cells_len (r : Rt) : r.cells.toList.length = 7 := rfl
theorem flat_len (xs : List Rt) : (flat xs).length = xs.length * 7 := by
  induction xs with
  | nil => rfl
  | cons r xs ih => rw [flat_cons, List.length_append, ih, cells_len, List.length_cons]; omega

theorem flat_get (xs : List Rt) : ∀ (i c : Nat), c < 7 → (flat xs)[i * 7 + c]? = xs[i]?.bind (fun r => r.cells.toList[c]?) := by
  induction xs with
  | nil => intro i c _; simp [flat]
  | cons r xs ih =>
    intro i c hc
    rw [flat_cons]
    cases i with
    | zero => rw [List.getElem?_append_left (by rw [cells_len]; omega)]; simp
    | succ i =>
      rw [List.getElem?_append_right (by rw [cells_len]; omega), cells_len, show (i + 1) * 7 + c - 7 = i * 7 + c by omega, ih i c hc]
      simp

theorem flat_take {cur : Array Value} {xs : List Rt} (h : RowsIn cur xs) (hs : xs.length * 7 ≤ cur.size) : cur.toList.take (xs.length * 7) = flat xs := by
  refine List.ext_getElem? fun k => ?_
  by_cases hk : k < xs.length * 7
  · obtain ⟨i, c, hc, rfl⟩ : ∃ i c, c < 7 ∧ k = i * 7 + c := ⟨k / 7, k % 7, by omega, by omega⟩
    have hi : i < xs.length := by omega
    rw [List.getElem?_take_of_lt hk, flat_get xs i c hc, List.getElem?_eq_getElem hi]
    have hv : (xs[i]).cells[c]? = some ((xs[i]).cells[c]'(by simpa [Rt.cells] using hc)) := Array.getElem?_eq_getElem _
    have := h i xs[i] (List.getElem?_eq_getElem hi) c _ hv
    simp only [Option.bind_some, Array.getElem?_toList]
    rw [this, hv]
  · rw [List.getElem?_eq_none (by simp; omega), List.getElem?_eq_none (by rw [flat_len]; omega)]

theorem rowsIn_of_take {cur : Array Value} {xs : List Rt} (h : cur.toList.take (xs.length * 7) = flat xs) : RowsIn cur xs := by
  intro i r hi c v hv
  have hc : c < 7 := by
    have := (Array.getElem?_eq_some_iff.1 hv).1
    simpa [Rt.cells] using this
  have hl : i < xs.length := (List.getElem?_eq_some_iff.1 hi).1
  have e : (flat xs)[i * 7 + c]? = some v := by rw [flat_get xs i c hc, hi]; simpa using hv
  rw [← h, List.getElem?_take_of_lt (by omega)] at e
  simpa using e

/-- The rests xs lie in block g, which has room for cap of them. -/
structure OwnRt (w : World) (g cap : Nat) (xs : List Rt) (cur : Array Value) : Prop where
  at_ : w.heap[g]? = some (.cells cur 53 (0, 0))
  rows : RowsIn cur xs
  size : cur.size = cap * 7
  len : xs.length ≤ cap
  max : cap ≤ maxLen

theorem OwnRt.owns {w : World} {g cap base : Nat} {xs : List Rt} {cur : Array Value} (h : OwnRt w g cap xs cur) (hb : base ≤ g) : w.ownsRow base 53 7 (.slice (some ⟨g, 0, none⟩) xs.length cap) xs.length (flat xs) :=
  ⟨flat_len xs, .inr ⟨g, cap, cur, rfl, hb, h.at_, h.len, h.max, h.size, flat_take h.rows (by rw [h.size]; have := h.len; omega)⟩⟩

theorem OwnRt.of_owns {w : World} {base : Nat} {v : Value} {xs : List Rt} (h : w.ownsRow base 53 7 v xs.length (flat xs)) (hne : v ≠ .slice none 0 0) : ∃ g cap cur, v = .slice (some ⟨g, 0, none⟩) xs.length cap ∧ base ≤ g ∧ OwnRt w g cap xs cur := by
  rcases h.2 with ⟨e, _⟩ | ⟨g, cap, cur, hv, hb, hat, hl, hm, hs, ht⟩
  · exact absurd e hne
  · exact ⟨g, cap, cur, hv, hb, hat, rowsIn_of_take ht, hs, hl, hm⟩

theorem OwnRt.of_block {w w' : World} {g cap : Nat} {xs : List Rt} {cur : Array Value} (h : OwnRt w g cap xs cur) (e : w'.heap[g]? = w.heap[g]?) : OwnRt w' g cap xs cur :=
  ⟨e.trans h.at_, h.rows, h.size, h.len, h.max⟩
theorem OwnRt.lt {w : World} {g cap : Nat} {xs : List Rt} {cur : Array Value} (h : OwnRt w g cap xs cur) : g < w.heap.size := (Array.getElem?_eq_some_iff.1 h.at_).1
theorem OwnRt.read {w : World} {g cap : Nat} {xs : List Rt} {cur : Array Value} (h : OwnRt w g cap xs cur) : RowsAt w g xs := h.rows.at h.at_

/-- All but the blocks S stand as they stood; what is new lies behind. -/
structure Kept (S : List Nat) (w w' : World) : Prop where
  os : w'.os = w.os
  tape : w'.tape = w.tape
  output : w'.output = w.output
  size : w.heap.size ≤ w'.heap.size
  block : ∀ k, k < w.heap.size → k ∉ S → w'.heap[k]? = w.heap[k]?

section
variable {S : List Nat} {a w w' : World}
theorem Kept.refl (S : List Nat) (w : World) : Kept S w w := ⟨rfl, rfl, rfl, Nat.le_refl _, fun _ _ _ => rfl⟩
theorem Kept.trans (h : Kept S a w) (k : Kept S w w') : Kept S a w' := ⟨k.os.trans h.os, k.tape.trans h.tape, k.output.trans h.output, Nat.le_trans h.size k.size, fun i hi hn => (k.block i (Nat.lt_of_lt_of_le hi h.size) hn).trans (h.block i hi hn)⟩
theorem Kept.of_below (h : Below w.heap.size w w') : Kept S w w' := ⟨h.os, h.tape, h.output, h.size, fun k hk _ => h.block k hk⟩
theorem Kept.alloc (h : Kept S a w) (o : Obj) : Kept S a (w.alloc o) := h.trans ⟨rfl, rfl, rfl, by simp, fun k hk _ => Below.heap_alloc w o k hk⟩
theorem Kept.drew (h : Kept S a w) : Kept S a w.drew := ⟨h.os, h.tape, h.output, h.size, h.block⟩
theorem Kept.set (h : Kept S a w) {b : Nat} (hb : b ∈ S) (j : Nat) (v : Value) : Kept S a (w.setCell ⟨b, j, none⟩ v) :=
  h.trans ⟨rfl, rfl, rfl, by simp [World.setCell], fun k _ hk => Below.heap_setCell _ _ _ _ (fun e => hk (by rw [e]; exact hb))⟩
theorem Kept.mono {S' : List Nat} (h : Kept S w w') (hs : ∀ x ∈ S, x ∈ S') : Kept S' w w' := ⟨h.os, h.tape, h.output, h.size, fun k hk hn => h.block k hk (fun hx => hn (hs k hx))⟩
theorem Kept.below {B : Nat} (h : Kept S w w') (hs : ∀ x ∈ S, B ≤ x) (hB : B ≤ w.heap.size) : Below B w w' := ⟨h.os, h.tape, h.output, h.size, fun k hk => h.block k (by omega) (fun hx => by have := hs k hx; omega)⟩
theorem Kept.at (h : Kept S w w') {b : Nat} {o : Obj} (hb : w.heap[b]? = some o) (hn : b ∉ S) : w'.heap[b]? = some o := (h.block b (Array.getElem?_eq_some_iff.1 hb).1 hn).trans hb
theorem Kept.grown {row : Option Nat} (h : w.grownBy w' row) (hr : ∀ k, row = some k → k ∈ S) : Kept S w w' :=
  ⟨h.os, h.tape, h.output, h.size, fun k hk hn => h.block k hk (fun e => hn (hr k e.symm))⟩
end

theorem heap_set {w : World} {b : Nat} {arr : Array Value} {T : TypeId} {fr : Nat × Nat} (h : w.heap[b]? = some (.cells arr T fr)) (j : Nat) (v : Value) : (w.setCell ⟨b, j, none⟩ v).heap[b]? = some (.cells (arr.setIfInBounds j v) T fr) := by
  simp [World.setCell, Array.getElem?_modify, h]
theorem heap_set_other {w : World} {b k : Nat} {o : Obj} (h : w.heap[k]? = some o) (hne : k ≠ b) (j : Nat) (v : Value) : (w.setCell ⟨b, j, none⟩ v).heap[k]? = some o := by
  rw [Below.heap_setCell _ _ _ _ hne]; exact h
end Go.Proofs.YbulkaxysDoor
