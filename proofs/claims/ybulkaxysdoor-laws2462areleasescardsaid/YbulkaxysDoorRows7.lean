/-
  Rests in a block: seven cells set at once; two rests changed for one another.
-/
import Derived.Test.YbulkaxysDoorCount
namespace Go.Proofs.YbulkaxysDoor
open Go.RowKit

/-- The rests lie so in a block's cells. -/
def RowsIn (cur : Array Value) (xs : List Rt) : Prop := ∀ (i : Nat) (r : Rt), xs[i]? = some r → ∀ (c : Nat) (v : Value), r.cells[c]? = some v → cur[i * 7 + c]? = some v

theorem RowsIn.at {w : World} {b : Nat} {cur : Array Value} {T : TypeId} {fr : Nat × Nat} {xs : List Rt} (h : RowsIn cur xs) (hb : w.heap[b]? = some (.cells cur T fr)) : RowsAt w b xs := fun i r hi j v hv => by
  rw [cell_of_row w b (i * 7 + j) _ _ _ hb]
  exact h i r hi j v (by simpa using hv)

/-- Seven cells set. -/
def cur7 (cur : Array Value) (o : Nat) (r : Rt) : Array Value :=
  ((((((cur.setIfInBounds o (.int .u64 0)).setIfInBounds (o + 1) (.int .u64 r.a)).setIfInBounds (o + 2) (.int .u64 0)).setIfInBounds (o + 3) (.int .u64 r.b)).setIfInBounds (o + 4) (.int .u64 r.x)).setIfInBounds (o + 5) (.int .i64 r.y)).setIfInBounds (o + 6) (.pointer none)

theorem size_cur7 (cur : Array Value) (o : Nat) (r : Rt) : (cur7 cur o r).size = cur.size := by simp [cur7]

theorem cur7_in (cur : Array Value) (o : Nat) (r : Rt) (h : o + 7 ≤ cur.size) (c : Nat) (v : Value) (hv : r.cells[c]? = some v) : (cur7 cur o r)[o + c]? = some v := by
  have hc : c < 7 := by
    have := (Array.getElem?_eq_some_iff.1 hv).1
    simpa [Rt.cells] using this
  have h7 : c = 0 ∨ c = 1 ∨ c = 2 ∨ c = 3 ∨ c = 4 ∨ c = 5 ∨ c = 6 := by omega
  rcases h7 with rfl | rfl | rfl | rfl | rfl | rfl | rfl <;> simp [Rt.cells] at hv <;> subst hv <;> simp [cur7, Array.getElem?_setIfInBounds] <;> omega

theorem cur7_out (cur : Array Value) (o : Nat) (r : Rt) (k : Nat) (hk : k < o ∨ o + 7 ≤ k) : (cur7 cur o r)[k]? = cur[k]? := by
  unfold cur7
  rw [Array.getElem?_setIfInBounds_ne (by omega), Array.getElem?_setIfInBounds_ne (by omega), Array.getElem?_setIfInBounds_ne (by omega), Array.getElem?_setIfInBounds_ne (by omega), Array.getElem?_setIfInBounds_ne (by omega), Array.getElem?_setIfInBounds_ne (by omega), Array.getElem?_setIfInBounds_ne (by omega)]

theorem RowsIn.set {cur : Array Value} {xs : List Rt} (h : RowsIn cur xs) (hs : xs.length * 7 ≤ cur.size) (i : Nat) (hi : i < xs.length) (r : Rt) : RowsIn (cur7 cur (i * 7) r) (xs.set i r) := by
  intro k s hk c v hv
  have hc : c < 7 := by
    have := (Array.getElem?_eq_some_iff.1 hv).1
    simpa [Rt.cells] using this
  by_cases e : k = i
  · subst e
    rw [List.getElem?_set_self hi] at hk
    obtain rfl := Option.some.inj hk
    exact cur7_in cur (k * 7) r (by omega) c v hv
  · rw [List.getElem?_set_ne (by omega)] at hk
    rw [cur7_out cur (i * 7) r (k * 7 + c) (by omega)]
    exact h k s hk c v hv

theorem countEq_set (xs : List Rt) (i : Nat) (hi : i < xs.length) (r e : Rt) : countEq (xs.set i r) e + (if (xs[i]).eqb e then 1 else 0) = countEq xs e + (if r.eqb e then 1 else 0) := by
  unfold countEq
  rw [← List.countP_eq_length_filter, ← List.countP_eq_length_filter]
  rw [List.countP_set (h := hi)]
  have h1 : (if (xs[i]).eqb e then 1 else 0) ≤ xs.countP (fun y => y.eqb e) := by
    split
    · exact List.countP_pos_iff.2 ⟨xs[i], List.getElem_mem hi, by assumption⟩
    · omega
  omega

theorem countEq_swap (xs : List Rt) (i j : Nat) (hi : i < xs.length) (hj : j < xs.length) (e : Rt) : countEq ((xs.set i xs[j]).set j xs[i]) e = countEq xs e := by
  have h1 := countEq_set xs i hi xs[j] e
  have h2 := countEq_set (xs.set i xs[j]) j (by simpa using hj) xs[i] e
  have e3 : (xs.set i xs[j])[j]'(by simpa using hj) = xs[j] := by
    by_cases q : i = j
    · subst q; simp
    · simp [q]
  rw [e3] at h2
  omega
end Go.Proofs.YbulkaxysDoor
