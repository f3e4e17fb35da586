/-
  resting.Swap (68).
-/
import Derived.Test.YbulkaxysDoorLess
import Derived.Test.YbulkaxysDoorOwn
namespace Go.Proofs.YbulkaxysDoor
open Go.RowKit

/-- Seven cells set, in the world. -/
def put7 (w : World) (b o : Nat) (r : Rt) : World :=
  ((((((w.setCell ⟨b, o, none⟩ (.int .u64 0)).setCell ⟨b, o + 1, none⟩ (.int .u64 r.a)).setCell ⟨b, o + 2, none⟩ (.int .u64 0)).setCell ⟨b, o + 3, none⟩ (.int .u64 r.b)).setCell ⟨b, o + 4, none⟩ (.int .u64 r.x)).setCell ⟨b, o + 5, none⟩ (.int .i64 r.y)).setCell ⟨b, o + 6, none⟩ (.pointer none)

theorem put7_heap {w : World} {b : Nat} {cur : Array Value} {T : TypeId} {fr : Nat × Nat} (h : w.heap[b]? = some (.cells cur T fr)) (o : Nat) (r : Rt) : (put7 w b o r).heap[b]? = some (.cells (cur7 cur o r) T fr) := by
  unfold put7 cur7
  exact heap_set (heap_set (heap_set (heap_set (heap_set (heap_set (heap_set h _ _) _ _) _ _) _ _) _ _) _ _) _ _

theorem put7_kept {w a : World} {b : Nat} {S : List Nat} (h : Kept S a w) (hb : b ∈ S) (o : Nat) (r : Rt) : Kept S a (put7 w b o r) :=
  ((((((h.set hb _ _).set hb _ _).set hb _ _).set hb _ _).set hb _ _).set hb _ _).set hb _ _

theorem OwnRt.put {w : World} {g cap : Nat} {xs : List Rt} {cur : Array Value} (h : OwnRt w g cap xs cur) (i : Nat) (hi : i < xs.length) (r : Rt) : OwnRt (put7 w g (i * 7) r) g cap (xs.set i r) (cur7 cur (i * 7) r) :=
  ⟨put7_heap h.at_ _ _, h.rows.set (by rw [h.size]; have := h.len; omega) i hi r, by rw [size_cur7]; exact h.size, by simpa using h.len, h.max⟩

theorem OwnRt.drew {w : World} {g cap : Nat} {xs : List Rt} {cur : Array Value} (h : OwnRt w g cap xs cur) : OwnRt w.drew g cap xs cur := ⟨h.at_, h.rows, h.size, h.len, h.max⟩

set_option maxRecDepth 100000 in
set_option maxHeartbeats 4000000 in
/-- Swap. -/
theorem swap68 (g cap i j : Nat) (xs : List Rt) (cur : Array Value) (w : World) (h : OwnRt w g cap xs cur) (hij : i < j) (hj : j < xs.length) :
    Calls Ybad.prog 68 #[.slice (some ⟨g, 0, none⟩) xs.length cap, .int .i64 (i : Int), .int .i64 (j : Int)] w fun e w' => e = .returned (.tuple #[]) ∧ ∃ (r s : Rt), xs[i]? = some r ∧ xs[j]? = some s ∧ w' = (put7 (put7 w g (i * 7) s) g (j * 7) r).drew := by
  have hi : i < xs.length := by omega
  obtain ⟨r, hr⟩ : ∃ r, xs[i]? = some r := ⟨xs[i], List.getElem?_eq_getElem hi⟩
  obtain ⟨s, hs⟩ : ∃ s, xs[j]? = some s := ⟨xs[j], List.getElem?_eq_getElem hj⟩
  have hi2 : (i : Int) < (xs.length : Int) := by omega
  have hj2 : (j : Int) < (xs.length : Int) := by omega
  obtain ⟨c0, c1, c2, c3, c4, c5, c6⟩ := h.read.cells hr
  obtain ⟨d0, d1, d2, d3, d4, d5, d6⟩ := h.read.cells hs
  have hf : ∀ k, w.frozen? ⟨g, k, none⟩ = false := fun k => by simp [World.frozen?, h.at_]
  have hg := h.lt
  have HR := Lib.hid hr
  have HS := Lib.hid hs
  have HH := Lib.hid h
  clear hr hs h
  go_enter Ybad.func68, Ybad.ntmps68
  go_wp2
  go_region
  go_end0
  exact ⟨rfl, r, s, HR.out, HS.out, rfl⟩

/-- What Swap leaves. -/
theorem swap_any (g cap i j : Nat) (xs : List Rt) (cur : Array Value) (w : World) (h : OwnRt w g cap xs cur) (hij : i < j) (hj : j < xs.length) :
    Calls Ybad.prog 68 #[.slice (some ⟨g, 0, none⟩) xs.length cap, .int .i64 (i : Int), .int .i64 (j : Int)] w fun e w' => e = .returned (.tuple #[]) ∧ ∃ ys cur', ys.length = xs.length ∧ (∀ e, countEq ys e = countEq xs e) ∧ (∀ r ∈ ys, r ∈ xs) ∧ OwnRt w' g cap ys cur' ∧ Kept [g] w w' := by
  have hi : i < xs.length := by omega
  refine (swap68 g cap i j xs cur w h hij hj).mono ?_
  rintro e w' ⟨rfl, r, s, hr, hs, rfl⟩
  have er : r = xs[i] := by rw [List.getElem?_eq_getElem hi] at hr; exact (Option.some.inj hr).symm
  have es : s = xs[j] := by rw [List.getElem?_eq_getElem hj] at hs; exact (Option.some.inj hs).symm
  subst er es
  refine ⟨rfl, (xs.set i xs[j]).set j xs[i], cur7 (cur7 cur (i * 7) xs[j]) (j * 7) xs[i], by simp, fun e => countEq_swap xs i j hi hj e, ?_, ?_, ?_⟩
  · intro q hq
    rcases List.mem_or_eq_of_mem_set hq with hq | rfl
    · rcases List.mem_or_eq_of_mem_set hq with hq | rfl
      · exact hq
      · exact List.getElem_mem _
    · exact List.getElem_mem _
  · exact ((h.put i hi xs[j]).put j (by simpa using hj) xs[i]).drew
  · exact (put7_kept (put7_kept (Kept.refl _ w) (by simp) _ _) (by simp) _ _).drew
end Go.Proofs.YbulkaxysDoor
