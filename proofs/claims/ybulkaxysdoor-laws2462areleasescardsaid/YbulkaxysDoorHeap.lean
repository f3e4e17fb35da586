/-
  resting.Push (74), Len (66), container/heap.Push (20).
-/
import Derived.Test.YbulkaxysDoorUp
import Derived.OwnWalk
import Derived.Deep.AppendLies
import Derived.Deep.RegionLaw
namespace Go.Proofs.YbulkaxysDoor
open Go.RowKit

theorem info53 : (Ybad.prog.info? 53).map (fun i => (i.zero, i.size, i.bytes)) = some (some (.agg #[.int .u64 0, .int .u64 0, .int .u64 0, .int .u64 0, .int .u64 0, .int .i64 0, .pointer none]), 7, 56) := by kernel_rfl

theorem len66 (a : Option Addr) (n cap : Nat) (w : World) : Calls Ybad.prog 66 #[.slice a n cap] w fun e w' => e = .returned (.int .i64 (n : Int)) ∧ w' = w := by
  go_enter Ybad.func66, Ybad.ntmps66
  go_wp2
  go_ret
  exact ⟨rfl, rfl⟩

theorem drew_cell (w : World) (cs : Array Value) (T : TypeId) (j : Nat) : (w.alloc (.cells cs T)).drew.cell? ⟨w.heap.size, j, none⟩ = cs[j]? := cell_of_row _ _ j _ _ _ (third_row w cs T)

theorem push_post {pb g g' cap' : Nat} {xs : List Rt} {r : Rt} {P : Array Value} {T : TypeId} {w w1 : World} (hne : pb ≠ g) (hl : pb < w.heap.size)
    (hp1 : w1.heap[pb]? = some (.cells P T (0, 0)))
    (hown1 : w1.ownsRow 0 53 7 (.slice (some ⟨g', 0, none⟩) (xs.length + 1) cap') (xs.length + 1) (flat xs ++ r.cells.toList))
    (hgrow : ((w.alloc (.cells r.cells 53)).drew).grownBy w1 (some g)) (hat : some g = some g' ∨ g' = w.heap.size + 1) :
    ∃ g2 cap2 cur2, (w1.setCell ⟨pb, 13, none⟩ (.slice (some ⟨g', 0, none⟩) (xs.length + 1) cap')).heap[pb]? = some (.cells (P.setIfInBounds 13 (.slice (some ⟨g2, 0, none⟩) (xs ++ [r]).length cap2)) T (0, 0)) ∧ OwnRt (w1.setCell ⟨pb, 13, none⟩ (.slice (some ⟨g', 0, none⟩) (xs.length + 1) cap')) g2 cap2 (xs ++ [r]) cur2 ∧ (g2 = g ∨ w.heap.size ≤ g2) ∧ Kept [pb, g] w (w1.setCell ⟨pb, 13, none⟩ (.slice (some ⟨g', 0, none⟩) (xs.length + 1) cap')) := by
  have hg : g' = g ∨ w.heap.size ≤ g' := by
    rcases hat with h | h
    · exact .inl (Option.some.inj h).symm
    · exact .inr (by omega)
  have hne' : g' ≠ pb := by
    rcases hg with h | h
    · rw [h]; exact Ne.symm hne
    · omega
  have hown2 : w1.ownsRow 0 53 7 (.slice (some ⟨g', 0, none⟩) (xs ++ [r]).length cap') (xs ++ [r]).length (flat (xs ++ [r])) := by
    rw [flat_snoc, List.length_append]; exact hown1
  obtain ⟨g2, cap2, cur2, e, _, ho⟩ := OwnRt.of_owns hown2 (by simp)
  obtain ⟨e1, e2⟩ : g' = g2 ∧ cap' = cap2 := by simpa using e
  subst e1 e2
  have k0 : Kept [pb, g] w (w.alloc (.cells r.cells 53)).drew := ((Kept.refl _ w).alloc _).drew
  have k1 : Kept [pb, g] w w1 := k0.trans (Kept.grown hgrow (fun k hk => by simp at hk; simp [hk]))
  refine ⟨g', cap', cur2, ?_, ho.of_block (Below.heap_setCell _ _ _ _ hne'), hg, k1.set (by simp) _ _⟩
  rw [List.length_append]
  exact heap_set hp1 _ _

set_option maxRecDepth 100000 in
set_option maxHeartbeats 4000000 in
/-- resting.Push. -/
theorem push74 (pb g cap : Nat) (xs : List Rt) (r : Rt) (cur P : Array Value) (T : TypeId) (w : World) (h : OwnRt w g cap xs cur) (hn : xs.length ≤ 1000) (hne : pb ≠ g)
    (hp : w.heap[pb]? = some (.cells P T (0, 0))) (hs : P[13]? = some (.slice (some ⟨g, 0, none⟩) xs.length cap)) :
    Calls Ybad.prog 74 #[.pointer (some ⟨pb, 13, none⟩), .iface 53 (.agg r.cells)] w fun e w' => e = .returned (.tuple #[]) ∧ ∃ g' cap' cur', w'.heap[pb]? = some (.cells (P.setIfInBounds 13 (.slice (some ⟨g', 0, none⟩) (xs ++ [r]).length cap')) T (0, 0)) ∧ OwnRt w' g' cap' (xs ++ [r]) cur' ∧ (g' = g ∨ w.heap.size ≤ g') ∧ Kept [pb, g] w w' := by
  have hc : w.cell? ⟨pb, 13, none⟩ = some (.slice (some ⟨g, 0, none⟩) xs.length cap) := (cell_of_row w pb 13 _ _ _ hp).trans hs
  have hpl := World.block_lt_of_cell? w _ hc
  have hgl := h.lt
  have hl : pb < w.heap.size := hpl
  obtain ⟨i0, hi, hz0, hz1, hz2⟩ := info_parts info53
  have hown0 : ((w.alloc (.cells #[.int .u64 0, .int .u64 r.a, .int .u64 0, .int .u64 r.b, .int .u64 r.x, .int .i64 r.y, .pointer none] 53)).drew).ownsRow 0 53 7 (.slice (some ⟨g, 0, none⟩) xs.length cap) xs.length (flat xs) := (h.of_block (w' := (w.alloc (.cells #[.int .u64 0, .int .u64 r.a, .int .u64 0, .int .u64 r.b, .int .u64 r.x, .int .i64 r.y, .pointer none] 53)).drew) (Below.heap_alloc w _ g hgl)).owns (Nat.zero_le _)
  have hnb : ((w.alloc (.cells #[.int .u64 0, .int .u64 r.a, .int .u64 0, .int .u64 r.b, .int .u64 r.x, .int .i64 r.y, .pointer none] 53)).drew).heap[w.heap.size]? = some (.cells #[.int .u64 0, .int .u64 r.a, .int .u64 0, .int .u64 r.b, .int .u64 r.x, .int .i64 r.y, .pointer none] 53 (0, 0)) := third_row w _ 53
  have hwp : ∀ w1, ((w.alloc (.cells #[.int .u64 0, .int .u64 r.a, .int .u64 0, .int .u64 r.b, .int .u64 r.x, .int .i64 r.y, .pointer none] 53)).drew).grownBy w1 (some g) → w1.heap[pb]? = some (.cells P T (0, 0)) := fun w1 hgr =>
    (hgr.block pb (by show pb < (w.alloc _).heap.size; simp; omega) (by simp [hne])).trans ((Below.heap_alloc w _ pb hl).trans hp)
  have hta : ∀ W, (Instr.typeAssert (.iface 53 (.agg #[.int .u64 0, .int .u64 r.a, .int .u64 0, .int .u64 r.b, .int .u64 r.x, .int .i64 r.y, .pointer none])) 20 53 false).run Ybad.prog W = .ok (.agg #[.int .u64 0, .int .u64 r.a, .int .u64 0, .int .u64 r.b, .int .u64 r.x, .int .i64 r.y, .pointer none]) W := fun W => by kernel_rfl
  have HO := Lib.hid hown0
  have HB := Lib.hid hnb
  have HW := Lib.hid hwp
  have HI := Lib.hid (And.intro hi (And.intro hz0 (And.intro hz1 hz2)))
  have HH := Lib.hid h
  have HP := Lib.hid hp
  have HS := Lib.hid hs
  clear hown0 hnb hwp hi hz0 hz1 hz2 h hp hs
  unfold Rt.cells
  go_enter Ybad.func74, Ybad.ntmps74
  go_wp2
  go_region_law ((refine step_append_lies _ (by rfl) _ _ 62 (by rfl) 0 53 i0 _ 7 56 Ybad.underlying62 HI.out.1 HI.out.2.1 HI.out.2.2.1 HI.out.2.2.2 rfl (by decide) (.slice (some ⟨g, 0, none⟩) xs.length cap) xs.length (flat xs) (by rfl) HO.out ⟨w.heap.size, 0, none⟩ 1 1 [.int .u64 0, .int .u64 r.a, .int .u64 0, .int .u64 r.b, .int .u64 r.x, .int .i64 r.y, .pointer none] (by rfl) (by rfl) (World.news_of_block HB.out) (by simp [Value.oneCell']) (by decide) (by unfold maxLen; omega) (by omega) (Nat.zero_le _) (w.heap.size + 1) (by show (w.alloc _).heap.size = _; simp) ?_; intro g' cap' w1 hown1 hgrow hat hlt; have hp1 := HW.out w1 hgrow; have n1 : w1.cell? ⟨pb, 13, none⟩ = some (.slice (some ⟨g, 0, none⟩) xs.length cap) := (cell_of_row w1 pb 13 _ _ _ hp1).trans HS.out; have n2 : w1.frozen? ⟨pb, 13, none⟩ = false := (by simp [World.frozen?, hp1]); have HP1 := Lib.hid hp1; have HO1 := Lib.hid hown1; have HG1 := Lib.hid hgrow; have HA1 := Lib.hid hat; clear hp1 hown1 hgrow hat hlt))
  all_goals
    go_end0
    exact ⟨rfl, push_post hne hl HP1.out HO1.out HG1.out HA1.out⟩

set_option maxRecDepth 100000 in
set_option maxHeartbeats 4000000 in
/-- container/heap.Push. -/
theorem push20 (pb g cap : Nat) (xs : List Rt) (r : Rt) (cur P : Array Value) (T : TypeId) (w : World) (h : OwnRt w g cap xs cur) (hn : xs.length ≤ 500) (hok : ∀ q ∈ xs, q.ok) (hr : r.ok) (hne : pb ≠ g)
    (hp : w.heap[pb]? = some (.cells P T (0, 0))) (hs : P[13]? = some (.slice (some ⟨g, 0, none⟩) xs.length cap)) :
    Calls Ybad.prog 20 #[.iface 84 (.pointer (some ⟨pb, 13, none⟩)), .iface 53 (.agg r.cells)] w fun e w' => e = .returned (.tuple #[]) ∧ ∃ g' cap' cur' ys, ys.length = xs.length + 1 ∧ (∀ e, countEq ys e = countEq (xs ++ [r]) e) ∧ (∀ q ∈ ys, q.ok) ∧ w'.heap[pb]? = some (.cells (P.setIfInBounds 13 (.slice (some ⟨g', 0, none⟩) (xs.length + 1) cap')) T (0, 0)) ∧ OwnRt w' g' cap' ys cur' ∧ (g' = g ∨ w.heap.size ≤ g') ∧ Kept [pb, g] w w' := by
  have h74 := push74 pb g cap xs r cur P T w h (by omega) hne hp hs
  have hpl : pb < w.heap.size := (Array.getElem?_eq_some_iff.1 hp).1
  have hP : 13 < P.size := (Array.getElem?_eq_some_iff.1 hs).1
  have hmp := meth_push ⟨pb, 13, none⟩ w
  have H74 := Lib.hid h74
  have HP := Lib.hid (And.intro hp hs)
  have HH := Lib.hid h
  clear h74 hp hs h
  go_enter Ybad.func20, Ybad.ntmps20
  go_wp2_with (first | (go_at_call 74; refine Hid.out ?_))
  refine Lib.hid ?_
  refine H74.out.mono ?_
  rintro e w1 ⟨rfl, g', cap', cur1, hp1, ho1, hg1, k1⟩
  have hl1 : (xs ++ [r]).length = xs.length + 1 := by simp
  rw [hl1] at hp1
  have hs1 : w1.cell? ⟨pb, 13, none⟩ = some (.slice (some ⟨g', 0, none⟩) (xs.length + 1) cap') := (cell_of_row w1 pb 13 _ _ _ hp1).trans (by rw [Array.getElem?_setIfInBounds_self_of_lt hP])
  have hml := meth_len ⟨pb, 13, none⟩ _ w1 hs1
  have hne1 : pb ≠ g' := by
    rcases hg1 with h | h
    · rw [h]; exact hne
    · omega
  clear hmp
  go_wp2_with (first | (go_at_call 66; refine Hid.out ?_))
  refine Lib.hid ?_
  refine (len66 _ _ _ _).mono ?_
  rintro e w2 ⟨rfl, rfl⟩
  clear hml
  have hup := up25 pb g' cap' xs.length (xs ++ [r]) cur1 w2 ho1 (by intro q hq; simp at hq; rcases hq with hq | rfl; exact hok q hq; exact hr) (by rw [hl1]; omega) (by rw [hl1]; omega) hne1 (by rw [hl1]; exact hs1)
  have HU := Lib.hid hup
  have HG := Lib.hid hg1
  have K1 := Lib.hid k1
  have P1 := Lib.hid hp1
  clear hup hs1 ho1 hg1 k1 hp1
  go_wp2_with (first | (go_at_call 25; refine Hid.out ?_))
  refine Lib.hid ?_
  refine HU.out.mono ?_
  rintro e w3 ⟨rfl, ys, cur3, hl3, hc3, hk3, ho3, k3⟩
  have hsz : w.heap.size ≤ w2.heap.size := K1.out.size
  have hp3 := (k3.block pb (by omega) (by simpa using hne1)).trans P1.out
  have k4 : Kept [pb, g] w w3 := ⟨k3.os.trans K1.out.os, k3.tape.trans K1.out.tape, k3.output.trans K1.out.output, Nat.le_trans hsz k3.size, fun k hk hn => (k3.block k (by omega) (by
    rcases HG.out with h | h
    · rw [h]; simp at hn ⊢; exact hn.2
    · simp; omega)).trans (K1.out.block k hk hn)⟩
  go_wp2
  go_end0
  exact ⟨rfl, g', cap', cur3, ys, hl3.trans hl1, hc3, hk3, hp3, ho3, HG.out, k4⟩
end Go.Proofs.YbulkaxysDoor
