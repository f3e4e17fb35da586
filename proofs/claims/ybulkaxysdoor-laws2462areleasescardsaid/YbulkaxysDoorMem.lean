/-
  The law's makes, its copy, its appends; a statement at a time.
-/
import Derived.Test.YbulkaxysDoorLoop6
import Derived.Test.YbulkaxysDoorLoop4
import Derived.Laws.MakeOwn
import Derived.Laws.CopyRow
import Derived.Laws.AppendOwnNone
namespace Go.Proofs.YbulkaxysDoor
open Go.RowKit

/-- One statement, and a stop behind it. -/
theorem seq_stop {P : Program} {x y : Code} {Q : Exit → Act → World → Prop} {a : Act} {w : World} (h : ∀ K : Act → World → Prop, Hid (∀ a w, y.wp P Q a w → K a w) → x.wp P (Exit.then K Q) a w) : (Code.seq x y).wp P Q a w :=
  wp_seq (h _ (Lib.hid fun _ _ h => h))

theorem zr53 : (Ybad.prog.info? 53).map (fun i => (i.zero, i.size, i.bytes)) = some (some (.agg #[.int .u64 0, .int .u64 0, .int .u64 0, .int .u64 0, .int .u64 0, .int .i64 0, .pointer none]), 7, 56) := info53
theorem zr55 : (Ybad.prog.info? 55).map (fun i => (i.zero, i.size, i.bytes)) = some (some (.pointer none), 1, 8) := by kernel_rfl
theorem zr4 : (Ybad.prog.info? 4).map (fun i => (i.zero, i.size, i.bytes)) = some (some (.bool false), 1, 1) := by kernel_rfl
theorem zr42 : (Ybad.prog.info? 42).map (fun i => (i.zero, i.size, i.bytes)) = some (some (.agg #[.int .u64 0, .int .i64 0, .pointer none]), 3, 24) := by kernel_rfl
theorem zr22 : (Ybad.prog.info? 22).map (fun i => (i.zero, i.size, i.bytes)) = some (some (.int .u32 0), 1, 4) := by kernel_rfl

/-- make([]T, l, c). -/
theorem make_any (t e : TypeId) (ht : Ybad.prog.underlying t = some (.slice e)) (z : Value) (size bytes : Nat) (hz : (Ybad.prog.info? e).map (fun i => (i.zero, i.size, i.bytes)) = some (some z, size, bytes)) (l c : Nat) (hlc : l ≤ c) (hc : bytes * c ≤ 1000000) (hc2 : c ≤ 1000000) (w : World) :
    (Instr.makeSlice t (.int .i64 (l : Int)) (.int .i64 (c : Int))).run Ybad.prog w = .ok (.slice (some ⟨w.heap.size, 0, none⟩) l c) (w.alloc (.cells (madeCells z.cells (c * size)) e)) := by
  obtain ⟨i0, hi, hz0, hz1, hz2⟩ := info_parts hz
  have hb : (bytes : Int) * (c : Int) ≤ 281474976710656 := by
    have h0 : ((bytes * c : Nat) : Int) ≤ 281474976710656 := by omega
    rwa [Int.natCast_mul] at h0
  have h := run_make (P := Ybad.prog) w t e i0 z ht hi hz0 .i64 .i64 (l : Int) (c : Int) (by omega) (by omega) (by rw [hz2]; exact hb) (by omega)
  simpa [hz1] using h

theorem makeMap_any (n : Int) (w : World) : (Instr.makeMap 54 (some (.int .i64 n))).run Ybad.prog w = .ok (.map (some w.heap.size)) (w.alloc (.map #[] 0)) := by
  simp [Instr.makeMap, run_underlying Ybad.underlying54, asInt, asIntOf]

/-- copy(cur, old), of rests. -/
theorem copy7 (w : World) (g go n dc oc : Nat) (cur : Array Value) (cs : List Value) (hl : cs.length = n * 7) (hg : w.heap[g]? = some (.cells cur 53 (0, 0))) (hs : cur.size = n * 7) (hsrc : ∀ j v, cs[j]? = some v → w.cell? ((⟨go, 0, none⟩ : Addr).add j) = some v) (h1 : ∀ v ∈ cs, v.oneCell' = true) (ty : TypeId) :
    (Builtin.copy_ #[47, 47] ty #[.slice (some ⟨g, 0, none⟩) n dc, .slice (some ⟨go, 0, none⟩) n oc]).run Ybad.prog w = .ok (goInt n) (w.setRow g cs.toArray) := by
  have hld := run_loadCells_list (P := Ybad.prog) w ⟨go, 0, none⟩ cs hsrc
  have hst := run_storeCells_at Ybad.prog g 0 53 cs 0 cur w hg (by omega) h1
  have e : (cur.toList.take (0 + 0) ++ cs ++ cur.toList.drop (0 + 0 + cs.length)).toArray = cs.toArray := by
    rw [List.drop_eq_nil_of_le (by simp; omega)]; simp
  rw [e] at hst
  obtain ⟨i0, hi, _, hz1, _⟩ := info_parts zr53
  rw [hl] at hld
  simp [Builtin.copy_, run_underlying Ybad.underlying47, Builtin.lenOf, Builtin.firstCells, sizeOf, typeInfo, hi, hz1, hld, hst]
end Go.Proofs.YbulkaxysDoor
