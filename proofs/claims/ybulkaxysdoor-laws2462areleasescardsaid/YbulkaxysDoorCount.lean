/-
  zzs2462acount (10).
-/
import Derived.Test.YbulkaxysDoorRest
import Derived.Deep.MidRow
import Derived.Deep.OwnRows
import Derived.Maps.AppendAt
namespace Go.Proofs.YbulkaxysDoor
open Go.RowKit

/-- The rests xs lie in block b, one behind the other. -/
def RowsAt (w : World) (b : Nat) (xs : List Rt) : Prop := ∀ (i : Nat) (r : Rt), xs[i]? = some r → w.rangeAt b (i * 7) r.cells.toList

def countEq (xs : List Rt) (e : Rt) : Nat := (xs.filter (fun y => y.eqb e)).length

theorem load53 {w : World} {b : Nat} {xs : List Rt} (h : RowsAt w b xs) (i : Nat) (r : Rt) (hi : xs[i]? = some r) :
    (Instr.loadAt 53 (.pointer (some ⟨b, i * 7, none⟩))).run Ybad.prog w = .ok (.agg r.cells) w :=
  run_loadAt_mid w b (i * 7) 53 r.cells.toList _ (h i r hi) Ybad.underlying53 rfl (by kernel_rfl)

theorem RowsAt.of_block {w w' : World} {b : Nat} {xs : List Rt} (h : RowsAt w b xs) (e : w'.heap[b]? = w.heap[b]?) : RowsAt w' b xs := fun i r hr j v hv => by
  rw [World.cell?_of_block (w := w) e]; exact h i r hr j v hv

theorem countEq_succ (xs : List Rt) (e r : Rt) (k : Nat) (h : xs[k]? = some r) : countEq (xs.take (k + 1)) e = countEq (xs.take k) e + (if r.eqb e then 1 else 0) := by
  unfold countEq
  rw [List.take_add_one, h]
  simp only [Option.toList_some, List.filter_append, List.length_append]
  cases hq : r.eqb e <;> simp [List.filter, hq]

theorem RowsAt.cells {w : World} {b : Nat} {xs : List Rt} (h : RowsAt w b xs) {i : Nat} {r : Rt} (hi : xs[i]? = some r) :
    w.cell? ⟨b, i * 7, none⟩ = some (.int .u64 0) ∧ w.cell? ⟨b, i * 7 + 1, none⟩ = some (.int .u64 r.a) ∧ w.cell? ⟨b, i * 7 + 2, none⟩ = some (.int .u64 0) ∧ w.cell? ⟨b, i * 7 + 3, none⟩ = some (.int .u64 r.b) ∧ w.cell? ⟨b, i * 7 + 4, none⟩ = some (.int .u64 r.x) ∧ w.cell? ⟨b, i * 7 + 5, none⟩ = some (.int .i64 r.y) ∧ w.cell? ⟨b, i * 7 + 6, none⟩ = some (.pointer none) :=
  ⟨h i r hi 0 _ rfl, h i r hi 1 _ rfl, h i r hi 2 _ rfl, h i r hi 3 _ rfl, h i r hi 4 _ rfl, h i r hi 5 _ rfl, h i r hi 6 _ rfl⟩

set_option maxHeartbeats 1000000 in
theorem count10 (xs : List Rt) (e : Rt) (b cap : Nat) (w : World) (hx : RowsAt w b xs) (hb : b < w.heap.size) (hn : xs.length ≤ 1000) (hok : ∀ r ∈ xs, r.ok) (he : e.ok) :
    Calls Ybad.prog 10 #[.slice (some ⟨b, 0, none⟩) xs.length cap, .agg e.cells] w fun q w' => q = .returned (.int .i64 (countEq xs e)) ∧ Below w.heap.size w w' := by
  have he' := he
  obtain ⟨ea, eb, ex, ey⟩ := e
  simp only [Rt.cells]
  go_enter Ybad.func10, Ybad.ntmps10
  go_wp2_with fail
  go_loopw [5, 10] (fun c i wr => ∃ k : Nat, k ≤ xs.length ∧ c = .int .i64 (countEq (xs.take k) ⟨ea, eb, ex, ey⟩) ∧ i = .int .i64 k ∧ Below (w.heap.size + 1) (w.alloc (.cells #[.int .u64 0, .int .u64 ea, .int .u64 0, .int .u64 eb, .int .u64 ex, .int .i64 ey, .pointer none] 53)) wr) (fun _ i _ => xs.length - (intOf i).toNat)
  case atStart => exact ⟨0, by omega, by simp [countEq], rfl, Below.refl _ _⟩
  case round =>
    obtain ⟨k, hk, rfl, rfl, hbr⟩ := hrel
    by_cases hlt : k < xs.length
    · obtain ⟨r, hr⟩ : ∃ r, xs[k]? = some r := ⟨xs[k], List.getElem?_eq_getElem hlt⟩
      have hrok : r.ok := hok r (List.mem_of_getElem? hr)
      have hsz := hbr.size
      simp at hsz
      have hwr : w.heap.size < wr.heap.size := by omega
      have hRW : RowsAt wr b xs := hx.of_block (by rw [hbr.block b (by omega), Below.heap_alloc _ _ _ hb])
      obtain ⟨l0, l1, l2, l3, l4, l5, l6⟩ := hRW.cells hr
      have he9 := eq9 r ⟨ea, eb, ex, ey⟩ hrok he'
      have hcs := countEq_succ xs ⟨ea, eb, ex, ey⟩ r k hr
      have hcl : countEq (xs.take k) ⟨ea, eb, ex, ey⟩ ≤ k := by
        unfold countEq
        refine Nat.le_trans (List.length_filter_le _ _) ?_
        simp; omega
      have hE : ∀ j, wr.cell? ⟨w.heap.size, j, none⟩ = (#[.int .u64 0, .int .u64 ea, .int .u64 0, .int .u64 eb, .int .u64 ex, .int .i64 ey, .pointer none] : Array Value)[j]? := fun j => by
        rw [hbr.cell (by simp)]; exact cell_of_row _ _ j _ _ _ (by exact Array.getElem?_push_size)
      have hlt2 : (k : Int) < (xs.length : Int) := by omega
      obtain ⟨ra, rb, rx, ry⟩ := r
      simp only [Rt.cells] at he9
      simp only at l1 l3 l4 l5
      have HX := Lib.hid hx
      clear hx hRW
      cases hq : Rt.eqb ⟨ra, rb, rx, ry⟩ ⟨ea, eb, ex, ey⟩
      · rw [hq] at he9 hcs
        go_wp2_with (first | (go_at_call 9; refine Hid.out ?_))
        refine Lib.hid ?_
        refine (he9 _).mono ?_
        rintro q w2 ⟨rfl, hb2⟩
        go_wp2
        go_roundw
        case rel => exact ⟨k + 1, by omega, by rw [hcs]; simp, by go_num, hbr.trans (((Below.refl _ wr).alloc (Nat.le_refl _) _).mono (by omega) |>.trans (hb2.mono (by simp; omega)))⟩
        case measure => simp [intOf]; omega
      · rw [hq] at he9 hcs
        go_wp2_with (first | (go_at_call 9; refine Hid.out ?_))
        refine Lib.hid ?_
        refine (he9 _).mono ?_
        rintro q w2 ⟨rfl, hb2⟩
        go_wp2
        go_roundw
        case rel => exact ⟨k + 1, by omega, by rw [hcs]; go_num, by go_num, hbr.trans (((Below.refl _ wr).alloc (Nat.le_refl _) _).mono (by omega) |>.trans (hb2.mono (by simp; omega)))⟩
        case measure => simp [intOf]; omega
    · have hkk : k = xs.length := by omega
      subst hkk
      go_wp2
      go_ret
      exact ⟨by simp, ((Below.refl _ w).alloc (Nat.le_refl _) _).trans (hbr.mono (by omega))⟩
end Go.Proofs.YbulkaxysDoor
