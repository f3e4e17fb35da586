/-
  time.Time: the zero time with a duration added (6), Equal (8), nsec (15), addSec (16), sec (21).
-/
import Derived.Test.YbulkaxysDoorProg
import Derived.WalkKit
import Derived.WalkSpells
import Derived.WalkLawsBesides
import Derived.RegionTactic
import Derived.ChangeAlike
import Derived.Deep.QuietTactic
import Derived.BigQuiet
import Derived.Deep.RegionWith
import Derived.Lib.Hide
import Derived.Laws.BitsAllLaws
import Derived.Laws.Cover3
namespace Go.Proofs.YbulkaxysDoor
open Go.RowKit

theorem and_low (x : Int) (h0 : 0 ≤ x) (h1 : x < 1073741824) : bits BinOp.and IntKind.u64 x 1073741823 = x := by
  obtain ⟨n, rfl⟩ := Int.eq_ofNat_of_zero_le h0
  have := u64_and_nat n 1073741823 (by omega) (by omega)
  have e : n &&& 1073741823 = n := by
    have h := Nat.and_two_pow_sub_one_eq_mod n 30
    rw [Nat.mod_eq_of_lt (by omega)] at h
    exact h
  rw [e] at this
  exact this

theorem and_top (x : Int) (h0 : 0 ≤ x) (h1 : x < 1073741824) : bits BinOp.and IntKind.u64 x 9223372036854775808 = 0 := by
  obtain ⟨n, rfl⟩ := Int.eq_ofNat_of_zero_le h0
  have := u64_and_nat n 9223372036854775808 (by omega) (by omega)
  have e : n &&& 9223372036854775808 = 0 := by
    have h := Nat.and_two_pow_sub_one_eq_mod n 30
    rw [Nat.mod_eq_of_lt (by omega)] at h
    have h2 : n = n &&& 1073741823 := h.symm
    rw [h2, Nat.and_assoc]
    have : (1073741823 &&& 9223372036854775808 : Nat) = 0 := by decide
    rw [this, Nat.and_zero]
  rw [e] at this
  exact this

/-- nsec. -/
theorem nsec15 (a : Addr) (x : Int) (w : World) (h : w.cell? a = some (.int .u64 x)) (h0 : 0 ≤ x) (h1 : x < 1073741824) :
    Calls Ybad.prog 15 #[.pointer (some a)] w fun e w' => e = .returned (.int .i32 x) ∧ w' = w := by
  have e1 := and_low x h0 h1
  have e2 := IntWalk.i32_in x (by omega)
  go_enter Ybad.func15, Ybad.ntmps15
  go_wp2
  go_ret
  exact ⟨rfl, rfl⟩

/-- sec. -/
theorem sec21 (b : Nat) (x y : Int) (w : World) (h : w.cell? ⟨b, 0, none⟩ = some (.int .u64 x)) (hy : w.cell? ⟨b, 1, none⟩ = some (.int .i64 y)) (h0 : 0 ≤ x) (h1 : x < 1073741824) :
    Calls Ybad.prog 21 #[.pointer (some ⟨b, 0, none⟩)] w fun e w' => e = .returned (.int .i64 y) ∧ w' = w := by
  have e1 := and_top x h0 h1
  go_enter Ybad.func21, Ybad.ntmps21
  go_wp2
  go_ret
  exact ⟨rfl, rfl⟩

/-- addSec, on the zero second. -/
theorem addSec16 (b : Nat) (x d : Int) (w : World) (h : w.cell? ⟨b, 0, none⟩ = some (.int .u64 x)) (hy : w.cell? ⟨b, 1, none⟩ = some (.int .i64 0)) (hf : w.frozen? ⟨b, 1, none⟩ = false) (h0 : 0 ≤ x) (h1 : x < 1073741824) (hd : -9223372036854775808 ≤ d ∧ d ≤ 9223372036854775807) :
    Calls Ybad.prog 16 #[.pointer (some ⟨b, 0, none⟩), .int .i64 d] w fun e w' => e = .returned (.tuple #[]) ∧ w' = w.setCell ⟨b, 1, none⟩ (.int .i64 d) := by
  have e1 := and_top x h0 h1
  have e2 : wrap64 d = d := IntWalk.wrap64_in d hd
  go_enter Ybad.func16, Ybad.ntmps16
  go_wp2
  go_end0
  exact ⟨rfl, rfl⟩

/-- What a duration leaves, added to the zero time. -/
def tm (d : Int) : Array Value := #[.int .u64 (d % 1000000000), .int .i64 (d / 1000000000), .pointer none]

theorem or0 (x : Int) (h0 : 0 ≤ x) (h1 : x < 1073741824) : bits BinOp.or IntKind.u64 0 x = x := by
  obtain ⟨n, rfl⟩ := Int.eq_ofNat_of_zero_le h0
  have := u64_or_nat 0 n (by omega) (by omega)
  simpa using this

theorem tsplit (d : Int) : ∃ q r : Int, d.tdiv 1000000000 = q ∧ d.tmod 1000000000 = r ∧ -1000000000 < r ∧ r < 1000000000 ∧ d = 1000000000 * q + r := by
  refine ⟨_, _, rfl, rfl, ?_⟩
  rcases Int.le_total 0 d with h | h
  · rw [Int.tdiv_eq_ediv_of_nonneg h, Int.tmod_eq_emod_of_nonneg h]; omega
  · obtain ⟨e, rfl⟩ : ∃ e, d = -e := ⟨-d, by omega⟩
    rw [Int.neg_tdiv, Int.neg_tmod, Int.tdiv_eq_ediv_of_nonneg (by omega), Int.tmod_eq_emod_of_nonneg (by omega)]; omega

theorem first_row (w : World) (cs : Array Value) (T : TypeId) (B : Obj) : ((w.alloc (.cells cs T)).alloc B).heap[w.heap.size]? = some (.cells cs T (0, 0)) := by
  rw [Below.heap_alloc _ _ _ (by simp)]; exact Array.getElem?_push_size
theorem first_cell (w : World) (cs : Array Value) (T : TypeId) (B : Obj) (j : Nat) : ((w.alloc (.cells cs T)).alloc B).cell? ⟨w.heap.size, j, none⟩ = cs[j]? := cell_of_row _ _ j _ _ _ (first_row w cs T B)
theorem first_free (w : World) (cs : Array Value) (T : TypeId) (B : Obj) (j : Nat) : ((w.alloc (.cells cs T)).alloc B).frozen? ⟨w.heap.size, j, none⟩ = false := by
  simp [World.frozen?, first_row w cs T B]

set_option maxHeartbeats 1000000 in
/-- (time.Time).Add, of the zero time. -/
theorem add6 (d : Int) (w : World) (hd : -9223372036854775808 ≤ d ∧ d ≤ 9223372036854775807) :
    Calls Ybad.prog 6 #[.agg #[.int .u64 0, .int .i64 0, .pointer none], .int .i64 d] w fun e w' => e = .returned (.agg (tm d)) ∧ Below w.heap.size w w' := by
  have e0 : bits BinOp.andNot IntKind.u64 0 1073741823 = 0 := by decide
  obtain ⟨q, r, hq, hr, r0, r1, hqr⟩ := tsplit d
  have e1 : IntKind.i32.wrap r = r := IntWalk.i32_in _ (by omega)
  unfold tm
  by_cases hneg : r < 0
  · have f0 : d % 1000000000 = r + 1000000000 := by omega
    have f1 : d / 1000000000 = q - 1 := by omega
    have e2 : IntKind.i32.wrap (r + 1000000000) = r + 1000000000 := IntWalk.i32_in _ (by omega)
    have e3 : IntKind.u64.wrap (r + 1000000000) = r + 1000000000 := IntWalk.u64_in _ (by omega)
    have e4 := or0 (r + 1000000000) (by omega) (by omega)
    have e5 := and_top (r + 1000000000) (by omega) (by omega)
    have e6 : wrap64 (q - 1) = q - 1 := IntWalk.wrap64_in _ (by omega)
    have e7 : wrap64 q = q := IntWalk.wrap64_in _ (by omega)
    rw [f0, f1]
    have hb : -9223372036854775808 ≤ q - 1 ∧ q - 1 ≤ 9223372036854775807 := by omega
    clear f0 f1 hqr
    go_enter Ybad.func6, Ybad.ntmps6
    go_wp2_with (first | (go_at_call 15; refine (nsec15 _ 0 _ (first_cell w _ _ _ 0) (by omega) (by omega)).mono ?_; rintro e w1 ⟨rfl, rfl⟩) | (go_at_call 16; refine Hid.out ?_))
    refine Lib.hid ?_
    refine (addSec16 w.heap.size (r + 1000000000) (q - 1) _ (first_cell w _ _ _ 0) (first_cell w _ _ _ 1) (first_free w _ _ _ 1) (by omega) (by omega) hb).mono ?_
    rintro e w1 ⟨rfl, rfl⟩
    go_wp2
    exact bodyPost_ret (v := .agg #[.int .u64 (r + 1000000000), .int .i64 (q - 1), .pointer none]) (by simp [results, Ybad.results6, go_sem]) rfl ⟨rfl, ((Below.refl _ w).alloc (Nat.le_refl _) _).alloc (by simp) _⟩
  · have f0 : d % 1000000000 = r := by omega
    have f1 : d / 1000000000 = q := by omega
    have e3 : IntKind.u64.wrap r = r := IntWalk.u64_in _ (by omega)
    have e4 := or0 r (by omega) (by omega)
    have e5 := and_top r (by omega) (by omega)
    have e7 : wrap64 q = q := IntWalk.wrap64_in _ (by omega)
    rw [f0, f1]
    have hb : -9223372036854775808 ≤ q ∧ q ≤ 9223372036854775807 := by omega
    have hge : ¬ (1000000000 ≤ r) := by omega
    clear f0 f1 hqr
    go_enter Ybad.func6, Ybad.ntmps6
    go_wp2_with (first | (go_at_call 15; refine (nsec15 _ 0 _ (first_cell w _ _ _ 0) (by omega) (by omega)).mono ?_; rintro e w1 ⟨rfl, rfl⟩) | (go_at_call 16; refine Hid.out ?_))
    refine Lib.hid ?_
    refine (addSec16 w.heap.size r q _ (first_cell w _ _ _ 0) (first_cell w _ _ _ 1) (first_free w _ _ _ 1) (by omega) (by omega) hb).mono ?_
    rintro e w1 ⟨rfl, rfl⟩
    go_wp2
    exact bodyPost_ret (v := .agg #[.int .u64 r, .int .i64 q, .pointer none]) (by simp [results, Ybad.results6, go_sem]) rfl ⟨rfl, ((Below.refl _ w).alloc (Nat.le_refl _) _).alloc (by simp) _⟩

theorem second_row (w : World) (A : Obj) (cs : Array Value) (T : TypeId) : ((w.alloc A).alloc (.cells cs T)).heap[w.heap.size + 1]? = some (.cells cs T (0, 0)) := by
  have e : (w.alloc A).heap.size = w.heap.size + 1 := by simp
  rw [← e]; exact Array.getElem?_push_size
theorem second_cell (w : World) (A : Obj) (cs : Array Value) (T : TypeId) (j : Nat) : ((w.alloc A).alloc (.cells cs T)).cell? ⟨w.heap.size + 1, j, none⟩ = cs[j]? := cell_of_row _ _ j _ _ _ (second_row w A cs T)

theorem and_and (x x' : Int) (h0 : 0 ≤ x) (h1 : x < 1073741824) (h2 : 0 ≤ x') (h3 : x' < 1073741824) : bits BinOp.and IntKind.u64 (bits BinOp.and IntKind.u64 x x') 9223372036854775808 = 0 := by
  obtain ⟨n, rfl⟩ := Int.eq_ofNat_of_zero_le h0
  obtain ⟨m, rfl⟩ := Int.eq_ofNat_of_zero_le h2
  rw [u64_and_nat n m (by omega) (by omega)]
  have : n &&& m ≤ n := Nat.and_le_left
  exact and_top _ (by omega) (by omega)

set_option maxHeartbeats 1000000 in
/-- Equal, of two times without a monotonic reading. -/
theorem equal8 (x y x' y' : Int) (w : World) (h0 : 0 ≤ x) (h1 : x < 1073741824) (h2 : 0 ≤ x') (h3 : x' < 1073741824) :
    Calls Ybad.prog 8 #[.agg #[.int .u64 x, .int .i64 y, .pointer none], .agg #[.int .u64 x', .int .i64 y', .pointer none]] w fun e w' => e = .returned (.bool (y == y' && x == x')) ∧ Below w.heap.size w w' := by
  have e1 := and_and x x' h0 h1 h2 h3
  by_cases hy : y = y'
  · subst hy
    go_enter Ybad.func8, Ybad.ntmps8
    go_wp2_with (first | (go_at_call 21; refine Hid.out ?_))
    refine Lib.hid ?_
    refine (sec21 w.heap.size x y _ (first_cell w _ _ _ 0) (first_cell w _ _ _ 1) h0 h1).mono ?_
    rintro e w1 ⟨rfl, rfl⟩
    go_wp2_with (first | (go_at_call 21; refine Hid.out ?_))
    refine Lib.hid ?_
    refine (sec21 (w.heap.size + 1) x' y _ (second_cell w _ _ _ 0) (second_cell w _ _ _ 1) h2 h3).mono ?_
    rintro e w1 ⟨rfl, rfl⟩
    go_wp2_with (first | (go_at_call 15; refine Hid.out ?_))
    refine Lib.hid ?_
    refine (nsec15 ⟨w.heap.size, 0, none⟩ x _ (first_cell w _ _ _ 0) h0 h1).mono ?_
    rintro e w1 ⟨rfl, rfl⟩
    go_wp2_with (first | (go_at_call 15; refine Hid.out ?_))
    refine Lib.hid ?_
    refine (nsec15 ⟨w.heap.size + 1, 0, none⟩ x' _ (second_cell w _ _ _ 0) h2 h3).mono ?_
    rintro e w1 ⟨rfl, rfl⟩
    go_wp2
    go_ret
    exact ⟨by simp, ((Below.refl _ w).alloc (Nat.le_refl _) _).alloc (by simp) _⟩
  · have hy2 : (y == y') = false := by simp [hy]
    go_enter Ybad.func8, Ybad.ntmps8
    go_wp2_with (first | (go_at_call 21; refine Hid.out ?_))
    refine Lib.hid ?_
    refine (sec21 w.heap.size x y _ (first_cell w _ _ _ 0) (first_cell w _ _ _ 1) h0 h1).mono ?_
    rintro e w1 ⟨rfl, rfl⟩
    go_wp2_with (first | (go_at_call 21; refine Hid.out ?_))
    refine Lib.hid ?_
    refine (sec21 (w.heap.size + 1) x' y' _ (second_cell w _ _ _ 0) (second_cell w _ _ _ 1) h2 h3).mono ?_
    rintro e w1 ⟨rfl, rfl⟩
    go_wp2
    go_ret
    exact ⟨by simp [hy2], ((Below.refl _ w).alloc (Nat.le_refl _) _).alloc (by simp) _⟩
end Go.Proofs.YbulkaxysDoor
