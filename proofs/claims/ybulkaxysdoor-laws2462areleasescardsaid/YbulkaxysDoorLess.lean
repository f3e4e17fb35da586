/-
  resting.Less (67): Compare (70), cmp (71), cmp.Or (69): which way it goes is not asked.
-/
import Derived.Test.YbulkaxysDoorPool
namespace Go.Proofs.YbulkaxysDoor
open Go.RowKit

set_option maxHeartbeats 1000000 in
/-- Compare. -/
theorem compare70 (x y x' y' : Int) (w : World) (h0 : 0 ≤ x) (h1 : x < 1073741824) (h2 : 0 ≤ x') (h3 : x' < 1073741824) :
    Calls Ybad.prog 70 #[.agg #[.int .u64 x, .int .i64 y, .pointer none], .agg #[.int .u64 x', .int .i64 y', .pointer none]] w fun e w' => (∃ n : Int, e = .returned (.int .i64 n)) ∧ Below w.heap.size w w' := by
  have e1 := and_and x x' h0 h1 h2 h3
  have hlow : ∀ A B : Obj, Below w.heap.size w ((w.alloc A).alloc B) := fun A B => ((Below.refl _ w).alloc (Nat.le_refl _) _).alloc (by simp) _
  go_enter Ybad.func70, Ybad.ntmps70
  go_wp2_with (first | (go_at_call 21; refine Hid.out ?_))
  refine Lib.hid ?_
  refine (sec21 w.heap.size x y _ (first_cell w _ _ _ 0) (first_cell w _ _ _ 1) h0 h1).mono ?_
  rintro e w1 ⟨rfl, rfl⟩
  go_wp2_with (first | (go_at_call 21; refine Hid.out ?_))
  refine Lib.hid ?_
  refine (sec21 (w.heap.size + 1) x' y' _ (second_cell w _ _ _ 0) (second_cell w _ _ _ 1) h2 h3).mono ?_
  rintro e w1 ⟨rfl, rfl⟩
  by_cases hy : y = y'
  · subst hy
    go_wp2_with (first | (go_at_call 15; refine Hid.out ?_))
    refine Lib.hid ?_
    refine (nsec15 ⟨w.heap.size, 0, none⟩ x _ (first_cell w _ _ _ 0) h0 h1).mono ?_
    rintro e w1 ⟨rfl, rfl⟩
    go_wp2_with (first | (go_at_call 15; refine Hid.out ?_))
    refine Lib.hid ?_
    refine (nsec15 ⟨w.heap.size + 1, 0, none⟩ x' _ (second_cell w _ _ _ 0) h2 h3).mono ?_
    rintro e w1 ⟨rfl, rfl⟩
    go_wp2
    all_goals
      go_ret
      exact ⟨⟨_, rfl⟩, hlow _ _⟩
  · have hy2 : (y == y') = false := by simp [hy]
    go_wp2
    all_goals
      go_ret
      exact ⟨⟨_, rfl⟩, hlow _ _⟩

set_option maxHeartbeats 1000000 in
/-- number.cmp. -/
theorem cmp71 (a b : Int) (w : World) :
    Calls Ybad.prog 71 #[.agg #[.int .u64 0, .int .u64 a], .agg #[.int .u64 0, .int .u64 b]] w fun e w' => (∃ n : Int, e = .returned (.int .i64 n)) ∧ Below w.heap.size w w' := by
  have hlow : ∀ A B : Obj, Below w.heap.size w ((w.alloc A).alloc B) := fun A B => ((Below.refl _ w).alloc (Nat.le_refl _) _).alloc (by simp) _
  have hA := fun W => eql46 a b W
  cases qa : a == b
  · rw [qa] at hA
    go_enter Ybad.func71, Ybad.ntmps71
    go_wp2
    all_goals
      go_ret
      exact ⟨⟨_, rfl⟩, hlow _ _⟩
  · rw [qa] at hA
    go_enter Ybad.func71, Ybad.ntmps71
    go_wp2
    all_goals
      go_ret
      exact ⟨⟨_, rfl⟩, hlow _ _⟩

set_option maxHeartbeats 1000000 in
/-- cmp.Or, of two. -/
theorem or69 (b c : Nat) (m n : Int) (w : World) (h0 : w.cell? ⟨b, 0, none⟩ = some (.int .i64 m)) (h1 : w.cell? ⟨b, 1, none⟩ = some (.int .i64 n)) :
    Calls Ybad.prog 69 #[.slice (some ⟨b, 0, none⟩) 2 c] w fun e w' => (∃ n : Int, e = .returned (.int .i64 n)) ∧ w' = w := by
  go_enter Ybad.func69, Ybad.ntmps69
  go_wp2_with fail
  go_loopw [5, 8] (fun _ i wr => ∃ k : Nat, k ≤ 2 ∧ i = .int .i64 k ∧ wr = w) (fun _ i _ => 2 - (intOf i).toNat)
  case atStart => exact ⟨0, by omega, rfl, rfl⟩
  case round =>
    obtain ⟨k, hk, rfl, rfl⟩ := hrel
    have hk3 : k = 0 ∨ k = 1 ∨ k = 2 := by omega
    rcases hk3 with rfl | rfl | rfl
    · by_cases hm : m = 0
      · subst hm
        go_wp2
        go_roundw
        case rel => exact ⟨1, by omega, by go_num, trivial⟩
        case measure => simp [intOf]
      · go_wp2
        go_ret
        exact ⟨⟨_, rfl⟩, rfl⟩
    · by_cases hm : n = 0
      · subst hm
        go_wp2
        go_roundw
        case rel => exact ⟨2, by omega, by go_num, trivial⟩
        case measure => simp [intOf]
      · go_wp2
        go_ret
        exact ⟨⟨_, rfl⟩, rfl⟩
    · go_wp2
      go_ret
      exact ⟨⟨_, rfl⟩, rfl⟩

/-- The world while Less reads: the rests lie in block b, below C. -/
theorem rows_next {X Y : World} {b : Nat} {xs : List Rt} (h : RowsAt X b xs) (hb : Below X.heap.size X Y) (hl : b < X.heap.size) : RowsAt Y b xs ∧ b < Y.heap.size :=
  ⟨h.of_block (hb.block b hl), Nat.lt_of_lt_of_le hl hb.size⟩

theorem new_cell (w : World) (cs : Array Value) (T : TypeId) (j : Nat) : (w.alloc (.cells cs T)).cell? ⟨w.heap.size, j, none⟩ = cs[j]? := cell_of_row _ _ j _ _ _ (by exact Array.getElem?_push_size)

structure L (b : Nat) (xs : List Rt) (w X : World) : Prop where
  rows : RowsAt X b xs
  lt : b < w.heap.size
  low : Below w.heap.size w X

theorem L.next {b : Nat} {xs : List Rt} {w X Y : World} (l : L b xs w X) (hb : Below X.heap.size X Y) : L b xs w Y :=
  ⟨l.rows.of_block (hb.block b (Nat.lt_of_lt_of_le l.lt l.low.size)), l.lt, l.low.trans (hb.mono l.low.size)⟩
theorem L.drew {b : Nat} {xs : List Rt} {w X : World} (l : L b xs w X) : L b xs w X.drew := ⟨fun i r hi j v hv => l.rows i r hi j v hv, l.lt, l.low.drew⟩
theorem L.alloc {b : Nat} {xs : List Rt} {w X : World} (l : L b xs w X) (o : Obj) : L b xs w (X.alloc o) :=
  l.next ((Below.refl _ X).alloc (Nat.le_refl _) o)

/-- What Less reads of the rests at i and j. -/
theorem L.reads {b : Nat} {xs : List Rt} {w X : World} (l : L b xs w X) {i j : Nat} {r s : Rt} (hi : xs[i]? = some r) (hj : xs[j]? = some s) :
    X.cell? ⟨b, i * 7, none⟩ = some (.int .u64 0) ∧ X.cell? ⟨b, i * 7 + 1, none⟩ = some (.int .u64 r.a) ∧ X.cell? ⟨b, i * 7 + 4, none⟩ = some (.int .u64 r.x) ∧ X.cell? ⟨b, i * 7 + 5, none⟩ = some (.int .i64 r.y) ∧ X.cell? ⟨b, i * 7 + 6, none⟩ = some (.pointer none) ∧ X.cell? ⟨b, j * 7, none⟩ = some (.int .u64 0) ∧ X.cell? ⟨b, j * 7 + 1, none⟩ = some (.int .u64 s.a) ∧ X.cell? ⟨b, j * 7 + 4, none⟩ = some (.int .u64 s.x) ∧ X.cell? ⟨b, j * 7 + 5, none⟩ = some (.int .i64 s.y) ∧ X.cell? ⟨b, j * 7 + 6, none⟩ = some (.pointer none) := by
  obtain ⟨c0, c1, _, _, c4, c5, c6⟩ := l.rows.cells hi
  obtain ⟨d0, d1, _, _, d4, d5, d6⟩ := l.rows.cells hj
  exact ⟨c0, c1, c4, c5, c6, d0, d1, d4, d5, d6⟩

set_option maxRecDepth 100000 in
set_option maxHeartbeats 4000000 in
/-- Less. -/
theorem less67 (b cap i j : Nat) (xs : List Rt) (hok : ∀ r ∈ xs, r.ok) (hi : i < xs.length) (hj : j < xs.length) (w : World) (hx : RowsAt w b xs) (hb : b < w.heap.size) :
    Calls Ybad.prog 67 #[.slice (some ⟨b, 0, none⟩) xs.length cap, .int .i64 (i : Int), .int .i64 (j : Int)] w fun e w' => (∃ q : Bool, e = .returned (.bool q)) ∧ Below w.heap.size w w' := by
  obtain ⟨r, hr⟩ : ∃ r, xs[i]? = some r := ⟨xs[i], List.getElem?_eq_getElem hi⟩
  obtain ⟨s, hs⟩ : ∃ s, xs[j]? = some s := ⟨xs[j], List.getElem?_eq_getElem hj⟩
  have hrok : r.ok := hok r (List.mem_of_getElem? hr)
  have hsok : s.ok := hok s (List.mem_of_getElem? hs)
  have hi2 : (i : Int) < (xs.length : Int) := by omega
  have hj2 : (j : Int) < (xs.length : Int) := by omega
  have l0 : L b xs w w.drew := (⟨hx, hb, Below.refl _ w⟩ : L b xs w w).drew
  have hS0 := l0.reads hr hs
  have L0 := Lib.hid l0
  have HR := Lib.hid hr
  have HS := Lib.hid hs
  have c70 := compare70 r.x r.y s.x s.y
  have c71 := cmp71 r.a s.a
  have CC := Lib.hid c70
  have CD := Lib.hid c71
  have HO := Lib.hid (And.intro hrok hsok)
  clear l0 hr hs hx hok hrok hsok c70 c71
  go_enter Ybad.func67, Ybad.ntmps67
  go_wp2
  go_region_held (fun X => X.cell? ⟨b, i * 7, none⟩ = some (.int .u64 0) ∧ X.cell? ⟨b, i * 7 + 1, none⟩ = some (.int .u64 r.a) ∧ X.cell? ⟨b, i * 7 + 4, none⟩ = some (.int .u64 r.x) ∧ X.cell? ⟨b, i * 7 + 5, none⟩ = some (.int .i64 r.y) ∧ X.cell? ⟨b, i * 7 + 6, none⟩ = some (.pointer none) ∧ X.cell? ⟨b, j * 7, none⟩ = some (.int .u64 0) ∧ X.cell? ⟨b, j * 7 + 1, none⟩ = some (.int .u64 s.a) ∧ X.cell? ⟨b, j * 7 + 4, none⟩ = some (.int .u64 s.x) ∧ X.cell? ⟨b, j * 7 + 5, none⟩ = some (.int .i64 s.y) ∧ X.cell? ⟨b, j * 7 + 6, none⟩ = some (.pointer none))
    (first | assumption | exact (L.alloc (Hid.out (p := L b xs w _) (by assumption)) _).reads HR.out HS.out)
    (first
    | (go_at_call 70; refine (CC.out _ HO.out.1.1 HO.out.1.2 HO.out.2.1 HO.out.2.2).mono ?_; rintro e wA ⟨⟨m, rfl⟩, hbA⟩; have LA : Hid (L b xs w wA) := Lib.hid (L.next (Hid.out (p := L b xs w _) (by assumption)) hbA); have hSA := LA.out.reads HR.out HS.out; clear hbA)
    | (go_at_call 71; refine (CD.out _).mono ?_; rintro e wB ⟨⟨n, rfl⟩, hbB⟩; have LB : Hid (L b xs w wB) := Lib.hid (L.next (Hid.out (p := L b xs w _) (by assumption)) hbB); have hSB := LB.out.reads HR.out HS.out; clear hbB)
    | (go_at_call 69; refine (or69 wB.heap.size 2 m n _ (new_cell wB _ _ 0) (new_cell wB _ _ 1)).mono ?_; rintro e wC ⟨⟨q, rfl⟩, rfl⟩))
  have hfin := fun o => (LB.out.alloc o).low
  clear hS0 hSA hSB
  go_wp2
  go_ret
  exact ⟨⟨_, rfl⟩, hfin _⟩
end Go.Proofs.YbulkaxysDoor
