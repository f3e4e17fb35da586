/-
  rests: '==' on numbers, zzs2462aeq (9).
-/
import Derived.Test.YbulkaxysDoorTime
namespace Go.Proofs.YbulkaxysDoor
open Go.RowKit

theorem eq46 (a b : Int) (W : World) : (Op.equal 46 (.agg #[.int .u64 0, .int .u64 a]) (.agg #[.int .u64 0, .int .u64 b])).run Ybad.prog W = .ok (a == b) W := by
  simp [Op.equal, Op.maxDepth, go_sem]
  by_cases h : a = b <;> simp [h]

theorem eql46 (a b : Int) (W : World) : (binOp .eql 46 (.agg #[.int .u64 0, .int .u64 a]) (.agg #[.int .u64 0, .int .u64 b])).run Ybad.prog W = .ok (.bool (a == b)) W := by
  simp only [binOp]
  rw [Sem.run_bind, eq46]; rfl

/-- A rest: its span's two numbers, its time's two words. -/
structure Rt where
  a : Int
  b : Int
  x : Int
  y : Int

def Rt.cells (r : Rt) : Array Value := #[.int .u64 0, .int .u64 r.a, .int .u64 0, .int .u64 r.b, .int .u64 r.x, .int .i64 r.y, .pointer none]
def Rt.ok (r : Rt) : Prop := 0 ≤ r.x ∧ r.x < 1073741824
def Rt.eqb (r s : Rt) : Bool := r.a == s.a && (r.b == s.b && (r.y == s.y && r.x == s.x))
theorem Rt.eqb_refl (r : Rt) : r.eqb r = true := by simp [Rt.eqb]

set_option maxHeartbeats 1000000 in
/-- zzs2462aeq. -/
theorem eq9 (r s : Rt) (hr : r.ok) (hs : s.ok) (w : World) :
    Calls Ybad.prog 9 #[.agg r.cells, .agg s.cells] w fun e w' => e = .returned (.bool (r.eqb s)) ∧ Below w.heap.size w w' := by
  obtain ⟨a, b, x, y⟩ := r
  obtain ⟨a', b', x', y'⟩ := s
  simp only [Rt.ok] at hr hs
  simp only [Rt.cells, Rt.eqb]
  have hA := fun W => eql46 a a' W
  have hB := fun W => eql46 b b' W
  cases qa : a == a'
  · rw [qa] at hA
    go_enter Ybad.func9, Ybad.ntmps9
    go_wp2
    go_ret
    exact ⟨by simp, ((Below.refl _ w).alloc (Nat.le_refl _) _).alloc (by simp) _⟩
  · rw [qa] at hA
    cases qb : b == b'
    · rw [qb] at hB
      go_enter Ybad.func9, Ybad.ntmps9
      go_wp2
      go_ret
      exact ⟨by simp, ((Below.refl _ w).alloc (Nat.le_refl _) _).alloc (by simp) _⟩
    · rw [qb] at hB
      go_enter Ybad.func9, Ybad.ntmps9
      go_wp2_with (first | (go_at_call 8; refine Hid.out ?_))
      refine Lib.hid ?_
      refine (equal8 x y x' y' _ hr.1 hr.2 hs.1 hs.2).mono ?_
      rintro e w1 ⟨rfl, hb⟩
      go_wp2
      go_ret
      exact ⟨by simp, (((Below.refl _ w).alloc (Nat.le_refl _) _).alloc (by simp) _).trans (hb.mono (by simp; omega))⟩
end Go.Proofs.YbulkaxysDoor
