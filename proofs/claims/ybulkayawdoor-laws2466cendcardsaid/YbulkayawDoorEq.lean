/-
  '==' AT AN ARRAY OF BYTES WITH ITSELF, for the walk.
-/
import Derived.Test.YbulkayawDoorProg
import Derived.WalkKit
import Derived.Laws.StructEq
namespace Go.Proofs.YbulkayawDoor
open Go.RowKit

theorem eqLoop (P : Program) (d : Nat) (e : TypeId) (xs : Array Value) (w : World) (he : P.underlying e = some (.int .u8)) :
    ∀ (l : List Nat), (∀ i ∈ l, ∃ a, (part e xs (i * 1)).run P w = .ok (.int .u8 a) w) →
      (forIn (m := Sem) l ((none, ()) : Option Bool × Unit) (fun i _ => do
        let a ← part e xs (i * 1)
        let b ← part e xs (i * 1)
        let q ← Op.equalIn (d + 1) e a b
        if (!q) = true then pure (ForInStep.done (some false, ())) else pure (ForInStep.yield (none, ())))).run P w = .ok (none, ()) w := by
  intro l
  induction l with
  | nil => intro _; simp
  | cons i l ih =>
    intro h
    obtain ⟨a, ha⟩ := h i (by simp)
    simp only [List.forIn_cons, Sem.run_bind, ha, Result.andThen_ok, run_equalIn_int w d e .u8 .u8 a a he, beq_self_eq_true, Bool.not_true, Bool.false_eq_true, if_false, Sem.run_pure]
    exact ih (fun j hj => h j (by simp [hj]))

theorem equal_array (P : Program) (d n : Nat) (t e : TypeId) (xs : Array Value) (w : World) (ht : P.underlying t = some (.array n e)) (he : P.underlying e = some (.int .u8)) (hs : (sizeOf e).run P w = .ok 1 w)
    (hp : ∀ i, i < n → ∃ a, (part e xs (i * 1)).run P w = .ok (.int .u8 a) w) : (Op.equalIn (d + 2) t (.agg xs) (.agg xs)).run P w = .ok true w := by
  have h := eqLoop P d e xs w he (List.range' 0 n 1) (fun i hi => hp i (by simpa using hi))
  unfold Op.equalIn
  simp only [Sem.run_bind, run_underlying ht, Result.andThen_ok, hs]
  simp only [Std.Legacy.Range.forIn_eq_forIn_range', Std.Legacy.Range.size]
  rw [show (n - 0 + 1 - 1) / 1 = n by omega, h]
  simp

theorem eq24 (x0 x1 x2 x3 x4 x5 : Int) (w : World) : (Op.equalIn 9999 24 (.agg #[.int .u8 x0, .int .u8 x1, .int .u8 x2, .int .u8 x3, .int .u8 x4, .int .u8 x5]) (.agg #[.int .u8 x0, .int .u8 x1, .int .u8 x2, .int .u8 x3, .int .u8 x4, .int .u8 x5])).run Ybad.prog w = .ok true w := by
  refine equal_array Ybad.prog 9997 6 24 5 _ w Ybad.underlying24 Ybad.underlying5 (by kernel_rfl) ?_
  intro i hi
  match i, hi with
  | 0, _ => exact ⟨x0, by kernel_rfl⟩
  | 1, _ => exact ⟨x1, by kernel_rfl⟩
  | 2, _ => exact ⟨x2, by kernel_rfl⟩
  | 3, _ => exact ⟨x3, by kernel_rfl⟩
  | 4, _ => exact ⟨x4, by kernel_rfl⟩
  | 5, _ => exact ⟨x5, by kernel_rfl⟩

def zeros20 : Array Value := #[.int .u8 0, .int .u8 0, .int .u8 0, .int .u8 0, .int .u8 0, .int .u8 0, .int .u8 0, .int .u8 0, .int .u8 0, .int .u8 0, .int .u8 0, .int .u8 0, .int .u8 0, .int .u8 0, .int .u8 0, .int .u8 0, .int .u8 0, .int .u8 0, .int .u8 0, .int .u8 0]

theorem eq32 (d : Nat) (w : World) : (Op.equalIn (d + 2) 32 (.agg zeros20) (.agg zeros20)).run Ybad.prog w = .ok true w := by
  refine equal_array Ybad.prog d 20 32 5 _ w Ybad.underlying32 Ybad.underlying5 (by kernel_rfl) ?_
  intro i hi
  refine ⟨0, ?_⟩
  have hz : zeros20[i * 1]? = some (.int .u8 0) := by
    rw [show zeros20 = Array.replicate 20 (.int .u8 0) from rfl, Array.getElem?_replicate, if_pos (by omega)]
  rw [Nat.mul_one] at hz ⊢
  simp [part, Ybad.isAgg5, hz]
end Go.Proofs.YbulkayawDoor
