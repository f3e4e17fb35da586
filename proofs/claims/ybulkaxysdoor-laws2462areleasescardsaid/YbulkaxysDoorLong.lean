/-
  A list that is too long: the law answers at once.
-/
import Derived.Test.YbulkaxysDoorChk
namespace Go.Proofs.YbulkaxysDoor
open Go.RowKit

set_option maxRecDepth 1000000 in
set_option maxHeartbeats 4000000 in
theorem law_long (v occ at_ : Int) (ao : Option Addr) (rl rc : Nat) (ko : Option Addr) (kl kc : Nat) (ho : Option Addr) (hl hc : Nat) (sel : Bool) (w : World) (h : 256 < rl ∨ 256 < kl ∨ 256 < hl) :
    Calls Ybad.prog 3 #[.int .u32 v, .int .i64 occ, .int .i64 at_, .slice ao rl rc, .slice ko kl kc, .slice ho hl hc, .bool sel] w fun e w' => e = .returned (.bool true) ∧ Below w.heap.size w w' := by
  by_cases h1 : 256 < rl
  · have i1 : decide ((256 : Int) < (rl : Int)) = true := by simp; omega
    clear h
    go_enter Ybad.func3, Ybad.ntmps3
    go_wp2_with fail
    go_ret
    exact ⟨rfl, Below.refl _ _⟩
  · have i1 : decide ((256 : Int) < (rl : Int)) = false := by simp; omega
    by_cases h2 : 256 < kl
    · have i2 : decide ((256 : Int) < (kl : Int)) = true := by simp; omega
      clear h
      go_enter Ybad.func3, Ybad.ntmps3
      go_wp2_with fail
      go_ret
      exact ⟨rfl, Below.refl _ _⟩
    · have i2 : decide ((256 : Int) < (kl : Int)) = false := by simp; omega
      have h3 : 256 < hl := by omega
      have i3 : decide ((256 : Int) < (hl : Int)) = true := by simp; omega
      clear h
      go_enter Ybad.func3, Ybad.ntmps3
      go_wp2_with fail
      go_ret
      exact ⟨rfl, Below.refl _ _⟩
end Go.Proofs.YbulkaxysDoor
