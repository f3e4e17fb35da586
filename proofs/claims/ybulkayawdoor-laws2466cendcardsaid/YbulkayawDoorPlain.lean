/-
  The plain law of the sizes: 1 << (int(sizeLog) % 6), int(t) & (size-1), int(mode) % 4.
-/
import Derived.Test.YbulkayawDoorLawNone
import Derived.Laws.BitsAllLaws
namespace Go.Proofs.YbulkayawDoor
open Go.RowKit

theorem and_mask (t k : Nat) (ht : t ≤ 65535) (hk : k ≤ 5) : bits BinOp.and IntKind.i64 (t : Int) (((2 ^ k : Nat) : Int) - 1) = ((t % 2 ^ k : Nat) : Int) := by
  have h2 : 2 ^ k ≤ 2 ^ 5 := Nat.pow_le_pow_right (by omega) hk
  have hp : 0 < 2 ^ k := Nat.pow_pos (by omega)
  have e : ((2 ^ k : Nat) : Int) - 1 = ((2 ^ k - 1 : Nat) : Int) := by omega
  rw [e]
  have ha : t &&& (2 ^ k - 1) = t % 2 ^ k := Nat.and_two_pow_sub_one_eq_mod t k
  have hlt : t % 2 ^ k < 2 ^ k := Nat.mod_lt _ hp
  show IntKind.i64.wrap ((BitVec.ofInt 64 (t : Int) &&& BitVec.ofInt 64 ((2 ^ k - 1 : Nat) : Int)).toNat : Int) = _
  rw [BitVec.toNat_and, ofInt_u64 t (by omega), ofInt_u64 (2 ^ k - 1) (by omega), ha, IntWalk.i64_in _ (by omega)]

theorem sizes_k (t : Int) (k : Nat) (hk : k ≤ 5) (ht0 : 0 ≤ t) (ht1 : t ≤ 65535) : ∃ idx : Nat, 0 < 2 ^ k ∧ 2 ^ k ≤ 32 ∧ bits BinOp.and IntKind.i64 t (((2 ^ k : Nat) : Int) - 1) = (idx : Int) ∧ idx < 2 ^ k := by
  obtain ⟨u, rfl⟩ := Int.eq_ofNat_of_zero_le ht0
  have hp : 0 < 2 ^ k := Nat.pow_pos (by omega)
  exact ⟨u % 2 ^ k, hp, Nat.le_trans (Nat.pow_le_pow_right (by omega) hk) (by decide), and_mask u k (by omega) hk, Nat.mod_lt _ hp⟩

theorem shl_k (k : Nat) (hk : k ≤ 5) (W : World) : (Op.shift .shl .i64 1 .i64 (k : Int)).run Ybad.prog W = .ok (.int .i64 ((2 ^ k : Nat) : Int)) W := by
  have h : k = 0 ∨ k = 1 ∨ k = 2 ∨ k = 3 ∨ k = 4 ∨ k = 5 := by omega
  rcases h with rfl | rfl | rfl | rfl | rfl | rfl
  · show (Op.shift .shl .i64 1 .i64 0).run Ybad.prog W = .ok (.int .i64 1) W; kernel_rfl
  · show (Op.shift .shl .i64 1 .i64 1).run Ybad.prog W = .ok (.int .i64 2) W; kernel_rfl
  · show (Op.shift .shl .i64 1 .i64 2).run Ybad.prog W = .ok (.int .i64 4) W; kernel_rfl
  · show (Op.shift .shl .i64 1 .i64 3).run Ybad.prog W = .ok (.int .i64 8) W; kernel_rfl
  · show (Op.shift .shl .i64 1 .i64 4).run Ybad.prog W = .ok (.int .i64 16) W; kernel_rfl
  · show (Op.shift .shl .i64 1 .i64 5).run Ybad.prog W = .ok (.int .i64 32) W; kernel_rfl

theorem sizes (sl t : Int) (hs : 0 ≤ sl ∧ sl ≤ 255) (ht0 : 0 ≤ t) (ht1 : t ≤ 65535) :
    ∃ n idx : Nat, 0 < n ∧ n ≤ 32 ∧ bits BinOp.and IntKind.i64 t ((n : Int) - 1) = (idx : Int) ∧ idx < n ∧ ∀ W, (Op.shift .shl .i64 1 .i64 ((wrap64 sl).tmod 6)).run Ybad.prog W = .ok (.int .i64 (n : Int)) W := by
  obtain ⟨s, rfl⟩ := Int.eq_ofNat_of_zero_le hs.1
  have e : (wrap64 (s : Int)).tmod 6 = ((s % 6 : Nat) : Int) := by
    rw [IntWalk.wrap64_in _ (by omega), Int.tmod_eq_emod_of_nonneg (by omega)]; omega
  obtain ⟨idx, a, b, c, d⟩ := sizes_k t (s % 6) (by omega) ht0 ht1
  exact ⟨2 ^ (s % 6), idx, a, b, c, d, fun W => by rw [e]; exact shl_k (s % 6) (by omega) W⟩

theorem modes (md : Int) (hm : 0 ≤ md ∧ md ≤ 255) : (wrap64 md).tmod 4 = 0 ∨ (wrap64 md).tmod 4 = 1 ∨ (wrap64 md).tmod 4 = 2 ∨ (wrap64 md).tmod 4 = 3 := by
  rw [IntWalk.wrap64_in _ (by omega), Int.tmod_eq_emod_of_nonneg (by omega)]; omega
end Go.Proofs.YbulkayawDoor
