/-
  THE WALKS of zzs2462bbit (6), number.shr (5) and the law (3).
-/
import Derived.Test.YbulkaxysProg
import Derived.Test.YbulkaxysBitPlain
import Derived.WalkKit
import Derived.WalkSpells
import Derived.RegionTactic
import Derived.ChangeAlike
import Derived.Laws.BitsAllLaws
namespace Go.Proofs.Ybulkaxys
open Go.RowKit

theorem and1 (x i : Nat) (h : x < 18446744073709551616) : bits BinOp.and IntKind.u64 ((x : Int) / 2 ^ i) 1 = ((x / 2 ^ i % 2 : Nat) : Int) := by
  have e : ((x : Int) / 2 ^ i) = ((x / 2 ^ i : Nat) : Int) := by rw [Int.natCast_ediv, Int.natCast_pow]; rfl
  have hx : x / 2 ^ i < 18446744073709551616 := Nat.lt_of_le_of_lt (Nat.div_le_self _ _) h
  have h2 := u64_and_nat (x / 2 ^ i) 1 hx (by decide)
  rw [nat_mask1] at h2
  rw [e]; exact h2

theorem or1 (H L k : Nat) (l : L < 18446744073709551616) (hk : ¬ 64 ≤ k) :
    bits BinOp.or IntKind.u64 ((L : Int) / 2 ^ k) (IntKind.u64.wrap ((H : Int) * 2 ^ (64 - k))) = ((shrL H L k : Nat) : Int) := by
  have e : ((L : Int) / 2 ^ k) = ((L / 2 ^ k : Nat) : Int) := by rw [Int.natCast_ediv, Int.natCast_pow]; rfl
  have e2 : IntKind.u64.wrap ((H : Int) * 2 ^ (64 - k)) = ((H * 2 ^ (64 - k) % 18446744073709551616 : Nat) : Int) := by
    rw [IntKind.wrap_u64, Int.natCast_emod, Int.natCast_mul, Int.natCast_pow]; rfl
  rw [e, e2, u64_or_nat _ _ (Nat.lt_of_le_of_lt (Nat.div_le_self _ _) l) (Nat.mod_lt _ (by decide))]
  unfold shrL; rw [if_neg hk]

theorem ret_u64 {a b : Int} (h : a = b) : Ending.returned (.int .u64 a) = .returned (.int .u64 b) := by rw [h]

set_option maxHeartbeats 400000 in
theorem bit_any (H L : Nat) (i : Int) (w : World) (h : H < 18446744073709551616) (l : L < 18446744073709551616) (h0 : 0 ≤ i) (h1 : i < 128) :
    Calls Yba.prog 6 #[.agg #[.int .u64 H, .int .u64 L], .int .i64 i] w fun e w' => e = .returned (.int .u64 (bitN H L i.toNat : Nat)) ∧ Below w.heap.size w w' := by
  by_cases hlt : i < 64
  · go_enter Yba.func6, Yba.ntmps6
    go_wp2
    go_ret
    refine ⟨ret_u64 ?_, (Below.refl _ _).alloc (Nat.le_refl _) _⟩
    rw [and1 _ _ l]; unfold bitN; rw [if_pos (by omega)]
  · go_enter Yba.func6, Yba.ntmps6
    go_wp2
    go_ret
    refine ⟨ret_u64 ?_, (Below.refl _ _).alloc (Nat.le_refl _) _⟩
    rw [and1 _ _ h]; unfold bitN; rw [if_neg (by omega), show (i - 64).toNat = i.toNat - 64 by omega]

set_option maxHeartbeats 400000 in
theorem shr_any (H L : Nat) (k : Int) (w : World) (l : L < 18446744073709551616) (h0 : 0 ≤ k) (h1 : k ≤ 128) :
    Calls Yba.prog 5 #[.agg #[.int .u64 H, .int .u64 L], .int .i64 k] w fun e w' => e = .returned (.agg #[.int .u64 (shrH H k.toNat : Nat), .int .u64 (shrL H L k.toNat : Nat)]) ∧ Below w.heap.size w w' := by
  by_cases hlt : k < 64
  · have e1 : ((shrH H k.toNat : Nat) : Int) = (H : Int) / 2 ^ k.toNat := by unfold shrH; rw [if_neg (by omega), Int.natCast_ediv, Int.natCast_pow]; rfl
    have e2 := or1 H L k.toNat l (by omega)
    rw [← e2, e1, show 64 - k.toNat = (64 - k).toNat by omega]
    clear e1 e2
    go_enter Yba.func5, Yba.ntmps5
    go_wp2
    go_region
    go_wp2
    exact bodyPost_ret (v := .agg #[.int .u64 ((H : Int) / 2 ^ k.toNat), .int .u64 (bits BinOp.or IntKind.u64 ((L : Int) / 2 ^ k.toNat) (IntKind.u64.wrap ((H : Int) * 2 ^ (64 - k).toNat)))]) (by simp [results, Yba.results5, go_sem]) rfl ⟨rfl, ((((Below.refl _ w).alloc (Nat.le_refl _) _).alloc (by simp) _)).drew⟩
  · have e1 : ((shrH H k.toNat : Nat) : Int) = 0 := by unfold shrH; rw [if_pos (by omega)]; rfl
    have e2 : ((shrL H L k.toNat : Nat) : Int) = (H : Int) / 2 ^ (k - 64).toNat := by unfold shrL; rw [if_pos (by omega), Int.natCast_ediv, Int.natCast_pow, show (k - 64).toNat = k.toNat - 64 by omega]; rfl
    rw [e1, e2]
    clear e1 e2
    go_enter Yba.func5, Yba.ntmps5
    go_wp2
    exact bodyPost_ret (v := .agg #[.int .u64 0, .int .u64 ((H : Int) / 2 ^ (k - 64).toNat)]) (by simp [results, Yba.results5, go_sem]) rfl ⟨rfl, (((Below.refl _ w).alloc (Nat.le_refl _) _).alloc (by simp) _)⟩

set_option maxRecDepth 100000 in
set_option maxHeartbeats 1000000 in
theorem walkN (H L k : Nat) (h : H < 18446744073709551616) (l : L < 18446744073709551616) (hk : k < 256) (w : World) :
    Calls Yba.prog 3 #[.int .u64 H, .int .u64 L, .int .u8 k] w fun e w' => e = .returned (.bool true) ∧ Below w.heap.size w w' := by
  obtain ⟨q, hq, hq1⟩ : ∃ q : Nat, ((k : Int) % 129) = (q : Int) ∧ q ≤ 128 := ⟨k % 129, by omega, by omega⟩
  have Hq : Hid (((k : Int) % 129) = (q : Int)) := hq
  clear hq
  have Hh : Hid (H < 18446744073709551616) := h
  have Hl : Hid (L < 18446744073709551616) := l
  clear h l
  go_enter Yba.func3, Yba.ntmps3
  go_wp2_with fail
  rw [Hq.out]
  refine (shr_any H L (q : Int) _ Hl.out (by omega) (by omega)).mono ?_
  rintro e w1 ⟨rfl, hb⟩
  rw [Int.toNat_natCast]
  have B : Hid (∀ j, j < 128 → bitN (shrH H q) (shrL H L q) j = if j + q < 128 then bitN H L (j + q) else 0) := fun j hj => shr_bits H L q j Hh.out Hl.out hq1 hj
  have rh : Hid (shrH H q < 18446744073709551616) := shrH_lt H q Hh.out
  have rl : Hid (shrL H L q < 18446744073709551616) := shrL_lt H L q Hh.out Hl.out
  generalize shrH H q = RH at *
  generalize shrL H L q = RL at *
  have c0 : w1.cell? ⟨w.heap.size, 0, none⟩ = some (.int .u64 H) := by rw [hb.cell (by simp)]; simp
  have c1 : w1.cell? ⟨w.heap.size, 1, none⟩ = some (.int .u64 L) := by rw [hb.cell (by simp)]; simp
  have hz : w.heap.size < w1.heap.size := by have := hb.size; simp at this; omega
  have hb1 : Below w.heap.size w w1 := ((Below.refl _ w).alloc (Nat.le_refl _) _).trans (hb.mono (by simp))
  clear hb
  go_wp2_with fail
  go_loopw [10] (fun i wr => ∃ j : Nat, j ≤ 128 ∧ i = .int .i64 j ∧ Below (w1.heap.size + 1) (w1.alloc (.cells #[.int .u64 RH, .int .u64 RL] 24)) wr) (fun i _ => 128 - (intOf i).toNat)
  case atStart => exact ⟨0, by omega, rfl, Below.refl _ _⟩
  case round =>
    obtain ⟨j, hj, rfl, hbr⟩ := hrel
    have hbr0 : Below w1.heap.size w1 wr := ((Below.refl _ w1).alloc (Nat.le_refl _) _).trans (hbr.mono (by omega))
    have d0 : wr.cell? ⟨w.heap.size, 0, none⟩ = some (.int .u64 H) := by rw [hbr0.cell (by exact hz)]; exact c0
    have d1 : wr.cell? ⟨w.heap.size, 1, none⟩ = some (.int .u64 L) := by rw [hbr0.cell (by exact hz)]; exact c1
    have d2 : wr.cell? ⟨w1.heap.size, 0, none⟩ = some (.int .u64 RH) := by rw [hbr.cell (by simp)]; simp
    have d3 : wr.cell? ⟨w1.heap.size, 1, none⟩ = some (.int .u64 RL) := by rw [hbr.cell (by simp)]; simp
    have hzr : w1.heap.size < wr.heap.size := by have := hbr.size; simp at this; omega
    clear c0 c1
    by_cases hlt : j < 128
    · have Bj := B.out j hlt
      by_cases hs : j + q < 128
      · rw [if_pos hs] at Bj
        have HB : Hid (bitN RH RL j = bitN H L (j + q)) := Bj
        clear Bj
        go_wp2_with fail
        refine (bit_any H L ((j : Int) + (q : Int)) _ Hh.out Hl.out (by omega) (by omega)).mono ?_
        rintro e w2 ⟨rfl, hb2⟩
        rw [show ((j : Int) + (q : Int)).toNat = j + q by omega]
        have f2 : w2.cell? ⟨w1.heap.size, 0, none⟩ = some (.int .u64 RH) := by rw [hb2.cell (by exact hzr)]; exact d2
        have f3 : w2.cell? ⟨w1.heap.size, 1, none⟩ = some (.int .u64 RL) := by rw [hb2.cell (by exact hzr)]; exact d3
        have hz2 : wr.heap.size ≤ w2.heap.size := hb2.size
        clear d0 d1 d2 d3
        go_wp2_with fail
        refine (bit_any RH RL (j : Int) _ rh.out rl.out (by omega) (by omega)).mono ?_
        rintro e w3 ⟨rfl, hb3⟩
        rw [Int.toNat_natCast, HB.out]
        clear f2 f3
        go_wp2
        go_roundw
        case rel => exact ⟨j + 1, by omega, by go_num, hbr.trans ((hb2.mono (by omega)).trans (hb3.mono (by omega)))⟩
        case measure => simp [intOf]; omega
      · rw [if_neg hs] at Bj
        have HB : Hid (bitN RH RL j = 0) := Bj
        clear Bj
        go_wp2_with fail
        refine (bit_any RH RL (j : Int) _ rh.out rl.out (by omega) (by omega)).mono ?_
        rintro e w3 ⟨rfl, hb3⟩
        rw [Int.toNat_natCast, HB.out]
        clear d0 d1 d2 d3
        go_wp2
        go_roundw
        case rel => exact ⟨j + 1, by omega, by go_num, hbr.trans (hb3.mono (by omega))⟩
        case measure => simp [intOf]; omega
    · go_wp2
      go_ret
      exact ⟨rfl, hb1.trans (hbr0.mono (by omega))⟩
end Go.Proofs.Ybulkaxys
