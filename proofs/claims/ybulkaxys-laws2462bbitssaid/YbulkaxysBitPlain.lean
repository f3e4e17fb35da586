/-
  THE PLAIN LAW: the bits of a 128 bit number shifted right.
-/
namespace Go.Proofs.Ybulkaxys

def bitN (H L i : Nat) : Nat := if i < 64 then L / 2 ^ i % 2 else H / 2 ^ (i - 64) % 2
def shrH (H k : Nat) : Nat := if 64 ≤ k then 0 else H / 2 ^ k
def shrL (H L k : Nat) : Nat := if 64 ≤ k then H / 2 ^ (k - 64) else (L / 2 ^ k) ||| (H * 2 ^ (64 - k) % 18446744073709551616)

theorem bitN_lt (H L i : Nat) : bitN H L i < 2 := by unfold bitN; split <;> omega
theorem shrH_lt (H k : Nat) (h : H < 18446744073709551616) : shrH H k < 18446744073709551616 := by
  unfold shrH; split
  · omega
  · exact Nat.lt_of_le_of_lt (Nat.div_le_self _ _) h
theorem shrL_lt (H L k : Nat) (h : H < 18446744073709551616) (l : L < 18446744073709551616) : shrL H L k < 18446744073709551616 := by
  unfold shrL; split
  · exact Nat.lt_of_le_of_lt (Nat.div_le_self _ _) h
  · exact Nat.or_lt_two_pow (n := 64) (Nat.lt_of_le_of_lt (Nat.div_le_self _ _) l) (Nat.mod_lt _ (by decide))

theorem tb (x i : Nat) : x / 2 ^ i % 2 = (x.testBit i).toNat := (Nat.toNat_testBit x i).symm

theorem high (x j : Nat) (h : x < 18446744073709551616) (hj : 64 ≤ j) : x.testBit j = false :=
  Nat.testBit_lt_two_pow (Nat.lt_of_lt_of_le h (show 2 ^ 64 ≤ 2 ^ j from Nat.pow_le_pow_right (by decide) hj))

theorem shr_bits (H L k i : Nat) (h : H < 18446744073709551616) (l : L < 18446744073709551616) (hk : k ≤ 128) (hi : i < 128) :
    bitN (shrH H k) (shrL H L k) i = if i + k < 128 then bitN H L (i + k) else 0 := by
  unfold bitN shrH shrL
  by_cases h64 : 64 ≤ k
  · simp only [h64, if_true]
    by_cases i64 : i < 64
    · rw [if_pos i64]
      by_cases hs : i + k < 128
      · rw [if_pos hs, if_neg (by omega), tb, tb, Nat.testBit_div_two_pow, show i + (k - 64) = i + k - 64 by omega]
      · rw [if_neg hs, tb, Nat.testBit_div_two_pow, high H _ h (by omega)]; rfl
    · rw [if_neg i64, if_neg (by omega)]; simp
  · simp only [h64, if_false]
    by_cases i64 : i < 64
    · rw [if_pos i64, if_pos (by omega), tb, Nat.testBit_or, Nat.testBit_div_two_pow, show (18446744073709551616 : Nat) = 2 ^ 64 from rfl, Nat.testBit_mod_two_pow, ← Nat.shiftLeft_eq, Nat.testBit_shiftLeft]
      by_cases hs : i + k < 64
      · rw [if_pos hs, tb]
        have : ¬ 64 - k ≤ i := by omega
        simp [this]
      · rw [if_neg hs, tb, high L _ l (by omega), show i - (64 - k) = i + k - 64 by omega]
        have : 64 - k ≤ i := by omega
        simp [this, i64]
    · rw [if_neg i64, tb, Nat.testBit_div_two_pow]
      by_cases hs : i + k < 128
      · rw [if_pos hs, if_neg (by omega), tb, show i - 64 + k = i + k - 64 by omega]
      · rw [if_neg hs, high H _ h (by omega)]; rfl
end Go.Proofs.Ybulkaxys
