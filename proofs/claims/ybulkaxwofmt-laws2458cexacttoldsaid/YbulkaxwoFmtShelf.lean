/-
  THE SHELF's CONTRACTS AT THIS DUMP (three of them), as the kit's lay-shelf and lay-plain tools write them for this program; the listed variable's name is taken from the given row.
-/
import Derived.Shelf.Strconv.Itoa1
import Derived.Shelf.LaysM
import Derived.Shelf.Strconv.Itoa2
import Derived.Test.YbulkaxwoFmtRows
namespace Go.Proofs
open Go.Shelf
def pow10Name : String := YbulkaxwoFmt.Rows.lawS2458CExactRow.named.headD ""
def Ybaf.lays283_ren : Go.Shelf.Ren := ⟨fun | 283 => 32 | n => n, fun | 3 => 3 | 9 => 9 | 4 => 4 | n => n, fun | n => n⟩
theorem Ybaf.lays283 : Go.Proofs.Lays.n283 Ybaf.prog Ybaf.lays283_ren := {
  mixed := by kernel_rfl
  f283 := Ybaf.func32.trans (congrArg some (by kernel_rfl))
  t3 := Ybaf.underlying3
  a3 := Ybaf.isAgg3
  z3 := Ybaf.sizeOf3
  v3 := Ybaf.zeroValue3
  t4 := Ybaf.underlying4
  a4 := Ybaf.isAgg4
  z4 := Ybaf.sizeOf4
  v4 := Ybaf.zeroValue4
  t9 := Ybaf.underlying9
  a9 := Ybaf.isAgg9
  z9 := Ybaf.sizeOf9
  v9 := Ybaf.zeroValue9 }
open Go.Lib in
theorem Ybaf.internal_strconv_small (i : Nat) (h : i < 100) (w : World) :
    Calls Ybaf.prog 32 #[.int .i64 i] w fun e w' => e = .returned (.string ⟨(Lib.decDigits i).toArray⟩) ∧ w' = w := Any.internal_strconv_small Ybaf.lays283 i h w
def Ybaf.laysM284_ren : Go.Shelf.Ren := ⟨fun | 284 => 33 | 129 => 39 | 317 => 38 | 318 => 40 | n => n, fun | 53 => 25 | 3 => 3 | 212 => 69 | 0 => 0 | 4 => 4 | 46 => 54 | 5 => 5 | 9 => 9 | n => n, fun | 17 => 2 | n => n⟩
theorem Ybaf.laysM284 : Go.Proofs.LaysM.n284 Ybaf.prog Ybaf.laysM284_ren := {
  mixed := by kernel_rfl
  f129 := Ybaf.func39.trans (congrArg some (by kernel_rfl))
  f284 := Ybaf.func33.trans (congrArg some (by kernel_rfl))
  f317 := Ybaf.func38.trans (congrArg some (by kernel_rfl))
  f318 := Ybaf.func40.trans (congrArg some (by kernel_rfl))
  t0 := Ybaf.underlying0
  a0 := Ybaf.isAgg0
  z0 := Ybaf.sizeOf0
  v0 := Ybaf.zeroValue0
  t3 := Ybaf.underlying3
  a3 := Ybaf.isAgg3
  z3 := Ybaf.sizeOf3
  v3 := Ybaf.zeroValue3
  t4 := Ybaf.underlying4
  a4 := Ybaf.isAgg4
  z4 := Ybaf.sizeOf4
  v4 := Ybaf.zeroValue4
  t5 := Ybaf.underlying5
  a5 := Ybaf.isAgg5
  z5 := Ybaf.sizeOf5
  v5 := Ybaf.zeroValue5
  t9 := Ybaf.underlying9
  a9 := Ybaf.isAgg9
  z9 := Ybaf.sizeOf9
  v9 := Ybaf.zeroValue9
  t46 := Ybaf.underlying54
  a46 := Ybaf.isAgg54
  z46 := Ybaf.sizeOf54
  v46 := Ybaf.zeroValue54
  t53 := Ybaf.underlying25
  a53 := Ybaf.isAgg25
  z53 := Ybaf.sizeOf25
  v53 := Ybaf.zeroValue25
  t212 := Ybaf.underlying69
  a212 := Ybaf.isAgg69
  z212 := Ybaf.sizeOf69
  v212 := Ybaf.zeroValue69
  g17 := by kernel_rfl
  i0 := by kernel_rfl
  i3 := by kernel_rfl
  i4 := by kernel_rfl
  i5 := by kernel_rfl
  i9 := by kernel_rfl
  i46 := by kernel_rfl
  i53 := by kernel_rfl
  i212 := by kernel_rfl
  m17 := by kernel_rfl }
open Go.Lib in
theorem Ybaf.internal_strconv_numDigits (u : Nat) (h1 : 1 ≤ u) (h2 : u < 18446744073709551616) (w : World) (htab : Lib.TabIs Ybaf.prog w pow10Name .u64 Lib.pow10Tab) :
    Calls Ybaf.prog 33 #[.int .u64 u] w fun e w' => e = .returned (.int .i64 (Lib.nDigits u)) ∧ w' = w := Any.internal_strconv_numDigits Ybaf.laysM284 u h1 h2 w htab
def Ybaf.lays285_ren : Go.Shelf.Ren := ⟨fun | 285 => 34 | n => n, fun | 37 => 23 | 53 => 25 | 3 => 3 | 4 => 4 | 51 => 70 | 9 => 9 | 5 => 5 | 0 => 0 | n => n, fun | n => n⟩
theorem Ybaf.lays285 : Go.Proofs.Lays.n285 Ybaf.prog Ybaf.lays285_ren := {
  mixed := by kernel_rfl
  f285 := Ybaf.func34.trans (congrArg some (by kernel_rfl))
  t0 := Ybaf.underlying0
  a0 := Ybaf.isAgg0
  z0 := Ybaf.sizeOf0
  v0 := Ybaf.zeroValue0
  t3 := Ybaf.underlying3
  a3 := Ybaf.isAgg3
  z3 := Ybaf.sizeOf3
  v3 := Ybaf.zeroValue3
  t4 := Ybaf.underlying4
  a4 := Ybaf.isAgg4
  z4 := Ybaf.sizeOf4
  v4 := Ybaf.zeroValue4
  t5 := Ybaf.underlying5
  a5 := Ybaf.isAgg5
  z5 := Ybaf.sizeOf5
  v5 := Ybaf.zeroValue5
  t9 := Ybaf.underlying9
  a9 := Ybaf.isAgg9
  z9 := Ybaf.sizeOf9
  v9 := Ybaf.zeroValue9
  t37 := Ybaf.underlying23
  a37 := Ybaf.isAgg23
  z37 := Ybaf.sizeOf23
  v37 := Ybaf.zeroValue23
  t51 := Ybaf.underlying70
  a51 := Ybaf.isAgg70
  z51 := Ybaf.sizeOf70
  v51 := Ybaf.zeroValue70
  t53 := Ybaf.underlying25
  a53 := Ybaf.isAgg25
  z53 := Ybaf.sizeOf25
  v53 := Ybaf.zeroValue25 }
open Go.RowKit Go.Sort Go.Lib in
theorem Ybaf.internal_strconv_formatBase10 (blk off cap : Nat) (u : Nat) (d : Array UInt8) (w : World) (hH : Holds (fun (b : UInt8) => Value.int .u8 (b.toNat : Int)) w blk off d) (hu : u < 10 ^ d.size) (hu64 : u < 18446744073709551616) (hsz : d.size < 4611686018427387904) :
    Calls Ybaf.prog 34 #[.slice (some ⟨blk, off, none⟩) d.size cap, .int .u64 u] w fun e w' =>
      e = .returned (.tuple #[]) ∧ ∃ (n v' : Nat) (dk : Array UInt8), w' = (putRow (fun (b : UInt8) => Value.int .u8 (b.toNat : Int)) w blk off dk).drewN n ∧ FmtInv d.size u 0 v' dk := Any.internal_strconv_formatBase10 Ybaf.lays285 blk off cap u d w hH hu hu64 hsz
end Go.Proofs
