/-
  THE SHELF's CONTRACT FOR internal/strconv.AppendUint AT BASE 10 AT THIS DUMP, as the kit's lay-shelf and lay-plain tools write it for this program; the listed variable's name is taken from the given row.
-/
import Derived.Shelf.Strconv.Itoa0
import Derived.Shelf.Strconv.Itoa1
import Derived.Shelf.LaysM
import Derived.Shelf.Strconv.Itoa2
import Derived.Shelf.Strconv.AppendUint10
import Derived.Shelf.Strconv.AppendInt10
import Derived.Test.YbulkaxxqDoorRows
namespace Go.Proofs
open Go.Shelf
def pow10Name : String := YbulkaxxqDoor.Rows.lawS2460CWritesRow.named.getD 1 ""
def Ybad.laysM288_ren : Go.Shelf.Ren := ⟨fun | 288 => 34 | 283 => 35 | 284 => 36 | 285 => 37 | 286 => 38 | 129 => 40 | 317 => 39 | 318 => 41 | 319 => 42 | 320 => 43 | 337 => 44 | 338 => 45 | n => n, fun | 37 => 22 | 53 => 119 | 3 => 3 | 4 => 4 | 9 => 9 | 171 => 121 | 0 => 0 | 173 => 124 | 212 => 128 | 51 => 36 | 5 => 5 | 20 => 20 | 213 => 129 | 46 => 131 | 232 => 134 | 233 => 135 | n => n, fun | 17 => 13 | 18 => 14 | 19 => 15 | n => n⟩
theorem Ybad.laysM288 : Go.Proofs.LaysM.n288 Ybad.prog Ybad.laysM288_ren := {
  mixed := by kernel_rfl
  f129 := Ybad.func40.trans (congrArg some (by kernel_rfl))
  f283 := Ybad.func35.trans (congrArg some (by kernel_rfl))
  f284 := Ybad.func36.trans (congrArg some (by kernel_rfl))
  f285 := Ybad.func37.trans (congrArg some (by kernel_rfl))
  f286 := Ybad.func38.trans (congrArg some (by kernel_rfl))
  f288 := Ybad.func34.trans (congrArg some (by kernel_rfl))
  f317 := Ybad.func39.trans (congrArg some (by kernel_rfl))
  f318 := Ybad.func41.trans (congrArg some (by kernel_rfl))
  f319 := Ybad.func42.trans (congrArg some (by kernel_rfl))
  f320 := Ybad.func43.trans (congrArg some (by kernel_rfl))
  f337 := Ybad.func44.trans (congrArg some (by kernel_rfl))
  f338 := Ybad.func45.trans (congrArg some (by kernel_rfl))
  t0 := Ybad.underlying0
  a0 := Ybad.isAgg0
  z0 := Ybad.sizeOf0
  v0 := Ybad.zeroValue0
  t3 := Ybad.underlying3
  a3 := Ybad.isAgg3
  z3 := Ybad.sizeOf3
  v3 := Ybad.zeroValue3
  t4 := Ybad.underlying4
  a4 := Ybad.isAgg4
  z4 := Ybad.sizeOf4
  v4 := Ybad.zeroValue4
  t5 := Ybad.underlying5
  a5 := Ybad.isAgg5
  z5 := Ybad.sizeOf5
  v5 := Ybad.zeroValue5
  t9 := Ybad.underlying9
  a9 := Ybad.isAgg9
  z9 := Ybad.sizeOf9
  v9 := Ybad.zeroValue9
  t20 := Ybad.underlying20
  a20 := Ybad.isAgg20
  z20 := Ybad.sizeOf20
  v20 := Ybad.zeroValue20
  t37 := Ybad.underlying22
  a37 := Ybad.isAgg22
  z37 := Ybad.sizeOf22
  v37 := Ybad.zeroValue22
  t46 := Ybad.underlying131
  a46 := Ybad.isAgg131
  z46 := Ybad.sizeOf131
  v46 := Ybad.zeroValue131
  t51 := Ybad.underlying36
  a51 := Ybad.isAgg36
  z51 := Ybad.sizeOf36
  v51 := Ybad.zeroValue36
  t53 := Ybad.underlying119
  a53 := Ybad.isAgg119
  z53 := Ybad.sizeOf119
  v53 := Ybad.zeroValue119
  t171 := Ybad.underlying121
  a171 := Ybad.isAgg121
  z171 := Ybad.sizeOf121
  v171 := Ybad.zeroValue121
  t173 := Ybad.underlying124
  a173 := Ybad.isAgg124
  z173 := Ybad.sizeOf124
  v173 := Ybad.zeroValue124
  t212 := Ybad.underlying128
  a212 := Ybad.isAgg128
  z212 := Ybad.sizeOf128
  v212 := Ybad.zeroValue128
  t213 := Ybad.underlying129
  a213 := Ybad.isAgg129
  z213 := Ybad.sizeOf129
  t232 := Ybad.underlying134
  a232 := Ybad.isAgg134
  z232 := Ybad.sizeOf134
  v232 := Ybad.zeroValue134
  t233 := Ybad.underlying135
  a233 := Ybad.isAgg135
  z233 := Ybad.sizeOf135
  v233 := Ybad.zeroValue135
  g17 := by kernel_rfl
  g18 := by kernel_rfl
  g19 := by kernel_rfl
  i0 := by kernel_rfl
  i3 := by kernel_rfl
  i4 := by kernel_rfl
  i5 := by kernel_rfl
  i9 := by kernel_rfl
  i20 := by kernel_rfl
  i37 := by kernel_rfl
  i46 := by kernel_rfl
  i51 := by kernel_rfl
  i53 := by kernel_rfl
  i171 := by kernel_rfl
  i173 := by kernel_rfl
  i212 := by kernel_rfl
  i232 := by kernel_rfl
  i233 := by kernel_rfl
  m17 := by kernel_rfl
  m18 := by kernel_rfl
  m19 := by kernel_rfl }
open Go.RowKit Go.Sort Go.Lib in
theorem Ybad.internal_strconv_AppendUint_10 (B n u : Nat) (hu64 : u < 18446744073709551616) (sv : Value) (xs : List Value) (w : World) (hown : w.ownsRow B 5 1 sv n xs) (hBw : B ≤ w.heap.size) (hlim : n + 20 ≤ 140737488355328) (htab : Lib.TabIs Ybad.prog w pow10Name .u64 Lib.pow10Tab) :
    Calls Ybad.prog 34 #[sv, .int .u64 u, .int .i64 10] w fun e w' => ∃ v', e = .returned v' ∧ w'.ownsRow B 5 1 v' (n + (Lib.decDigits u).length) (xs ++ Lib.byteCells (Lib.decDigits u)) ∧ Below B w w' ∧ Lib.OthersKept 5 none w w' := Any.internal_strconv_AppendUint_10 Ybad.laysM288 B n u hu64 sv xs w hown hBw hlim htab
end Go.Proofs
