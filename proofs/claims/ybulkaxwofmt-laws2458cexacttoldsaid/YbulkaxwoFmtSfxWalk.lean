/-
  THE WALKS: Version.String for every F; strings.HasSuffix at a suffix that is there; the law.
-/
import Derived.Test.YbulkaxwoFmtProg
import Derived.Test.YbulkaxwoFmtFacts
import Derived.WalkKit
import Derived.WalkSpells
import Derived.Lib.Strings
import Derived.Laws.Strings3
namespace Go.Proofs.YbulkaxwoFmt
open Go.RowKit Go.Extern.Stop Go.Stop Go.Extern
attribute [local go_sem] call17 guardF fmt3 fmt3r op25_100

/-- WHAT fmt IS ASKED. -/
def vReading (a b c : Int) : List (List UInt8) :=
  [[37, 100, 46, 37, 100, 46, 37, 100], shape25, digits 8 (a % 18446744073709551616).toNat, shape25, digits 8 (b % 18446744073709551616).toNat, shape25, digits 8 (c % 18446744073709551616).toNat]
/-- fmt's answer. -/
def vText (F : Interp) (a b c : Int) : ByteArray := FmtStop.textOf (F "fmt.Sprintf" (vReading a b c) 0)

set_option maxHeartbeats 400000 in
theorem string_none (F : Interp) (a b c : Int) (pre : ByteArray) (w : World) (hF : F.answers w.tape) (hp : pre.toList.isEmpty = true) :
    Calls Ybaf.prog 10 #[.agg #[.int .u64 a, .int .u64 b, .int .u64 c, .string pre]] w fun e w' => e = .returned (.string (vText F a b c)) ∧ Below w.heap.size w w' := by
  have hF' := answers_open hF
  go_enter Ybaf.func10, Ybaf.ntmps10
  go_wp2
  go_ret
  exact ⟨rfl, (((Below.refl _ w).alloc (Nat.le_refl _) _).alloc (by simp) _).drew⟩

set_option maxHeartbeats 400000 in
theorem string_some (F : Interp) (a b c : Int) (pre : ByteArray) (w : World) (hF : F.answers w.tape) (hp : pre.toList.isEmpty = false) (hT : (vText F a b c).size + 1 + pre.size ≤ 9223372036854775807) :
    Calls Ybaf.prog 10 #[.agg #[.int .u64 a, .int .u64 b, .int .u64 c, .string pre]] w fun e w' => e = .returned (.string (vText F a b c ++ (⟨#[45]⟩ ++ pre))) ∧ Below w.heap.size w w' := by
  have hF' := answers_open hF
  unfold vText vReading at hT
  go_enter Ybaf.func10, Ybaf.ntmps10
  go_wp2
  go_ret
  exact ⟨rfl, (((Below.refl _ w).alloc (Nat.le_refl _) _).alloc (by simp) _).drew⟩

set_option maxHeartbeats 400000 in
/-- strings.HasSuffix at a string that is built with the suffix at its end. -/
theorem hasSuffix_end (t p : ByteArray) (w : World) (hs : t.size + p.size ≤ 9223372036854775807) :
    Calls Ybaf.prog 12 #[.string (t ++ p), .string p] w fun e w' => e = .returned (.bool true) ∧ w' = w := by
  have hx : ((t ++ p).extract t.size (t.size + p.size)).toList = p.toList := by
    rw [Lib.extract_toList]; simp [Lib.toList_data]; rw [List.take_of_length_le]; exact Nat.le_refl _
  go_enter Ybaf.func12, Ybaf.ntmps12
  go_wp2
  go_ret
  exact ⟨rfl, rfl⟩

set_option maxHeartbeats 400000 in
theorem sfx_none (F : Interp) (a b c : Int) (pre : ByteArray) (w : World) (hF : F.answers w.tape) (hp : pre.toList.isEmpty = true) :
    Calls Ybaf.prog 7 #[.int .u64 a, .int .u64 b, .int .u64 c, .string pre] w fun e w' => e = .returned (.bool true) ∧ Below w.heap.size w w' := by
  go_enter Ybaf.func7, Ybaf.ntmps7
  go_wp2_with fail
  refine (string_none F a b c pre _ (by exact hF) hp).mono ?_
  rintro e w1 ⟨rfl, hg⟩
  go_wp2
  go_ret
  exact ⟨rfl, ((Below.refl _ w).alloc (Nat.le_refl _) _).trans (hg.mono (by simp))⟩

set_option maxHeartbeats 400000 in
theorem sfx_some (F : Interp) (a b c : Int) (pre : ByteArray) (w : World) (hF : F.answers w.tape) (hp : pre.toList.isEmpty = false) (hT : (vText F a b c).size + 1 + pre.size ≤ 9223372036854775807) :
    Calls Ybaf.prog 7 #[.int .u64 a, .int .u64 b, .int .u64 c, .string pre] w fun e w' => e = .returned (.bool true) ∧ Below w.heap.size w w' := by
  have h1 : 1 + pre.size ≤ 9223372036854775807 := by omega
  go_enter Ybaf.func7, Ybaf.ntmps7
  go_wp2_with fail
  refine (string_some F a b c pre _ (by exact hF) hp hT).mono ?_
  rintro e w1 ⟨rfl, hg⟩
  go_wp2_with fail
  have hz : (vText F a b c).size + (({ data := #[45] } : ByteArray) ++ pre).size ≤ 9223372036854775807 := by
    rw [ByteArray.size_append]; show _ + (1 + pre.size) ≤ _; omega
  have hc := hasSuffix_end (vText F a b c) (({ data := #[45] } : ByteArray) ++ pre) w1 hz
  refine hc.mono ?_
  rintro e w2 ⟨rfl, hw2⟩
  subst hw2
  clear hc hz hT h1
  go_wp2
  go_ret
  exact ⟨rfl, ((Below.refl _ w).alloc (Nat.le_refl _) _).trans (hg.mono (by simp))⟩
end Go.Proofs.YbulkaxwoFmt
