/-
  THE WALK of LawS2458CExact (6), for every F whose text at "%d.%d.%d" is the three numerals with dots.
-/
import Derived.Test.YbulkaxwoFmtText
import Derived.Test.YbulkaxwoFmtUint
namespace Go.Proofs.YbulkaxwoFmt
open Go.RowKit Go.Extern.Stop Go.Stop Go.Extern

theorem ba_ext {x y : ByteArray} (h : x.data.toList = y.data.toList) : x = y := by
  cases x; cases y; simp at h; simp [h]

theorem same_text (F : Interp) (a b c : Nat) (hT : (vText F a b c).data.toList = vBytes a b c) : vText F a b c = dec a ++ ⟨#[46]⟩ ++ dec b ++ ⟨#[46]⟩ ++ dec c := by
  apply ba_ext
  rw [hT]
  simp [vBytes, Lib.itoa_nonneg, dec]

set_option maxHeartbeats 1000000 in
theorem exact_walk (F : Interp) (a b c : Nat) (pre : ByteArray) (w : World) (hF : F.answers w.tape) (ha : a < 18446744073709551616) (hb : b < 18446744073709551616) (hc : c < 18446744073709551616)
    (htab : Lib.TabIs Ybaf.prog w pow10Name .u64 Lib.pow10Tab) (hpre : pre.size ≤ 140737488355328) (hT : (vText F a b c).data.toList = vBytes a b c) (hT2 : (vText F a b c).size ≤ 65) :
    Calls Ybaf.prog 6 #[.int .u64 a, .int .u64 b, .int .u64 c, .string pre] w fun e w' => e = .returned (.bool true) ∧ Below w.heap.size w w' := by
  have HT := Lib.hid (same_text F a b c hT)
  have HA := Lib.hid ha
  have HB := Lib.hid hb
  have HC := Lib.hid hc
  have HT2 := Lib.hid hT2
  clear ha hb hc hT hT2
  by_cases hp : pre.toList.isEmpty = true
  · go_enter Ybaf.func6, Ybaf.ntmps6
    go_wp2_with fail
    refine (string_none F a b c pre _ (by exact hF) hp).mono ?_
    rintro e w1 ⟨rfl, hb1⟩
    have hbw : Below w.heap.size w w1 := ((Below.refl _ w).alloc (Nat.le_refl _) _).trans (hb1.mono (by simp))
    have htab1 := tab_below htab hbw
    clear htab hb1
    go_wp2_with fail
    refine (want_any a b c pre HA.out HB.out HC.out _ htab1 hpre).mono ?_
    rintro e w2 ⟨rfl, hb2⟩
    rw [if_pos hp, HT.out]
    clear htab1
    go_wp2
    go_ret
    exact ⟨rfl, hbw.trans (hb2.mono hbw.size)⟩
  · have hp2 : pre.toList.isEmpty = false := by simpa using hp
    go_enter Ybaf.func6, Ybaf.ntmps6
    go_wp2_with fail
    refine (string_some F a b c pre _ (by exact hF) hp2 (by have := HT2.out; omega)).mono ?_
    rintro e w1 ⟨rfl, hb1⟩
    have hbw : Below w.heap.size w w1 := ((Below.refl _ w).alloc (Nat.le_refl _) _).trans (hb1.mono (by simp))
    have htab1 := tab_below htab hbw
    clear htab hb1
    go_wp2_with fail
    refine (want_any a b c pre HA.out HB.out HC.out _ htab1 hpre).mono ?_
    rintro e w2 ⟨rfl, hb2⟩
    rw [if_neg hp, HT.out, ← ByteArray.append_assoc]
    clear htab1
    go_wp2
    go_ret
    exact ⟨rfl, hbw.trans (hb2.mono hbw.size)⟩
end Go.Proofs.YbulkaxwoFmt
