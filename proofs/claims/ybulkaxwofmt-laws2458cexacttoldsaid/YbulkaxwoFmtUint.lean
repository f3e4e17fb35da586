/-
  strconv.FormatUint AT BASE 10, every uint64 (functions 25, 18): the walk after the shelf's internal/strconv.FormatInt (its way without a sign), at place 0 of the new array.
-/
import Derived.Test.YbulkaxwoFmtShelf
import Derived.Lib.Walk
import Derived.Lib.ItoaMem
import Derived.Lib.AppendIntMem
import Derived.WalkSpells
import Derived.WalkKit
import Derived.BigCall
import Derived.BigGuard
namespace Go.Proofs.YbulkaxwoFmt
open Go.RowKit Go.Sort Go.Lib

/-- The new block's bytes from place 0 on are a row of zeros. -/
theorem holds_zero0 (w : World) (T : TypeId) (nd : Nat) (hs : nd ≤ 24) : Holds (fun (b : UInt8) => Value.int .u8 (b.toNat : Int)) (w.alloc (.cells Lib.zeros24 T)) w.heap.size 0 (Array.replicate nd (0 : UInt8)) := fun j hj => by
  have hj' : j < nd := by simpa using hj
  refine ⟨?_, World.frozen?_alloc_new _ _ _ _⟩
  rw [World.cell?_alloc_new, Lib.zeros24_at _ (by omega), getElem!_pos _ j hj]
  simp

theorem fin0 (w : World) (o : Obj) (dk : Array UInt8) (k : Nat) : Below w.heap.size w ((putRow (fun (b : UInt8) => Value.int .u8 (b.toNat : Int)) (w.alloc o) w.heap.size 0 dk).drewN k) := by
  rw [alloc_eq_grow]
  obtain ⟨os', _, e⟩ := putRow_grow_new (fun (b : UInt8) => Value.int .u8 (b.toNat : Int)) w #[o] w.heap.size 0 dk (Nat.le_refl _)
  rw [e]
  exact Lib.below_grow _ w (Nat.le_refl _) k os'

set_option maxRecDepth 100000 in
set_option maxHeartbeats 6400000 in
theorem formatUint_in (u : Nat) (hu64 : u < 18446744073709551616) (w : World) (htab : Lib.TabIs Ybaf.prog w pow10Name .u64 Lib.pow10Tab) :
    Calls Ybaf.prog 25 #[.int .u64 u, .int .i64 10] w fun e w' => e = .returned (.string ⟨(Lib.decDigits u).toArray⟩) ∧ Below w.heap.size w w' := by
  by_cases hi : u < 100
  · have h100 : (u : Int) < 100 := by omega
    clear hu64
    go_enter Ybaf.func25, Ybaf.ntmps25
    go_wp2_with (go_at_call 32; refine (Ybaf.internal_strconv_small u hi _).mono ?_; rintro e w' ⟨rfl, rfl⟩)
    go_ret
    exact ⟨rfl, Below.refl _ _⟩
  · have hu1 : 1 ≤ u := by omega
    have hnd20 : Lib.nDigits u ≤ 20 := by have := Lib.numDigits_eq u hu1 hu64; split at this <;> omega
    have hal : Ybaf.prog.arrayLen 59 = 24 := by simp [Program.arrayLen, Ybaf.underlying59]
    have hsl : ∀ W, (Instr.sliceAt 59 (.pointer (some ⟨w.heap.size, 0, none⟩)) none (some (.int .i64 (Lib.nDigits u : Int))) none).run Ybaf.prog W = .ok (.slice (some ⟨w.heap.size, 0, none⟩) (Lib.nDigits u) 24) W := fun W => by
      rw [run_sliceAt_array_h W 59 ⟨w.heap.size, 0, none⟩ (by simp [Program.arrayLen, Program.elem, Ybaf.underlying59]) .i64 (Lib.nDigits u : Int) (by omega) (by rw [hal]; omega)]
      go_simp
    have hH0 := holds_zero0 w 59 (Lib.nDigits u) (by omega)
    have hfmt := Ybaf.internal_strconv_formatBase10 w.heap.size 0 24 u (Array.replicate (Lib.nDigits u) 0) (w.alloc (.cells Lib.zeros24 59)) hH0 (by rw [Array.size_replicate]; exact Lib.lt_pow_nDigits u) hu64 (by rw [Array.size_replicate]; omega)
    rw [Array.size_replicate] at hfmt
    have HH0 := Lib.hid hH0
    have h100 : ¬ (u : Int) < 100 := by omega
    have HU := Lib.hid hu64
    clear hH0 hal hu64
    go_enter Ybaf.func25, Ybaf.ntmps25
    go_wp2_with (first
      | (go_at_call 33; refine (Ybaf.internal_strconv_numDigits u hu1 HU.out _ (Lib.tabIs_alloc htab _)).mono ?_; rintro e w' ⟨rfl, rfl⟩))
    go_at_call 34
    refine hfmt.mono ?_
    rintro e w' ⟨rfl, k, v', dk, rfl, hF⟩
    have hcv : (convert 23 9 (.slice (some ⟨w.heap.size, 0, none⟩) (Lib.nDigits u) 24)).run Ybaf.prog ((putRow (fun (b : UInt8) => Value.int .u8 (b.toNat : Int)) (w.alloc (.cells Lib.zeros24 59)) w.heap.size 0 dk).drewN k) = .ok (.string ⟨(Lib.decDigits u).toArray⟩) ((putRow (fun (b : UInt8) => Value.int .u8 (b.toNat : Int)) (w.alloc (.cells Lib.zeros24 59)) w.heap.size 0 dk).drewN k) := by
      have h := run_convert_bytes_back (P := Ybaf.prog) ((putRow (fun (b : UInt8) => Value.int .u8 (b.toNat : Int)) (w.alloc (.cells Lib.zeros24 59)) w.heap.size 0 dk).drewN k) 23 9 5 ⟨w.heap.size, 0, none⟩ 24 (Lib.decDigits u) Ybaf.underlying23 Ybaf.underlying5 Ybaf.underlying9 (fun j hj => by
        rw [Lib.row_is_numeral hF j hj, Lib.add_plain, World.cell?_drewN]
        exact cell?_putRow (fun (b : UInt8) => Value.int .u8 (b.toNat : Int)) _ w.heap.size 0 _ dk HH0.out (by rw [hF.size, Array.size_replicate]) j (by rw [hF.size]; rw [Lib.decDigits_length] at hj; exact hj))
      rw [Lib.decDigits_length] at h
      exact h
    go_wp2
    go_ret
    exact ⟨rfl, fin0 w _ dk k⟩

/-- A listed table outlives whatever leaves the old blocks alone. -/
theorem tab_below {w w' : World} {nm : String} {zs : List Int} (h : Lib.TabIs Ybaf.prog w nm .u64 zs) (hb : Below w.heap.size w w') : Lib.TabIs Ybaf.prog w' nm .u64 zs := by
  unfold Lib.TabIs World.var? at *
  cases hg : Ybaf.prog.globalNamed nm with
  | none => simp [hg] at h
  | some g =>
    simp only [hg, Option.bind_some] at h ⊢
    have hlt : g < w.heap.size := by
      rcases Nat.lt_or_ge g w.heap.size with h' | h'
      · exact h'
      · rw [Array.getElem?_eq_none h'] at h; simp at h
    rw [hb.block g hlt]
    exact h

theorem digits_len (u : Nat) (hu64 : u < 18446744073709551616) : (Lib.decDigits u).length ≤ 20 := by
  rw [Lib.decDigits_length]
  by_cases h : 1 ≤ u
  · have := Lib.numDigits_eq u h hu64; split at this <;> omega
  · obtain rfl : u = 0 := by omega
    simp [Lib.nDigits]

/-- The numeral as a string. -/
def dec (u : Nat) : ByteArray := ⟨(Lib.decDigits u).toArray⟩
theorem dec_size (u : Nat) (hu64 : u < 18446744073709551616) : (dec u).size ≤ 20 := digits_len u hu64
theorem dec_data (u : Nat) : (dec u).data.toList = Lib.decDigits u := rfl

set_option maxHeartbeats 400000 in
theorem formatUint (u : Nat) (hu64 : u < 18446744073709551616) (w : World) (htab : Lib.TabIs Ybaf.prog w pow10Name .u64 Lib.pow10Tab) :
    Calls Ybaf.prog 18 #[.int .u64 u, .int .i64 10] w fun e w' => e = .returned (.string (dec u)) ∧ Below w.heap.size w w' := by
  have HU := Lib.hid hu64
  clear hu64
  go_enter Ybaf.func18, Ybaf.ntmps18
  go_wp2_with (go_at_call 25; refine (formatUint_in u HU.out _ htab).mono ?_; rintro e w' ⟨rfl, hb⟩)
  go_ret
  exact ⟨rfl, hb⟩


set_option maxHeartbeats 1000000 in
theorem want_any (a b c : Nat) (pre : ByteArray) (ha : a < 18446744073709551616) (hb : b < 18446744073709551616) (hc : c < 18446744073709551616) (w : World)
    (htab : Lib.TabIs Ybaf.prog w pow10Name .u64 Lib.pow10Tab) (hpre : pre.size ≤ 140737488355328) :
    Calls Ybaf.prog 11 #[.int .u64 a, .int .u64 b, .int .u64 c, .string pre] w fun e w' =>
      e = .returned (.string (if pre.toList.isEmpty = true then dec a ++ ⟨#[46]⟩ ++ dec b ++ ⟨#[46]⟩ ++ dec c else dec a ++ ⟨#[46]⟩ ++ dec b ++ ⟨#[46]⟩ ++ dec c ++ ⟨#[45]⟩ ++ pre)) ∧ Below w.heap.size w w' := by
  have la := dec_size a ha
  have lb := dec_size b hb
  have lc := dec_size c hc
  have HA := Lib.hid ha
  have HB := Lib.hid hb
  have HC := Lib.hid hc
  clear ha hb hc
  by_cases hp : pre.toList.isEmpty = true
  · rw [if_pos hp]
    go_enter Ybaf.func11, Ybaf.ntmps11
    go_wp2_with fail
    refine (formatUint a HA.out _ htab).mono ?_
    rintro e w1 ⟨rfl, hb1⟩
    have htab1 := tab_below htab hb1
    clear htab
    go_wp2_with fail
    refine (formatUint b HB.out _ htab1).mono ?_
    rintro e w2 ⟨rfl, hb2⟩
    have htab2 := tab_below htab1 hb2
    clear htab1
    go_wp2_with fail
    refine (formatUint c HC.out _ htab2).mono ?_
    rintro e w3 ⟨rfl, hb3⟩
    clear htab2
    go_wp2
    go_ret
    exact ⟨rfl, hb1.trans ((hb2.mono hb1.size).trans (hb3.mono (Nat.le_trans hb1.size hb2.size)))⟩
  · rw [if_neg hp]
    have hp2 : pre.toList.isEmpty = false := by simpa using hp
    clear hp
    go_enter Ybaf.func11, Ybaf.ntmps11
    go_wp2_with fail
    refine (formatUint a HA.out _ htab).mono ?_
    rintro e w1 ⟨rfl, hb1⟩
    have htab1 := tab_below htab hb1
    clear htab
    go_wp2_with fail
    refine (formatUint b HB.out _ htab1).mono ?_
    rintro e w2 ⟨rfl, hb2⟩
    have htab2 := tab_below htab1 hb2
    clear htab1
    go_wp2_with fail
    refine (formatUint c HC.out _ htab2).mono ?_
    rintro e w3 ⟨rfl, hb3⟩
    clear htab2
    go_wp2
    go_ret
    exact ⟨rfl, hb1.trans ((hb2.mono hb1.size).trans (hb3.mono (Nat.le_trans hb1.size hb2.size)))⟩
end Go.Proofs.YbulkaxwoFmt
