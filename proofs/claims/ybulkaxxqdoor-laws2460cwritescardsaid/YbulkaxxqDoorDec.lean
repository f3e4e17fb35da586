/-
  zzs2460cdec (10): the decimal digits of a uint32, built from the end of a [10]byte.
-/
import Derived.Test.YbulkaxxqDoorWrite
namespace Go.Proofs.YbulkaxxqDoor
open Go.RowKit

/-- The state of the digits' loop: x is left, acc is laid; together they are v's numeral. -/
def DecInv (v x : Nat) (acc : List UInt8) : Prop := if x = 0 then Lib.decDigits v = acc else Lib.decDigits v = Lib.decDigits x ++ acc

theorem decInv_start (v : Nat) (h : v ≠ 0) : DecInv v v [] := by unfold DecInv; rw [if_neg h]; simp
theorem decInv_step {v x : Nat} {acc : List UInt8} (h : DecInv v x acc) (hx : x ≠ 0) : DecInv v (x / 10) (UInt8.ofNat (48 + x % 10) :: acc) := by
  unfold DecInv at *
  rw [if_neg hx] at h
  by_cases h10 : x < 10
  · rw [if_pos (by omega), h, Lib.decDigits_one h10, Nat.mod_eq_of_lt h10]; rfl
  · rw [if_neg (by omega), h, Lib.decDigits, dif_neg h10]; simp
theorem decInv_room {v x : Nat} {acc : List UInt8} (h : DecInv v x acc) (hx : x ≠ 0) (hv : v < 4294967296) : acc.length + 1 ≤ 10 := by
  unfold DecInv at h
  rw [if_neg hx] at h
  have h1 := congrArg List.length h
  rw [List.length_append, Lib.decDigits_length, Lib.decDigits_length] at h1
  have h2 := Lib.nDigits_pos x
  have h3 : Lib.nDigits v ≤ 10 := by
    rcases Nat.lt_or_ge 10 (Lib.nDigits v) with h | h
    · exfalso
      have hp := Lib.nDigits_unique 9
      by_cases hb : 10 ^ 9 ≤ v
      · have := hp v hb (by omega); omega
      · have h5 : ∀ k u, u < 10 ^ k → 1 ≤ k → Lib.nDigits u ≤ k := by
          intro k
          induction k with
          | zero => intro u hu hk; omega
          | succ k ih =>
            intro u hu _
            by_cases hs : u < 10
            · rw [Lib.nDigits_small hs]; omega
            · rw [Lib.nDigits_big hs]
              have : u / 10 < 10 ^ k := by rw [Nat.pow_succ] at hu; omega
              have hk1 : 1 ≤ k := by
                rcases k with _ | k
                · simp at this; omega
                · omega
              have := ih (u / 10) this hk1
              omega
        have := h5 9 v (by omega) (by decide)
        omega
    · exact h
  omega

/-- What is owned can be read. -/
theorem own_src {B : Nat} {ao : Option Addr} {n cap : Nat} {bs : List UInt8} {w : World} (h : Own B (.slice ao n cap) bs w) (hn : n = bs.length) : Src (.slice ao n cap) bs w := by
  subst hn
  rcases h.1.2 with ⟨e, hz⟩ | ⟨g, cap', cur, e, _⟩
  · refine Or.inl ⟨e, List.eq_nil_of_length_eq_zero hz⟩
  · simp only [Value.slice.injEq] at e
    obtain ⟨rfl, _, rfl⟩ := e
    exact Or.inr ⟨_, _, rfl, h.1.cells rfl⟩

set_option maxRecDepth 100000 in
set_option maxHeartbeats 1000000 in
theorem dec_any (v : Nat) (hv : v < 4294967296) (w : World) :
    Calls Ybad.prog 10 #[.int .u32 v] w fun e w' => ∃ r, e = .returned r ∧ Src r (Lib.decDigits v) w' ∧ Below w.heap.size w w' := by
  have hvi : (v : Int) < 4294967296 := by omega
  by_cases h0 : v = 0
  · subst h0
    go_enter Ybad.func10, Ybad.ntmps10
    go_wp2
    go_ret
    refine ⟨_, rfl, src_new _ 1 (by rw [Lib.decDigits_one (by decide)]; rfl) #[.int .u8 48] (by rw [Lib.decDigits_one (by decide)]; rfl) _ _ (heap_alloc_new w _), (Below.refl _ w).alloc (Nat.le_refl _) _⟩
  · have hne : ((v : Int) == 0) = false := by simp; omega
    go_enter Ybad.func10, Ybad.ntmps10
    go_wp2_with fail
    have HV := Lib.hid hv
    have HV0 := Lib.hid h0
    clear hv hvi h0
    go_loopw [0, 4] (fun s0 s4 wr => ∃ (a : Int) (x i : Nat) (acc : List UInt8) (arr : Array Value), s0 = .int .u32 a ∧ s4 = .int .i64 i ∧ 0 ≤ a ∧ a < 4294967296 ∧ Hid (a = (x : Int)) ∧ Hid (i + acc.length = 10) ∧ Hid (arr.size = 10) ∧ Hid (∀ (k : Nat) (hk : k < acc.length), arr[i + k]? = some (.int .u8 (acc[k].toNat : Int))) ∧ Hid (DecInv v x acc) ∧ wr = w.alloc (.cells arr 89))
      (fun s0 _ _ => (intOf s0).toNat)
    case atStart =>
      refine ⟨v, v, 10, [], _, rfl, rfl, by omega, by have := HV.out; omega, rfl, rfl, ?_, fun k hk => absurd hk (by simp), decInv_start v HV0.out, rfl⟩
      exact (rfl : _ = _)
    case round =>
      obtain ⟨a, x, i, acc, arr, rfl, rfl, ha0, ha1, HX, HL, HS, HC, HI, rfl⟩ := hrel
      have hi10 : (i : Int) ≤ 10 := by have := HL.out; omega
      clear hne
      by_cases hx0 : a = 0
      · subst hx0
        have hx0 : x = 0 := by have := HX.out; omega
        have HI2 : Hid (Lib.decDigits v = acc) := by have := HI.out; unfold DecInv at this; rw [if_pos hx0] at this; exact this
        have hi9 : (i : Int) < 10 := by
          have h1 := congrArg List.length HI2.out
          rw [Lib.decDigits_length] at h1
          have h2 := Lib.nDigits_pos v
          have := HL.out; omega
        have hl : acc.length = 10 - i := by have := HL.out; omega
        have hsrc : Src (.slice (some ⟨w.heap.size, i, none⟩) (10 - i) (10 - i)) acc (w.alloc (.cells arr 89)) := by
          rw [← hl]
          refine Or.inr ⟨_, _, rfl, fun j u hj => ?_⟩
          rw [Lib.add_plain, World.cell?_alloc_new]
          have hj2 : j < acc.length := by
            rcases Nat.lt_or_ge j acc.length with h | h
            · exact h
            · rw [List.getElem?_eq_none (by rw [Lib.byteCells_length]; exact h)] at hj; cases hj
          rw [HC.out j hj2]
          simpa [Lib.byteCells, hj2] using hj
        have hown : Own w.heap.size (.slice none 0 0) [] (w.alloc (.cells arr 89)) := own_nil _ _ (by simp)
        have hlen : ([] : List UInt8).length + acc.length ≤ 140737488355328 := by rw [hl]; simp; omega
        clear hl hx0 HI ha0 ha1
        go_wp2_with (at_builtin; refine wpList_appB rfl _ (.tmp 21) rfl hown _ _ hsrc hlen rfl rfl ?_; intro ao1 cap1 w1 ho2 hg2)
        go_ret
        refine ⟨_, rfl, ?_, ((Below.refl _ w).alloc (Nat.le_refl _) _).grown hg2 hown.2 (fun k hk => by simp [Value.ownBlock] at hk)⟩
        rw [HI2.out]
        have ho3 : Own w.heap.size (.slice ao1 acc.length cap1) acc w1 := by simpa using ho2
        simpa using own_src ho3 rfl
      · have hroom := decInv_room HI.out (by have := HX.out; omega) HV.out
        have hxp : (0 : Int) < a := by omega
        have hi1 : (1 : Int) ≤ (i : Int) := by have := HL.out; omega
        obtain ⟨u, hu⟩ : ∃ u, arr[i - 1]? = some u := ⟨arr[i - 1]'(by have := HS.out; omega), by simp⟩
        clear hroom ha0 hx0
        go_wp2
        have hX := HX.out
        have hL := HL.out
        have hS := HS.out
        have hC := HC.out
        refine ⟨⟨a / 10, x / 10, i - 1, UInt8.ofNat (48 + x % 10) :: acc, arr.setIfInBounds (i - 1) (.int .u8 (48 + a % 10)), rfl, ?_, by omega, by omega, ?_, ?_, ?_, ?_, decInv_step HI.out (by omega), rfl⟩, ?_⟩
        · rw [show ((i : Int) - 1) = ((i - 1 : Nat) : Int) by omega]
        · show a / 10 = _; omega
        · show i - 1 + (acc.length + 1) = 10; omega
        · show (arr.setIfInBounds _ _).size = 10; simpa using hS
        · intro k hk
          rcases k with _ | k
          · have e8 : ((UInt8.ofNat (48 + x % 10)).toNat : Int) = 48 + a % 10 := by rw [UInt8.toNat_ofNat']; omega
            rw [Nat.add_zero, Array.getElem?_setIfInBounds_self_of_lt (by omega)]
            simp only [List.getElem_cons_zero, e8]
          · have hk2 : k < acc.length := by simpa using hk
            rw [Array.getElem?_setIfInBounds_ne (by omega), show i - 1 + (k + 1) = i + k by omega, hC k hk2]
            simp
        · show (a / 10).toNat < a.toNat; omega
end Go.Proofs.YbulkaxxqDoor
