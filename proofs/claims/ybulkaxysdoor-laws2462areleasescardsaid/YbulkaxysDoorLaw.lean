/-
  THE LAW (3).
-/
import Derived.Test.YbulkaxysDoorChk
namespace Go.Proofs.YbulkaxysDoor
open Go.RowKit

set_option maxRecDepth 1000000 in
set_option maxHeartbeats 4000000 in
theorem law_a (v : Nat) (hv : v < 4294967296) (occ at_ : Int) (hat : -9223372036854775808 ≤ at_ ∧ at_ ≤ 9223372036854775807) (ao : Option Addr) (rs : List R3) (rc : Nat) (ko : Option Addr) (kl : List Int) (kc : Nat) (ho : Option Addr) (hs : List Bool) (hc : Nat) (sel : Bool) (z : Addr) (w : World) (hz : Zs z w)
    (h1 : rs.length ≤ 256) (h2 : kl.length ≤ 256) (h3 : hs.length ≤ 256) (hsrc : SrcR w ao rs) (hok : ∀ r ∈ rs, r.ok) (hab : ∀ a, ao = some a → a.block < w.heap.size)
    (hkey : ∀ (i : Nat) (k : Int), kl[i]? = some k → ∃ b o, ko = some ⟨b, o, none⟩ ∧ b < w.heap.size ∧ w.cell? ⟨b, o + i, none⟩ = some (.int .u32 k)) (hkn : ko = none → kl = [] ∧ kc = 0) (hkb_ : ∀ k ∈ kl, 0 ≤ k ∧ k ≤ 4294967295) (hheld : SrcB w ho hs) (hhl : ∀ a, ho = some a → a.block < w.heap.size) :
    Calls Ybad.prog 3 #[.int .u32 (v : Int), .int .i64 occ, .int .i64 at_, .slice ao rs.length rc, .slice ko kl.length kc, .slice ho hs.length hc, .bool sel] w fun e w' => e = .returned (.bool true) ∧ Below w.heap.size w w' := by
  have i1 : decide ((256 : Int) < (rs.length : Int)) = false := by simp; omega
  have i2 : decide ((256 : Int) < (kl.length : Int)) = false := by simp; omega
  have i3 : decide ((256 : Int) < (hs.length : Int)) = false := by simp; omega
  have hv2 : (v : Int) < 4294967296 := by omega
  have e0 : (v : Int) / 16777216 = b0 v := by unfold b0; omega
  have e1 : (v : Int) / 65536 % 256 = b1 v := by unfold b1; omega
  have e2 : (v : Int) / 256 % 256 = b2 v := by unfold b2; omega
  have e3 : (v : Int) % 256 = b3 v := by unfold b3; omega
  have hw64 : IntKind.u64.wrap (v : Int) = (v : Int) := IntWalk.u64_in _ (by omega)
  go_enter Ybad.func3, Ybad.ntmps3
  refine seq_stop ?_
  intro K hK
  go_wp2_with fail
  refine hK.out _ _ ?_
  clear hK
  refine seq_stop ?_
  intro K1 hK
  go_wp2_with fail
  refine hK.out _ _ ?_
  clear hK i1 i2 i3
  refine seq_stop ?_
  intro K2 hK
  go_wp2_with fail
  refine hK.out _ _ ?_
  clear hK
  refine seq_stop ?_
  intro K3 hK
  go_wp2_with (first | (go_at_call 5; refine Hid.out ?_))
  refine Lib.hid ?_
  have hzA := hz.below ((Below.refl _ w).alloc (Nat.le_refl _) (.cells #[.int .u8 (b0 v), .int .u8 (b1 v), .int .u8 (b2 v), .int .u8 (b3 v)] 27)) (by have := hz.two; omega)
  refine (from5 v hv z _ hzA).mono ?_
  rintro e w1 ⟨rfl, hb1⟩
  have low1 : Below w.heap.size w w1 := ((Below.refl _ w).alloc (Nat.le_refl _) _).trans (hb1.mono (by simp))
  have hz1 : Zs z w1 := hz.below low1 (by have := hz.two; omega)
  clear hb1 hzA
  go_wp2_with (first | (go_at_call 4; refine Hid.out ?_))
  refine Lib.hid ?_
  refine (prefix4 0 (lov v) z _ hz1).mono ?_
  rintro e w2 ⟨rfl, hb2⟩
  have low2 : Below w.heap.size w w2 := low1.trans (hb2.mono low1.size)
  have L2 := Lib.hid low2
  clear hb2 low1 hz1 low2
  go_wp2_with fail
  refine hK.out _ _ ?_
  clear hK
  refine seq_stop ?_
  intro K4 hK
  go_wp2_with (first | (go_at_call 6; refine Hid.out ?_))
  refine Lib.hid ?_
  refine (add6 at_ _ hat).mono ?_
  rintro e w3 ⟨rfl, hb3⟩
  have xb3 : w3.heap[w2.heap.size]? = some (.cells #[.int .u64 0, .int .u64 (lov v), .pointer (some z), .int .u8 33] 37 (0, 0)) := (hb3.block w2.heap.size (by simp)).trans Array.getElem?_push_size
  have low3 : Below w.heap.size w w3 := (L2.out.alloc L2.out.size _).trans (hb3.mono (by simp; have := L2.out.size; omega))
  have s23 : w2.heap.size < w3.heap.size := by have := hb3.size; simp at this; omega
  have X3 := Lib.hid xb3
  have L3 := Lib.hid low3
  clear hb3 xb3 low3
  unfold tm
  go_wp2_with fail
  refine hK.out _ _ ?_
  clear hK
  refine seq_stop ?_
  intro K5 hK
  go_wp2_with fail
  refine hK.out _ _ ?_
  clear hK
  refine seq_stop ?_
  intro K6 hK
  have hmk := fun W => make_any 47 53 Ybad.underlying47 _ 7 56 zr53 0 (rs.length + 1) (by omega) (by omega) (by omega) W
  simp only [Int.natCast_add, Int.natCast_one, Int.natCast_zero] at hmk
  go_wp2_with fail
  refine hK.out _ _ ?_
  clear hK
  refine seq_stop ?_
  intro K7 hK
  clear hmk
  have esz : (((w3.alloc (.cells #[.int .u64 (at_ % 1000000000), .int .i64 (at_ / 1000000000), .pointer none] 42)).alloc (.cells #[.int .u64 0, .int .u64 (v : Int)] 46)).alloc (.cells (madeCells #[.int .u64 0, .int .u64 0, .int .u64 0, .int .u64 0, .int .u64 0, .int .i64 0, .pointer none] ((rs.length + 1) * 7)) 53)).heap.size = w3.heap.size + 1 + 1 + 1 := by simp
  have lowE : Below w.heap.size w (((w3.alloc (.cells #[.int .u64 (at_ % 1000000000), .int .i64 (at_ / 1000000000), .pointer none] 42)).alloc (.cells #[.int .u64 0, .int .u64 (v : Int)] 46)).alloc (.cells (madeCells #[.int .u64 0, .int .u64 0, .int .u64 0, .int .u64 0, .int .u64 0, .int .i64 0, .pointer none] ((rs.length + 1) * 7)) 53)) := ((L3.out.alloc L3.out.size _).alloc (by simp; have := L3.out.size; omega) _).alloc (by simp; have := L3.out.size; omega) _
  have tE : (((w3.alloc (.cells #[.int .u64 (at_ % 1000000000), .int .i64 (at_ / 1000000000), .pointer none] 42)).alloc (.cells #[.int .u64 0, .int .u64 (v : Int)] 46)).alloc (.cells (madeCells #[.int .u64 0, .int .u64 0, .int .u64 0, .int .u64 0, .int .u64 0, .int .i64 0, .pointer none] ((rs.length + 1) * 7)) 53)).heap[w3.heap.size]? = some (.cells #[.int .u64 (at_ % 1000000000), .int .i64 (at_ / 1000000000), .pointer none] 42 (0, 0)) := (Below.heap_alloc _ _ _ (by simp; omega)).trans (first_row w3 _ _ _)
  have nE : (((w3.alloc (.cells #[.int .u64 (at_ % 1000000000), .int .i64 (at_ / 1000000000), .pointer none] 42)).alloc (.cells #[.int .u64 0, .int .u64 (v : Int)] 46)).alloc (.cells (madeCells #[.int .u64 0, .int .u64 0, .int .u64 0, .int .u64 0, .int .u64 0, .int .i64 0, .pointer none] ((rs.length + 1) * 7)) 53)).heap[w3.heap.size + 1]? = some (.cells #[.int .u64 0, .int .u64 (v : Int)] 46 (0, 0)) := (Below.heap_alloc _ _ _ (by simp)).trans (second_row w3 _ _ _)
  have xE : (((w3.alloc (.cells #[.int .u64 (at_ % 1000000000), .int .i64 (at_ / 1000000000), .pointer none] 42)).alloc (.cells #[.int .u64 0, .int .u64 (v : Int)] 46)).alloc (.cells (madeCells #[.int .u64 0, .int .u64 0, .int .u64 0, .int .u64 0, .int .u64 0, .int .i64 0, .pointer none] ((rs.length + 1) * 7)) 53)).heap[w2.heap.size]? = some (.cells #[.int .u64 0, .int .u64 (lov v), .pointer (some z), .int .u8 33] 37 (0, 0)) := (Below.heap_alloc _ _ _ (by simp; omega)).trans ((Below.heap_alloc _ _ _ (by simp; omega)).trans ((Below.heap_alloc _ _ _ (by omega)).trans X3.out))
  have oE : (((w3.alloc (.cells #[.int .u64 (at_ % 1000000000), .int .i64 (at_ / 1000000000), .pointer none] 42)).alloc (.cells #[.int .u64 0, .int .u64 (v : Int)] 46)).alloc (.cells (madeCells #[.int .u64 0, .int .u64 0, .int .u64 0, .int .u64 0, .int .u64 0, .int .i64 0, .pointer none] ((rs.length + 1) * 7)) 53)).ownsRow (w3.heap.size + 1 + 1) 53 7 (.slice (some ⟨w3.heap.size + 1 + 1, 0, none⟩) 0 (rs.length + 1)) 0 [] := by
    have := World.ownsRow_made (base := w3.heap.size + 1 + 1) (e := 53) (size := 7) ((w3.alloc (.cells #[.int .u64 (at_ % 1000000000), .int .i64 (at_ / 1000000000), .pointer none] 42)).alloc (.cells #[.int .u64 0, .int .u64 (v : Int)] 46)) (madeCells #[.int .u64 0, .int .u64 0, .int .u64 0, .int .u64 0, .int .u64 0, .int .i64 0, .pointer none] ((rs.length + 1) * 7)) (rs.length + 1) (by simp) (by unfold maxLen; omega) (size_madeCells _ _)
    simpa using this
  have srcE : SrcR (((w3.alloc (.cells #[.int .u64 (at_ % 1000000000), .int .i64 (at_ / 1000000000), .pointer none] 42)).alloc (.cells #[.int .u64 0, .int .u64 (v : Int)] 46)).alloc (.cells (madeCells #[.int .u64 0, .int .u64 0, .int .u64 0, .int .u64 0, .int .u64 0, .int .i64 0, .pointer none] ((rs.length + 1) * 7)) 53)) ao rs := fun i r hr => by
    obtain ⟨b, o, e, q0, q1, q2⟩ := hsrc i r hr
    have hbl := hab _ e
    exact ⟨b, o, e, (lowE.cell (p := ⟨b, o + i * 3, none⟩) hbl).trans q0, (lowE.cell (p := ⟨b, o + i * 3 + 1, none⟩) hbl).trans q1, (lowE.cell (p := ⟨b, o + i * 3 + 2, none⟩) hbl).trans q2⟩
  have sw3 : w.heap.size ≤ w3.heap.size := L3.out.size
  obtain ⟨WE, hWE⟩ : ∃ WE, WE = ((w3.alloc (.cells #[.int .u64 (at_ % 1000000000), .int .i64 (at_ / 1000000000), .pointer none] 42)).alloc (.cells #[.int .u64 0, .int .u64 (v : Int)] 46)).alloc (.cells (madeCells #[.int .u64 0, .int .u64 0, .int .u64 0, .int .u64 0, .int .u64 0, .int .i64 0, .pointer none] ((rs.length + 1) * 7)) 53) := ⟨_, rfl⟩
  rw [← hWE] at esz lowE tE nE xE oE srcE ⊢
  clear hWE
  refine loop1 _ _ _ _ _ _ _ _ _ _ _ _ _ _ _ _ _ _ _ _ _ _ _ _ _ _ _ _ _ _ _ _ _ _ _ _ _ _ _ _ _ _ _ _ _ _ _ _ _ _ _ _ _ _ _ _ _ _ _ _ _ _ _ _ _ _ _ _ _ _ _ _ _ _ _ _ _ _ _ _ _ _ _ _ _ _ _ _ _ _ _ _ _ _ _ _ _ _ _ _ _ _ _ _ _ _ _ _ _ _ _ _ _ _ _ _ _ _ _ _ _ _ _ _ _ _ _ _ _ _ _ _ _ _ _ _ _ _ _ _ _ _ _ _ _ _ _ _ _ _ _ _ _ _ _ _ _ _ _ _ _ _ _ _ _ _ _ _ _ _ _ _ _ _ _ _ _ _ _ _ _ _ _ _ _ _ _ _ _ _ _ _ _ _ _ _ _ _ _ _ _ _ _ _ _ _ _ _ _ _ _ _ _ _ _ _ _ _ _ _ _ _ _ _ _ _ _ _ _ _ _ _ _ _ _ _ _ _ _ _ _ _ _ _ _ _ _ _ _ _ _ _ _ _ _ _ _ _ _ _ _ _ _ _ _ _ _ _ _ _ _ _ _ _ _ _ _ _ _ _ _ _ _ _ _ _ _ _ _ _ _ _ _ _ _ _ _ _ _ _ _ _ _ _ _ _ _ _ _ _ _ _ _ _ _ _ _ _ _ _ _ _ _ _ _ _ _ _ _ _ _ _ _ _ _ _ _ _ _ _ _ _ _ _ _ ao rs rc (w3.heap.size + 1 + 1) _ _ _ WE srcE hok h1 (by omega) (fun a ha => by have := hab a ha; omega) oE (by simp) ?_
  intro ov u21 u83 u84 u85 u86 u87 u88 u89 u90 u91 u92 u93 u94 u95 u96 u97 u98 u99 u100 u101 u102 u103 u104 u105 u106 u107 u108 u109 u110 w4 ho4 hov hb4
  dsimp only
  have low4 : Below w.heap.size w w4 := lowE.trans (hb4.mono (by omega))
  have s4 : w3.heap.size + 1 + 1 + 1 ≤ w4.heap.size := by have := hb4.size; omega
  have t4 := (hb4.block w3.heap.size (by omega)).trans tE
  have n4 := (hb4.block (w3.heap.size + 1) (by omega)).trans nE
  have x4 := (hb4.block w2.heap.size (by omega)).trans xE
  have H4 := Lib.hid (And.intro low4 (And.intro t4 (And.intro n4 (And.intro x4 (And.intro ho4 hov)))))
  clear low4 t4 n4 x4 ho4 hov hb4 esz lowE tE nE xE oE srcE
  refine hK.out _ _ ?_
  clear hK
  refine seq_stop ?_
  intro K8 hK
  have hmk := fun W => make_any 24 22 Ybad.underlying24 _ 1 4 zr22 0 (kl.length + 1) (by omega) (by omega) (by omega) W
  simp only [Int.natCast_add, Int.natCast_one, Int.natCast_zero] at hmk
  go_wp2_with fail
  clear hmk
  obtain ⟨W8, hW8⟩ : ∃ W8, W8 = w4.alloc (.cells (madeCells #[.int .u32 0] (kl.length + 1)) 22) := ⟨_, rfl⟩
  have b8 : Below w4.heap.size w4 W8 := by rw [hW8]; exact (Below.refl _ w4).alloc (Nat.le_refl _) _
  have s8 : W8.heap.size = w4.heap.size + 1 := by rw [hW8]; simp
  have o8 : W8.ownsRow w4.heap.size 22 1 (.slice (some ⟨w4.heap.size, 0, none⟩) 0 (kl.length + 1)) 0 [] := by
    rw [hW8]
    have := World.ownsRow_made (base := w4.heap.size) (e := 22) (size := 1) w4 (madeCells #[.int .u32 0] (kl.length + 1)) (kl.length + 1) (Nat.le_refl _) (by unfold maxLen; omega) (by rw [size_madeCells]; omega)
    simpa using this
  rw [← hW8]
  clear hW8
  refine hK.out _ _ ?_
  clear hK
  refine seq_stop ?_
  intro K9 hK
  have k8 : ∀ (i : Nat) (k : Int), kl[i]? = some k → ∃ b o, ko = some ⟨b, o, none⟩ ∧ W8.cell? ⟨b, o + i, none⟩ = some (.int .u32 k) := fun i k hk => by
    obtain ⟨b, o, e, hbl, q⟩ := hkey i k hk
    have hlow : Below w.heap.size w W8 := H4.out.1.trans (b8.mono (by have := H4.out.1.size; omega))
    exact ⟨b, o, e, (hlow.cell (p := ⟨b, o + i, none⟩) hbl).trans q⟩
  refine keys9 _ _ _ _ _ _ _ _ _ _ _ _ _ _ _ _ _ _ _ _ _ _ _ _ _ _ _ _ _ _ _ _ _ _ _ _ _ _ _ _ _ _ _ _ _ _ _ _ _ _ _ _ _ _ _ _ _ _ _ _ _ _ _ _ _ _ _ _ _ _ _ _ _ _ _ _ _ _ _ _ _ _ _ _ _ _ _ _ _ _ _ _ _ _ _ _ _ _ _ _ _ _ _ _ _ _ _ _ _ _ _ _ _ _ _ _ _ _ _ _ _ _ _ _ _ _ _ _ _ _ _ _ _ _ _ _ _ _ _ _ _ _ _ _ _ _ _ _ _ _ _ _ _ _ _ _ _ _ _ _ _ _ _ _ _ _ _ _ _ _ _ _ _ _ _ _ _ _ _ _ _ _ _ _ _ _ _ _ _ _ _ _ _ _ _ _ _ _ _ _ _ _ _ _ _ _ _ _ _ _ _ _ _ _ _ _ _ _ _ _ _ _ _ _ _ _ _ _ _ _ _ _ _ _ _ _ _ _ _ _ _ _ _ _ _ _ _ _ _ _ _ _ _ _ _ _ _ _ _ _ _ _ _ _ _ _ _ _ _ _ _ _ _ _ _ _ _ _ _ _ _ _ _ _ _ _ _ _ _ _ _ _ _ _ _ _ _ _ _ _ _ _ _ _ _ _ _ _ _ _ _ _ _ _ _ _ _ _ _ _ _ _ _ _ _ _ _ _ _ _ _ _ _ _ _ _ _ _ _ _ _ _ _ _ _ w4.heap.size (kl.length + 1) kc ko kl _ _ W8 k8 hkn h2 (by omega) o8 ?_
  intro kv9 u115 u116 u117 w9 o9 kn9 b9
  dsimp only
  refine hK.out _ _ ?_
  clear hK
  refine seq_stop ?_
  intro K10 hK
  refine keys10 _ _ _ _ _ _ _ _ _ _ _ _ _ _ _ _ _ _ _ _ _ _ _ _ _ _ _ _ _ _ _ _ _ _ _ _ _ _ _ _ _ _ _ _ _ _ _ _ _ _ _ _ _ _ _ _ _ _ _ _ _ _ _ _ _ _ _ _ _ _ _ _ _ _ _ _ _ _ _ _ _ _ _ _ _ _ _ _ _ _ _ _ _ _ _ _ _ _ _ _ _ _ _ _ _ _ _ _ _ _ _ _ _ _ _ _ _ _ _ _ _ _ _ _ _ _ _ _ _ _ _ _ _ _ _ _ _ _ _ _ _ _ _ _ _ _ _ _ _ _ _ _ _ _ _ _ _ _ _ _ _ _ _ _ _ _ _ _ _ _ _ _ _ _ _ _ _ _ _ _ _ _ _ _ _ _ _ _ _ _ _ _ _ _ _ _ _ _ _ _ _ _ _ _ _ _ _ _ _ _ _ _ _ _ _ _ _ _ _ _ _ _ _ _ _ _ _ _ _ _ _ _ _ _ _ _ _ _ _ _ _ _ _ _ _ _ _ _ _ _ _ _ _ _ _ _ _ _ _ _ _ _ _ _ _ _ _ _ _ _ _ _ _ _ _ _ _ _ _ _ _ _ _ _ _ _ _ _ _ _ _ _ _ _ _ _ _ _ _ _ _ _ _ _ _ _ _ _ _ _ _ _ _ _ _ _ _ _ _ _ _ _ _ _ _ _ _ _ _ _ _ _ _ _ _ _ _ _ _ _ _ _ _ _ w4.heap.size (v : Int) sel kv9 kl _ _ w9 h2 (by have := b9.size; omega) o9 kn9 ?_
  intro kv10 u118 u119 u120 u121 u122 w10 o10 kn10 b10
  dsimp only
  obtain ⟨ks, hks⟩ : ∃ ks, ks = kl ++ (if sel then [(v : Int)] else []) := ⟨_, rfl⟩
  have hkl : ks.length ≤ 257 := by rw [hks]; cases sel <;> simp <;> omega
  rw [← hks] at o10
  obtain ⟨kb, kcap, ekv, hkb, hkat⟩ : ∃ kb kcap, kv10 = .slice (some ⟨kb, 0, none⟩) ks.length kcap ∧ w4.heap.size ≤ kb ∧ (kb < w10.heap.size ∧ ∀ (i : Nat) (k : Int), ks[i]? = some k → w10.cell? ⟨kb, i, none⟩ = some (.int .u32 k)) := by
    rcases o10.2 with ⟨e, _⟩ | ⟨kb, kcap, cur, e, hb, hat, _, _, _, ht⟩
    · exact absurd e kn10
    · refine ⟨kb, kcap, e, hb, (Array.getElem?_eq_some_iff.1 hat).1, fun i k hk => ?_⟩
      rw [cell_of_row w10 kb i _ _ _ hat]
      have hi : i < ks.length := (List.getElem?_eq_some_iff.1 hk).1
      have h := congrArg (·[i]?) ht
      simp only [List.getElem?_take_of_lt (show i < ks.length * 1 by omega), intsV, List.getElem?_map, hk, Option.map_some] at h
      simpa using h
  subst ekv
  have HKS := Lib.hid hks
  have HKA := Lib.hid hkat
  clear hks hkat
  have b810 : Below w4.heap.size W8 w10 := b9.trans b10
  have lo10 : Below w4.heap.size w4 w10 := b8.trans b810
  have L10 := Lib.hid lo10
  have HSC := Lib.hid (And.intro hsrc (And.intro hok (And.intro hab (And.intro hkey hkn))))
  clear o9 o10 kn9 kn10 b9 b10 k8 o8 b810 lo10 b8 hsrc hok hab hkey hkn
  refine hK.out _ _ ?_
  clear hK
  refine seq_stop ?_
  intro K11 hK
  have hmm := makeMap_any
  go_wp2_with fail
  clear hmm
  obtain ⟨W11, hW11⟩ : ∃ W11, W11 = w10.alloc (.map #[] 0) := ⟨_, rfl⟩
  have b11 : Below w10.heap.size w10 W11 := by rw [hW11]; exact (Below.refl _ w10).alloc (Nat.le_refl _) _
  have s11 : W11.heap.size = w10.heap.size + 1 := by rw [hW11]; simp
  have m11 : MapIs W11 w10.heap.size [] := ⟨#[], 0, by rw [hW11]; exact Array.getElem?_push_size, rfl⟩
  rw [← hW11]
  clear hW11
  have sz4 : w.heap.size ≤ w4.heap.size := H4.out.1.size
  have sz10 : w4.heap.size ≤ w10.heap.size := L10.out.size
  have low10 : Below w.heap.size w w10 := H4.out.1.trans (L10.out.mono sz4)
  have low11 : Below w.heap.size w W11 := low10.trans (b11.mono (by omega))
  have hB11 : SrcB W11 ho hs := fun i b hb => by
    obtain ⟨q, o, e, ql, c⟩ := hheld i b hb
    exact ⟨q, o, e, by omega, (low11.cell (p := ⟨q, o + i, none⟩) ql).trans c⟩
  have hks11 : ∀ (i : Nat) (k : Int), ks[i]? = some k → W11.cell? ⟨kb, i, none⟩ = some (.int .u32 k) ∧ 0 ≤ k ∧ k ≤ 4294967295 := fun i k hk => by
    refine ⟨(b11.cell (p := ⟨kb, i, none⟩) HKA.out.1).trans (HKA.out.2 i k hk), ?_⟩
    have hm := List.mem_of_getElem? hk
    rw [HKS.out] at hm
    rcases List.mem_append.1 hm with hm | hm
    · exact hkb_ k hm
    · cases sel <;> simp at hm; omega
  have kl10 : kb < w10.heap.size := HKA.out.1
  have L11 := Lib.hid low11
  have B11 := Lib.hid b11
  clear low10 low11 b11
  refine hK.out _ _ ?_
  clear hK
  refine seq_stop ?_
  intro K12 hK
  refine loop2 _ _ _ _ _ _ _ _ _ _ _ _ _ _ _ _ _ _ _ _ _ _ _ _ _ _ _ _ _ _ _ _ _ _ _ _ _ _ _ _ _ _ _ _ _ _ _ _ _ _ _ _ _ _ _ _ _ _ _ _ _ _ _ _ _ _ _ _ _ _ _ _ _ _ _ _ _ _ _ _ _ _ _ _ _ _ _ _ _ _ _ _ _ _ _ _ _ _ _ _ _ _ _ _ _ _ _ _ _ _ _ _ _ _ _ _ _ _ _ _ _ _ _ _ _ _ _ _ _ _ _ _ _ _ _ _ _ _ _ _ _ _ _ _ _ _ _ _ _ _ _ _ _ _ _ _ _ _ _ _ _ _ _ _ _ _ _ _ _ _ _ _ _ _ _ _ _ _ _ _ _ _ _ _ _ _ _ _ _ _ _ _ _ _ _ _ _ _ _ _ _ _ _ _ _ _ _ _ _ _ _ _ _ _ _ _ _ _ _ _ _ _ _ _ _ _ _ _ _ _ _ _ _ _ _ _ _ _ _ _ _ _ _ _ _ _ _ _ _ _ _ _ _ _ _ _ _ _ _ _ _ _ _ _ _ _ _ _ _ _ _ _ _ _ _ _ _ _ _ _ _ _ _ _ _ _ _ _ _ _ _ _ _ _ _ _ _ _ _ _ _ _ _ _ _ _ _ _ _ _ _ _ _ _ _ _ _ _ _ _ _ _ _ _ _ _ _ _ _ _ _ _ _ _ _ _ _ _ _ _ _ _ _ _ kb kcap w10.heap.size hc ks ho hs _ _ W11 hB11 hks11 (by omega) (by omega) (fun a ha => by have := hhl a ha; omega) (by omega) m11 ?_
  intro u24 u25 u26 u126 u127 u128 u129 u130 u131 u132 u133 u134 u135 u136 u137 u138 u139 u140 u141 u142 u143 u144 u145 u146 u147 u148 u149 u150 u151 u152 u153 u154 bl L w12 hres
  dsimp only
  have hks12 : ∀ (i : Nat) (k : Int), ks[i]? = some k → w12.cell? ⟨kb, i, none⟩ = some (.int .u32 k) ∧ 0 ≤ k ∧ k ≤ 4294967295 := fun i k hk => ⟨(World.cell?_of_block (hres.kept.block kb (by omega) (by simp; omega))).trans (hks11 i k hk).1, (hks11 i k hk).2⟩
  have sz12 : W11.heap.size ≤ w12.heap.size := hres.kept.size
  have R12 := Lib.hid hres
  have HK12 := Lib.hid hks12
  clear hres hks12 hks11 hB11 m11
  refine hK.out _ _ ?_
  clear hK
  refine seq_stop ?_
  intro K13 hK
  have hmk := fun W => make_any 58 55 Ybad.underlying58 _ 1 8 zr55 ks.length ks.length (Nat.le_refl _) (by omega) (by omega) W
  go_wp2_with fail
  refine hK.out _ _ ?_
  clear hK
  refine seq_stop ?_
  intro K14 hK
  clear hmk
  have hmk := fun W => make_any 25 4 Ybad.underlying25 _ 1 1 zr4 ks.length ks.length (Nat.le_refl _) (by omega) (by omega) W
  go_wp2_with fail
  refine hK.out _ _ ?_
  clear hK
  refine seq_stop ?_
  intro K15 hK
  clear hmk
  have hmk := fun W => make_any 59 42 Ybad.underlying59 _ 3 24 zr42 ks.length ks.length (Nat.le_refl _) (by omega) (by omega) W
  go_wp2_with fail
  clear hmk
  obtain ⟨W15, hW15⟩ : ∃ W15, W15 = ((w12.alloc (.cells (madeCells #[.pointer none] ks.length) 55)).alloc (.cells (madeCells #[.bool false] ks.length) 4)).alloc (.cells (madeCells #[.int .u64 0, .int .i64 0, .pointer none] (ks.length * 3)) 42) := ⟨_, rfl⟩
  have b15 : Below w12.heap.size w12 W15 := by rw [hW15]; exact (((Below.refl _ w12).alloc (Nat.le_refl _) _).alloc (by simp) _).alloc (by simp; omega) _
  have s15 : W15.heap.size = w12.heap.size + 1 + 1 + 1 := by rw [hW15]; simp
  have p15 : W15.heap[w12.heap.size]? = some (.cells (madeCells #[.pointer none] ks.length) 55 (0, 0)) := by rw [hW15]; exact (Below.heap_alloc _ _ _ (by simp; omega)).trans (first_row w12 _ _ _)
  have h15 : W15.heap[w12.heap.size + 1]? = some (.cells (madeCells #[.bool false] ks.length) 4 (0, 0)) := by rw [hW15]; exact (Below.heap_alloc _ _ _ (by simp)).trans (second_row w12 _ _ _)
  have r15 : W15.heap[w12.heap.size + 1 + 1]? = some (.cells (madeCells #[.int .u64 0, .int .i64 0, .pointer none] (ks.length * 3)) 42 (0, 0)) := by
    rw [hW15]
    have e : ((w12.alloc (.cells (madeCells #[.pointer none] ks.length) 55)).alloc (.cells (madeCells #[.bool false] ks.length) 4)).heap.size = w12.heap.size + 1 + 1 := by simp
    rw [← e]; exact Array.getElem?_push_size
  rw [← hW15]
  clear hW15
  have was0 : Was w12.heap.size (w12.heap.size + 1) (w12.heap.size + 1 + 1) ks hs bl 0 W15 W15 := ⟨⟨_, p15, size_madeCells _ _, fun q hq => by omega⟩, ⟨_, h15, size_madeCells _ _, fun q hq => by omega⟩, ⟨_, r15, size_madeCells _ _, fun q hq => by omega⟩, Kept.refl _ _⟩
  have res15 := R12.out.next b15
  have hks15 : ∀ (i : Nat) (k : Int), ks[i]? = some k → W15.cell? ⟨kb, i, none⟩ = some (.int .u32 k) ∧ 0 ≤ k ∧ k ≤ 4294967295 := fun i k hk => ⟨(b15.cell (p := ⟨kb, i, none⟩) (by show kb < _; omega)).trans (HK12.out i k hk).1, (HK12.out i k hk).2⟩
  have hbl15 : ∀ b ∈ bl, b < w12.heap.size := fun b hb => by
    obtain ⟨j, hj⟩ := List.getElem?_of_mem hb
    exact (Array.getElem?_eq_some_iff.1 (R12.out.at_ j b hj).1).1
  refine hK.out _ _ ?_
  clear hK
  refine seq_stop ?_
  intro K16 hK
  refine loop3 _ _ _ _ _ _ _ _ _ _ _ _ _ _ _ _ _ _ _ _ _ _ _ _ _ _ _ _ _ _ _ _ _ _ _ _ _ _ _ _ _ _ _ _ _ _ _ _ _ _ _ _ _ _ _ _ _ _ _ _ _ _ _ _ _ _ _ _ _ _ _ _ _ _ _ _ _ _ _ _ _ _ _ _ _ _ _ _ _ _ _ _ _ _ _ _ _ _ _ _ _ _ _ _ _ _ _ _ _ _ _ _ _ _ _ _ _ _ _ _ _ _ _ _ _ _ _ _ _ _ _ _ _ _ _ _ _ _ _ _ _ _ _ _ _ _ _ _ _ _ _ _ _ _ _ _ _ _ _ _ _ _ _ _ _ _ _ _ _ _ _ _ _ _ _ _ _ _ _ _ _ _ _ _ _ _ _ _ _ _ _ _ _ _ _ _ _ _ _ _ _ _ _ _ _ _ _ _ _ _ _ _ _ _ _ _ _ _ _ _ _ _ _ _ _ _ _ _ _ _ _ _ _ _ _ _ _ _ _ _ _ _ _ _ _ _ _ _ _ _ _ _ _ _ _ _ _ _ _ _ _ _ _ _ _ _ _ _ _ _ _ _ _ _ _ _ _ _ _ _ _ _ _ _ _ _ _ _ _ _ _ _ _ _ _ _ _ _ _ _ _ _ _ _ _ _ _ _ _ _ _ _ _ _ _ _ _ _ _ _ _ _ _ _ _ _ _ _ _ _ _ _ _ _ _ _ _ _ _ _ _ _ kb kcap w10.heap.size w12.heap.size (w12.heap.size + 1) (w12.heap.size + 1 + 1) ks hs bl L _ _ W11 W15 res15 hks15 (by omega) (by omega) (by omega) (by omega) hbl15 (by omega) was0 ?_
  intro u30 u31 u32 u164 u165 u166 u167 u168 u169 u170 u171 u172 u173 u174 u175 u176 u177 u178 u179 u180 u181 u182 u183 u184 u185 u186 u187 u188 u189 u190 u191 u192 u193 u194 w16 was16
  dsimp only
  have sz16 : W15.heap.size ≤ w16.heap.size := was16.kept.size
  have old16 : ∀ q, q < w12.heap.size → w16.heap[q]? = w12.heap[q]? := fun q hq => (was16.kept.block q (by omega) (by simp; omega)).trans (b15.block q hq)
  have m16 : MapIs w16 w10.heap.size L := R12.out.map.of_block (old16 _ (by omega))
  have Was16 := Lib.hid was16
  have Old16 := Lib.hid old16
  have HB15 := Lib.hid hbl15
  have RS15 := Lib.hid res15
  clear was16 old16 hbl15 res15 hks15 was0 p15 h15 r15 b15
  have old4 : ∀ q, q < w4.heap.size → w16.heap[q]? = w4.heap[q]? := fun q hq => (Old16.out q (by omega)).trans ((R12.out.kept.block q (by omega) (by simp; omega)).trans ((B11.out.block q (by omega)).trans (L10.out.block q hq)))
  have n16 : w16.heap[w3.heap.size + 1]? = some (.cells #[.int .u64 0, .int .u64 (v : Int)] 46 (0, 0)) := (old4 _ (by omega)).trans H4.out.2.2.1
  have t16 : w16.heap[w3.heap.size]? = some (.cells #[.int .u64 (at_ % 1000000000), .int .i64 (at_ / 1000000000), .pointer none] 42 (0, 0)) := (old4 _ (by omega)).trans H4.out.2.1
  have x16 : w16.heap[w2.heap.size]? = some (.cells #[.int .u64 0, .int .u64 (lov v), .pointer (some z), .int .u8 33] 37 (0, 0)) := (old4 _ (by omega)).trans H4.out.2.2.2.1
  obtain ⟨go, oc, ocur, eov, hgo, hold⟩ := OwnRt.of_owns (w := w4) (base := w3.heap.size + 1 + 1) (v := ov) (xs := rs.map R3.rt) (by have := H4.out.2.2.2.2.1; simpa using this) H4.out.2.2.2.2.2
  subst eov
  have own16 : OwnRt w16 go oc (rs.map R3.rt) ocur := hold.of_block (old4 go hold.lt)
  have gol : go < w4.heap.size := hold.lt
  have nn0 : w16.cell? ⟨w3.heap.size + 1, 0, none⟩ = some (.int .u64 0) := cell_of_row w16 _ 0 _ _ _ n16
  have nn1 : w16.cell? ⟨w3.heap.size + 1, 1, none⟩ = some (.int .u64 (v : Int)) := cell_of_row w16 _ 1 _ _ _ n16
  have hlk := (lookup_any w16 w10.heap.size L m16 (v : Int)).2
  have N16 := Lib.hid (And.intro n16 (And.intro t16 (And.intro x16 (And.intro own16 old4))))
  clear n16 t16 x16 own16 old4 hold
  refine hK.out _ _ ?_
  clear hK
  refine seq_stop ?_
  intro K17 hK
  go_wp2_with fail
  clear hlk nn0 nn1
  obtain ⟨xs, hxs⟩ : ∃ xs, xs = rs.map R3.rt := ⟨_, rfl⟩
  have hxl : xs.length = rs.length := by rw [hxs]; simp
  have hxok : ∀ r ∈ xs, r.ok := fun r hr => by rw [hxs] at hr; obtain ⟨q, _, rfl⟩ := List.mem_map.1 hr; exact q.rt_ok
  rw [← hxs] at N16 ⊢
  have HXS := Lib.hid (And.intro hxs (And.intro hxl hxok))
  have hx256 : xs.length ≤ 256 := by omega
  clear hxs hxl hxok
  refine hK.out _ _ ?_
  clear hK
  refine seq_stop ?_
  intro K18 hK
  have hmk := fun W => make_any 47 53 Ybad.underlying47 _ 7 56 zr53 xs.length xs.length (Nat.le_refl _) (by omega) (by omega) W
  go_wp2_with fail
  clear hmk
  obtain ⟨W18, hW18⟩ : ∃ W18, W18 = w16.alloc (.cells (madeCells #[.int .u64 0, .int .u64 0, .int .u64 0, .int .u64 0, .int .u64 0, .int .i64 0, .pointer none] (xs.length * 7)) 53) := ⟨_, rfl⟩
  have b18 : Below w16.heap.size w16 W18 := by rw [hW18]; exact (Below.refl _ w16).alloc (Nat.le_refl _) _
  have s18 : W18.heap.size = w16.heap.size + 1 := by rw [hW18]; simp
  have c18 : W18.heap[w16.heap.size]? = some (.cells (madeCells #[.int .u64 0, .int .u64 0, .int .u64 0, .int .u64 0, .int .u64 0, .int .i64 0, .pointer none] (xs.length * 7)) 53 (0, 0)) := by rw [hW18]; exact Array.getElem?_push_size
  rw [← hW18]
  clear hW18
  have own18 : OwnRt W18 go oc xs ocur := N16.out.2.2.2.1.of_block (b18.block go (by omega))
  have hsrc18 : ∀ j u, (flat xs)[j]? = some u → W18.cell? ((⟨go, 0, none⟩ : Addr).add j) = some u := (own18.owns (base := 0) (Nat.zero_le _)).cells rfl
  have hone : ∀ u ∈ flat xs, u.oneCell' = true := fun u hu => by
    simp only [flat, List.mem_flatMap] at hu
    obtain ⟨r, _, hr⟩ := hu
    simp [Rt.cells] at hr
    rcases hr with rfl | rfl | rfl | rfl | rfl | rfl | rfl <;> rfl
  have hcp := fun ty => copy7 W18 w16.heap.size go xs.length xs.length oc _ (flat xs) (flat_len xs) c18 (size_madeCells _ _) hsrc18 hone ty
  have HCP := Lib.hid hcp
  have hcp3 := hcp 3
  refine hK.out _ _ ?_
  clear hK
  refine seq_stop ?_
  intro K19 hK
  go_wp2_with fail
  clear hcp hcp3
  obtain ⟨W19, hW19⟩ : ∃ W19, W19 = W18.setRow w16.heap.size (flat xs).toArray := ⟨_, rfl⟩
  have c19 : W19.heap[w16.heap.size]? = some (.cells (flat xs).toArray 53 (0, 0)) := by rw [hW19]; exact setRow_heap W18 _ _ _ _ _ c18
  have o19 : ∀ q, q < w16.heap.size → W19.heap[q]? = w16.heap[q]? := fun q hq => by rw [hW19, setRow_other _ _ _ _ (by omega)]; exact b18.block q hq
  have s19 : W19.heap.size = w16.heap.size + 1 := by rw [hW19]; simp [World.setRow]; omega
  have f19 : W19.os = w16.os ∧ W19.tape = w16.tape ∧ W19.output = w16.output := by rw [hW19]; exact ⟨b18.os, b18.tape, b18.output⟩
  rw [← hW19]
  clear hW19
  refine hK.out _ _ ?_
  clear hK
  refine seq_stop ?_
  intro K20 hK
  go_wp2_with fail
  obtain ⟨P, hP⟩ : ∃ P : Array Value, P = #[.string ⟨#[]⟩, .string ⟨#[]⟩, .pointer none, .int .u64 0, .int .u64 0, .pointer none, .int .u8 0, .int .i64 32, .int .u64 0, .int .u64 0, .int .u64 0, .int .u64 0, .slice none 0 0, .slice (some ⟨w16.heap.size, 0, none⟩) xs.length xs.length, .map (some w10.heap.size), .map none, .pointer none, .int .i64 occ, .pointer none, .int .i64 0, .pointer none] := ⟨_, rfl⟩
  obtain ⟨W20, hW20⟩ : ∃ W20, W20 = W19.alloc (.cells P 71) := ⟨_, rfl⟩
  have b20 : Below W19.heap.size W19 W20 := by rw [hW20]; exact (Below.refl _ W19).alloc (Nat.le_refl _) _
  have s20 : W20.heap.size = w16.heap.size + 1 + 1 := by rw [hW20]; simp; omega
  have p20 : W20.heap[w16.heap.size + 1]? = some (.cells P 71 (0, 0)) := by rw [hW20, ← s19]; exact Array.getElem?_push_size
  rw [← hP, ← hW20]
  clear hW20
  have o20 : ∀ q, q < w16.heap.size → W20.heap[q]? = w16.heap[q]? := fun q hq => (b20.block q (by omega)).trans (o19 q hq)
  have hpool : Pool W20 (w16.heap.size + 1) P occ w10.heap.size := ⟨p20, by rw [hP]; rfl, by rw [hP]; rfl, by rw [hP]; rfl⟩
  have m20 : MapIs W20 w10.heap.size L := m16.of_block (o20 _ (by omega))
  have old0 : ∀ q, q < w.heap.size → W20.heap[q]? = w.heap[q]? := fun q hq => (o20 q (by omega)).trans ((N16.out.2.2.2.2 q (by omega)).trans (H4.out.1.block q hq))
  have hz2 := hz.two
  have zs20 : Zs z W20 := ⟨(World.cell?_of_block (old0 0 (by omega))).trans hz.z4, (World.cell?_of_block (old0 1 (by omega))).trans hz.z0, by omega⟩
  have x20 : ∀ j, W20.cell? ⟨w2.heap.size, j, none⟩ = (#[.int .u64 0, .int .u64 (lov v), .pointer (some z), .int .u8 33] : Array Value)[j]? := fun j => cell_of_row W20 _ j _ _ _ ((o20 _ (by omega)).trans N16.out.2.2.1)
  have t20 : ∀ j, W20.cell? ⟨w3.heap.size, j, none⟩ = (#[.int .u64 (at_ % 1000000000), .int .i64 (at_ / 1000000000), .pointer none] : Array Value)[j]? := fun j => cell_of_row W20 _ j _ _ _ ((o20 _ (by omega)).trans N16.out.2.1)
  have P13 : P[13]? = some (.slice (some ⟨w16.heap.size, 0, none⟩) xs.length xs.length) := by rw [hP]; rfl
  clear hP
  refine hK.out _ _ ?_
  clear hK
  refine seq_stop ?_
  intro K21 hK
  go_wp2_with (first | (go_at_call 7; refine Hid.out ?_))
  refine Lib.hid ?_
  have own20 : OwnRt W20 w16.heap.size xs.length xs (flat xs).toArray := ⟨(b20.block _ (by omega)).trans c19, rowsIn_of_take (by simp [← flat_len]), by simp [flat_len], Nat.le_refl _, by unfold maxLen; omega⟩
  have hxm : 0 ≤ at_ % 1000000000 ∧ at_ % 1000000000 < 1073741824 := by omega
  have low16 : Below w.heap.size w w16 := (L11.out.trans (RS15.out.kept.below (B := w.heap.size) (by simp; omega) (by omega))).trans (Was16.out.kept.below (B := w.heap.size) (by simp; omega) (by omega))
  have low19 : Below w16.heap.size w16 W19 := ⟨f19.1, f19.2.1, f19.2.2, by omega, o19⟩
  have low20 : Below w.heap.size w W20 := (low16.trans (low19.mono (by omega))).trans (b20.mono (by omega))
  have LOW := Lib.hid low20
  clear low16 low19 low20
  cases hq : getm L (v : Int) with
  | some rb =>
    obtain ⟨j, hj, hjb⟩ : ∃ j, lastIdx ks ks.length (v : Int) = some j ∧ bl[j]? = some rb := by
      have h := R12.out.get (v : Int)
      rw [hq] at h
      cases hl : lastIdx ks ks.length (v : Int) with
      | none => rw [hl] at h; simp at h
      | some j => rw [hl] at h; exact ⟨j, rfl, h.symm⟩
    have hrb : rb < w12.heap.size := HB15.out rb (List.mem_of_getElem? hjb)
    have hr20 : W20.heap[rb]? = some (.cells (resC (heldAt hs j) ((j : Int) + 1)) 57 (0, 0)) := (o20 rb (by omega)).trans ((Old16.out rb hrb).trans (R12.out.at_ j rb hjb).1)
    refine (release_in (w16.heap.size + 1) w10.heap.size rb P (resC (heldAt hs j) ((j : Int) + 1)) occ v hv z (at_ % 1000000000) (at_ / 1000000000) L W20 zs20 hpool m20 (by omega) (by omega) hq hr20 rfl (by omega)).mono ?_
    rintro e w21 ⟨rfl, q1, q2, k21⟩
    have hP17 : 17 < P.size := (Array.getElem?_eq_some_iff.1 hpool.occ).1
    have c17 : w21.cell? ⟨w16.heap.size + 1, 17, none⟩ = some (.int .i64 (wrap64 (occ - 1))) := (cell_of_row w21 _ 17 _ _ _ q1).trans (by rw [Array.getElem?_setIfInBounds_self_of_lt hP17])
    have s21 : W20.heap.size ≤ w21.heap.size := k21.size
    have rbl : W11.heap.size ≤ rb := (R12.out.at_ j rb hjb).2
    have Q := Lib.hid (And.intro q1 (And.intro q2 k21))
    have HJ := Lib.hid (And.intro hj hjb)
    clear q1 q2 k21 hj hjb hr20
    go_wp2_with fail
    refine hK.out _ _ ?_
    clear hK
    refine seq_stop ?_
    intro K22 hK
    go_wp2_with fail
    have o21 : ∀ q, q < w16.heap.size → q ≠ rb → w21.heap[q]? = w16.heap[q]? := fun q hq' hne => (Q.out.2.2.block q (by omega) (by simp; omega)).trans (o20 q hq')
    have hks21 : ∀ (i : Nat) (k : Int), ks[i]? = some k → w21.cell? ⟨kb, i, none⟩ = some (.int .u32 k) ∧ 0 ≤ k ∧ k ≤ 4294967295 := fun i k hk => ⟨(World.cell?_of_block ((o21 kb (by omega) (by omega)).trans (Old16.out kb (by omega)))).trans (HK12.out i k hk).1, (HK12.out i k hk).2⟩
    have hP14 : P[14]? = some (.map (some w10.heap.size)) := hpool.map
    have c14 : w21.cell? ⟨w16.heap.size + 1, 14, none⟩ = some (.map (some w10.heap.size)) := (cell_of_row w21 _ 14 _ _ _ Q.out.1).trans (by rw [Array.getElem?_setIfInBounds_ne (by decide)]; exact hP14)
    have c13 : w21.cell? ⟨w16.heap.size + 1, 13, none⟩ = some (.slice (some ⟨w16.heap.size, 0, none⟩) xs.length xs.length) := (cell_of_row w21 _ 13 _ _ _ Q.out.1).trans (by rw [Array.getElem?_setIfInBounds_ne (by decide)]; exact P13)
    have chk := chk_mk (kb := kb) (pb := w16.heap.size + 1) (nb := w3.heap.size + 1) (tb := w3.heap.size) (v := (v : Int)) R12.out Was16.out hxm hks21 (m16.of_block (o21 _ (by omega) (by omega))) c14 ((o21 _ (by omega) (by omega)).trans N16.out.1) ((o21 _ (by omega) (by omega)).trans N16.out.2.1) (o21 _ (by omega) (by omega)) (o21 _ (by omega) (by omega)) (o21 _ (by omega) (by omega))
      (fun q hqv => by
        obtain ⟨g1, g2, _, _⟩ := R12.out.found q _ hqv
        obtain rfl : rb = fb ks bl q := Option.some.inj (hq.symm.trans g1)
        rw [R12.out.inj _ _ _ g2 HJ.out.2]
        exact Q.out.2.1)
      (fun q k hk hkv => by
        obtain ⟨g1, g2, _, _⟩ := R12.out.found q _ hk
        have hl := HB15.out _ (List.mem_of_getElem? g2)
        refine (o21 _ (by omega) (fun e => ?_)).trans (Old16.out _ hl)
        have ej := R12.out.inj _ _ _ (e ▸ g2) HJ.out.2
        have h1 := (fj_spec ks q k hk)
        have h2 := (lastIdx_lt ks _ _ _ HJ.out.1).2
        rw [← ej, h1.2.2] at h2
        exact hkv (Option.some.inj h2))
    refine hK.out _ _ ?_
    clear hK
    refine seq_stop ?_
    intro K23 hK
    refine loop4 _ _ _ _ _ _ _ _ _ _ _ _ _ _ _ _ _ _ _ _ _ _ _ _ _ _ _ _ _ _ _ _ _ _ _ _ _ _ _ _ _ _ _ _ _ _ _ _ _ _ _ _ _ _ _ _ _ _ _ _ _ _ _ _ _ _ _ _ _ _ _ _ _ _ _ _ _ _ _ _ _ _ _ _ _ _ _ _ _ _ _ _ _ _ _ _ _ _ _ _ _ _ _ _ _ _ _ _ _ _ _ _ _ _ _ _ _ _ _ _ _ _ _ _ _ _ _ _ _ _ _ _ _ _ _ _ _ _ _ _ _ _ _ _ _ _ _ _ _ _ _ _ _ _ _ _ _ _ _ _ _ _ _ _ _ _ _ _ _ _ _ _ _ _ _ _ _ _ _ _ _ _ _ _ _ _ _ _ _ _ _ _ _ _ _ _ _ _ _ _ _ _ _ _ _ _ _ _ _ _ _ _ _ _ _ _ _ _ _ _ _ _ _ _ _ _ _ _ _ _ _ _ _ _ _ _ _ _ _ _ _ _ _ _ _ _ _ _ _ _ _ _ _ _ _ _ _ _ _ _ _ _ _ _ _ _ _ _ _ _ _ _ _ _ _ _ _ _ _ _ _ _ _ _ _ _ _ _ _ _ _ _ _ _ _ _ _ _ _ _ _ _ _ _ _ _ _ _ _ _ _ _ _ _ _ _ _ _ _ _ _ _ _ _ _ _ _ _ _ _ _ _ _ _ _ _ _ _ _ _ kb kcap w10.heap.size (w16.heap.size + 1) (w3.heap.size + 1) w3.heap.size w12.heap.size (w12.heap.size + 1) (w12.heap.size + 1 + 1) _ _ _ ks L _ _ _ _ _ _ w21 chk (by omega) ?_
    intro u14 u37 u38 u39 u40 u223 u224 u225 u226 u227 u228 u229 u230 u231 u232 u233 u234 u235 u236 u237 u238 u239 u240 u241 u242 u243 u244 u245 u246 u247 u248 u249 u250 u251 u252 u253 u254 u255 u256 u257 u258 u259 u260 u261 u262 u263 u264 u265 u266 u267 u268 u269 u270 u271 u272 u273 u274 u275 u276 u277 u278 u279 u280 u281 u282 u283 u284 u285 w23 b23
    dsimp only
    have own23 : OwnRt w23 go oc xs ocur := N16.out.2.2.2.1.of_block ((b23.block go (by omega)).trans (o21 go (by omega) (by omega)))
    have cur23 : OwnRt w23 w16.heap.size xs.length xs (flat xs).toArray := own20.of_block ((b23.block _ (by omega)).trans (Q.out.2.2.block _ (by omega) (by simp; omega)))
    have p13 : w23.cell? ⟨w16.heap.size + 1, 13, none⟩ = some (.slice (some ⟨w16.heap.size, 0, none⟩) xs.length xs.length) := below_cell b23 c13
    have O23 := Lib.hid (And.intro own23 cur23)
    have B23 := Lib.hid b23
    clear chk b23 own23 cur23 c14 c17 c13
    refine hK.out _ _ ?_
    clear hK
    refine seq_stop ?_
    intro K24 hK
    conv => arg 2; whnf
    refine seq_stop ?_
    intro K24a hKa
    go_wp2_with fail
    refine hKa.out _ _ ?_
    clear hKa
    refine wp_cond_true rfl ?_
    refine seq_stop ?_
    intro K24b hKb
    go_wp2_with fail
    refine hKb.out _ _ ?_
    clear hKb
    refine seq_stop ?_
    intro K24c hKc
    refine loop5 _ _ _ _ _ _ _ _ _ _ _ _ _ _ _ _ _ _ _ _ _ _ _ _ _ _ _ _ _ _ _ _ _ _ _ _ _ _ _ _ _ _ _ _ _ _ _ _ _ _ _ _ _ _ _ _ _ _ _ _ _ _ _ _ _ _ _ _ _ _ _ _ _ _ _ _ _ _ _ _ _ _ _ _ _ _ _ _ _ _ _ _ _ _ _ _ _ _ _ _ _ _ _ _ _ _ _ _ _ _ _ _ _ _ _ _ _ _ _ _ _ _ _ _ _ _ _ _ _ _ _ _ _ _ _ _ _ _ _ _ _ _ _ _ _ _ _ _ _ _ _ _ _ _ _ _ _ _ _ _ _ _ _ _ _ _ _ _ _ _ _ _ _ _ _ _ _ _ _ _ _ _ _ _ _ _ _ _ _ _ _ _ _ _ _ _ _ _ _ _ _ _ _ _ _ _ _ _ _ _ _ _ _ _ _ _ _ _ _ _ _ _ _ _ _ _ _ _ _ _ _ _ _ _ _ _ _ _ _ _ _ _ _ _ _ _ _ _ _ _ _ _ _ _ _ _ _ _ _ _ _ _ _ _ _ _ _ _ _ _ _ _ _ _ _ _ _ _ _ _ _ _ _ _ _ _ _ _ _ _ _ _ _ _ _ _ _ _ _ _ _ _ _ _ _ _ _ _ _ _ _ _ _ _ _ _ _ _ _ _ _ _ _ _ _ _ _ _ _ _ _ _ _ _ _ _ _ _ _ _ _ _ _ _ _ (w16.heap.size + 1) w16.heap.size xs.length go oc xs _ _ w23 p13 O23.out.2.read O23.out.1.read HXS.out.2.2 (by omega) ?_
    intro v14 u41 u295 u296 u297 u298 u299 u300 u301 u302 u303 u304 u305 u306 u307 u308 u309 u310 u311 u312 u313 w24 b24
    dsimp only
    have LF : Hid (Below w.heap.size w w24) := Lib.hid (((LOW.out.trans (Q.out.2.2.below (B := w.heap.size) (by simp; omega) (by omega))).trans (B23.out.mono (by omega))).trans (b24.mono (by have := B23.out.size; omega)))
    clear b24
    refine hKc.out _ _ ?_
    clear hKc
    go_wp2_with fail
    go_ret
    exact ⟨rfl, LF.out⟩
  | none =>
    refine (release_out (w16.heap.size + 1) w10.heap.size w16.heap.size xs.length xs (flat xs).toArray P occ v hv z (at_ % 1000000000) (at_ / 1000000000) L W20 zs20 hpool m20 (by omega) (by omega) hq own20 (by omega) HXS.out.2.2 hxm.1 hxm.2 (by omega) P13).mono ?_
    rintro e w21 ⟨rfl, g', cap', cur', ys, y1, y2, y3, y4, y5, y6, k21⟩
    have hP17 : 17 < P.size := (Array.getElem?_eq_some_iff.1 hpool.occ).1
    have c17 : w21.cell? ⟨w16.heap.size + 1, 17, none⟩ = some (.int .i64 (wrap64 (occ - 1))) := (cell_of_row w21 _ 17 _ _ _ y4).trans (by rw [Array.getElem?_setIfInBounds_ne (by decide), Array.getElem?_setIfInBounds_self_of_lt hP17])
    have Y := Lib.hid (And.intro y1 (And.intro y2 (And.intro y3 (And.intro y4 (And.intro y5 (And.intro y6 k21))))))
    have s21 : W20.heap.size ≤ w21.heap.size := k21.size
    clear y1 y2 y3 y4 y5 y6 k21
    go_wp2_with fail
    refine hK.out _ _ ?_
    clear hK
    refine seq_stop ?_
    intro K22 hK
    go_wp2_with fail
    have o21 : ∀ q, q < w16.heap.size → w21.heap[q]? = w16.heap[q]? := fun q hq' => (Y.out.2.2.2.2.2.2.block q (by omega) (by simp; omega)).trans (o20 q hq')
    have hks21 : ∀ (i : Nat) (k : Int), ks[i]? = some k → w21.cell? ⟨kb, i, none⟩ = some (.int .u32 k) ∧ 0 ≤ k ∧ k ≤ 4294967295 := fun i k hk => ⟨(World.cell?_of_block ((o21 kb (by omega)).trans (Old16.out kb (by omega)))).trans (HK12.out i k hk).1, (HK12.out i k hk).2⟩
    have hP14 : P[14]? = some (.map (some w10.heap.size)) := hpool.map
    have c14 : w21.cell? ⟨w16.heap.size + 1, 14, none⟩ = some (.map (some w10.heap.size)) := (cell_of_row w21 _ 14 _ _ _ Y.out.2.2.2.1).trans (by rw [Array.getElem?_setIfInBounds_ne (by decide), Array.getElem?_setIfInBounds_ne (by decide)]; exact hP14)
    have chk := chk_mk (kb := kb) (pb := w16.heap.size + 1) (nb := w3.heap.size + 1) (tb := w3.heap.size) (v := (v : Int)) R12.out Was16.out hxm hks21 (m16.of_block (o21 _ (by omega))) c14 ((o21 _ (by omega)).trans N16.out.1) ((o21 _ (by omega)).trans N16.out.2.1) (o21 _ (by omega)) (o21 _ (by omega)) (o21 _ (by omega)) (fun q hqv => by have := (R12.out.found q _ hqv).1; rw [hq] at this; cases this) (fun q k hk _ => (o21 _ (by have := HB15.out _ (List.mem_of_getElem? (R12.out.found q k hk).2.1); omega)).trans (Old16.out _ (HB15.out _ (List.mem_of_getElem? (R12.out.found q k hk).2.1))))
    refine hK.out _ _ ?_
    clear hK
    refine seq_stop ?_
    intro K23 hK
    refine loop4 _ _ _ _ _ _ _ _ _ _ _ _ _ _ _ _ _ _ _ _ _ _ _ _ _ _ _ _ _ _ _ _ _ _ _ _ _ _ _ _ _ _ _ _ _ _ _ _ _ _ _ _ _ _ _ _ _ _ _ _ _ _ _ _ _ _ _ _ _ _ _ _ _ _ _ _ _ _ _ _ _ _ _ _ _ _ _ _ _ _ _ _ _ _ _ _ _ _ _ _ _ _ _ _ _ _ _ _ _ _ _ _ _ _ _ _ _ _ _ _ _ _ _ _ _ _ _ _ _ _ _ _ _ _ _ _ _ _ _ _ _ _ _ _ _ _ _ _ _ _ _ _ _ _ _ _ _ _ _ _ _ _ _ _ _ _ _ _ _ _ _ _ _ _ _ _ _ _ _ _ _ _ _ _ _ _ _ _ _ _ _ _ _ _ _ _ _ _ _ _ _ _ _ _ _ _ _ _ _ _ _ _ _ _ _ _ _ _ _ _ _ _ _ _ _ _ _ _ _ _ _ _ _ _ _ _ _ _ _ _ _ _ _ _ _ _ _ _ _ _ _ _ _ _ _ _ _ _ _ _ _ _ _ _ _ _ _ _ _ _ _ _ _ _ _ _ _ _ _ _ _ _ _ _ _ _ _ _ _ _ _ _ _ _ _ _ _ _ _ _ _ _ _ _ _ _ _ _ _ _ _ _ _ _ _ _ _ _ _ _ _ _ _ _ _ _ _ _ _ _ _ _ _ _ _ _ _ _ _ _ kb kcap w10.heap.size (w16.heap.size + 1) (w3.heap.size + 1) w3.heap.size w12.heap.size (w12.heap.size + 1) (w12.heap.size + 1 + 1) _ _ _ ks L _ _ _ _ _ _ w21 chk (by omega) ?_
    intro u14 u37 u38 u39 u40 u223 u224 u225 u226 u227 u228 u229 u230 u231 u232 u233 u234 u235 u236 u237 u238 u239 u240 u241 u242 u243 u244 u245 u246 u247 u248 u249 u250 u251 u252 u253 u254 u255 u256 u257 u258 u259 u260 u261 u262 u263 u264 u265 u266 u267 u268 u269 u270 u271 u272 u273 u274 u275 u276 u277 u278 u279 u280 u281 u282 u283 u284 u285 w23 b23
    dsimp only
    have o23 : ∀ q, q < w16.heap.size → w23.heap[q]? = w16.heap[q]? := fun q hq' => (b23.block q (by omega)).trans (o21 q hq')
    have s23' : w21.heap.size ≤ w23.heap.size := b23.size
    have nn0 : w23.cell? ⟨w3.heap.size + 1, 0, none⟩ = some (.int .u64 0) := cell_of_row w23 _ 0 _ _ _ ((o23 _ (by omega)).trans N16.out.1)
    have nn1 : w23.cell? ⟨w3.heap.size + 1, 1, none⟩ = some (.int .u64 (v : Int)) := cell_of_row w23 _ 1 _ _ _ ((o23 _ (by omega)).trans N16.out.1)
    have tt0 : w23.cell? ⟨w3.heap.size, 0, none⟩ = some (.int .u64 (at_ % 1000000000)) := cell_of_row w23 _ 0 _ _ _ ((o23 _ (by omega)).trans N16.out.2.1)
    have tt1 : w23.cell? ⟨w3.heap.size, 1, none⟩ = some (.int .i64 (at_ / 1000000000)) := cell_of_row w23 _ 1 _ _ _ ((o23 _ (by omega)).trans N16.out.2.1)
    have tt2 : w23.cell? ⟨w3.heap.size, 2, none⟩ = some (.pointer none) := cell_of_row w23 _ 2 _ _ _ ((o23 _ (by omega)).trans N16.out.2.1)
    have own23 : OwnRt w23 go oc xs ocur := N16.out.2.2.2.1.of_block (o23 go (by omega))
    have O23 := Lib.hid own23
    have B23 := Lib.hid b23
    clear chk b23 own23 c14 c17
    refine hK.out _ _ ?_
    clear hK
    refine seq_stop ?_
    intro K24 hK
    go_wp2_with fail
    refine hK.out _ _ ?_
    clear hK
    refine seq_stop ?_
    intro K25 hK
    obtain ⟨i0, hi, hz0, hz1, hz2'⟩ := info_parts zr53
    go_wp2_with (at_builtin; refine wpList_append_own_at _ rfl _ _ 47 rfl 0 53 i0 _ 7 56 Ybad.underlying47 hi hz0 hz1 hz2' rfl (by decide) (.slice (some ⟨go, 0, none⟩) xs.length oc) xs.length (flat xs) rfl ((O23.out.owns (Nat.zero_le _)).alloc _) ⟨w23.heap.size, 0, none⟩ 1 1 [.int .u64 0, .int .u64 (v : Int), .int .u64 0, .int .u64 (v : Int), .int .u64 (at_ % 1000000000), .int .i64 (at_ / 1000000000), .pointer none] rfl rfl (World.news_of_block (heap_alloc_new w23 _)) (by simp [Value.oneCell']) (by unfold maxLen; omega) (by omega) (Nat.zero_le _) ?_; intro wv w25 o25 g25 n25 l25; refine Hid.out ?_)
    obtain ⟨ws, hws⟩ : ∃ ws : List Rt, ws = xs ++ [⟨v, v, at_ % 1000000000, at_ / 1000000000⟩] := ⟨_, rfl⟩
    have hwsl : ws.length = xs.length + 1 := by rw [hws]; simp
    have o25' : w25.ownsRow 0 53 7 wv ws.length (flat ws) := by
      rw [hwsl, hws, flat_snoc]; exact o25
    obtain ⟨gw, wc, wcur, ewv, _, own25⟩ := OwnRt.of_owns o25' (fun e => by have := (n25.1 e).2; omega)
    subst ewv
    obtain ⟨y1, y2, y3, y4, y5, y6, k21⟩ := Y.out
    rw [← hws] at y2
    have hgg : g' ≠ go := by rcases y6 with rfl | h <;> omega
    have g'l : g' < w21.heap.size := y5.lt
    have e21 : ∀ q, q < w21.heap.size → q ≠ go → w25.heap[q]? = w21.heap[q]? := fun q hq' hne => (g25.block q (by simp; omega) (by simp [Value.ownBlock]; omega)).trans ((Below.heap_alloc _ _ _ (by omega)).trans (B23.out.block q hq'))
    have s25 : w23.heap.size ≤ w25.heap.size := by have := g25.size; simp at this; omega
    have oy : OwnRt w25 g' cap' ys cur' := y5.of_block (e21 g' g'l hgg)
    have hP13 : 13 < P.size := (Array.getElem?_eq_some_iff.1 P13).1
    have py : w25.cell? ⟨w16.heap.size + 1, 13, none⟩ = some (.slice (some ⟨g', 0, none⟩) ys.length cap') := by
      rw [y1]
      exact (cell_of_row w25 _ 13 _ _ _ ((e21 _ (by omega) (by omega)).trans y4)).trans (by rw [Array.getElem?_setIfInBounds_self_of_lt (by simpa using hP13)])
    have hwok : ∀ r ∈ ws, r.ok := fun r hr => by
      rw [hws] at hr
      rcases List.mem_append.1 hr with h | h
      · exact HXS.out.2.2 r h
      · obtain rfl := List.mem_singleton.1 h
        exact ⟨hxm.1, hxm.2⟩
    have low25 : Below w.heap.size w w25 := ((LOW.out.trans (k21.below (B := w.heap.size) (by simp; omega) (by omega))).trans (B23.out.mono (by omega))).trans ⟨g25.os, g25.tape, g25.output, s25, fun q hq' => (e21 q (by omega) (by omega)).trans ((B23.out.block q (by omega)).symm)⟩
    have hle : (ys.length : Int) = (ws.length : Int) := by omega
    have HL := Lib.hid (And.intro hle hwsl)
    have hwl2 : ws.length ≤ 300 ∧ ys.length ≤ 300 := by omega
    have ogl : g' < w25.heap.size ∧ gw < w25.heap.size := ⟨oy.lt, own25.lt⟩
    have HY := Lib.hid (And.intro y2 (And.intro y3 (And.intro oy.read (And.intro own25.read hwok))))
    have LOW25 := Lib.hid low25
    clear o25 o25' own25 n25 l25 g25 y1 y2 y3 y4 y5 y6 k21 oy hwok low25 e21 hgg g'l hws Y nn0 nn1 tt0 tt1 tt2 hle hwsl
    refine Lib.hid ?_
    go_wp2_with fail
    refine hK.out _ _ ?_
    clear hK
    refine seq_stop ?_
    intro K26 hK
    conv => arg 2; whnf
    refine seq_stop ?_
    intro K26a hKa
    go_wp2_with fail
    refine hKa.out _ _ ?_
    clear hKa
    refine wp_cond_false ?_ ?_
    · conv => lhs; whnf
      exact congrArg Value.bool (by have := HL.out; simp; omega)
    go_wp2_with fail
    refine hK.out _ _ ?_
    clear hK
    refine seq_stop ?_
    intro K27 hK
    refine loop6 _ _ _ _ _ _ _ _ _ _ _ _ _ _ _ _ _ _ _ _ _ _ _ _ _ _ _ _ _ _ _ _ _ _ _ _ _ _ _ _ _ _ _ _ _ _ _ _ _ _ _ _ _ _ _ _ _ _ _ _ _ _ _ _ _ _ _ _ _ _ _ _ _ _ _ _ _ _ _ _ _ _ _ _ _ _ _ _ _ _ _ _ _ _ _ _ _ _ _ _ _ _ _ _ _ _ _ _ _ _ _ _ _ _ _ _ _ _ _ _ _ _ _ _ _ _ _ _ _ _ _ _ _ _ _ _ _ _ _ _ _ _ _ _ _ _ _ _ _ _ _ _ _ _ _ _ _ _ _ _ _ _ _ _ _ _ _ _ _ _ _ _ _ _ _ _ _ _ _ _ _ _ _ _ _ _ _ _ _ _ _ _ _ _ _ _ _ _ _ _ _ _ _ _ _ _ _ _ _ _ _ _ _ _ _ _ _ _ _ _ _ _ _ _ _ _ _ _ _ _ _ _ _ _ _ _ _ _ _ _ _ _ _ _ _ _ _ _ _ _ _ _ _ _ _ _ _ _ _ _ _ _ _ _ _ _ _ _ _ _ _ _ _ _ _ _ _ _ _ _ _ _ _ _ _ _ _ _ _ _ _ _ _ _ _ _ _ _ _ _ _ _ _ _ _ _ _ _ _ _ _ _ _ _ _ _ _ _ _ _ _ _ _ _ _ _ _ _ _ _ _ _ _ _ _ _ _ _ _ _ _ _ _ _ _ (w16.heap.size + 1) g' cap' gw wc ws ys _ _ w25 py HY.out.2.2.1 HY.out.2.2.2.1 ogl.1 ogl.2 HY.out.2.2.2.2 HY.out.2.1 hwl2.1 hwl2.2 HY.out.1 ?_
    intro v14 u44 u330 u331 u332 u333 u334 u335 u336 u337 u338 u339 u340 u341 u342 u343 u344 u345 u346 w27 b27
    dsimp only
    have LF := Lib.hid (LOW25.out.trans (b27.mono (by have := LOW25.out.size; omega)))
    clear b27
    refine hK.out _ _ ?_
    clear hK
    go_wp2_with fail
    go_ret
    exact ⟨rfl, LF.out⟩
end Go.Proofs.YbulkaxysDoor
