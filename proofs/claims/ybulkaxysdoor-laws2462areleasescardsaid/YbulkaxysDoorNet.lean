/-
  THE WALKS OF net/netip's AND encoding/binary's FUNCTIONS ON THE ROAD; the number of an IPv4 address (23, 18).
-/
import Derived.Test.YbulkaxysDoorCount
import Derived.LaidEqlPtr
import Derived.Lib.Builder
namespace Go.Proofs.YbulkaxysDoor
open Go.RowKit

theorem join (i x y : Nat) (hx : x % 2 ^ i = 0) (hy : y < 2 ^ i) (hX : x < 18446744073709551616) (hY : y < 18446744073709551616) : bits BinOp.or IntKind.u64 (x : Int) (y : Int) = ((x + y : Nat) : Int) := by
  rw [u64_or_nat x y hX hY, nat_join i x y hx hy]

/-- The address of the number v, in netip's low half. -/
def lov (v : Nat) : Int := ((281470681743360 + v : Nat) : Int)

theorem lov_eq (v : Nat) (hv : v < 4294967296) : bits BinOp.or IntKind.u64 (bits BinOp.or IntKind.u64 (bits BinOp.or IntKind.u64 (bits BinOp.or IntKind.u64 281470681743360 (((v / 16777216 : Nat) : Int) * 16777216)) (((v / 65536 % 256 : Nat) : Int) * 65536)) (((v / 256 % 256 : Nat) : Int) * 256)) ((v % 256 : Nat) : Int) = lov v := by
  have e1 : bits BinOp.or IntKind.u64 281470681743360 (((v / 16777216 : Nat) : Int) * 16777216) = ((281470681743360 + v / 16777216 * 16777216 : Nat) : Int) := join 32 281470681743360 (v / 16777216 * 16777216) (by decide) (by omega) (by decide) (by omega)
  rw [e1]
  have e2 : bits BinOp.or IntKind.u64 ((281470681743360 + v / 16777216 * 16777216 : Nat) : Int) (((v / 65536 % 256 : Nat) : Int) * 65536) = ((281470681743360 + v / 16777216 * 16777216 + v / 65536 % 256 * 65536 : Nat) : Int) := join 24 _ (v / 65536 % 256 * 65536) (by omega) (by omega) (by omega) (by omega)
  rw [e2]
  have e3 : bits BinOp.or IntKind.u64 ((281470681743360 + v / 16777216 * 16777216 + v / 65536 % 256 * 65536 : Nat) : Int) (((v / 256 % 256 : Nat) : Int) * 256) = ((281470681743360 + v / 16777216 * 16777216 + v / 65536 % 256 * 65536 + v / 256 % 256 * 256 : Nat) : Int) := join 16 _ (v / 256 % 256 * 256) (by omega) (by omega) (by omega) (by omega)
  rw [e3]
  have e4 : bits BinOp.or IntKind.u64 ((281470681743360 + v / 16777216 * 16777216 + v / 65536 % 256 * 65536 + v / 256 % 256 * 256 : Nat) : Int) ((v % 256 : Nat) : Int) = ((281470681743360 + v / 16777216 * 16777216 + v / 65536 % 256 * 65536 + v / 256 % 256 * 256 + v % 256 : Nat) : Int) := join 8 _ (v % 256) (by omega) (by omega) (by omega) (by omega)
  rw [e4]
  unfold lov
  omega

def b0 (v : Nat) : Int := ((v / 16777216 : Nat) : Int)
def b1 (v : Nat) : Int := ((v / 65536 % 256 : Nat) : Int)
def b2 (v : Nat) : Int := ((v / 256 % 256 : Nat) : Int)
def b3 (v : Nat) : Int := ((v % 256 : Nat) : Int)

theorem info_of {te : TypeId} (h : (Ybad.prog.info? te).isSome = true) : ∃ j, Ybad.prog.info? te = some j := Option.isSome_iff_exists.1 h

/-- '==' on unique handles. -/
theorem eqz (z : Addr) (W : World) : (Op.equalIn 10000 33 (.agg #[.pointer (some z)]) (.agg #[.pointer (some z)])).run Ybad.prog W = .ok true W := by
  have hz : (sizeOf 119).run Ybad.prog W = .ok 2 W := by kernel_rfl
  have h : ∀ d : Nat, (Op.equalIn (d + 1) 31 (.pointer (some z)) (.pointer (some z))).run Ybad.prog W = .ok true W := fun d => by
    simp [Op.equalIn, run_underlying Ybad.underlying31, hz, run_sameAddr_same]
  have hA := run_equalIn_agg (P := Ybad.prog) W 9999 33 #[.pointer (some z)] #[.pointer (some z)] (by kernel_rfl) (by kernel_rfl)
  rw [hA]
  have hf : (Ybad.prog.fieldsOf 33).toList.map (fun f => (f.name, f.type, f.offset)) = [("value", 31, 0)] := by kernel_rfl
  have hp : (part 31 #[.pointer (some z)] 0).run Ybad.prog W = .ok (.pointer (some z)) W := by kernel_rfl
  have hlen : (Ybad.prog.fieldsOf 33).toList.length = 1 := by kernel_rfl
  obtain ⟨f, hl⟩ := List.length_eq_one_iff.1 hlen
  rw [hl] at hf ⊢
  simp at hf
  simp [Op.eqFields, hf, hp, h 9998]
theorem nez (z : Addr) (W : World) : (Op.equalIn 10000 33 (.agg #[.pointer (some z)]) (.agg #[.pointer none])).run Ybad.prog W = .ok false W := by
  kernel_rfl

/-- What the row lists: z4 leads somewhere, z0 is nil. -/
structure Zs (z : Addr) (w : World) : Prop where
  z4 : w.cell? ⟨0, 0, none⟩ = some (.pointer (some z))
  z0 : w.cell? ⟨1, 0, none⟩ = some (.pointer none)
  two : 3 < w.heap.size

theorem Zs.below {z : Addr} {w w' : World} {B : Nat} (h : Zs z w) (hb : Below B w w') (hB : 1 < B) : Zs z w' :=
  ⟨(hb.cell (p := ⟨0, 0, none⟩) (by show 0 < B; omega)).trans h.z4, (hb.cell (p := ⟨1, 0, none⟩) hB).trans h.z0, Nat.lt_of_lt_of_le h.two hb.size⟩

set_option maxHeartbeats 400000 in
/-- AddrFrom4. -/
theorem from5 (v : Nat) (hv : v < 4294967296) (z : Addr) (w : World) (hz : Zs z w) :
    Calls Ybad.prog 5 #[.agg #[.int .u8 (b0 v), .int .u8 (b1 v), .int .u8 (b2 v), .int .u8 (b3 v)]] w fun e w' => e = .returned (.agg #[.int .u64 0, .int .u64 (lov v), .pointer (some z)]) ∧ Below w.heap.size w w' := by
  have hz4 := hz.z4
  have h2 := hz.two
  have g0 : (0 : Nat) < w.heap.size := by omega
  have g1 : (1 : Nat) < w.heap.size := by omega
  have g2 : (0 : Nat) < w.heap.size + 1 := by omega
  have g3 : (1 : Nat) < w.heap.size + 1 := by omega
  have hl := lov_eq v hv
  have i0 : 0 ≤ b0 v ∧ b0 v ≤ 255 := by unfold b0; omega
  have i1 : 0 ≤ b1 v ∧ b1 v ≤ 255 := by unfold b1; omega
  have i2 : 0 ≤ b2 v ∧ b2 v ≤ 255 := by unfold b2; omega
  have i3 : 0 ≤ b3 v ∧ b3 v ≤ 255 := by unfold b3; omega
  change bits BinOp.or IntKind.u64 (bits BinOp.or IntKind.u64 (bits BinOp.or IntKind.u64 (bits BinOp.or IntKind.u64 281470681743360 (b0 v * 16777216)) (b1 v * 65536)) (b2 v * 256)) (b3 v) = lov v at hl
  go_enter Ybad.func5, Ybad.ntmps5
  go_wp2
  exact bodyPost_ret (v := .agg #[.int .u64 0, .int .u64 (lov v), .pointer (some z)]) (by simp [results, Ybad.results5, go_sem]) rfl ⟨rfl, ((Below.refl _ w).alloc (Nat.le_refl _) _).alloc (by simp) _⟩

/-- isZero. -/
theorem isZero11 (a b : Int) (z : Addr) (w : World) (hz : Zs z w) :
    Calls Ybad.prog 11 #[.agg #[.int .u64 a, .int .u64 b, .pointer (some z)]] w fun e w' => e = .returned (.bool false) ∧ Below w.heap.size w w' := by
  have hz0 := hz.z0
  have h2 := hz.two
  have g0 : (0 : Nat) < w.heap.size := by omega
  have g1 : (1 : Nat) < w.heap.size := by omega
  have g2 : (0 : Nat) < w.heap.size + 1 := by omega
  have g3 : (1 : Nat) < w.heap.size + 1 := by omega
  have hn := nez z
  go_enter Ybad.func11, Ybad.ntmps11
  go_wp2
  go_ret
  exact ⟨rfl, (Below.refl _ w).alloc (Nat.le_refl _) _⟩

/-- BitLen. -/
theorem bitLen12 (a b : Int) (z : Addr) (w : World) (hz : Zs z w) :
    Calls Ybad.prog 12 #[.agg #[.int .u64 a, .int .u64 b, .pointer (some z)]] w fun e w' => e = .returned (.int .i64 32) ∧ Below w.heap.size w w' := by
  have hz0 := hz.z0
  have hz4 := hz.z4
  have h2 := hz.two
  have g0 : (0 : Nat) < w.heap.size := by omega
  have g1 : (1 : Nat) < w.heap.size := by omega
  have g2 : (0 : Nat) < w.heap.size + 1 := by omega
  have g3 : (1 : Nat) < w.heap.size + 1 := by omega
  have hn := nez z
  have he := eqz z
  go_enter Ybad.func12, Ybad.ntmps12
  go_wp2
  go_ret
  exact ⟨rfl, (Below.refl _ w).alloc (Nat.le_refl _) _⟩

/-- Is6. -/
theorem is6 (a b : Int) (z : Addr) (w : World) (hz : Zs z w) :
    Calls Ybad.prog 22 #[.agg #[.int .u64 a, .int .u64 b, .pointer (some z)]] w fun e w' => e = .returned (.bool false) ∧ Below w.heap.size w w' := by
  have hz0 := hz.z0
  have hz4 := hz.z4
  have h2 := hz.two
  have g0 : (0 : Nat) < w.heap.size := by omega
  have g1 : (1 : Nat) < w.heap.size := by omega
  have g2 : (0 : Nat) < w.heap.size + 1 := by omega
  have g3 : (1 : Nat) < w.heap.size + 1 := by omega
  have hn := nez z
  have he := eqz z
  go_enter Ybad.func22, Ybad.ntmps22
  go_wp2
  go_ret
  exact ⟨rfl, (Below.refl _ w).alloc (Nat.le_refl _) _⟩

/-- Is4. -/
theorem is4 (a b : Int) (z : Addr) (w : World) (hz : Zs z w) :
    Calls Ybad.prog 26 #[.agg #[.int .u64 a, .int .u64 b, .pointer (some z)]] w fun e w' => e = .returned (.bool true) ∧ Below w.heap.size w w' := by
  have hz4 := hz.z4
  have h2 := hz.two
  have g0 : (0 : Nat) < w.heap.size := by omega
  have g1 : (1 : Nat) < w.heap.size := by omega
  have g2 : (0 : Nat) < w.heap.size + 1 := by omega
  have g3 : (1 : Nat) < w.heap.size + 1 := by omega
  have he := eqz z
  go_enter Ybad.func26, Ybad.ntmps26
  go_wp2
  go_ret
  exact ⟨rfl, (Below.refl _ w).alloc (Nat.le_refl _) _⟩

/-- Prefix.Addr. -/
theorem addr19 (a b : Int) (z : Option Addr) (p : Int) (w : World) :
    Calls Ybad.prog 19 #[.agg #[.int .u64 a, .int .u64 b, .pointer z, .int .u8 p]] w fun e w' => e = .returned (.agg #[.int .u64 a, .int .u64 b, .pointer z]) ∧ Below w.heap.size w w' := by
  go_enter Ybad.func19, Ybad.ntmps19
  go_wp2
  exact bodyPost_ret (v := .agg #[.int .u64 a, .int .u64 b, .pointer z]) (by simp [results, Ybad.results19, go_sem]) rfl ⟨rfl, ((Below.refl _ w).alloc (Nat.le_refl _) _).alloc (by simp) _⟩

theorem keep2 {w w1 : World} {cs ds : Array Value} {T U : TypeId} (hb : Below ((w.alloc (.cells cs T)).alloc (.cells ds U)).heap.size ((w.alloc (.cells cs T)).alloc (.cells ds U)) w1) :
    (∀ j, w1.cell? ⟨w.heap.size, j, none⟩ = cs[j]?) ∧ (∀ j, w1.cell? ⟨w.heap.size + 1, j, none⟩ = ds[j]?) ∧ (∀ j, w1.frozen? ⟨w.heap.size + 1, j, none⟩ = false) ∧ w.heap.size < w1.heap.size ∧ w.heap.size + 1 < w1.heap.size ∧ Below w.heap.size w w1 := by
  have hs := hb.size
  simp at hs
  have e1 := (hb.block w.heap.size (by simp; omega)).trans (first_row w cs T _)
  have e2 := (hb.block (w.heap.size + 1) (by simp)).trans (second_row w _ ds U)
  refine ⟨fun j => cell_of_row w1 _ j _ _ _ e1, fun j => cell_of_row w1 _ j _ _ _ e2, fun j => by simp [World.frozen?, e2], by omega, by omega, ?_⟩
  exact (((Below.refl _ w).alloc (Nat.le_refl _) _).alloc (by simp) _).trans (hb.mono (by simp; omega))

/-- withoutZone. -/
theorem without13 (a b : Int) (z : Addr) (w : World) (hz : Zs z w) :
    Calls Ybad.prog 13 #[.agg #[.int .u64 a, .int .u64 b, .pointer (some z)]] w fun e w' => e = .returned (.agg #[.int .u64 a, .int .u64 b, .pointer (some z)]) ∧ Below w.heap.size w w' := by
  have h2 := hz.two
  go_enter Ybad.func13, Ybad.ntmps13
  go_wp2_with (first | (go_at_call 22; refine Hid.out ?_))
  refine Lib.hid ?_
  refine (is6 a b z _ (hz.below (((Below.refl _ w).alloc (Nat.le_refl _) _).alloc (by simp) _) (by omega))).mono ?_
  rintro e w1 ⟨rfl, hb2⟩
  obtain ⟨r0, r1, f1, s0, s1, hlow⟩ := keep2 hb2
  clear hb2
  go_wp2
  exact bodyPost_ret (v := .agg #[.int .u64 a, .int .u64 b, .pointer (some z)]) (by simp [results, Ybad.results13, go_sem, r1]) rfl ⟨rfl, ((hlow.setCell (by simp) _).setCell (by simp) _).setCell (by simp) _⟩

set_option maxHeartbeats 1000000 in
/-- PrefixFrom, of 32 bits. -/
theorem prefix4 (a b : Int) (z : Addr) (w : World) (hz : Zs z w) :
    Calls Ybad.prog 4 #[.agg #[.int .u64 a, .int .u64 b, .pointer (some z)], .int .i64 32] w fun e w' => e = .returned (.agg #[.int .u64 a, .int .u64 b, .pointer (some z), .int .u8 33]) ∧ Below w.heap.size w w' := by
  have h2 := hz.two
  go_enter Ybad.func4, Ybad.ntmps4
  go_wp2_with (first | (go_at_call 11; refine Hid.out ?_))
  refine Lib.hid ?_
  have hz1 := hz.below (((Below.refl _ w).alloc (Nat.le_refl _) (.cells #[.int .u64 a, .int .u64 b, .pointer (some z)] 35)).alloc (by simp) (.cells #[.int .u64 0, .int .u64 0, .pointer none, .int .u8 0] 37)) (by omega)
  refine (isZero11 a b z _ hz1).mono ?_
  rintro e w1 ⟨rfl, hb1⟩
  have k := keep2 hb1
  have hz2 : Zs z w1 := hz1.below hb1 (by simp)
  obtain ⟨r0, r1, f1, s0, s1, hlow⟩ := k
  go_wp2_with (first | (go_at_call 12; refine Hid.out ?_))
  refine Lib.hid ?_
  refine (bitLen12 a b z _ hz2).mono ?_
  rintro e w2 ⟨rfl, hb2⟩
  clear r0 r1 f1 s0 s1 hlow
  have hb12 := hb1.trans (hb2.mono hb1.size)
  obtain ⟨r0, r1, f1, s0, s1, hlow⟩ := keep2 hb12
  have hz3 : Zs z w2 := hz1.below hb12 (by simp)
  go_wp2_with (first | (go_at_call 13; refine Hid.out ?_))
  refine Lib.hid ?_
  refine (without13 a b z _ hz3).mono ?_
  rintro e w3 ⟨rfl, hb3⟩
  clear r0 r1 f1 s0 s1 hlow
  have hb13 := hb12.trans (hb3.mono hb12.size)
  obtain ⟨r0, r1, f1, s0, s1, hlow⟩ := keep2 hb13
  clear hb1 hb2 hb3 hb12 hb13
  go_wp2
  exact bodyPost_ret (v := .agg #[.int .u64 a, .int .u64 b, .pointer (some z), .int .u8 33]) (by simp [results, Ybad.results4, go_sem, r1]) rfl ⟨rfl, (((hlow.setCell (by simp) _).setCell (by simp) _).setCell (by simp) _).setCell (by simp) _⟩
end Go.Proofs.YbulkaxysDoor
