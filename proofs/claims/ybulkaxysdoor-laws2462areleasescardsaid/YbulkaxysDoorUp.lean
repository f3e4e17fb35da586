/-
  container/heap.up (25) on *resting, through the interface.
-/
import Derived.Test.YbulkaxysDoorSwap
namespace Go.Proofs.YbulkaxysDoor
open Go.RowKit

theorem load62 (a : Addr) (v : Value) (w : World) (h : w.cell? a = some v) : (loadVar 62 a).run Ybad.prog w = .ok v w := by
  have hg : (isAgg 62).run Ybad.prog w = .ok false w := by kernel_rfl
  simp [loadVar, hg, go_sem, h]

theorem wrapchk (s t : String) (a : Addr) (w : World) : (Builtin.ssaWrapNilChk_ #[84] 84 #[.pointer (some a), strVal s, strVal t]).run Ybad.prog w = .ok (.pointer (some a)) w := by kernel_rfl

/-- A value method of resting, asked of a *resting. -/
theorem meth_row (name : String) (f : FuncId) (a : Addr) (v : Value) (w : World)
    (hrow : ((Ybad.prog.info? 84).bind fun i => i.methods.find? (·.name == name)).map (fun m => (m.path.toList.isEmpty, m.func)) = some (true, some (f, false)))
    (h : w.cell? a = some v) : (method 257 84 (.pointer (some a)) name).run Ybad.prog w = .ok (f, v) w := by
  cases hi : Ybad.prog.info? 84 with
  | none => simp [hi] at hrow
  | some i =>
    simp only [hi, Option.bind_some] at hrow
    cases hm : i.methods.find? (·.name == name) with
    | none => simp [hm] at hrow
    | some m =>
      simp only [hm, Option.map_some, Option.some.injEq, Prod.mk.injEq] at hrow
      have hpe : m.path = #[] := by
        have hp : m.path.toList = [] := List.isEmpty_iff.1 hrow.1
        cases hq : m.path with
        | mk l => rw [hq] at hp; simp at hp; rw [hp]
      have hv := load62 a v w h
      show (method (256 + 1) 84 (.pointer (some a)) name).run Ybad.prog w = _
      unfold method
      simp [typeInfo, hi, hm, hrow.2, follow, receiverAt, run_underlying Ybad.underlying84, Place.get, hpe, wrapchk, asAddr, hv]

theorem meth_len (a : Addr) (v : Value) (w : World) (h : w.cell? a = some v) : (method 257 84 (.pointer (some a)) "Len").run Ybad.prog w = .ok (66, v) w := meth_row "Len" 66 a v w (by kernel_rfl) h
theorem meth_less (a : Addr) (v : Value) (w : World) (h : w.cell? a = some v) : (method 257 84 (.pointer (some a)) "Less").run Ybad.prog w = .ok (67, v) w := meth_row "Less" 67 a v w (by kernel_rfl) h
theorem meth_swap (a : Addr) (v : Value) (w : World) (h : w.cell? a = some v) : (method 257 84 (.pointer (some a)) "Swap").run Ybad.prog w = .ok (68, v) w := meth_row "Swap" 68 a v w (by kernel_rfl) h
theorem meth_push (a : Addr) (w : World) : (method 257 84 (.pointer (some a)) "Push").run Ybad.prog w = .ok (74, .pointer (some a)) w := by kernel_rfl

set_option maxRecDepth 100000 in
set_option maxHeartbeats 4000000 in
/-- up. -/
theorem up25 (pb g cap j0 : Nat) (xs : List Rt) (cur : Array Value) (w : World) (h : OwnRt w g cap xs cur) (hok : ∀ r ∈ xs, r.ok) (hn : xs.length ≤ 1000) (hj0 : j0 < xs.length) (hne : pb ≠ g)
    (hs : w.cell? ⟨pb, 13, none⟩ = some (.slice (some ⟨g, 0, none⟩) xs.length cap)) :
    Calls Ybad.prog 25 #[.iface 84 (.pointer (some ⟨pb, 13, none⟩)), .int .i64 (j0 : Int)] w fun e w' => e = .returned (.tuple #[]) ∧ ∃ ys cur', ys.length = xs.length ∧ (∀ e, countEq ys e = countEq xs e) ∧ (∀ r ∈ ys, r.ok) ∧ OwnRt w' g cap ys cur' ∧ Kept [g] w w' := by
  have hp := World.block_lt_of_cell? w _ hs
  go_enter Ybad.func25, Ybad.ntmps25
  go_wp2_with fail
  go_loopw [1, 4] (fun sj _ wr => ∃ (j : Nat) (ys : List Rt) (cur' : Array Value), sj = .int .i64 (j : Int) ∧ j < xs.length ∧ ys.length = xs.length ∧ (∀ e, countEq ys e = countEq xs e) ∧ (∀ r ∈ ys, r.ok) ∧ OwnRt wr g cap ys cur' ∧ Kept [g] w wr) (fun sj _ _ => (intOf sj).toNat)
  case atStart => exact ⟨j0, xs, cur, rfl, hj0, rfl, fun _ => rfl, hok, h, Kept.refl _ _⟩
  case round =>
    obtain ⟨j, ys, cur', rfl, hj, hl, hc, hk, ho, hkept⟩ := hrel
    have hpw : wr.cell? ⟨pb, 13, none⟩ = some (.slice (some ⟨g, 0, none⟩) xs.length cap) := (World.cell?_of_block (hkept.block pb hp (by simpa using hne))).trans hs
    have hpr := World.block_lt_of_cell? wr _ hpw
    by_cases hz : j = 0
    · subst hz
      have e0 : ((0 : Nat) : Int) - 1 = -1 := rfl
      have e1 : (-1 : Int).tdiv 2 = 0 := rfl
      go_wp2_with fail
      go_end0
      exact ⟨rfl, ys, hl, hc, hk, ⟨cur', ho⟩, hkept⟩
    · have e1 : ((j : Int) - 1).tdiv 2 = (((j - 1) / 2 : Nat) : Int) := by
        rw [Int.tdiv_eq_ediv_of_nonneg (by omega)]; omega
      obtain ⟨i, hi⟩ : ∃ i, i = (j - 1) / 2 := ⟨_, rfl⟩
      rw [← hi] at e1
      have hij : i < j := by omega
      clear hi
      have hne2 : ((i : Int) == (j : Int)) = false := by simp; omega
      have hml := meth_less ⟨pb, 13, none⟩ _ wr hpw
      have hgr := ho.lt
      have hless := less67 g cap j i ys hk (by omega) (by omega) wr ho.read hgr
      rw [hl] at hless
      go_wp2_with (first | (go_at_call 67; refine Hid.out ?_))
      refine Lib.hid ?_
      refine hless.mono ?_
      rintro e w2 ⟨⟨q, rfl⟩, hb2⟩
      have k2 : Kept [g] w w2 := hkept.trans (Kept.of_below hb2)
      have ho2 := ho.of_block (hb2.block g hgr)
      clear hless hml
      cases q
      · go_wp2
        go_end0
        exact ⟨rfl, ys, cur', hl, hc, hk, ho2, k2⟩
      · have hpw2 : w2.cell? ⟨pb, 13, none⟩ = some (.slice (some ⟨g, 0, none⟩) xs.length cap) := (World.cell?_of_block (hb2.block pb hpr)).trans hpw
        have hms := meth_swap ⟨pb, 13, none⟩ _ w2 hpw2
        have hswap := swap_any g cap i j ys cur' w2 ho2 hij (by omega)
        rw [hl] at hswap
        clear hpw hpw2
        go_wp2_with (first | (go_at_call 68; refine Hid.out ?_))
        refine Lib.hid ?_
        refine hswap.mono ?_
        rintro e w3 ⟨rfl, zs, cur3, hl3, hc3, hm3, ho3, k3⟩
        clear hswap hms
        go_wp2
        go_roundw
        case rel => exact ⟨i, zs, cur3, rfl, by omega, hl3, fun e => (hc3 e).trans (hc e), fun r hr => hk r (hm3 r hr), ho3, k2.trans k3⟩
        case measure => simp [intOf]; omega
end Go.Proofs.YbulkaxysDoor
