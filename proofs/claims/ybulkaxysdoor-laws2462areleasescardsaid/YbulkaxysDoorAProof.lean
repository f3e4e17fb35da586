/-
  THE TIED CARD OF LawS2462AReleases.
-/
import Derived.Test.YbulkaxysDoorCards
import Derived.Test.YbulkaxysDoorTie
import Derived.Test.YbulkaxysDoorLaw
import Derived.Test.YbulkaxysDoorLong
import Derived.Test.YbulkaxysDoorOpen
import Derived.ProofKit
import Derived.SizedLaws
import Derived.OpenShut
import Derived.OpenVars
import Derived.Lay
import Derived.LaidMore
import Derived.LaidSub
import Derived.SevenTiedAt
namespace Go.Proofs.YbulkaxysDoor
open Go.ChangeShapes Go.WideShapes Go.ChangeAt Go.RowKit

theorem own : ownKnob Ybad.prog.godebug = none := by kernel_rfl
theorem laidOut : laidOutB Ybad.prog = true := by kernel_rfl

/-- ARGS, all at once: below the heap's old size nothing has turned. -/
theorem trodAll_below {H : Type} {enc : TypeId × Value → H} {P : Program} (hl : laidOutB P = true) {W W' : World} (hb : Below W.heap.size W W') :
    ∀ {ts : List TypeId} {vs : List Value} {ds : List (DataW H)} {p : List MemPlace}, (ts.all fun t => P.readableRec t && decide (t < P.types.size)) = true → (∀ x ∈ p, x.block < W.heap.size) →
      DataW.TrodAll enc P W 0 (fun _ => true) true ts vs ds p → DataW.TrodAll enc P W' 0 (fun b => decide (b < W.heap.size)) true ts vs ds p
  | [], vs, ds, p, _, _, h => by
    obtain ⟨rfl, rfl, rfl⟩ := trodAll_nil h
    exact trodAll_mk0
  | t :: ts, vs, ds, p, ht, hp, h => by
    obtain ⟨v0, vs0, d0, ds0, p0, q0, rfl, rfl, rfl, h0, r0⟩ := trodAll_cons h
    simp only [List.all_cons, Bool.and_eq_true, decide_eq_true_eq] at ht
    exact trodAll_cons_mk (Below.trod hl ht.1.1 ht.1.2 h0 hb (fun x hx => hp x (by simp [hx]))) (trodAll_below hl hb (by simpa using ht.2) (fun x hx => hp x (by simp [hx])) r0)

/-- The law, whatever the arguments. -/
theorem law_any (v occ at_ : Int) (hv : 0 ≤ v ∧ v ≤ 4294967295) (hat : -9223372036854775808 ≤ at_ ∧ at_ ≤ 9223372036854775807) (ao : Option Addr) (rs : List R3) (rc : Nat) (ko : Option Addr) (kl : List Int) (kc : Nat) (ho : Option Addr) (hs : List Bool) (hc : Nat) (sel : Bool) (z : Addr) (w : World) (hz : Zs z w)
    (hsrc : SrcR w ao rs) (hok : ∀ r ∈ rs, r.ok) (hab : ∀ a, ao = some a → a.block < w.heap.size)
    (hkey : ∀ (i : Nat) (k : Int), kl[i]? = some k → ∃ b o, ko = some ⟨b, o, none⟩ ∧ b < w.heap.size ∧ w.cell? ⟨b, o + i, none⟩ = some (.int .u32 k)) (hkn : ko = none → kl = [] ∧ kc = 0) (hkb_ : ∀ k ∈ kl, 0 ≤ k ∧ k ≤ 4294967295) (hheld : SrcB w ho hs) (hhl : ∀ a, ho = some a → a.block < w.heap.size) :
    Calls Ybad.prog 3 #[.int .u32 v, .int .i64 occ, .int .i64 at_, .slice ao rs.length rc, .slice ko kl.length kc, .slice ho hs.length hc, .bool sel] w fun e w' => e = .returned (.bool true) ∧ Below w.heap.size w w' := by
  by_cases h : 256 < rs.length ∨ 256 < kl.length ∨ 256 < hs.length
  · exact law_long v occ at_ ao _ rc ko _ kc ho _ hc sel w h
  · obtain ⟨n, rfl⟩ : ∃ n : Nat, v = (n : Int) := ⟨v.toNat, by omega⟩
    exact law_a n (by omega) occ at_ hat ao rs rc ko kl kc ho hs hc sel z w hz (by omega) (by omega) (by omega) hsrc hok hab hkey hkn hkb_ hheld hhl

theorem door_met (os : Os) (args : Array Value) : laidMetH Ybad.prog Rows.lawS2462AReleasesRow.laid ((World.laidAll Ybad.prog os Rows.lawS2462AReleasesRow.laid).forCall (fun _ _ => 0) ⟨#[], args, []⟩).memory := by
  rw [MakeChecks.laidMetH_plain _ _ _ (by kernel_rfl)]
  exact laidMet_laidAll _ (by kernel_rfl) (by kernel_rfl)

set_option maxRecDepth 100000 in
theorem lifted (os : Os) (started : os.Started) (H : Type) (enc : TypeId × Value → H) :
    ReturnsInHanded {} Ybad.checked os 3 .any (fun w args => (Rows.lawS2462AReleasesSpec.pre enc Ybad.prog Ybad.f3 [] false w args ∧ laidMetH Ybad.prog Rows.lawS2462AReleasesRow.laid w) ∧ sizedMet enc Ybad.prog Ybad.f3 (OpenSpec.ofChange Rows.lawS2462AReleasesSpec) false w args)
      (Rows.lawS2462AReleasesSpec.post enc Ybad.prog Ybad.f3 false true false false) := by
  refine returnsInHanded_of_change_and (C := Ybad.checked) (X := fun w _ => laidMetH Ybad.prog Rows.lawS2462AReleasesRow.laid w) (fun _ _ _ hh h => h.of_heap hh) own started (by kernel_rfl) Ybad.func3
    (ChangeSpec.witness_shaped (enc := enc) (C := Ybad.checked) (os := os) (X := fun w _ => laidMetH Ybad.prog Rows.lawS2462AReleasesRow.laid w) false (World.laidAll Ybad.prog os Rows.lawS2462AReleasesRow.laid) #[.int .u32 0, .int .i64 0, .int .i64 0, .slice none 0 0, .slice none 0 0, .slice none 0 0, .bool false] 8 rfl (World.shaped_of_ZipB (by kernel_rfl) (by kernel_rfl)) (by kernel_rfl) (by kernel_rfl) (by kernel_rfl) (door_met os _)) ?_
  intro W base args ds gs before hval0 hW _ _ hL _
  have hval : ∀ (j : Nat) t v, Ybad.f3.params[j]? = some t → args[j]? = some v → Value.okWide Ybad.prog W .any base t v := hval0
  have hW' := hW
  obtain ⟨p, q, hA0, hV, rfl, hfz, hnd⟩ := hW
  have hA : DataW.TrodAll enc Ybad.prog W 0 (fun _ => true) true Ybad.f3.params.toList args.toList ds p := hA0
  obtain ⟨pp, hAk, hpp⟩ : ∃ pp, DataW.TrodAll enc Ybad.prog W 0 (fun _ => true) true Ybad.f3.params.toList args.toList ds pp ∧ ∀ x ∈ pp, x.block < W.heap.size := ⟨p, hA, fun x hx => hW'.lt x (List.mem_append_left _ hx)⟩
  rw [Ybad.params3] at hA hval
  obtain ⟨v0, vs0, d0, ds0, p0, q0, hargs, rfl, rfl, h0, r0⟩ := trodAll_cons hA
  obtain ⟨v1, vs1, d1, ds1, p1, q1, rfl, rfl, rfl, h1, r1⟩ := trodAll_cons r0
  obtain ⟨v2, vs2, d2, ds2, p2, q2, rfl, rfl, rfl, h2, r2⟩ := trodAll_cons r1
  obtain ⟨v3, vs3, d3, ds3, p3, q3, rfl, rfl, rfl, h3, r3⟩ := trodAll_cons r2
  obtain ⟨v4, vs4, d4, ds4, p4, q4, rfl, rfl, rfl, h4, r4⟩ := trodAll_cons r3
  obtain ⟨v5, vs5, d5, ds5, p5, q5, rfl, rfl, rfl, h5, r5⟩ := trodAll_cons r4
  obtain ⟨v6, vs6, d6, ds6, p6, q6, rfl, rfl, rfl, h6, r6⟩ := trodAll_cons r5
  obtain ⟨rfl, rfl, rfl⟩ := trodAll_nil r6
  obtain rfl : args = #[v0, v1, v2, v3, v4, v5, v6] := by cases args; simp_all
  obtain ⟨v, rfl, rfl, rfl, wv⟩ := open_int Ybad.underlying22 (hval 0 22 v0 rfl rfl) h0
  obtain ⟨occ, rfl, rfl, rfl, _⟩ := open_int Ybad.underlying3 (hval 1 3 v1 rfl rfl) h1
  obtain ⟨at_, rfl, rfl, rfl, wat⟩ := open_int Ybad.underlying2 (hval 2 2 v2 rfl rfl) h2
  obtain ⟨ao, rs, rc, rfl, hsrc, hok, hab⟩ := open_rests (hval 3 23 v3 rfl rfl) h3
  obtain ⟨ko, kl, kc, rfl, hkey, hkn, hkb⟩ := open_keys (hval 4 24 v4 rfl rfl) h4
  obtain ⟨ho, hs, hc, rfl, hheld, hhl⟩ := open_held (hval 5 25 v5 rfl rfl) h5
  obtain ⟨sel, rfl, rfl, rfl⟩ := open_bool Ybad.underlying4 (hval 6 4 v6 rfl rfl) h6
  clear hA0 hval0
  obtain ⟨z, hz⟩ := zs_of_laid hL
  have walk := law_any v occ at_ (bounds_u32 wv) (bounds_i64 wat) ao rs rc ko kl kc ho hs hc sel z W hz hsrc hok hab hkey hkn hkb hheld hhl
  refine walk.mono fun e W' ⟨he, hb⟩ => ?_
  subst he
  have hVk : DataW.TrodVars enc Ybad.prog W (fun _ => true) Rows.lawS2462AReleasesSpec.vars gs q := hV
  obtain ⟨rfl, _⟩ := trodVars_none hVk
  refine ⟨_, rfl, _, _, _, [], pp, q, hW', ?_, trodAll_below laidOut hb (by kernel_rfl) hpp hAk, Below.trodVars laidOut hb (by kernel_rfl) hVk, hb.frame _, fun h => by cases h⟩
  exact trodAll_cons_mk (shut_bool Ybad.underlying4 _) trodAll_mk0

theorem areleases_row : Rows.LawS2462AReleasesSaid :=
  OpenClaim.holds_of_wide 3 Ybad.f3 rfl rfl rfl rfl rfl rfl rfl ⟨rfl, rfl, rfl, rfl, rfl⟩ rfl rfl rfl rfl rfl (by kernel_rfl) Ybad.func3 (by kernel_rfl)
    (of_decide_eq_true (by kernel_rfl)) (by unfold Func.isWrapper; first | (rw [if_pos (by decide +kernel)]; kernel_rfl) | (rw [if_neg (by decide +kernel)]; exact ⟨rfl, rfl⟩))
    (fun os started H enc _ => lifted os started H enc)

/-- THE CARD. -/
theorem areleases_card : Rows.LawS2462AReleasesCardSaid :=
  Claim7.holds_tied_plain_at .later [] [.called, .called, .zero] true Rows.lawS2462AReleasesCard.stood.harness true
    areleases_row (fun _ h => by cases h) (by kernel_rfl) (fun _ h => by cases h) lawS2462AReleases_row_tie rfl ⟨rfl, rfl⟩ (by kernel_rfl) rfl
    (fun f fn hf hfn => by
      obtain rfl : f = 3 := Option.some.inj ((show Ybad.prog.funcNamed Rows.lawS2462AReleasesRow.func = some 3 by kernel_rfl).symm.trans hf) |>.symm
      obtain rfl : fn = Ybad.f3 := (Option.some.inj (Ybad.func3.symm.trans hfn)).symm
      exact ⟨by kernel_rfl, fun j t ht => by
        rw [Ybad.params3] at ht
        have hm : t ∈ [22, 3, 2, 23, 24, 25, 4] := by simpa using Array.mem_of_getElem? ht
        have hall : ([22, 3, 2, 23, 24, 25, 4].all fun u => !Ybad.prog.wantsStandIn u) = true := by kernel_rfl
        exact (show Ybad.prog.wantsStandIn t = false by simpa using List.all_eq_true.1 hall t hm)⟩)
    (by kernel_rfl)
#print axioms areleases_card
end Go.Proofs.YbulkaxysDoor
