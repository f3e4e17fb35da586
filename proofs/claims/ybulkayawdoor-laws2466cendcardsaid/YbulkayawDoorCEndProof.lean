/-
  THE TIED CARD OF LawS2466CEnd.
-/
import Derived.Test.YbulkayawDoorCards
import Derived.Test.YbulkayawDoorTie
import Derived.Test.YbulkayawDoorLawAll
import Derived.ProofKit
import Derived.SizedLaws
import Derived.OpenShut
import Derived.OpenVars
import Derived.Lay
import Derived.LaidMore
import Derived.LaidSub
import Derived.SevenTiedAt
namespace Go.Proofs.YbulkayawDoor
open Go.ChangeShapes Go.WideShapes Go.ChangeAt Go.RowKit
open Go.ChangeMaps (open_string)

theorem own : ownKnob Ybad.prog.godebug = none := by kernel_rfl
theorem laidOut : laidOutB Ybad.prog = true := by kernel_rfl

/-- ARGS, all at once: below the heap's old size nothing has turned. -/
theorem trodAll_below {H : Type} {enc : TypeId × Value → H} {P : Program} (hl : laidOutB P = true) {W W' : World} (hb : Below W.heap.size W W') :
    ∀ {ts : List TypeId} {vs : List Value} {ds : List (DataW H)} {p : List MemPlace}, (ts.all fun t => P.readableRec t && decide (t < P.types.size)) = true → (∀ x ∈ p, x.block < W.heap.size) →
      DataW.TrodAll enc P W 0 (fun _ => true) true ts vs ds p → DataW.TrodAll enc P W' 0 (fun b => decide (b < W.heap.size)) true ts vs ds p
  | [], vs, ds, p, _, _, h => by
    obtain ⟨rfl, rfl, rfl⟩ := trodAll_nil h
    exact trodAll_mk0
  | t :: ts, vs, ds, p, ht, hp, h => by
    obtain ⟨v0, vs0, d0, ds0, p0, q0, rfl, rfl, rfl, h0, r0⟩ := trodAll_cons h
    simp only [List.all_cons, Bool.and_eq_true, decide_eq_true_eq] at ht
    exact trodAll_cons_mk (Below.trod hl ht.1.1 ht.1.2 h0 hb (fun x hx => hp x (by simp [hx]))) (trodAll_below hl hb (by simpa using ht.2) (fun x hx => hp x (by simp [hx])) r0)

theorem z4_of_laid {W : World} (h : laidMetH Ybad.prog Rows.lawS2466CEndRow.laid W) : ∃ z, W.cell? ⟨1, 0, none⟩ = some (.pointer z) := by
  have h2 : laidMetH Ybad.prog [("net/netip.z4", Rows.laid_net_netip_z4)] W := h
  rw [MakeChecks.laidMetH_plain _ _ _ (by kernel_rfl)] at h2
  obtain ⟨ps, ⟨g, t, cs, fuel, p, q, hg, ht, hv, hd, _⟩, _⟩ := h2
  obtain rfl : (1 : Nat) = g := Option.some.inj ((show Ybad.prog.globalNamed "net/netip.z4" = some 1 by kernel_rfl).symm.trans hg)
  obtain rfl : (104 : Nat) = t := Option.some.inj ((show (Ybad.prog.globals[1]?).map (·.type) = some 104 by kernel_rfl).symm.trans ht)
  obtain ⟨y0, n, hx, hlen, k0⟩ := trod_struct1 Ybad.underlying104 hd
  have c104 : Ybad.prog.cellsOf 104 = 1 := by kernel_rfl
  have c102 : Ybad.prog.cellsOf 102 = 1 := by kernel_rfl
  rw [c104] at hlen
  rw [c102] at k0
  have v0 := World.var?_cell hg hv 0
  obtain ⟨l⟩ := cs
  match l, hlen, k0 with
  | [a], _, k0 =>
    simp at k0 v0
    rcases DataW.trod_pointer Ybad.underlying102 k0 with ⟨e, _⟩ | ⟨b, _, _, _, _, e, _⟩
    · simp at e; subst e; exact ⟨_, v0⟩
    · simp at e; subst e; exact ⟨_, v0⟩

theorem okWide_array {P : Program} {w : World} {r : Reach} {base : Nat} {t : TypeId} {v : Value} {n : Nat} {e : TypeId} (ht : P.underlying t = some (.array n e)) (h : Value.okWide P w r base t v) : ∃ cs, v = .agg cs ∧ cs.size = P.cellsOf t := by
  simp only [Value.okWide, ht] at h
  obtain ⟨cs, h1, h2, _⟩ := h
  exact ⟨cs, h1, h2⟩

theorem six_of (l : List Value) (h : l.length = 6) : ∃ a0 a1 a2 a3 a4 a5, l = [a0, a1, a2, a3, a4, a5] := by
  match l, h with
  | [a0, a1, a2, a3, a4, a5], _ => exact ⟨a0, a1, a2, a3, a4, a5, rfl⟩

set_option maxRecDepth 20000 in
theorem open_six {H : Type} {enc : TypeId × Value → H} {W : World} {r : Reach} {b0 : Nat} {v : Value} {d : DataW H} {p : List MemPlace} (hok : Value.okWide Ybad.prog W r b0 22 v) (h : DataW.Trod enc Ybad.prog W 0 (fun _ => true) true 22 v d p) :
    ∃ x0 x1 x2 x3 x4 x5 : Int, v = .agg #[.int .u8 x0, .int .u8 x1, .int .u8 x2, .int .u8 x3, .int .u8 x4, .int .u8 x5] ∧ (0 ≤ x0 ∧ x0 ≤ 255) ∧ (0 ≤ x1 ∧ x1 ≤ 255) ∧ (0 ≤ x2 ∧ x2 ≤ 255) ∧ (0 ≤ x3 ∧ x3 ≤ 255) ∧ (0 ≤ x4 ∧ x4 ≤ 255) ∧ (0 ≤ x5 ∧ x5 ≤ 255) := by
  obtain ⟨cs, rfl, hsz⟩ := okWide_array Ybad.underlying22 hok
  obtain ⟨fuel, hf⟩ := h
  obtain ⟨xs, m, rfl, hx, hlen, hxl, hi⟩ := DataW.trod_array Ybad.underlying22 hf
  have c5 : Ybad.prog.cellsOf 5 = 1 := by kernel_rfl
  have c22 : Ybad.prog.cellsOf 22 = 6 := by kernel_rfl
  rw [c22] at hsz
  rw [c5] at hi
  obtain ⟨l⟩ := cs
  obtain ⟨a0, a1, a2, a3, a4, a5, rfl⟩ := six_of l hsz
  focus
    have key : ∀ (i : Nat) (a : Value), i < 6 → (([a0, a1, a2, a3, a4, a5] : List Value).drop (i * 1)).take 1 = [a] → ∃ x : Int, a = .int .u8 x ∧ 0 ≤ x ∧ x ≤ 255 := by
      intro i a hlt ha
      have hh := hi i hlt
      have hv : (Value.agg ⟨[a0, a1, a2, a3, a4, a5]⟩).cells.toList = [a0, a1, a2, a3, a4, a5] := rfl
      rw [hv, ha] at hh
      have hs : xs[i]? = some (xs[i]'(by omega)) := List.getElem?_eq_getElem (by omega)
      rw [hs] at hh
      obtain ⟨n, hn, _, hw⟩ := DataW.trod_int Ybad.underlying5 hh
      simp at hn
      exact ⟨n, hn, bounds_u8 hw⟩
    obtain ⟨x0, rfl, b0⟩ := key 0 a0 (by decide) rfl
    obtain ⟨x1, rfl, b1⟩ := key 1 a1 (by decide) rfl
    obtain ⟨x2, rfl, b2⟩ := key 2 a2 (by decide) rfl
    obtain ⟨x3, rfl, b3⟩ := key 3 a3 (by decide) rfl
    obtain ⟨x4, rfl, b4⟩ := key 4 a4 (by decide) rfl
    obtain ⟨x5, rfl, b5⟩ := key 5 a5 (by decide) rfl
    exact ⟨x0, x1, x2, x3, x4, x5, rfl, b0, b1, b2, b3, b4, b5⟩

theorem door_met (os : Os) (args : Array Value) : laidMetH Ybad.prog Rows.lawS2466CEndRow.laid ((World.laidAll Ybad.prog os Rows.lawS2466CEndRow.laid).forCall (fun _ _ => 0) ⟨#[], args, []⟩).memory := by
  rw [MakeChecks.laidMetH_plain _ _ _ (by kernel_rfl)]
  exact laidMet_laidAll _ (by kernel_rfl) (by kernel_rfl)

set_option maxRecDepth 100000 in
theorem lifted (os : Os) (started : os.Started) (H : Type) (enc : TypeId × Value → H) :
    ReturnsInHanded {} Ybad.checked os 3 .any (fun w args => (Rows.lawS2466CEndSpec.pre enc Ybad.prog Ybad.f3 [] false w args ∧ laidMetH Ybad.prog Rows.lawS2466CEndRow.laid w) ∧ sizedMet enc Ybad.prog Ybad.f3 (OpenSpec.ofChange Rows.lawS2466CEndSpec) false w args)
      (Rows.lawS2466CEndSpec.post enc Ybad.prog Ybad.f3 false true false false) := by
  refine returnsInHanded_of_change_and (C := Ybad.checked) (X := fun w _ => laidMetH Ybad.prog Rows.lawS2466CEndRow.laid w) (fun _ _ _ hh h => h.of_heap hh) own started (by kernel_rfl) Ybad.func3
    (ChangeSpec.witness_shaped (enc := enc) (C := Ybad.checked) (os := os) (X := fun w _ => laidMetH Ybad.prog Rows.lawS2466CEndRow.laid w) false (World.laidAll Ybad.prog os Rows.lawS2466CEndRow.laid) #[.agg #[.int .u8 0, .int .u8 0, .int .u8 0, .int .u8 0, .int .u8 0, .int .u8 0], .int .u16 0, .int .u8 0, .int .u8 0, .bool false, .bool false, .string ⟨#[]⟩] 8 rfl (World.shaped_of_ZipB (by kernel_rfl) (by kernel_rfl)) (by kernel_rfl) (by kernel_rfl) (by kernel_rfl) (door_met os _)) ?_
  intro W base args ds gs before hval0 hW _ _ hL _
  have hval : ∀ (j : Nat) t v, Ybad.f3.params[j]? = some t → args[j]? = some v → Value.okWide Ybad.prog W .any base t v := hval0
  have hW' := hW
  obtain ⟨p, q, hA0, hV, rfl, hfz, hnd⟩ := hW
  have hA : DataW.TrodAll enc Ybad.prog W 0 (fun _ => true) true Ybad.f3.params.toList args.toList ds p := hA0
  obtain ⟨pp, hAk, hpp⟩ : ∃ pp, DataW.TrodAll enc Ybad.prog W 0 (fun _ => true) true Ybad.f3.params.toList args.toList ds pp ∧ ∀ x ∈ pp, x.block < W.heap.size := ⟨p, hA, fun x hx => hW'.lt x (List.mem_append_left _ hx)⟩
  rw [Ybad.params3] at hA hval
  obtain ⟨v0, vs0, d0, ds0, p0, q0, hargs, rfl, rfl, h0, r0⟩ := trodAll_cons hA
  obtain ⟨v1, vs1, d1, ds1, p1, q1, rfl, rfl, rfl, h1, r1⟩ := trodAll_cons r0
  obtain ⟨v2, vs2, d2, ds2, p2, q2, rfl, rfl, rfl, h2, r2⟩ := trodAll_cons r1
  obtain ⟨v3, vs3, d3, ds3, p3, q3, rfl, rfl, rfl, h3, r3⟩ := trodAll_cons r2
  obtain ⟨v4, vs4, d4, ds4, p4, q4, rfl, rfl, rfl, h4, r4⟩ := trodAll_cons r3
  obtain ⟨v5, vs5, d5, ds5, p5, q5, rfl, rfl, rfl, h5, r5⟩ := trodAll_cons r4
  obtain ⟨v6, vs6, d6, ds6, p6, q6, rfl, rfl, rfl, h6, r6⟩ := trodAll_cons r5
  obtain ⟨rfl, rfl, rfl⟩ := trodAll_nil r6
  obtain rfl : args = #[v0, v1, v2, v3, v4, v5, v6] := by cases args; simp_all
  obtain ⟨x0, x1, x2, x3, x4, x5, rfl, b0, b1, b2, b3, b4, b5⟩ := open_six (hval 0 22 v0 rfl rfl) h0
  obtain ⟨t, rfl, rfl, rfl, wt⟩ := open_int Ybad.underlying23 (hval 1 23 v1 rfl rfl) h1
  obtain ⟨sl, rfl, rfl, rfl, wsl⟩ := open_int Ybad.underlying5 (hval 2 5 v2 rfl rfl) h2
  obtain ⟨md, rfl, rfl, rfl, wmd⟩ := open_int Ybad.underlying5 (hval 3 5 v3 rfl rfl) h3
  obtain ⟨tm, rfl, rfl, rfl⟩ := open_bool Ybad.underlying4 (hval 4 4 v4 rfl rfl) h4
  obtain ⟨why, rfl, rfl, rfl⟩ := open_bool Ybad.underlying4 (hval 5 4 v5 rfl rfl) h5
  obtain ⟨m, rfl, rfl, rfl, _⟩ := open_string Ybad.underlying9 (hval 6 9 v6 rfl rfl) h6
  clear hA0 hval0
  obtain ⟨z, hz⟩ := z4_of_laid hL
  have bt := bounds_u16 wt
  have walk := law_any x0 x1 x2 x3 x4 x5 t sl md tm why m z W hz bt.1 bt.2 (bounds_u8 wsl) (bounds_u8 wmd) b0 b1 b2 b3 b4 b5
  refine walk.mono fun e W' ⟨he, hb⟩ => ?_
  subst he
  have hVk : DataW.TrodVars enc Ybad.prog W (fun _ => true) Rows.lawS2466CEndSpec.vars gs q := hV
  obtain ⟨rfl, _⟩ := trodVars_none hVk
  refine ⟨_, rfl, _, _, _, [], pp, q, hW', ?_, trodAll_below laidOut hb (by kernel_rfl) hpp hAk, Below.trodVars laidOut hb (by kernel_rfl) hVk, hb.frame _, fun h => by cases h⟩
  exact trodAll_cons_mk (shut_bool Ybad.underlying4 _) trodAll_mk0

theorem cend_row : Rows.LawS2466CEndSaid :=
  OpenClaim.holds_of_wide 3 Ybad.f3 rfl rfl rfl rfl rfl rfl rfl ⟨rfl, rfl, rfl, rfl, rfl⟩ rfl rfl rfl rfl rfl (by kernel_rfl) Ybad.func3 (by kernel_rfl)
    (of_decide_eq_true (by kernel_rfl)) (by unfold Func.isWrapper; first | (rw [if_pos (by decide +kernel)]; kernel_rfl) | (rw [if_neg (by decide +kernel)]; exact ⟨rfl, rfl⟩))
    (fun os started H enc _ => lifted os started H enc)

/-- THE CARD. -/
theorem cend_card : Rows.LawS2466CEndCardSaid :=
  Claim7.holds_tied_plain_at .later [] [.called] true Rows.lawS2466CEndCard.stood.harness true
    cend_row (fun _ h => by cases h) (by kernel_rfl) (fun _ h => by cases h) lawS2466CEnd_row_tie rfl ⟨rfl, rfl⟩ (by kernel_rfl) rfl
    (fun f fn hf hfn => by
      obtain rfl : f = 3 := Option.some.inj ((show Ybad.prog.funcNamed Rows.lawS2466CEndRow.func = some 3 by kernel_rfl).symm.trans hf) |>.symm
      obtain rfl : fn = Ybad.f3 := (Option.some.inj (Ybad.func3.symm.trans hfn)).symm
      exact ⟨by kernel_rfl, fun j t ht => by
        rw [Ybad.params3] at ht
        have hm : t ∈ [22, 23, 5, 5, 4, 4, 9] := by simpa using Array.mem_of_getElem? ht
        have hall : ([22, 23, 5, 5, 4, 4, 9].all fun u => !Ybad.prog.wantsStandIn u) = true := by kernel_rfl
        exact (show Ybad.prog.wantsStandIn t = false by simpa using List.all_eq_true.1 hall t hm)⟩)
    (by kernel_rfl)
#print axioms cend_card
end Go.Proofs.YbulkayawDoor
