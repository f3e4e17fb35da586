/-
  THE TIED CARD OF LawS2460CWrites.
-/
import Derived.Test.YbulkaxxqDoorCards
import Derived.Test.YbulkaxxqDoorTie
import Derived.Test.YbulkaxxqDoorLawC
import Derived.ProofKit
import Derived.SizedLaws
import Derived.OpenShut
import Derived.OpenVars
import Derived.LaidMore
import Derived.LaidSub
import Derived.Lib.LaidTab
import Derived.SevenTiedAt
namespace Go.Proofs.YbulkaxxqDoor
open Go.ChangeShapes Go.WideShapes Go.ChangeAt Go.RowKit
open Go.ChangeMaps (open_string shut_string)

theorem own : ownKnob Ybad.prog.godebug = none := by kernel_rfl
theorem laidOut : laidOutB Ybad.prog = true := by kernel_rfl

/-- ARGS, all at once: below the heap's old size nothing has turned. -/
theorem trodAll_below {H : Type} {enc : TypeId × Value → H} {P : Program} (hl : laidOutB P = true) {W W' : World} (hb : Below W.heap.size W W') :
    ∀ {ts : List TypeId} {vs : List Value} {ds : List (DataW H)} {p : List MemPlace}, (ts.all fun t => P.readableRec t && decide (t < P.types.size)) = true → (∀ x ∈ p, x.block < W.heap.size) →
      DataW.TrodAll enc P W 0 (fun _ => true) true ts vs ds p → DataW.TrodAll enc P W' 0 (fun b => decide (b < W.heap.size)) true ts vs ds p
  | [], vs, ds, p, _, _, h => by
    obtain ⟨rfl, rfl, rfl⟩ := trodAll_nil h
    exact trodAll_mk0
  | t :: ts, vs, ds, p, ht, hp, h => by
    obtain ⟨v0, vs0, d0, ds0, p0, q0, rfl, rfl, rfl, h0, r0⟩ := trodAll_cons h
    simp only [List.all_cons, Bool.and_eq_true, decide_eq_true_eq] at ht
    exact trodAll_cons_mk (Below.trod hl ht.1.1 ht.1.2 h0 hb (fun x hx => hp x (by simp [hx]))) (trodAll_below hl hb (by simpa using ht.2) (fun x hx => hp x (by simp [hx])) r0)

/-- The table of powers, as the row lists it, is the shelf's. -/
theorem tab_datum : (Rows.laid_internal_strconv_uint64pow10 : DataW Unit) = Lib.tabData .u64 Lib.pow10Tab := by kernel_rfl

theorem tab_of_laid {W : World} (h : laidMetH Ybad.prog Rows.lawS2460CWritesRow.laid W) : Lib.TabIs Ybad.prog W pow10Name .u64 Lib.pow10Tab := by
  have h2 := h.filter (fun x => x.1 == pow10Name)
  have e : Rows.lawS2460CWritesRow.laid.filter (fun x => x.1 == pow10Name) = [(pow10Name, Lib.tabData .u64 Lib.pow10Tab)] := by
    rw [← tab_datum]; kernel_rfl
  rw [e, MakeChecks.laidMetH_plain _ _ _ (by kernel_rfl)] at h2
  exact Lib.tabIs_of_head (g := 13) (t := 128) (e := 119) (n := 20) (by kernel_rfl) (by kernel_rfl) (by kernel_rfl) Ybad.underlying119 (by kernel_rfl) (by kernel_rfl) h2

theorem ba_of (s : ByteArray) (l : List UInt8) (h : s.data.toList = l) : s = ⟨l.toArray⟩ := by cases s; subst h; simp

def kwName : String := Rows.lawS2460CWritesRow.named.headD ""

set_option maxRecDepth 100000 in
theorem kw_of_laid {W : World} (h : laidMetH Ybad.prog Rows.lawS2460CWritesRow.laid W) :
    W.cell? ⟨2, 0, none⟩ = some (.string ⟨#[80, 101, 110, 100, 105, 110, 103]⟩) ∧ W.cell? ⟨2, 1, none⟩ = some (.string ⟨#[80, 78]⟩) ∧ 2 < W.heap.size := by
  have h2 := h.filter (fun x => x.1 == kwName)
  have e : Rows.lawS2460CWritesRow.laid.filter (fun x => x.1 == kwName) = [(kwName, Rows.laid_example_com_gatewright_gatewright_kwPending)] := by kernel_rfl
  rw [e, MakeChecks.laidMetH_plain _ _ _ (by kernel_rfl)] at h2
  obtain ⟨ps, ⟨g, t, cs, fuel, p, q, hg, ht, hv, hd, _⟩, _⟩ := h2
  obtain rfl : (2 : Nat) = g := Option.some.inj ((show Ybad.prog.globalNamed kwName = some 2 by kernel_rfl).symm.trans hg)
  obtain rfl : (81 : Nat) = t := Option.some.inj ((show (Ybad.prog.globals[2]?).map (·.type) = some 81 by kernel_rfl).symm.trans ht)
  obtain ⟨y0, y1, n, hx, hlen, k0, k1⟩ := trod_struct2 Ybad.underlying81 hd
  have c81 : Ybad.prog.cellsOf 81 = 2 := by kernel_rfl
  have c9 : Ybad.prog.cellsOf 9 = 1 := by kernel_rfl
  obtain ⟨s0, e0, rfl, _⟩ := DataW.trod_string Ybad.underlying9 k0
  obtain ⟨s1, e1, rfl, _⟩ := DataW.trod_string Ybad.underlying9 k1
  rw [c81] at hlen
  rw [c9] at e0 e1
  have v0 := World.var?_cell hg hv 0
  have v1 := World.var?_cell hg hv 1
  obtain ⟨l⟩ := cs
  match l, hlen, e0, e1 with
  | [a, b], _, e0, e1 =>
    simp at e0 e1 v0 v1
    subst e0 e1
    simp only [Rows.laid_example_com_gatewright_gatewright_kwPending, Prod.mk.injEq, DataW.agg.injEq, List.cons.injEq, DataW.lit.injEq, Lit.string.injEq, and_true] at hx
    obtain ⟨⟨hx0, hx1⟩, _⟩ := hx
    have z0 : s0 = ⟨#[80, 101, 110, 100, 105, 110, 103]⟩ := ba_of s0 _ hx0.symm
    have z1 : s1 = ⟨#[80, 78]⟩ := ba_of s1 _ hx1.symm
    rw [v0, v1, z0, z1]
    exact ⟨rfl, rfl, World.block_lt_of_cell? W _ v0⟩

/-- A slice of bytes that came in, as bytes. -/
theorem open_src {H : Type} {enc : TypeId × Value → H} {W : World} {v : Value} {d : DataW H} {p : List MemPlace} (hok : ∃ a len cap, v = .slice a len cap) (h : DataW.Trod enc Ybad.prog W 0 (fun _ => true) true 22 v d p) :
    ∃ (bs : List UInt8) (ao : Option Addr) (c : Nat), v = .slice ao bs.length c ∧ Src v bs W ∧ bs.length ≤ maxLen := by
  obtain ⟨a0, len, cap, rfl⟩ := hok
  obtain ⟨fuel, hf⟩ := h
  rcases open_ints Ybad.underlying22 Ybad.underlying5 (by kernel_rfl) hf with ⟨hcs, _⟩ | ⟨a, len', cap', zs, hcs, _, hl, hm, hz, _, hcell, hwz⟩
  · simp [Value.cells] at hcs
    obtain ⟨rfl, rfl, rfl⟩ := hcs
    exact ⟨[], none, 0, rfl, Or.inl ⟨rfl, rfl⟩, by simp [maxLen]⟩
  · simp [Value.cells] at hcs
    obtain ⟨rfl, rfl, rfl⟩ := hcs
    simp only [if_true] at hz
    have hlen : ((zs.take len).map fun n => UInt8.ofNat n.toNat).length = len := by simp; omega
    refine ⟨(zs.take len).map fun n => UInt8.ofNat n.toNat, some a, cap, by rw [hlen], Or.inr ⟨a, cap, by rw [hlen], fun j u hj => ?_⟩, by rw [hlen]; omega⟩
    have hj2 : j < len := by
      rcases Nat.lt_or_ge j len with h | h
      · exact h
      · rw [List.getElem?_eq_none (by rw [Lib.byteCells_length, hlen]; exact h)] at hj; cases hj
    have hjz : j < zs.length := by omega
    rw [hcell j hjz]
    have hw := bounds_u8 (hwz zs[j] (List.getElem_mem _))
    have e1 : zs.getD j 0 = zs[j] := by simp [List.getD, hjz]
    have e2 : ((UInt8.ofNat zs[j].toNat).toNat : Int) = zs[j] := by rw [UInt8.toNat_ofNat']; omega
    rw [e1]
    simp [Lib.byteCells, hj2, hjz] at hj
    rw [← hj]
    congr 2
    have e3 : (zs[j].toNat % 256 : Nat) = zs[j].toNat := by omega
    omega

theorem door_met (os : Os) (args : Array Value) : laidMetH Ybad.prog Rows.lawS2460CWritesRow.laid ((World.doorLaid Ybad.prog 96 os).forCall (fun _ _ => 0) ⟨#[], args, []⟩).memory :=
  laidMetH_of_parts3 (fuel := 8) (laidMet_of_run' 8 (by kernel_rfl) (by kernel_rfl)) (by kernel_rfl) (by kernel_rfl)

set_option maxRecDepth 100000 in
theorem lifted (os : Os) (started : os.Started) (H : Type) (enc : TypeId × Value → H) :
    ReturnsInHanded {} Ybad.checked os 5 .any (fun w args => (Rows.lawS2460CWritesSpec.pre enc Ybad.prog Ybad.f5 [] false w args ∧ laidMetH Ybad.prog Rows.lawS2460CWritesRow.laid w) ∧ sizedMet enc Ybad.prog Ybad.f5 (OpenSpec.ofChange Rows.lawS2460CWritesSpec) false w args)
      (Rows.lawS2460CWritesSpec.post enc Ybad.prog Ybad.f5 false true false false) := by
  refine returnsInHanded_of_change_and (C := Ybad.checked) (X := fun w _ => laidMetH Ybad.prog Rows.lawS2460CWritesRow.laid w) (fun _ _ _ hh h => h.of_heap hh) own started (by kernel_rfl) Ybad.func5
    (ChangeSpec.witness_shaped (enc := enc) (C := Ybad.checked) (os := os) (X := fun w _ => laidMetH Ybad.prog Rows.lawS2460CWritesRow.laid w) false (World.doorLaid Ybad.prog 96 os) #[.slice none 0 0, .bool false, .int .i64 0, .bool false, .int .u32 0, .string ⟨#[]⟩] 8 rfl (World.shaped_of_RefB (by kernel_rfl) (by kernel_rfl)) (by kernel_rfl) (by kernel_rfl) (by kernel_rfl) (door_met os _)) ?_
  intro W base args ds gs before hval0 hW _ _ hL _
  have hval : ∀ (j : Nat) t v, Ybad.f5.params[j]? = some t → args[j]? = some v → Value.okWide Ybad.prog W .any base t v := hval0
  have hW' := hW
  obtain ⟨p, q, hA0, hV, rfl, hfz, hnd⟩ := hW
  have hA : DataW.TrodAll enc Ybad.prog W 0 (fun _ => true) true Ybad.f5.params.toList args.toList ds p := hA0
  obtain ⟨pp, hAk, hpp⟩ : ∃ pp, DataW.TrodAll enc Ybad.prog W 0 (fun _ => true) true Ybad.f5.params.toList args.toList ds pp ∧ ∀ x ∈ pp, x.block < W.heap.size := ⟨p, hA, fun x hx => hW'.lt x (List.mem_append_left _ hx)⟩
  rw [Ybad.params5] at hA hval
  obtain ⟨v0, vs0, d0, ds0, p0, q0, hargs, rfl, rfl, h0, r0⟩ := trodAll_cons hA
  obtain ⟨v1, vs1, d1, ds1, p1, q1, rfl, rfl, rfl, h1, r1⟩ := trodAll_cons r0
  obtain ⟨v2, vs2, d2, ds2, p2, q2, rfl, rfl, rfl, h2, r2⟩ := trodAll_cons r1
  obtain ⟨v3, vs3, d3, ds3, p3, q3, rfl, rfl, rfl, h3, r3⟩ := trodAll_cons r2
  obtain ⟨v4, vs4, d4, ds4, p4, q4, rfl, rfl, rfl, h4, r4⟩ := trodAll_cons r3
  obtain ⟨v5, vs5, d5, ds5, p5, q5, rfl, rfl, rfl, h5, r5⟩ := trodAll_cons r4
  obtain ⟨rfl, rfl, rfl⟩ := trodAll_nil r5
  obtain rfl : args = #[v0, v1, v2, v3, v4, v5] := by cases args; simp_all
  obtain ⟨pbs, ao, c, hv0, hsrc, hml⟩ := open_src (okWide_slice Ybad.underlying22 (hval 0 22 v0 rfl rfl)) h0
  obtain ⟨pr, rfl, rfl, rfl⟩ := open_bool Ybad.underlying4 (hval 1 4 v1 rfl rfl) h1
  obtain ⟨d, rfl, rfl, rfl, wd⟩ := open_int Ybad.underlying3 (hval 2 3 v2 rfl rfl) h2
  obtain ⟨f, rfl, rfl, rfl⟩ := open_bool Ybad.underlying4 (hval 3 4 v3 rfl rfl) h3
  obtain ⟨v, rfl, rfl, rfl, wv⟩ := open_int Ybad.underlying36 (hval 4 36 v4 rfl rfl) h4
  obtain ⟨s, rfl, rfl, rfl, ws⟩ := open_string Ybad.underlying9 (hval 5 9 v5 rfl rfl) h5
  clear hA0 hval0
  have walk : Calls Ybad.prog 5 #[v0, .bool pr, .int .i64 d, .bool f, .int .u32 v, .string s] W fun e w' => e = .returned (.bool true) ∧ Below W.heap.size W w' := by
    have bd := bounds_i64 wd
    have bv := bounds_u32 wv
    obtain ⟨vn, rfl⟩ := Int.eq_ofNat_of_zero_le bv.1
    obtain ⟨k0, k1, k2⟩ := kw_of_laid hL
    by_cases hlong : 1024 < pbs.length ∨ 1024 < s.size
    · rw [hv0]
      exact law_long ao pbs.length c pr d f vn s W (by unfold maxLen at hml; omega) hlong
    · cases pr
      · exact law_compact v0 ao c pbs d f vn s W hv0 hsrc (by omega) (by omega) (by omega) (tab_of_laid hL) k0 k1 k2
      · exact law_pretty v0 ao c pbs d f vn s W hv0 hsrc (by omega) (by omega) (by omega) (tab_of_laid hL) k0 k1 k2 bd.1 bd.2
  refine walk.mono fun e W' ⟨he, hb⟩ => ?_
  subst he
  have hVk : DataW.TrodVars enc Ybad.prog W (fun _ => true) Rows.lawS2460CWritesSpec.vars gs q := hV
  obtain ⟨g1, rfl⟩ : ∃ g1, gs = [g1] := by
    obtain ⟨g, t, cs, fuel, d', p', hgs, _⟩ := trodVars_one (n := kwName) hV
    exact ⟨d', hgs⟩
  refine ⟨_, rfl, _, _, _, [], pp, q, hW', ?_, trodAll_below laidOut hb (by kernel_rfl) hpp hAk, Below.trodVars laidOut hb (by kernel_rfl) hVk, hb.frame _, fun h => by cases h⟩
  exact trodAll_cons_mk (shut_bool Ybad.underlying4 _) trodAll_mk0

theorem cwrites_row : Rows.LawS2460CWritesSaid :=
  OpenClaim.holds_of_wide 5 Ybad.f5 rfl rfl rfl rfl rfl rfl rfl ⟨rfl, rfl, rfl, rfl, rfl⟩ rfl rfl rfl rfl rfl (by kernel_rfl) Ybad.func5 (by kernel_rfl)
    (of_decide_eq_true (by kernel_rfl)) (by unfold Func.isWrapper; first | (rw [if_pos (by decide +kernel)]; kernel_rfl) | (rw [if_neg (by decide +kernel)]; exact ⟨rfl, rfl⟩))
    (fun os started H enc _ => lifted os started H enc)

/-- THE CARD. -/
theorem cwrites_card : Rows.LawS2460CWritesCardSaid :=
  Claim7.holds_tied_plain_at .later [] [.data, .data, .data, .wider] true Rows.lawS2460CWritesCard.stood.harness true
    cwrites_row (fun _ h => by cases h) (by kernel_rfl) (fun _ h => by cases h) lawS2460CWrites_row_tie rfl ⟨rfl, rfl⟩ (by kernel_rfl) rfl
    (fun f fn hf hfn => by
      obtain rfl : f = 5 := Option.some.inj ((show Ybad.prog.funcNamed Rows.lawS2460CWritesRow.func = some 5 by kernel_rfl).symm.trans hf) |>.symm
      obtain rfl : fn = Ybad.f5 := (Option.some.inj (Ybad.func5.symm.trans hfn)).symm
      exact ⟨by kernel_rfl, fun j t ht => by
        rw [Ybad.params5] at ht
        have hm : t ∈ [22, 4, 3, 4, 36, 9] := by simpa using Array.mem_of_getElem? ht
        have hall : ([22, 4, 3, 4, 36, 9].all fun u => !Ybad.prog.wantsStandIn u) = true := by kernel_rfl
        exact (show Ybad.prog.wantsStandIn t = false by simpa using List.all_eq_true.1 hall t hm)⟩)
    (by kernel_rfl)
#print axioms cwrites_card
end Go.Proofs.YbulkaxxqDoor
