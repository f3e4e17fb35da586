/-
  THE TOLD AND TIED CARD OF LawS2458CExact.
-/
import Derived.Test.YbulkaxwoFmtCards
import Derived.Test.YbulkaxwoFmtTie
import Derived.Test.YbulkaxwoFmtExWalk
import Derived.ProofKit
import Derived.Stop.JoinedAt
import Derived.Stop.Texts
import Derived.Stop.JoinedTold
import Derived.SizedLaws
import Derived.OpenShut
import Derived.LaidMore
import Derived.Lib.LaidTab
import Derived.Deep.DeepWitnessRef
import Derived.SevenTiedAt
namespace Go.Proofs.YbulkaxwoFmt
open Go.ChangeShapes Go.WideShapes Go.ChangeAt Go.RowKit
open Go.ChangeMaps (open_string shut_string)
open Go.Extern.Stop Go.Stop Go.Extern
namespace Ex

theorem own : ownKnob Ybaf.prog.godebug = none := by kernel_rfl
theorem laidOut : laidOutB Ybaf.pinned.checked.prog = true := by kernel_rfl
theorem stops : Ybaf.pinned.checked.prog.stops = ["fmt.Sprintf", "fmt.errorf"] := by kernel_rfl
theorem stopKnobs : Ybaf.pinned.checked.prog.stopKnobs = [] := by kernel_rfl
theorem quietF (os : Os) : Stop.quiet Ybaf.pinned.checked.prog os := by
  intro k hk
  rw [stopKnobs] at hk
  cases hk

/-- The table of powers, as the row lists it, is the shelf's. -/
theorem tab_datum : (Rows.laid_internal_strconv_uint64pow10 : DataW Unit) = Lib.tabData .u64 Lib.pow10Tab := by kernel_rfl

theorem tab_of_laid {W : World} (h : laidMetH Ybaf.prog Rows.lawS2458CExactRow.laid W) : Lib.TabIs Ybaf.prog W pow10Name .u64 Lib.pow10Tab := by
  have h2 := h.filter (fun x => x.1 == pow10Name)
  have e : Rows.lawS2458CExactRow.laid.filter (fun x => x.1 == pow10Name) = [(pow10Name, Lib.tabData .u64 Lib.pow10Tab)] := by
    rw [← tab_datum]; kernel_rfl
  rw [e, MakeChecks.laidMetH_plain _ _ _ (by kernel_rfl)] at h2
  exact Lib.tabIs_of_head (g := 2) (t := 69) (e := 25) (n := 20) (by kernel_rfl) (by kernel_rfl) (by kernel_rfl) Ybaf.underlying25 (by kernel_rfl) (by kernel_rfl) h2

theorem door_met (os : Os) (args : Array Value) : laidMetH Ybaf.prog Rows.lawS2458CExactRow.laid ((World.doorLaid Ybaf.prog 62 os).forCall (fun _ _ => 0) ⟨#[], args, []⟩).memory :=
  laidMetH_of_parts3 (fuel := 8) (laidMet_of_run' 8 (by kernel_rfl) (by kernel_rfl)) (by kernel_rfl) (by kernel_rfl)

set_option maxRecDepth 100000 in
theorem ex_lifted (os : Os) (started : os.Started) (H : Type) (enc : TypeId × Value → H) :
    ReturnsInTold none {} Ybaf.checked os 6 .any Input.okWide ((OpenSpec.ofChange Rows.lawS2458CExactSpec).preRow enc Ybaf.prog Ybaf.f6 [] false Rows.lawS2458CExactRow.laid) (fun F => ((OpenSpec.ofChange Rows.lawS2458CExactSpec).at F).post enc Ybaf.prog Ybaf.f6 false true false false) (aloneAtReturn Ybaf.prog) nothingAlways := by
  refine returnsInTold_of_row (C := Ybaf.checked) (s := OpenSpec.ofChange Rows.lawS2458CExactSpec) (by kernel_rfl) own started (by kernel_rfl) Ybaf.func6
    (OpenSpec.witness_stopped_atRef (enc := enc) (C := Ybaf.checked) false (World.doorLaid Ybaf.prog 62 os) #[.int .u64 0, .int .u64 0, .int .u64 0, .string ⟨#[]⟩] rfl (by kernel_rfl) (by kernel_rfl) (by kernel_rfl)
      (OpenSpec.preRow_of_B rfl 8 (by kernel_rfl) (by kernel_rfl) (door_met os _))) ?_
  intro F W base args ds gs before _ hF hval0 hW _ _ hsz hL _
  have hval : ∀ (j : Nat) t v, Ybaf.f6.params[j]? = some t → args[j]? = some v → Value.okWide Ybaf.prog W .any base t v := hval0
  have hW' := hW
  obtain ⟨p, q, hA0, hV, rfl, hfz, hnd⟩ := hW
  have hA : DataW.TrodAll enc Ybaf.prog W 0 (fun _ => true) true Ybaf.f6.params.toList args.toList ds p := hA0
  rw [Ybaf.params6] at hA hval
  obtain ⟨v0, vs0, d0, ds0, p0, q0, hargs, rfl, rfl, h0, r0⟩ := trodAll_cons hA
  obtain ⟨v1, vs1, d1, ds1, p1, q1, rfl, rfl, rfl, h1, r1⟩ := trodAll_cons r0
  obtain ⟨v2, vs2, d2, ds2, p2, q2, rfl, rfl, rfl, h2, r2⟩ := trodAll_cons r1
  obtain ⟨v3, vs3, d3, ds3, p3, q3, rfl, rfl, rfl, h3, r3⟩ := trodAll_cons r2
  obtain ⟨rfl, rfl, rfl⟩ := trodAll_nil r3
  obtain rfl : args = #[v0, v1, v2, v3] := by cases args; simp_all
  obtain ⟨rfl, rfl⟩ := trodVars_none hV
  obtain ⟨a, rfl, rfl, rfl, wa⟩ := open_int Ybaf.underlying25 (hval 0 25 v0 rfl rfl) h0
  obtain ⟨b, rfl, rfl, rfl, wb⟩ := open_int Ybaf.underlying25 (hval 1 25 v1 rfl rfl) h1
  obtain ⟨c, rfl, rfl, rfl, wc⟩ := open_int Ybaf.underlying25 (hval 2 25 v2 rfl rfl) h2
  obtain ⟨pre, rfl, rfl, rfl, wp⟩ := open_string Ybaf.underlying9 (hval 3 9 v3 rfl rfl) h3
  clear hA0 hval0
  simp only [List.append_nil] at hW'
  have hlen : pre.data.toList.length ≤ reachBytes := sized_string hsz (j := 3) (t := 9) rfl rfl
  have hr47 := reachBytes_lt
  have hps : pre.size = pre.data.toList.length := rfl
  obtain ⟨hT1, hT⟩ := v_told F a b c wa wb wc
  have htab := tab_of_laid hL
  have walk : Calls Ybaf.prog 6 #[.int .u64 a, .int .u64 b, .int .u64 c, .string pre] W fun e w' => e = .returned (.bool true) ∧ Below W.heap.size W w' := by
    have ba := bounds_u64 wa
    have bb := bounds_u64 wb
    have bc := bounds_u64 wc
    obtain ⟨A, rfl⟩ := Int.eq_ofNat_of_zero_le ba.1
    obtain ⟨B, rfl⟩ := Int.eq_ofNat_of_zero_le bb.1
    obtain ⟨C, rfl⟩ := Int.eq_ofNat_of_zero_le bc.1
    exact exact_walk F.told A B C pre W hF (by omega) (by omega) (by omega) htab (by omega) hT1 hT
  refine walk.mono fun e W' ⟨he, hb⟩ => ?_
  subst he
  refine ⟨_, rfl, _, _, _, [], [], [], hW', ?_, ?_, rfl, hb.frame _, fun h => by cases h⟩
  · exact trodAll_cons_mk (shut_bool Ybaf.underlying4 _) trodAll_mk0
  · exact trodAll_cons_mk (shut_int Ybaf.underlying25 wa) (trodAll_cons_mk (shut_int Ybaf.underlying25 wb) (trodAll_cons_mk (shut_int Ybaf.underlying25 wc) (trodAll_cons_mk (shut_string Ybaf.underlying9 wp) trodAll_mk0)))
end Ex

/-- THE CARD. -/
theorem exact_card : Rows.LawS2458CExactToldSaid :=
  Claim7.holds_of_told_tied_any_at .later 6 Ybaf.f6 "fmt.Sprintf" ["fmt.errorf"] [] _ _ _ _ _ (by kernel_rfl) rfl rfl rfl Ex.laidOut (by kernel_rfl) rfl ⟨rfl, rfl, rfl, rfl, rfl, rfl, rfl⟩ rfl rfl (by kernel_rfl) (by kernel_rfl) Ybaf.func6 (by kernel_rfl)
    (of_decide_eq_true (by kernel_rfl)) (by unfold Func.isWrapper; first | (rw [if_pos (by decide +kernel)]; kernel_rfl) | (rw [if_neg (by decide +kernel)]; exact ⟨rfl, rfl⟩)) Ex.stops.symm rfl Ex.stopKnobs.symm (by kernel_rfl)
    (by kernel_rfl) (by kernel_rfl) (by kernel_rfl) (by kernel_rfl) (by kernel_rfl) (by kernel_rfl) (by kernel_rfl) (by kernel_rfl) (by kernel_rfl) rfl (by kernel_rfl) rfl rfl
    rfl rfl
    rfl (by kernel_rfl) (by kernel_rfl) (by kernel_rfl) (by decide) (by kernel_rfl) lawS2458CExact_row_tie
    (OpenClaim.moreEntering_of (by kernel_rfl) (by kernel_rfl) (by kernel_rfl) (by kernel_rfl) (by kernel_rfl) (by kernel_rfl) (by kernel_rfl) (by kernel_rfl) (by kernel_rfl) (by kernel_rfl))
    ⟨_, WideRow.started_initial, Ex.quietF _⟩
    (fun os started _ H enc _ => Ex.ex_lifted os started H enc)
#print axioms exact_card
end Go.Proofs.YbulkaxwoFmt
