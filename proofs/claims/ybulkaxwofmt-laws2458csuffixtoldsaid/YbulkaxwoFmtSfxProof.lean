/-
  THE TOLD CARD OF LawS2458CSuffix (after the guide's LabelTold.lean and HexbadSeven.lean, turned to this program).
-/
import Derived.Test.YbulkaxwoFmtCards
import Derived.Test.YbulkaxwoFmtText
import Derived.ProofKit
import Derived.Stop.JoinedAt
import Derived.Stop.Texts
import Derived.Stop.JoinedTold
import Derived.SizedLaws
import Derived.OpenShut
import Derived.SevenToldRow
namespace Go.Proofs.YbulkaxwoFmt
open Go.ChangeShapes Go.WideShapes Go.ChangeAt Go.RowKit
open Go.ChangeMaps (open_string shut_string)
open Go.Extern.Stop Go.Stop Go.Extern

theorem own : ownKnob Ybaf.prog.godebug = none := by kernel_rfl
theorem laidOut : laidOutB Ybaf.pinned.checked.prog = true := by kernel_rfl
theorem stops : Ybaf.pinned.checked.prog.stops = ["fmt.Sprintf", "fmt.errorf"] := by kernel_rfl
theorem stopKnobs : Ybaf.pinned.checked.prog.stopKnobs = [] := by kernel_rfl
theorem quietF (os : Os) : Stop.quiet Ybaf.pinned.checked.prog os := by
  intro k hk
  rw [stopKnobs] at hk
  cases hk

set_option maxRecDepth 100000 in
theorem sfx_lifted (os : Os) (started : os.Started) (H : Type) (enc : TypeId × Value → H) :
    ReturnsInTold none {} Ybaf.checked os 7 .any Input.okWide ((OpenSpec.ofChange Rows.lawS2458CSuffixSpec).preRow enc Ybaf.prog Ybaf.f7 [] false []) (fun F => ((OpenSpec.ofChange Rows.lawS2458CSuffixSpec).at F).post enc Ybaf.prog Ybaf.f7 false true false false) (aloneAtReturn Ybaf.prog) nothingAlways := by
  refine returnsInTold_of_row (C := Ybaf.checked) (s := OpenSpec.ofChange Rows.lawS2458CSuffixSpec) (by kernel_rfl) own started (by kernel_rfl) Ybaf.func7
    (OpenSpec.witness_stopped (enc := enc) (C := Ybaf.checked) false ⟨#[], #[.int .u64 0, .int .u64 0, .int .u64 0, .string ⟨#[]⟩], []⟩ 8 (by kernel_rfl) (by kernel_rfl) (by kernel_rfl) (by kernel_rfl)) ?_
  intro F W base args ds gs before _ hF hval0 hW _ _ hsz _ _
  have hval : ∀ (j : Nat) t v, Ybaf.f7.params[j]? = some t → args[j]? = some v → Value.okWide Ybaf.prog W .any base t v := hval0
  have hW' := hW
  obtain ⟨p, q, hA0, hV, rfl, hfz, hnd⟩ := hW
  have hA : DataW.TrodAll enc Ybaf.prog W 0 (fun _ => true) true Ybaf.f7.params.toList args.toList ds p := hA0
  rw [Ybaf.params7] at hA hval
  obtain ⟨v0, vs0, d0, ds0, p0, q0, hargs, rfl, rfl, h0, r0⟩ := trodAll_cons hA
  obtain ⟨v1, vs1, d1, ds1, p1, q1, rfl, rfl, rfl, h1, r1⟩ := trodAll_cons r0
  obtain ⟨v2, vs2, d2, ds2, p2, q2, rfl, rfl, rfl, h2, r2⟩ := trodAll_cons r1
  obtain ⟨v3, vs3, d3, ds3, p3, q3, rfl, rfl, rfl, h3, r3⟩ := trodAll_cons r2
  obtain ⟨rfl, rfl, rfl⟩ := trodAll_nil r3
  obtain rfl : args = #[v0, v1, v2, v3] := by cases args; simp_all
  obtain ⟨rfl, rfl⟩ := trodVars_none hV
  obtain ⟨a, rfl, rfl, rfl, wa⟩ := open_int Ybaf.underlying25 (hval 0 25 v0 rfl rfl) h0
  obtain ⟨b, rfl, rfl, rfl, wb⟩ := open_int Ybaf.underlying25 (hval 1 25 v1 rfl rfl) h1
  obtain ⟨c, rfl, rfl, rfl, wc⟩ := open_int Ybaf.underlying25 (hval 2 25 v2 rfl rfl) h2
  obtain ⟨pre, rfl, rfl, rfl, wp⟩ := open_string Ybaf.underlying9 (hval 3 9 v3 rfl rfl) h3
  clear hA0 hval0
  simp only [List.append_nil] at hW'
  have hlen : pre.data.toList.length ≤ reachBytes := sized_string hsz (j := 3) (t := 9) rfl rfl
  have hr47 := reachBytes_lt
  have hps : pre.size = pre.data.toList.length := rfl
  obtain ⟨_, hT⟩ := v_told F a b c wa wb wc
  have walk : Calls Ybaf.prog 7 #[.int .u64 a, .int .u64 b, .int .u64 c, .string pre] W fun e w' => e = .returned (.bool true) ∧ Below W.heap.size W w' := by
    by_cases hp : pre.toList.isEmpty = true
    · exact sfx_none F.told a b c pre W hF hp
    · exact sfx_some F.told a b c pre W hF (by simpa using hp) (by omega)
  refine walk.mono fun e W' ⟨he, hb⟩ => ?_
  subst he
  refine ⟨_, rfl, _, _, _, [], [], [], hW', ?_, ?_, rfl, hb.frame _, fun h => by cases h⟩
  · exact trodAll_cons_mk (shut_bool Ybaf.underlying4 _) trodAll_mk0
  · exact trodAll_cons_mk (shut_int Ybaf.underlying25 wa) (trodAll_cons_mk (shut_int Ybaf.underlying25 wb) (trodAll_cons_mk (shut_int Ybaf.underlying25 wc) (trodAll_cons_mk (shut_string Ybaf.underlying9 wp) trodAll_mk0)))

/-- THE CARD. -/
theorem suffix_card : Rows.LawS2458CSuffixToldSaid :=
  Claim7.holds_of_told_any 7 Ybaf.f7 "fmt.Sprintf" ["fmt.errorf"] [] _ _ _ (by kernel_rfl) rfl rfl rfl laidOut (by kernel_rfl) rfl ⟨rfl, rfl, rfl, rfl, rfl, rfl, rfl⟩ rfl rfl (by kernel_rfl) (by kernel_rfl) Ybaf.func7 (by kernel_rfl)
    (of_decide_eq_true (by kernel_rfl)) (by unfold Func.isWrapper; first | (rw [if_pos (by decide +kernel)]; kernel_rfl) | (rw [if_neg (by decide +kernel)]; exact ⟨rfl, rfl⟩)) stops.symm rfl stopKnobs.symm (by kernel_rfl)
    (by kernel_rfl) (by kernel_rfl) (by kernel_rfl) (by kernel_rfl) (by kernel_rfl) (by kernel_rfl) (by kernel_rfl) (by kernel_rfl) (by kernel_rfl) rfl (by kernel_rfl) rfl rfl
    rfl rfl
    rfl (by kernel_rfl) (by kernel_rfl) (by kernel_rfl) (by decide) (by kernel_rfl)
    (OpenClaim.moreEntering_of (by kernel_rfl) (by kernel_rfl) (by kernel_rfl) (by kernel_rfl) (by kernel_rfl) (by kernel_rfl) (by kernel_rfl) (by kernel_rfl) (by kernel_rfl) (by kernel_rfl))
    ⟨_, WideRow.started_initial, quietF _⟩
    (fun os started _ H enc _ => sfx_lifted os started H enc)
#print axioms suffix_card
end Go.Proofs.YbulkaxwoFmt
