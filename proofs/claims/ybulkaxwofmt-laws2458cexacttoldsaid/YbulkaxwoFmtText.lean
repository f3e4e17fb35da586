/-
  fmt's TEXT at "%d.%d.%d" with three uint64 operands, told by the authors' own function FmtText.text: tested against real Go, not proved from fmt's source.
-/
import Derived.Test.YbulkaxwoFmtSfxWalk
import Derived.Stop.FmtTextKit
import Derived.Stop.Told
import Derived.Stop.JoinedTold
import Derived.Stop.Texts
namespace Go.Proofs.YbulkaxwoFmt
open Go.Extern.Stop Go.Stop Go.Extern Go.Kit

def vBytes (a b c : Int) : List UInt8 := Lib.itoa a ++ ([46] ++ (Lib.itoa b ++ ([46] ++ Lib.itoa c)))

theorem v_parse : (FmtText.parse [37, 100, 46, 37, 100, 46, 37, 100]).map FmtText.glue = some [.verb {} 100, .lit [46], .verb {} 100, .lit [46], .verb {} 100] := by rfl

theorem v_text (a b c : Int) (ha : (Lit.int .u64 a).wf = true) (hb : (Lit.int .u64 b).wf = true) (hc : (Lit.int .u64 c).wf = true) :
    FmtText.text "fmt.Sprintf" (vReading a b c) = some (vBytes a b c) := by
  have ia := FmtText.operand_int_at (sh := shape25) (k := .u64) rfl rfl a ha
  have ib := FmtText.operand_int_at (sh := shape25) (k := .u64) rfl rfl b hb
  have ic := FmtText.operand_int_at (sh := shape25) (k := .u64) rfl rfl c hc
  rw [vReading, FmtText.text_sprintf_glued v_parse (FmtText.operands_cons ia (FmtText.operands_cons ib (FmtText.operands_cons ic FmtText.operands_nil)))]
  simp [FmtText.render, FmtText.printArg_d _ _ ha, FmtText.printArg_d _ _ hb, FmtText.printArg_d _ _ hc, vBytes]

/-- The text that a told F gives: those bytes; at most 65 of them. -/
theorem v_told (F : Interp) (a b c : Int) (ha : (Lit.int .u64 a).wf = true) (hb : (Lit.int .u64 b).wf = true) (hc : (Lit.int .u64 c).wf = true) :
    (vText F.told a b c).data.toList = vBytes a b c ∧ (vText F.told a b c).size ≤ 65 := by
  have la := FmtText.itoa_length_le ha
  have lb := FmtText.itoa_length_le hb
  have lc := FmtText.itoa_length_le hc
  have hl : (vBytes a b c).length ≤ 65 := by simp [vBytes]; omega
  have ht := told_string F (v_text a b c ha hb hc) (by omega)
  have e : (vText F.told a b c).data.toList = vBytes a b c := by
    unfold vText; rw [textOf_list, ht]
  refine ⟨e, ?_⟩
  have : (vText F.told a b c).size = (vBytes a b c).length := by rw [← e]; rfl
  omega
end Go.Proofs.YbulkaxwoFmt
