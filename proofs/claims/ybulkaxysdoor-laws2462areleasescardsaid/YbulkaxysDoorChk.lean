/-
  What the fourth loop reads, out of what the loops before and release have left.
-/
import Derived.Test.YbulkaxysDoorKeys
namespace Go.Proofs.YbulkaxysDoor
open Go.RowKit

/-- A reservation that was released. -/
def relC (h : Bool) (d x y : Int) : Array Value := ((((resC h d).setIfInBounds 5 (.bool false)).setIfInBounds 6 (.int .u64 x)).setIfInBounds 7 (.int .i64 y)).setIfInBounds 8 (.pointer none)

theorem chk_mk {kb B pb nb tb pp hh rr : Nat} {v x y : Int} {ks : List Int} {hs : List Bool} {bl : List Nat} {L : List (Int × Nat)} {w0 w12 w15 w16 X : World}
    (hR : Res B ks hs ks.length bl L w0 w12) (hW : Was pp hh rr ks hs bl ks.length w15 w16) (hx : 0 ≤ x ∧ x < 1073741824)
    (hks : ∀ (i : Nat) (k : Int), ks[i]? = some k → X.cell? ⟨kb, i, none⟩ = some (.int .u32 k) ∧ 0 ≤ k ∧ k ≤ 4294967295)
    (hm : MapIs X B L) (h14 : X.cell? ⟨pb, 14, none⟩ = some (.map (some B)))
    (hnb : X.heap[nb]? = some (.cells #[.int .u64 0, .int .u64 v] 46 (0, 0))) (htb : X.heap[tb]? = some (.cells #[.int .u64 x, .int .i64 y, .pointer none] 42 (0, 0)))
    (ep : X.heap[pp]? = w16.heap[pp]?) (eh : X.heap[hh]? = w16.heap[hh]?) (er : X.heap[rr]? = w16.heap[rr]?)
    (hsame : ∀ (q : Nat), ks[q]? = some v → X.heap[fb ks bl q]? = some (.cells (relC (heldAt hs (fj ks q)) ((fj ks q : Int) + 1) x y) 57 (0, 0)))
    (hoth : ∀ (q : Nat) (k : Int), ks[q]? = some k → k ≠ v → X.heap[fb ks bl q]? = w12.heap[fb ks bl q]?) :
    Chk kb B pb nb tb pp hh rr v x y ks L (fb ks bl) (fun q => heldAt hs (fj ks q)) (fun q => ((fj ks q : Int) + 1) % 1000000000) (fun q => ((fj ks q : Int) + 1) / 1000000000) X := by
  obtain ⟨c, a1, a2, a3⟩ := hW.p
  obtain ⟨d, b1, b2, b3⟩ := hW.h
  obtain ⟨e, c1, c2, c3⟩ := hW.r
  refine ⟨hks, hm, fun i k hk => (hR.found i k hk).1, h14, cell_of_row X nb 0 _ _ _ hnb, cell_of_row X nb 1 _ _ _ hnb, cell_of_row X tb 0 _ _ _ htb, cell_of_row X tb 1 _ _ _ htb, cell_of_row X tb 2 _ _ _ htb,
    fun q hq => (cell_of_row X pp q _ _ _ (ep.trans a1)).trans (a3 q hq), fun q hq => (cell_of_row X hh q _ _ _ (eh.trans b1)).trans (b3 q hq), fun q hq => ⟨(cell_of_row X rr (q * 3) _ _ _ (er.trans c1)).trans (c3 q hq).1, (cell_of_row X rr (q * 3 + 1) _ _ _ (er.trans c1)).trans (c3 q hq).2.1, (cell_of_row X rr (q * 3 + 2) _ _ _ (er.trans c1)).trans (c3 q hq).2.2⟩,
    fun q k hk ek => ?_, fun q k hk ek => ?_, fun q => ?_, hx⟩
  · subst ek
    have h := hsame q hk
    exact ⟨cell_of_row X _ 5 _ _ _ h, cell_of_row X _ 6 _ _ _ h, cell_of_row X _ 7 _ _ _ h, cell_of_row X _ 8 _ _ _ h⟩
  · have h := (hoth q k hk ek).trans (hR.found q k hk).2.2.1
    exact ⟨cell_of_row X _ 5 _ _ _ h, cell_of_row X _ 6 _ _ _ h, cell_of_row X _ 7 _ _ _ h, cell_of_row X _ 8 _ _ _ h⟩
  · show 0 ≤ ((fj ks q : Int) + 1) % 1000000000 ∧ ((fj ks q : Int) + 1) % 1000000000 < 1073741824
    omega
end Go.Proofs.YbulkaxysDoor
