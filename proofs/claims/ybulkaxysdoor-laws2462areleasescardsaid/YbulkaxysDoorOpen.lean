/-
  What the arguments and the listed variables hold, when the call begins.
-/
import Derived.Test.YbulkaxysDoorRows
import Derived.Test.YbulkaxysDoorLoop2
import Derived.Deep.Grids
import Derived.ChangeSlices
import Derived.ChangeSame
import Derived.OpenShut
import Derived.LaidMore
import Derived.FnData
import Derived.ChangeReads
import Derived.ProofKit
namespace Go.Proofs.YbulkaxysDoor
open Go.ChangeShapes Go.WideShapes Go.ChangeAt Go.RowKit
set_option maxRecDepth 100000

theorem ptr_var {W : World} {n : String} {g : Nat} {t e : TypeId} {d : DataW Unit} {cs : Array Value} {fuel : Nat} {p : List MemPlace} (f0 : Field) (hg : Ybad.prog.globalNamed n = some g) (hv : W.var? Ybad.prog n = some cs)
    (ht : Ybad.prog.underlying t = some (.struct #[f0])) (hf : f0.offset = 0) (he : Ybad.prog.underlying f0.type = some (.pointer e)) (c1 : Ybad.prog.cellsOf t = 1) (c2 : Ybad.prog.cellsOf f0.type = 1)
    (hd : DataW.trod (fun _ => ()) Ybad.prog W 0 (fun _ => true) false fuel t cs.toList = some (d, p)) :
    cs.size = 1 ∧ ((W.cell? ⟨g, 0, none⟩ = some (.pointer none) ∧ d = .agg [.nil]) ∨ ∃ a y q, W.cell? ⟨g, 0, none⟩ = some (.pointer (some a)) ∧ d = .agg [.ptr y] ∧ p = MemPlace.row a (Ybad.prog.cellsOf e) ++ q ∧ ∃ cs', W.cells? 0 a (Ybad.prog.cellsOf e) = some cs') := by
  obtain ⟨y0, m, hx, hlen, k0⟩ := trod_struct1 ht hd
  rw [c1] at hlen
  rw [c2, hf] at k0
  have v0 := World.var?_cell hg hv 0
  refine ⟨by simpa using hlen, ?_⟩
  obtain ⟨l⟩ := cs
  match l, hlen, k0 with
  | [a], _, k0 =>
    simp at k0 v0
    simp only [Prod.mk.injEq] at hx
    rcases DataW.trod_pointer he k0 with ⟨e1, e2⟩ | ⟨b, cs', y, m', _, e1, e2, e3, _⟩
    · simp at e1; subst e1; subst e2
      exact .inl ⟨v0, hx.1⟩
    · simp at e1; subst e1; subst e2
      exact .inr ⟨b, y.1, y.2, v0, hx.1, hx.2, cs', e3⟩

theorem zs_of_laid {W : World} (h : laidMetH Ybad.prog Rows.lawS2462AReleasesRow.laid W) : ∃ z, Zs z W := by
  have h2 : laidMetH Ybad.prog [("net/netip.z4", Rows.laid_net_netip_z4), ("net/netip.z6noz", Rows.laid_net_netip_z6noz), ("net/netip.z0", Rows.laid_net_netip_z0)] W := h
  rw [MakeChecks.laidMetH_plain _ _ _ (by kernel_rfl)] at h2
  obtain ⟨ps, ⟨g, t, cs, fuel, p, q, hg, ht, hv, hd, ⟨g2, t2, cs2, fuel2, p2, q2, hg2, ht2, hv2, hd2, ⟨g3, t3, cs3, fuel3, p3, q3, hg3, ht3, hv3, hd3, _, rfl⟩, rfl⟩, rfl⟩, hnd, _⟩ := h2
  obtain rfl : (0 : Nat) = g := Option.some.inj ((show Ybad.prog.globalNamed "net/netip.z4" = some 0 by kernel_rfl).symm.trans hg)
  obtain rfl : (2 : Nat) = g2 := Option.some.inj ((show Ybad.prog.globalNamed "net/netip.z6noz" = some 2 by kernel_rfl).symm.trans hg2)
  obtain rfl : (1 : Nat) = g3 := Option.some.inj ((show Ybad.prog.globalNamed "net/netip.z0" = some 1 by kernel_rfl).symm.trans hg3)
  obtain rfl : (33 : Nat) = t := Option.some.inj ((show (Ybad.prog.globals[0]?).map (·.type) = some 33 by kernel_rfl).symm.trans ht)
  obtain rfl : (33 : Nat) = t2 := Option.some.inj ((show (Ybad.prog.globals[2]?).map (·.type) = some 33 by kernel_rfl).symm.trans ht2)
  obtain rfl : (33 : Nat) = t3 := Option.some.inj ((show (Ybad.prog.globals[1]?).map (·.type) = some 33 by kernel_rfl).symm.trans ht3)
  have c33 : Ybad.prog.cellsOf 33 = 1 := by kernel_rfl
  have c31 : Ybad.prog.cellsOf 31 = 1 := by kernel_rfl
  obtain ⟨s1, k1⟩ := ptr_var _ hg hv Ybad.underlying33 rfl Ybad.underlying31 c33 c31 hd
  obtain ⟨s2, k2⟩ := ptr_var _ hg2 hv2 Ybad.underlying33 rfl Ybad.underlying31 c33 c31 hd2
  obtain ⟨s3, k3⟩ := ptr_var _ hg3 hv3 Ybad.underlying33 rfl Ybad.underlying31 c33 c31 hd3
  rcases k1 with ⟨_, e⟩ | ⟨z, y, pq, z1, _, ep, cs', hcs⟩
  · cases e
  obtain z3 : W.cell? ⟨1, 0, none⟩ = some (.pointer none) := by
    rcases k3 with ⟨z3, _⟩ | ⟨_, _, _, _, e, _⟩
    · exact z3
    · cases e
  refine ⟨z, z1, z3, ?_⟩
  have b2 : (2 : Nat) < W.heap.size := by
    simp only [World.var?, hg2, Option.bind_some] at hv2
    rcases Nat.lt_or_ge 2 W.heap.size with h | h
    · exact h
    · rw [Array.getElem?_eq_none h] at hv2; cases hv2
  have hpos : 0 < Ybad.prog.cellsOf 119 := by rw [show Ybad.prog.cellsOf 119 = 2 by kernel_rfl]; omega
  have hzc : ∃ u, W.cell? z = some u := by
    obtain ⟨_, hl, hc⟩ := World.cells?_some hcs
    have := hc 0 hpos
    rw [List.getElem?_eq_getElem (by omega)] at this
    exact ⟨_, by simpa [Addr.add] using this⟩
  obtain ⟨u, hu⟩ := hzc
  have hzl : z.block < W.heap.size := World.block_lt_of_cell? W _ hu
  have hzp : MemPlace.cell z.block z.off ∈ p := by
    rw [ep]
    exact List.mem_append_left _ (MemPlace.mem_row.2 ⟨0, hpos, by simp⟩)
  have hoff : ∀ (n : String) (g : Nat) (ds : Array Value), Ybad.prog.globalNamed n = some g → W.var? Ybad.prog n = some ds → z.block = g → MemPlace.cell z.block z.off ∈ MemPlace.row ⟨g, 0, none⟩ ds.size := by
    intro n g ds hg hv e
    have := World.var?_cell hg hv z.off
    obtain ⟨b, o, s⟩ := z
    simp only at e this ⊢
    subst e
    have hs : s = none := by
      simp only [World.cell?] at hu
      split at hu
      · cases s <;> simp at hu ⊢
      · cases hu
    subst hs
    rw [hu] at this
    exact MemPlace.mem_row.2 ⟨o, (Array.getElem?_eq_some_iff.1 this.symm).1, by simp⟩
  simp only [List.nodup_append, List.mem_append] at hnd
  have n0 : z.block ≠ 0 := fun e => hnd.1.2.2 _ (hoff _ _ _ hg hv e) _ hzp rfl
  have n2 : z.block ≠ 2 := fun e => hnd.2.2 _ (.inr hzp) _ (.inl (.inl (hoff _ _ _ hg2 hv2 e))) rfl
  have n1 : z.block ≠ 1 := fun e => hnd.2.2 _ (.inr hzp) _ (.inr (.inl (.inl (hoff _ _ _ hg3 hv3 e)))) rfl
  omega

theorem add_n (b o i : Nat) : (⟨b, o, none⟩ : Addr).add i = ⟨b, o + i, none⟩ := by
  unfold Addr.add
  by_cases h : i = 0
  · subst h; rfl
  · simp [h]

theorem slice_block {W : World} {r : Reach} {b0 : Nat} {t e : TypeId} {a : Addr} {len cap : Nat} (ht : Ybad.prog.underlying t = some (.slice e)) (h : Value.okWide Ybad.prog W r b0 t (.slice (some a) len cap)) : ∃ b o, a = ⟨b, o, none⟩ ∧ b < W.heap.size := by
  simp only [Value.okWide, ht, Cell.okWide, Cell.ok, World.has] at h
  obtain ⟨_, _, _, hs, row, cells, hsh, _⟩ := h
  obtain ⟨b, o, s⟩ := a
  simp only at hs hsh
  subst hs
  refine ⟨b, o, rfl, ?_⟩
  rcases Nat.lt_or_ge b W.heap.size with h | h
  · exact h
  · rw [World.shape?, Array.getElem?_eq_none h] at hsh; cases hsh

section
variable {H : Type} {enc : TypeId × Value → H} {W : World} {r : Reach} {b0 : Nat} {v : Value} {d : DataW H} {p : List MemPlace}

theorem open_rests (hok : Value.okWide Ybad.prog W r b0 23 v) (h : DataW.Trod enc Ybad.prog W 0 (fun _ => true) true 23 v d p) :
    ∃ ao rs rc, v = .slice ao (List.length rs) rc ∧ SrcR W ao rs ∧ (∀ q ∈ rs, R3.ok q) ∧ (∀ a, ao = some a → a.block < W.heap.size) := by
  obtain ⟨ao, len, cap, rfl⟩ := okWide_slice Ybad.underlying23 hok
  obtain ⟨fuel, hf⟩ := h
  have c49 : Ybad.prog.cellsOf 49 = 3 := by kernel_rfl
  have c22 : Ybad.prog.cellsOf 22 = 1 := by kernel_rfl
  have c5 : Ybad.prog.cellsOf 5 = 1 := by kernel_rfl
  have c2 : Ybad.prog.cellsOf 2 = 1 := by kernel_rfl
  rcases Deep.open_slice Ybad.underlying23 hf with ⟨e, _⟩ | ⟨a, l, c, m, n, D, Pl, e, _, hl, _, hm, _, hx⟩
  · simp [Value.cells] at e
    obtain ⟨rfl, rfl, rfl⟩ := e
    exact ⟨none, [], 0, rfl, fun i q hq => by simp at hq, fun q hq => by simp at hq, fun a ha => by cases ha⟩
  · simp [Value.cells] at e
    obtain ⟨rfl, rfl, rfl⟩ := e
    obtain ⟨b, o, rfl, hb⟩ := slice_block Ybad.underlying23 hok
    simp only [if_true] at hm
    subst hm
    obtain ⟨f, hf'⟩ := @Deep.choose_lt R3 ⟨⟨0, 0, 0⟩⟩ len (fun i q => (W.cell? ⟨b, o + i * 3, none⟩ = some (.int .u32 q.lo) ∧ W.cell? ⟨b, o + i * 3 + 1, none⟩ = some (.int .u8 q.wd) ∧ W.cell? ⟨b, o + i * 3 + 2, none⟩ = some (.int .i64 q.at_)) ∧ q.ok) (fun i hi => by
      obtain ⟨cs', h1, h2⟩ := hx i (by omega)
      rw [c49] at h1
      obtain ⟨_, hlen, hcell⟩ := World.cells?_some h1
      obtain ⟨xs, k, hk, hxy, _, hxl, hg⟩ := DataW.trod_struct Ybad.underlying49 h2
      match xs, hxl, cs', hlen with
      | [y0, y1, y2], _, [v0, v1, v2], _ =>
        have g0 := hg 0 _ rfl
        have g1 := hg 1 _ rfl
        have g2 := hg 2 _ rfl
        simp [c22, c5, c2] at g0 g1 g2
        obtain ⟨n0, e0, _, w0⟩ := DataW.trod_int Ybad.underlying22 g0
        obtain ⟨n1, e1, _, w1⟩ := DataW.trod_int Ybad.underlying5 g1
        obtain ⟨n2, e2, _, w2⟩ := DataW.trod_int Ybad.underlying2 g2
        simp at e0 e1 e2
        subst e0 e1 e2
        have z0 := hcell 0 (by omega)
        have z1 := hcell 1 (by omega)
        have z2 := hcell 2 (by omega)
        rw [add_n, add_n] at z0 z1 z2
        simp at z0 z1 z2
        exact ⟨⟨n0, n1, n2⟩, ⟨z0, z1, z2⟩, bounds_u32 w0, bounds_u8 w1, bounds_i64 w2⟩)
    refine ⟨some ⟨b, o, none⟩, (List.range len).map f, m, by simp, fun i q hq => ?_, fun q hq => ?_, fun a ha => by cases ha; exact hb⟩
    · simp only [List.getElem?_map, Option.map_eq_some_iff] at hq
      obtain ⟨k, hk, rfl⟩ := hq
      obtain ⟨hk1, rfl⟩ := List.getElem?_eq_some_iff.1 hk
      simp at hk1
      have := (hf' i hk1).1
      exact ⟨b, o, rfl, by simpa using this.1, by simpa using this.2.1, by simpa using this.2.2⟩
    · obtain ⟨k, hk, rfl⟩ := List.mem_map.1 hq
      exact (hf' k (by simpa using hk)).2

theorem open_keys (hok : Value.okWide Ybad.prog W r b0 24 v) (h : DataW.Trod enc Ybad.prog W 0 (fun _ => true) true 24 v d p) :
    ∃ ko kl kc, v = .slice ko (List.length kl) kc ∧ (∀ (i : Nat) (k : Int), kl[i]? = some k → ∃ b o, ko = some ⟨b, o, none⟩ ∧ b < W.heap.size ∧ W.cell? ⟨b, o + i, none⟩ = some (.int .u32 k)) ∧ (ko = none → kl = [] ∧ kc = 0) ∧ (∀ k ∈ kl, (0 : Int) ≤ k ∧ k ≤ 4294967295) := by
  obtain ⟨ao, len, cap, rfl⟩ := okWide_slice Ybad.underlying24 hok
  obtain ⟨fuel, hf⟩ := h
  have c22 : Ybad.prog.cellsOf 22 = 1 := by kernel_rfl
  rcases open_ints Ybad.underlying24 Ybad.underlying22 c22 hf with ⟨e, _⟩ | ⟨a, l, c, zs, e, _, hl, _, hzl, _, hx, hw⟩
  · simp [Value.cells] at e
    obtain ⟨rfl, rfl, rfl⟩ := e
    exact ⟨none, [], 0, rfl, fun i q hq => by simp at hq, fun _ => ⟨rfl, rfl⟩, fun q hq => by simp at hq⟩
  · simp [Value.cells] at e
    obtain ⟨rfl, rfl, rfl⟩ := e
    obtain ⟨b, o, rfl, hb⟩ := slice_block Ybad.underlying24 hok
    simp only [if_true] at hzl
    refine ⟨some ⟨b, o, none⟩, zs.take len, cap, by simp; omega, fun i k hk => ⟨b, o, rfl, hb, ?_⟩, (fun hn => by cases hn), fun k hk => bounds_u32 (hw k (List.mem_of_mem_take hk))⟩
    have hi : i < len := by
      have := (List.getElem?_eq_some_iff.1 hk).1
      simp at this; omega
    rw [List.getElem?_take_of_lt hi] at hk
    have := hx i (by omega)
    simpa [add_n, List.getD, hk] using this

theorem open_held (hok : Value.okWide Ybad.prog W r b0 25 v) (h : DataW.Trod enc Ybad.prog W 0 (fun _ => true) true 25 v d p) :
    ∃ ho hs hc, v = .slice ho (List.length hs) hc ∧ SrcB W ho hs ∧ (∀ a, ho = some a → a.block < W.heap.size) := by
  obtain ⟨ao, len, cap, rfl⟩ := okWide_slice Ybad.underlying25 hok
  obtain ⟨fuel, hf⟩ := h
  have c4 : Ybad.prog.cellsOf 4 = 1 := by kernel_rfl
  rcases Deep.open_bools Ybad.underlying25 Ybad.underlying4 c4 hf with ⟨e, _⟩ | ⟨a, l, c, B, e, _, hl, _, _, hx⟩
  · simp [Value.cells] at e
    obtain ⟨rfl, rfl, rfl⟩ := e
    exact ⟨none, [], 0, rfl, fun i q hq => by simp at hq, fun a ha => by cases ha⟩
  · simp [Value.cells] at e
    obtain ⟨rfl, rfl, rfl⟩ := e
    obtain ⟨b, o, rfl, hb⟩ := slice_block Ybad.underlying25 hok
    refine ⟨some ⟨b, o, none⟩, (List.range len).map B, cap, by simp, fun i q hq => ?_, fun a ha => by cases ha; exact hb⟩
    simp only [List.getElem?_map, Option.map_eq_some_iff] at hq
    obtain ⟨k, hk, rfl⟩ := hq
    obtain ⟨hk1, rfl⟩ := List.getElem?_eq_some_iff.1 hk
    simp at hk1
    have := hx i (by omega)
    exact ⟨b, o, rfl, hb, by simpa [add_n] using this⟩
end
end Go.Proofs.YbulkaxysDoor
