/-
  The law's third loop: the reservations' state before.
-/
import Derived.Test.YbulkaxysDoorLoop2
namespace Go.Proofs.YbulkaxysDoor
open Go.RowKit


/-- Where the key of place q was last laid, and the block that it then has. -/
def fj (ks : List Int) (q : Nat) : Nat := (lastIdx ks ks.length (ks.getD q 0)).getD 0
def fb (ks : List Int) (bl : List Nat) (q : Nat) : Nat := bl.getD (fj ks q) 0

theorem lastIdx_some (ks : List Int) (m : Nat) (k : Int) (q : Nat) (hq : q < m) (hk : ks[q]? = some k) : ∃ j, lastIdx ks m k = some j := by
  induction m with
  | zero => omega
  | succ m ih =>
    simp only [lastIdx]
    split
    · exact ⟨m, rfl⟩
    · rename_i h
      have : q ≠ m := fun e => h (e ▸ hk)
      exact ih (by omega)

theorem fj_spec (ks : List Int) (q : Nat) (k : Int) (hk : ks[q]? = some k) : lastIdx ks ks.length k = some (fj ks q) ∧ fj ks q < ks.length ∧ ks[fj ks q]? = some k := by
  have hq : q < ks.length := (List.getElem?_eq_some_iff.1 hk).1
  obtain ⟨j, hj⟩ := lastIdx_some ks ks.length k q hq hk
  have e : ks.getD q 0 = k := by simp [List.getD, hk]
  have : fj ks q = j := by unfold fj; rw [e, hj]; rfl
  rw [this]
  exact ⟨hj, lastIdx_lt ks ks.length k j hj⟩

theorem Res.found {B : Nat} {ks : List Int} {hs : List Bool} {bl : List Nat} {L : List (Int × Nat)} {w X : World} (h : Res B ks hs ks.length bl L w X) (q : Nat) (k : Int) (hk : ks[q]? = some k) :
    getm L k = some (fb ks bl q) ∧ bl[fj ks q]? = some (fb ks bl q) ∧ X.heap[fb ks bl q]? = some (.cells (resC (heldAt hs (fj ks q)) ((fj ks q : Int) + 1)) 57 (0, 0)) ∧ w.heap.size ≤ fb ks bl q := by
  obtain ⟨h1, h2, _⟩ := fj_spec ks q k hk
  have hl : fj ks q < bl.length := by rw [h.len]; exact h2
  have e : bl[fj ks q]? = some (fb ks bl q) := by simp [fb, List.getD, hl]
  refine ⟨?_, e, h.at_ _ _ e⟩
  rw [h.get k, h1]
  simp [e]

/-- The three rows behind i rounds. -/
structure Was (pp hh rr : Nat) (ks : List Int) (hs : List Bool) (bl : List Nat) (i : Nat) (w X : World) : Prop where
  p : ∃ c, X.heap[pp]? = some (.cells c 55 (0, 0)) ∧ c.size = ks.length ∧ ∀ q, q < i → c[q]? = some (pv (fb ks bl q))
  h : ∃ c, X.heap[hh]? = some (.cells c 4 (0, 0)) ∧ c.size = ks.length ∧ ∀ q, q < i → c[q]? = some (.bool (heldAt hs (fj ks q)))
  r : ∃ c, X.heap[rr]? = some (.cells c 42 (0, 0)) ∧ c.size = ks.length * 3 ∧ ∀ q, q < i → c[q * 3]? = some (.int .u64 (((fj ks q : Int) + 1) % 1000000000)) ∧ c[q * 3 + 1]? = some (.int .i64 (((fj ks q : Int) + 1) / 1000000000)) ∧ c[q * 3 + 2]? = some (.pointer none)
  kept : Kept [pp, hh, rr] w X

theorem Was.step {pp hh rr : Nat} {ks : List Int} {hs : List Bool} {bl : List Nat} {i : Nat} {w X : World} (h : Was pp hh rr ks hs bl i w X) (hi : i < ks.length) (h1 : pp < hh) (h2 : hh < rr) :
    Was pp hh rr ks hs bl (i + 1) w (((((X.setCell ⟨pp, i, none⟩ (pv (fb ks bl i))).setCell ⟨hh, i, none⟩ (.bool (heldAt hs (fj ks i)))).setCell ⟨rr, i * 3, none⟩ (.int .u64 (((fj ks i : Int) + 1) % 1000000000))).setCell ⟨rr, i * 3 + 1, none⟩ (.int .i64 (((fj ks i : Int) + 1) / 1000000000))).setCell ⟨rr, i * 3 + 2, none⟩ (.pointer none)) := by
  obtain ⟨c, a1, a2, a3⟩ := h.p
  obtain ⟨d, b1, b2, b3⟩ := h.h
  obtain ⟨e, c1, c2, c3⟩ := h.r
  refine ⟨⟨_, heap_set_other (heap_set_other (heap_set_other (heap_set_other (heap_set a1 _ _) (by omega) _ _) (by omega) _ _) (by omega) _ _) (by omega) _ _, by simpa using a2, fun q hq => ?_⟩, ⟨_, heap_set_other (heap_set_other (heap_set_other (heap_set (heap_set_other b1 (by omega) _ _) _ _) (by omega) _ _) (by omega) _ _) (by omega) _ _, by simpa using b2, fun q hq => ?_⟩, ⟨_, heap_set (heap_set (heap_set (heap_set_other (heap_set_other c1 (by omega) _ _) (by omega) _ _) _ _) _ _) _ _, by simpa using c2, fun q hq => ?_⟩, ((((h.kept.set (by simp) _ _).set (by simp) _ _).set (by simp) _ _).set (by simp) _ _).set (by simp) _ _⟩
  · by_cases e : q = i
    · subst e; rw [Array.getElem?_setIfInBounds_self_of_lt (by omega)]
    · rw [Array.getElem?_setIfInBounds_ne (by omega)]; exact a3 q (by omega)
  · by_cases e : q = i
    · subst e; rw [Array.getElem?_setIfInBounds_self_of_lt (by omega)]
    · rw [Array.getElem?_setIfInBounds_ne (by omega)]; exact b3 q (by omega)
  · by_cases e : q = i
    · subst e
      refine ⟨?_, ?_, ?_⟩
      · rw [Array.getElem?_setIfInBounds_ne (by omega), Array.getElem?_setIfInBounds_ne (by omega), Array.getElem?_setIfInBounds_self_of_lt (by omega)]
      · rw [Array.getElem?_setIfInBounds_ne (by omega), Array.getElem?_setIfInBounds_self_of_lt (by simp; omega)]
      · rw [Array.getElem?_setIfInBounds_self_of_lt (by simp; omega)]
    · obtain ⟨x1, x2, x3⟩ := c3 q (by omega)
      refine ⟨?_, ?_, ?_⟩
      · rw [Array.getElem?_setIfInBounds_ne (by omega), Array.getElem?_setIfInBounds_ne (by omega), Array.getElem?_setIfInBounds_ne (by omega)]; exact x1
      · rw [Array.getElem?_setIfInBounds_ne (by omega), Array.getElem?_setIfInBounds_ne (by omega), Array.getElem?_setIfInBounds_ne (by omega)]; exact x2
      · rw [Array.getElem?_setIfInBounds_ne (by omega), Array.getElem?_setIfInBounds_ne (by omega), Array.getElem?_setIfInBounds_ne (by omega)]; exact x3

set_option maxRecDepth 1000000 in
set_option maxHeartbeats 4000000 in
theorem loop3 (c0 c1 c2 c3 c4 c5 c6 c7 c8 c9 c10 c11 c12 c13 c14 c15 c16 c17 c18 c19 c20 c21 c24 c25 c26 c30 c31 c32 c33 c34 c35 c36 c37 c38 c39 c40 c41 c42 c43 c44 c45 c46 c47 c48 c49 c50 c51 c52 c53 c54 c55 c56 c57 c58 c59 c60 c61 c62 c63 c64 c65 c66 c67 c68 c69 c70 c71 c72 c73 c74 c75 c76 c77 c78 c79 c80 c81 c82 c83 c84 c85 c86 c87 c88 c89 c90 c91 c92 c93 c94 c95 c96 c97 c98 c99 c100 c101 c102 c103 c104 c105 c106 c107 c108 c109 c110 c111 c112 c113 c114 c115 c116 c117 c118 c119 c120 c121 c122 c123 c124 c125 c126 c127 c128 c129 c130 c131 c132 c133 c134 c135 c136 c137 c138 c139 c140 c141 c142 c143 c144 c145 c146 c147 c148 c149 c150 c151 c152 c153 c154 c155 c156 c157 c158 c159 c160 c161 c162 c163 c164 c165 c166 c167 c168 c169 c170 c171 c172 c173 c174 c175 c176 c177 c178 c179 c180 c181 c182 c183 c184 c185 c186 c187 c188 c189 c190 c191 c192 c193 c194 c195 c196 c197 c198 c199 c200 c201 c202 c203 c204 c205 c206 c207 c208 c209 c210 c211 c212 c213 c214 c215 c216 c217 c218 c219 c220 c221 c222 c223 c224 c225 c226 c227 c228 c229 c230 c231 c232 c233 c234 c235 c236 c237 c238 c239 c240 c241 c242 c243 c244 c245 c246 c247 c248 c249 c250 c251 c252 c253 c254 c255 c256 c257 c258 c259 c260 c261 c262 c263 c264 c265 c266 c267 c268 c269 c270 c271 c272 c273 c274 c275 c276 c277 c278 c279 c280 c281 c282 c283 c284 c285 c286 c287 c288 c289 c290 c291 c292 c293 c294 c295 c296 c297 c298 c299 c300 c301 c302 c303 c304 c305 c306 c307 c308 c309 c310 c311 c312 c313 c314 c315 c316 c317 c318 c319 c320 c321 c322 c323 c324 c325 c326 c327 c328 c329 c330 c331 c332 c333 c334 c335 c336 c337 c338 c339 c340 c341 c342 c343 c344 c345 c346 : Value) (kb kc B pp hh rr : Nat) (ks : List Int) (hs : List Bool) (bl : List Nat) (L : List (Int × Nat)) (K : Act → World → Prop) (Q : Exit → Act → World → Prop) (w0 w : World) (hR : Res B ks hs ks.length bl L w0 w) (hks : ∀ (i : Nat) (k : Int), ks[i]? = some k → w.cell? ⟨kb, i, none⟩ = some (.int .u32 k) ∧ 0 ≤ k ∧ k ≤ 4294967295) (hkb : kb < pp) (hBp : B < pp) (h1 : pp < hh) (h2 : hh < rr) (hblp : ∀ b ∈ bl, b < pp) (hn : ks.length ≤ 300) (hW : Was pp hh rr ks hs bl 0 w w)
    (hK : ∀ (u30 u31 u32 u164 u165 u166 u167 u168 u169 u170 u171 u172 u173 u174 u175 u176 u177 u178 u179 u180 u181 u182 u183 u184 u185 u186 u187 u188 u189 u190 u191 u192 u193 u194 : Value) (w' : World), Was pp hh rr ks hs bl ks.length w w' → K ⟨#[c0, c1, c2, c3, c4, c5, c6, c7, c8, c9, c10, c11, c12, c13, c14, c15, c16, c17, c18, c19, c20, c21, (.slice (some ⟨kb, 0, none⟩) ks.length kc), (.map (some B)), c24, c25, c26, (.slice (some ⟨pp, 0, none⟩) ks.length ks.length), (.slice (some ⟨hh, 0, none⟩) ks.length ks.length), (.slice (some ⟨rr, 0, none⟩) ks.length ks.length), u30, u31, u32, c33, c34, c35, c36, c37, c38, c39, c40, c41, c42, c43, c44, c45, c46, c47, c48, c49, c50, c51, c52, c53, c54, c55, c56, c57, c58, c59, c60, c61, c62, c63, c64, c65, c66, c67, c68, c69, c70, c71, c72, c73, c74, c75, c76, c77, c78, c79, c80, c81, c82, c83, c84, c85, c86, c87, c88, c89, c90, c91, c92, c93, c94, c95, c96, c97, c98, c99, c100, c101, c102, c103, c104, c105, c106, c107, c108, c109, c110, c111, c112, c113, c114, c115, c116, c117, c118, c119, c120, c121, c122, c123, c124, c125, c126, c127, c128, c129, c130, c131, c132, c133, c134, c135, c136, c137, c138, c139, c140, c141, c142, c143, c144, c145, c146, c147, c148, c149, c150, c151, c152, c153, c154, c155, c156, c157, c158, c159, c160, c161, c162, c163, u164, u165, u166, u167, u168, u169, u170, u171, u172, u173, u174, u175, u176, u177, u178, u179, u180, u181, u182, u183, u184, u185, u186, u187, u188, u189, u190, u191, u192, u193, u194, c195, c196, c197, c198, c199, c200, c201, c202, c203, c204, c205, c206, c207, c208, c209, c210, c211, c212, c213, c214, c215, c216, c217, c218, c219, c220, c221, c222, c223, c224, c225, c226, c227, c228, c229, c230, c231, c232, c233, c234, c235, c236, c237, c238, c239, c240, c241, c242, c243, c244, c245, c246, c247, c248, c249, c250, c251, c252, c253, c254, c255, c256, c257, c258, c259, c260, c261, c262, c263, c264, c265, c266, c267, c268, c269, c270, c271, c272, c273, c274, c275, c276, c277, c278, c279, c280, c281, c282, c283, c284, c285, c286, c287, c288, c289, c290, c291, c292, c293, c294, c295, c296, c297, c298, c299, c300, c301, c302, c303, c304, c305, c306, c307, c308, c309, c310, c311, c312, c313, c314, c315, c316, c317, c318, c319, c320, c321, c322, c323, c324, c325, c326, c327, c328, c329, c330, c331, c332, c333, c334, c335, c336, c337, c338, c339, c340, c341, c342, c343, c344, c345, c346], []⟩ w') :
    Code.wp Ybad.prog (st Ybad.f3 16) (Exit.then K Q) ⟨#[c0, c1, c2, c3, c4, c5, c6, c7, c8, c9, c10, c11, c12, c13, c14, c15, c16, c17, c18, c19, c20, c21, (.slice (some ⟨kb, 0, none⟩) ks.length kc), (.map (some B)), c24, c25, c26, (.slice (some ⟨pp, 0, none⟩) ks.length ks.length), (.slice (some ⟨hh, 0, none⟩) ks.length ks.length), (.slice (some ⟨rr, 0, none⟩) ks.length ks.length), c30, c31, c32, c33, c34, c35, c36, c37, c38, c39, c40, c41, c42, c43, c44, c45, c46, c47, c48, c49, c50, c51, c52, c53, c54, c55, c56, c57, c58, c59, c60, c61, c62, c63, c64, c65, c66, c67, c68, c69, c70, c71, c72, c73, c74, c75, c76, c77, c78, c79, c80, c81, c82, c83, c84, c85, c86, c87, c88, c89, c90, c91, c92, c93, c94, c95, c96, c97, c98, c99, c100, c101, c102, c103, c104, c105, c106, c107, c108, c109, c110, c111, c112, c113, c114, c115, c116, c117, c118, c119, c120, c121, c122, c123, c124, c125, c126, c127, c128, c129, c130, c131, c132, c133, c134, c135, c136, c137, c138, c139, c140, c141, c142, c143, c144, c145, c146, c147, c148, c149, c150, c151, c152, c153, c154, c155, c156, c157, c158, c159, c160, c161, c162, c163, c164, c165, c166, c167, c168, c169, c170, c171, c172, c173, c174, c175, c176, c177, c178, c179, c180, c181, c182, c183, c184, c185, c186, c187, c188, c189, c190, c191, c192, c193, c194, c195, c196, c197, c198, c199, c200, c201, c202, c203, c204, c205, c206, c207, c208, c209, c210, c211, c212, c213, c214, c215, c216, c217, c218, c219, c220, c221, c222, c223, c224, c225, c226, c227, c228, c229, c230, c231, c232, c233, c234, c235, c236, c237, c238, c239, c240, c241, c242, c243, c244, c245, c246, c247, c248, c249, c250, c251, c252, c253, c254, c255, c256, c257, c258, c259, c260, c261, c262, c263, c264, c265, c266, c267, c268, c269, c270, c271, c272, c273, c274, c275, c276, c277, c278, c279, c280, c281, c282, c283, c284, c285, c286, c287, c288, c289, c290, c291, c292, c293, c294, c295, c296, c297, c298, c299, c300, c301, c302, c303, c304, c305, c306, c307, c308, c309, c310, c311, c312, c313, c314, c315, c316, c317, c318, c319, c320, c321, c322, c323, c324, c325, c326, c327, c328, c329, c330, c331, c332, c333, c334, c335, c336, c337, c338, c339, c340, c341, c342, c343, c344, c345, c346], []⟩ w := by
  conv => arg 2; whnf
  go_wp2_with fail
  go_loopw [166] (fun i wr => ∃ (k : Nat), k ≤ ks.length ∧ i = .int .i64 (k : Int) ∧ Was pp hh rr ks hs bl k w wr) (fun i _ => ks.length - (intOf i).toNat)
  case atStart => exact ⟨0, by omega, rfl, hW⟩
  case round =>
    obtain ⟨i, hi, rfl, hV⟩ := hrel
    by_cases hlt : i < ks.length
    · obtain ⟨k, hk⟩ : ∃ k, ks[i]? = some k := ⟨ks[i], List.getElem?_eq_getElem hlt⟩
      obtain ⟨l0, k0, k1⟩ := hks i k hk
      obtain ⟨g1, g2, g3, g4⟩ := hR.found i k hk
      have hfb : fb ks bl i < pp := hblp _ (List.mem_of_getElem? g2)
      have hwk : IntKind.u64.wrap k = k := IntWalk.u64_in _ (by omega)
      obtain ⟨c, a1, a2, a3⟩ := hV.p
      obtain ⟨d, b1, b2, b3⟩ := hV.h
      obtain ⟨e, c1, c2, c3⟩ := hV.r
      have hrr : rr < wr.heap.size := (Array.getElem?_eq_some_iff.1 c1).1
      have hold : ∀ q, q < pp → wr.heap[q]? = w.heap[q]? := fun q hq => by
        have hw : pp < w.heap.size := by
          obtain ⟨c', a1', _⟩ := hW.p
          exact (Array.getElem?_eq_some_iff.1 a1').1
        exact hV.kept.block q (by omega) (by simp; omega)
      have m0 : wr.cell? ⟨kb, i, none⟩ = some (.int .u32 k) := (World.cell?_of_block (hold kb hkb)).trans l0
      have hlk := (lookup_any wr B L (hR.map.of_block (hold B hBp)) k).1
      rw [g1] at hlk
      have hres : wr.heap[fb ks bl i]? = some (.cells (resC (heldAt hs (fj ks i)) ((fj ks i : Int) + 1)) 57 (0, 0)) := (hold _ hfb).trans g3
      have n5 : wr.cell? ⟨fb ks bl i, 5, none⟩ = some (.bool (heldAt hs (fj ks i))) := cell_of_row wr _ 5 _ _ _ hres
      have n6 : wr.cell? ⟨fb ks bl i, 6, none⟩ = some (.int .u64 (((fj ks i : Int) + 1) % 1000000000)) := cell_of_row wr _ 6 _ _ _ hres
      have n7 : wr.cell? ⟨fb ks bl i, 7, none⟩ = some (.int .i64 (((fj ks i : Int) + 1) / 1000000000)) := cell_of_row wr _ 7 _ _ _ hres
      have n8 : wr.cell? ⟨fb ks bl i, 8, none⟩ = some (.pointer none) := cell_of_row wr _ 8 _ _ _ hres
      have p0 : wr.cell? ⟨pp, i, none⟩ = some (c[i]'(by omega)) := (cell_of_row wr pp i _ _ _ a1).trans (Array.getElem?_eq_getElem _)
      have q0 : wr.cell? ⟨hh, i, none⟩ = some (d[i]'(by omega)) := (cell_of_row wr hh i _ _ _ b1).trans (Array.getElem?_eq_getElem _)
      have r0 : wr.cell? ⟨rr, i * 3, none⟩ = some (e[i * 3]'(by omega)) := (cell_of_row wr rr (i * 3) _ _ _ c1).trans (Array.getElem?_eq_getElem _)
      have r1 : wr.cell? ⟨rr, i * 3 + 1, none⟩ = some (e[i * 3 + 1]'(by omega)) := (cell_of_row wr rr (i * 3 + 1) _ _ _ c1).trans (Array.getElem?_eq_getElem _)
      have r2 : wr.cell? ⟨rr, i * 3 + 2, none⟩ = some (e[i * 3 + 2]'(by omega)) := (cell_of_row wr rr (i * 3 + 2) _ _ _ c1).trans (Array.getElem?_eq_getElem _)
      have fp : ∀ j, wr.frozen? ⟨pp, j, none⟩ = false := fun j => by simp [World.frozen?, a1]
      have fh : ∀ j, wr.frozen? ⟨hh, j, none⟩ = false := fun j => by simp [World.frozen?, b1]
      have fr : ∀ j, wr.frozen? ⟨rr, j, none⟩ = false := fun j => by simp [World.frozen?, c1]
      have hst := hV.step hlt h1 h2
      generalize (c[i]'(by omega)) = y1 at p0
      generalize (d[i]'(by omega)) = y2 at q0
      generalize (e[i * 3]'(by omega)) = y3 at r0
      generalize (e[i * 3 + 1]'(by omega)) = y4 at r1
      generalize (e[i * 3 + 2]'(by omega)) = y5 at r2
      have hlt2 : (i : Int) < (ks.length : Int) := by omega
      have HST := Lib.hid hst
      have HRR := Lib.hid hR
      have HK := Lib.hid hK
      have HKS := Lib.hid hks
      have HBL := Lib.hid hblp
      clear hst hR hK hks hblp hV hW l0 hk g1 g2 g3 g4 a1 a2 a3 b1 b2 b3 c1 c2 c3 hold hres c d e
      obtain ⟨F, hF⟩ : ∃ F, F = fb ks bl i := ⟨_, rfl⟩
      obtain ⟨J, hJ⟩ : ∃ J, J = fj ks i := ⟨_, rfl⟩
      rw [← hF] at HST hlk n5 n6 n7 n8 hfb
      rw [← hJ] at HST n5 n6 n7
      obtain ⟨H, hH⟩ : ∃ H, H = heldAt hs J := ⟨_, rfl⟩
      rw [← hH] at HST n5
      clear hF hJ hH
      go_wp2
      go_roundw
      case rel => exact ⟨i + 1, by omega, by go_num, HST.out⟩
      case measure => simp [intOf]; omega
    · have hkk : i = ks.length := by omega
      subst hkk
      have HK := Lib.hid hK
      clear hK
      go_wp2_with fail
      exact HK.out _ _ _ _ _ _ _ _ _ _ _ _ _ _ _ _ _ _ _ _ _ _ _ _ _ _ _ _ _ _ _ _ _ _ wr hV
end Go.Proofs.YbulkaxysDoor
