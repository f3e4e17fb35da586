/-
  The law's fifth and sixth loops: the rests behind the call.
-/
import Derived.Test.YbulkaxysDoorLoop1
namespace Go.Proofs.YbulkaxysDoor
open Go.RowKit


theorem low_cell {w X : World} (hb : Below w.heap.size w X) {b j : Nat} {v : Value} (h : w.cell? ⟨b, j, none⟩ = some v) : X.cell? ⟨b, j, none⟩ = some v :=
  (hb.cell (p := ⟨b, j, none⟩) (World.block_lt_of_cell? w _ h)).trans h

/-- The then-arm of a statement that tests, and its second statement. -/
def thenOf : Code → Code
  | .seq _ (.cond _ a _) => a
  | c => c
def st5 (f : Func) : Code := hd (tl 1 (thenOf (st f 24)))

set_option maxRecDepth 1000000 in
set_option maxHeartbeats 4000000 in
theorem loop5 (c0 c1 c2 c3 c4 c5 c6 c7 c8 c9 c10 c11 c12 c13 c14 c15 c16 c17 c18 c20 c21 c22 c23 c24 c25 c26 c27 c28 c29 c30 c31 c32 c33 c34 c35 c37 c38 c39 c40 c41 c42 c43 c44 c45 c46 c47 c48 c49 c50 c51 c52 c53 c54 c55 c56 c57 c58 c59 c60 c61 c62 c63 c64 c65 c66 c67 c68 c69 c70 c71 c72 c73 c74 c75 c76 c77 c78 c79 c80 c81 c82 c83 c84 c85 c86 c87 c88 c89 c90 c91 c92 c93 c94 c95 c96 c97 c98 c99 c100 c101 c102 c103 c104 c105 c106 c107 c108 c109 c110 c111 c112 c113 c114 c115 c116 c117 c118 c119 c120 c121 c122 c123 c124 c125 c126 c127 c128 c129 c130 c131 c132 c133 c134 c135 c136 c137 c138 c139 c140 c141 c142 c143 c144 c145 c146 c147 c148 c149 c150 c151 c152 c153 c154 c155 c156 c157 c158 c159 c160 c161 c162 c163 c164 c165 c166 c167 c168 c169 c170 c171 c172 c173 c174 c175 c176 c177 c178 c179 c180 c181 c182 c183 c184 c185 c186 c187 c188 c189 c190 c191 c192 c193 c194 c195 c196 c197 c198 c199 c200 c201 c202 c203 c204 c205 c206 c207 c208 c209 c210 c211 c212 c213 c214 c215 c216 c217 c218 c219 c220 c221 c222 c223 c224 c225 c226 c227 c228 c229 c230 c231 c232 c233 c234 c235 c236 c237 c238 c239 c240 c241 c242 c243 c244 c245 c246 c247 c248 c249 c250 c251 c252 c253 c254 c255 c256 c257 c258 c259 c260 c261 c262 c263 c264 c265 c266 c267 c268 c269 c270 c271 c272 c273 c274 c275 c276 c277 c278 c279 c280 c281 c282 c283 c284 c285 c286 c287 c288 c289 c290 c291 c292 c293 c294 c295 c296 c297 c298 c299 c300 c301 c302 c303 c304 c305 c306 c307 c308 c309 c310 c311 c312 c313 c314 c315 c316 c317 c318 c319 c320 c321 c322 c323 c324 c325 c326 c327 c328 c329 c330 c331 c332 c333 c334 c335 c336 c337 c338 c339 c340 c341 c342 c343 c344 c345 c346 : Value) (pb g gc go oc : Nat) (xs : List Rt) (K : Act → World → Prop) (Q : Exit → Act → World → Prop) (w : World) (hp : w.cell? ⟨pb, 13, none⟩ = some (.slice (some ⟨g, 0, none⟩) xs.length gc)) (hr : RowsAt w g xs) (ho : RowsAt w go xs) (hok : ∀ r ∈ xs, r.ok) (hn : xs.length ≤ 300)
    (hK : ∀ (u14 u41 u295 u296 u297 u298 u299 u300 u301 u302 u303 u304 u305 u306 u307 u308 u309 u310 u311 u312 u313 : Value) (w' : World), Below w.heap.size w w' → K ⟨#[c0, c1, c2, c3, c4, c5, c6, c7, c8, c9, c10, c11, c12, c13, u14, c15, c16, c17, c18, (.slice (some ⟨go, 0, none⟩) xs.length oc), c20, c21, c22, c23, c24, c25, c26, c27, c28, c29, c30, c31, c32, c33, c34, c35, (.pointer (some ⟨pb, 0, none⟩)), c37, c38, c39, c40, u41, c42, c43, c44, c45, c46, c47, c48, c49, c50, c51, c52, c53, c54, c55, c56, c57, c58, c59, c60, c61, c62, c63, c64, c65, c66, c67, c68, c69, c70, c71, c72, c73, c74, c75, c76, c77, c78, c79, c80, c81, c82, c83, c84, c85, c86, c87, c88, c89, c90, c91, c92, c93, c94, c95, c96, c97, c98, c99, c100, c101, c102, c103, c104, c105, c106, c107, c108, c109, c110, c111, c112, c113, c114, c115, c116, c117, c118, c119, c120, c121, c122, c123, c124, c125, c126, c127, c128, c129, c130, c131, c132, c133, c134, c135, c136, c137, c138, c139, c140, c141, c142, c143, c144, c145, c146, c147, c148, c149, c150, c151, c152, c153, c154, c155, c156, c157, c158, c159, c160, c161, c162, c163, c164, c165, c166, c167, c168, c169, c170, c171, c172, c173, c174, c175, c176, c177, c178, c179, c180, c181, c182, c183, c184, c185, c186, c187, c188, c189, c190, c191, c192, c193, c194, c195, c196, c197, c198, c199, c200, c201, c202, c203, c204, c205, c206, c207, c208, c209, c210, c211, c212, c213, c214, c215, c216, c217, c218, c219, c220, c221, c222, c223, c224, c225, c226, c227, c228, c229, c230, c231, c232, c233, c234, c235, c236, c237, c238, c239, c240, c241, c242, c243, c244, c245, c246, c247, c248, c249, c250, c251, c252, c253, c254, c255, c256, c257, c258, c259, c260, c261, c262, c263, c264, c265, c266, c267, c268, c269, c270, c271, c272, c273, c274, c275, c276, c277, c278, c279, c280, c281, c282, c283, c284, c285, c286, c287, c288, c289, c290, c291, c292, c293, c294, u295, u296, u297, u298, u299, u300, u301, u302, u303, u304, u305, u306, u307, u308, u309, u310, u311, u312, u313, c314, c315, c316, c317, c318, c319, c320, c321, c322, c323, c324, c325, c326, c327, c328, c329, c330, c331, c332, c333, c334, c335, c336, c337, c338, c339, c340, c341, c342, c343, c344, c345, c346], []⟩ w') :
    Code.wp Ybad.prog (st5 Ybad.f3) (Exit.then K Q) ⟨#[c0, c1, c2, c3, c4, c5, c6, c7, c8, c9, c10, c11, c12, c13, c14, c15, c16, c17, c18, (.slice (some ⟨go, 0, none⟩) xs.length oc), c20, c21, c22, c23, c24, c25, c26, c27, c28, c29, c30, c31, c32, c33, c34, c35, (.pointer (some ⟨pb, 0, none⟩)), c37, c38, c39, c40, c41, c42, c43, c44, c45, c46, c47, c48, c49, c50, c51, c52, c53, c54, c55, c56, c57, c58, c59, c60, c61, c62, c63, c64, c65, c66, c67, c68, c69, c70, c71, c72, c73, c74, c75, c76, c77, c78, c79, c80, c81, c82, c83, c84, c85, c86, c87, c88, c89, c90, c91, c92, c93, c94, c95, c96, c97, c98, c99, c100, c101, c102, c103, c104, c105, c106, c107, c108, c109, c110, c111, c112, c113, c114, c115, c116, c117, c118, c119, c120, c121, c122, c123, c124, c125, c126, c127, c128, c129, c130, c131, c132, c133, c134, c135, c136, c137, c138, c139, c140, c141, c142, c143, c144, c145, c146, c147, c148, c149, c150, c151, c152, c153, c154, c155, c156, c157, c158, c159, c160, c161, c162, c163, c164, c165, c166, c167, c168, c169, c170, c171, c172, c173, c174, c175, c176, c177, c178, c179, c180, c181, c182, c183, c184, c185, c186, c187, c188, c189, c190, c191, c192, c193, c194, c195, c196, c197, c198, c199, c200, c201, c202, c203, c204, c205, c206, c207, c208, c209, c210, c211, c212, c213, c214, c215, c216, c217, c218, c219, c220, c221, c222, c223, c224, c225, c226, c227, c228, c229, c230, c231, c232, c233, c234, c235, c236, c237, c238, c239, c240, c241, c242, c243, c244, c245, c246, c247, c248, c249, c250, c251, c252, c253, c254, c255, c256, c257, c258, c259, c260, c261, c262, c263, c264, c265, c266, c267, c268, c269, c270, c271, c272, c273, c274, c275, c276, c277, c278, c279, c280, c281, c282, c283, c284, c285, c286, c287, c288, c289, c290, c291, c292, c293, c294, c295, c296, c297, c298, c299, c300, c301, c302, c303, c304, c305, c306, c307, c308, c309, c310, c311, c312, c313, c314, c315, c316, c317, c318, c319, c320, c321, c322, c323, c324, c325, c326, c327, c328, c329, c330, c331, c332, c333, c334, c335, c336, c337, c338, c339, c340, c341, c342, c343, c344, c345, c346], []⟩ w := by
  conv => arg 2; whnf
  go_wp2_with fail
  go_loopw [297] (fun i wr => ∃ (k : Nat), k ≤ xs.length ∧ i = .int .i64 (k : Int) ∧ Below w.heap.size w wr) (fun i _ => xs.length - (intOf i).toNat)
  case atStart => exact ⟨0, by omega, rfl, Below.refl _ _⟩
  case round =>
    obtain ⟨i, hi, rfl, hb⟩ := hrel
    by_cases hlt : i < xs.length
    · obtain ⟨r, hri⟩ : ∃ r, xs[i]? = some r := ⟨xs[i], List.getElem?_eq_getElem hlt⟩
      have hrok := hok r (List.mem_of_getElem? hri)
      have hlt2 : (i : Int) < (xs.length : Int) := by omega
      obtain ⟨a0, a1, a2, a3, a4, a5, a6⟩ := hr.cells hri
      obtain ⟨d0, d1, d2, d3, d4, d5, d6⟩ := ho.cells hri
      have h9 := eq9 r r hrok hrok
      rw [Rt.eqb_refl] at h9
      obtain ⟨ra, rb, rx, ry⟩ := r
      simp only [Rt.cells] at h9
      simp only at a1 a3 a4 a5 d1 d3 d4 d5
      have hbd : Below w.heap.size w wr.drew := hb.drew
      have hS0 : wr.drew.cell? ⟨pb, 13, none⟩ = some (.slice (some ⟨g, 0, none⟩) xs.length gc) ∧ wr.drew.cell? ⟨g, i * 7, none⟩ = some (.int .u64 0) ∧ wr.drew.cell? ⟨g, i * 7 + 1, none⟩ = some (.int .u64 ra) ∧ wr.drew.cell? ⟨g, i * 7 + 2, none⟩ = some (.int .u64 0) ∧ wr.drew.cell? ⟨g, i * 7 + 3, none⟩ = some (.int .u64 rb) ∧ wr.drew.cell? ⟨g, i * 7 + 4, none⟩ = some (.int .u64 rx) ∧ wr.drew.cell? ⟨g, i * 7 + 5, none⟩ = some (.int .i64 ry) ∧ wr.drew.cell? ⟨g, i * 7 + 6, none⟩ = some (.pointer none) ∧ wr.drew.cell? ⟨go, i * 7, none⟩ = some (.int .u64 0) ∧ wr.drew.cell? ⟨go, i * 7 + 1, none⟩ = some (.int .u64 ra) ∧ wr.drew.cell? ⟨go, i * 7 + 2, none⟩ = some (.int .u64 0) ∧ wr.drew.cell? ⟨go, i * 7 + 3, none⟩ = some (.int .u64 rb) ∧ wr.drew.cell? ⟨go, i * 7 + 4, none⟩ = some (.int .u64 rx) ∧ wr.drew.cell? ⟨go, i * 7 + 5, none⟩ = some (.int .i64 ry) ∧ wr.drew.cell? ⟨go, i * 7 + 6, none⟩ = some (.pointer none) := ⟨low_cell hbd hp, low_cell hbd a0, low_cell hbd a1, low_cell hbd a2, low_cell hbd a3, low_cell hbd a4, low_cell hbd a5, low_cell hbd a6, low_cell hbd d0, low_cell hbd d1, low_cell hbd d2, low_cell hbd d3, low_cell hbd d4, low_cell hbd d5, low_cell hbd d6⟩
      have hkeep : ∀ Y, Below wr.drew.heap.size wr.drew Y → Y.cell? ⟨pb, 13, none⟩ = some (.slice (some ⟨g, 0, none⟩) xs.length gc) ∧ Y.cell? ⟨g, i * 7, none⟩ = some (.int .u64 0) ∧ Y.cell? ⟨g, i * 7 + 1, none⟩ = some (.int .u64 ra) ∧ Y.cell? ⟨g, i * 7 + 2, none⟩ = some (.int .u64 0) ∧ Y.cell? ⟨g, i * 7 + 3, none⟩ = some (.int .u64 rb) ∧ Y.cell? ⟨g, i * 7 + 4, none⟩ = some (.int .u64 rx) ∧ Y.cell? ⟨g, i * 7 + 5, none⟩ = some (.int .i64 ry) ∧ Y.cell? ⟨g, i * 7 + 6, none⟩ = some (.pointer none) ∧ Y.cell? ⟨go, i * 7, none⟩ = some (.int .u64 0) ∧ Y.cell? ⟨go, i * 7 + 1, none⟩ = some (.int .u64 ra) ∧ Y.cell? ⟨go, i * 7 + 2, none⟩ = some (.int .u64 0) ∧ Y.cell? ⟨go, i * 7 + 3, none⟩ = some (.int .u64 rb) ∧ Y.cell? ⟨go, i * 7 + 4, none⟩ = some (.int .u64 rx) ∧ Y.cell? ⟨go, i * 7 + 5, none⟩ = some (.int .i64 ry) ∧ Y.cell? ⟨go, i * 7 + 6, none⟩ = some (.pointer none) := fun Y hY => ⟨low_cell hY hS0.1, low_cell hY hS0.2.1, low_cell hY hS0.2.2.1, low_cell hY hS0.2.2.2.1, low_cell hY hS0.2.2.2.2.1, low_cell hY hS0.2.2.2.2.2.1, low_cell hY hS0.2.2.2.2.2.2.1, low_cell hY hS0.2.2.2.2.2.2.2.1, low_cell hY hS0.2.2.2.2.2.2.2.2.1, low_cell hY hS0.2.2.2.2.2.2.2.2.2.1, low_cell hY hS0.2.2.2.2.2.2.2.2.2.2.1, low_cell hY hS0.2.2.2.2.2.2.2.2.2.2.2.1, low_cell hY hS0.2.2.2.2.2.2.2.2.2.2.2.2.1, low_cell hY hS0.2.2.2.2.2.2.2.2.2.2.2.2.2.1, low_cell hY hS0.2.2.2.2.2.2.2.2.2.2.2.2.2.2⟩
      have H9 := Lib.hid h9
      have HKE := Lib.hid hkeep
      have HK := Lib.hid hK
      have HB := Lib.hid hb
      have HX := Lib.hid (And.intro hr (And.intro ho hok))
      clear h9 hkeep hK hb hr ho hok hri hrok a0 a1 a2 a3 a4 a5 a6 d0 d1 d2 d3 d4 d5 d6 hbd
      go_wp2_with fail
      go_region_held3 (fun X => X.cell? ⟨pb, 13, none⟩ = some (.slice (some ⟨g, 0, none⟩) xs.length gc) ∧ X.cell? ⟨g, i * 7, none⟩ = some (.int .u64 0) ∧ X.cell? ⟨g, i * 7 + 1, none⟩ = some (.int .u64 ra) ∧ X.cell? ⟨g, i * 7 + 2, none⟩ = some (.int .u64 0) ∧ X.cell? ⟨g, i * 7 + 3, none⟩ = some (.int .u64 rb) ∧ X.cell? ⟨g, i * 7 + 4, none⟩ = some (.int .u64 rx) ∧ X.cell? ⟨g, i * 7 + 5, none⟩ = some (.int .i64 ry) ∧ X.cell? ⟨g, i * 7 + 6, none⟩ = some (.pointer none) ∧ X.cell? ⟨go, i * 7, none⟩ = some (.int .u64 0) ∧ X.cell? ⟨go, i * 7 + 1, none⟩ = some (.int .u64 ra) ∧ X.cell? ⟨go, i * 7 + 2, none⟩ = some (.int .u64 0) ∧ X.cell? ⟨go, i * 7 + 3, none⟩ = some (.int .u64 rb) ∧ X.cell? ⟨go, i * 7 + 4, none⟩ = some (.int .u64 rx) ∧ X.cell? ⟨go, i * 7 + 5, none⟩ = some (.int .i64 ry) ∧ X.cell? ⟨go, i * 7 + 6, none⟩ = some (.pointer none)) (first | exact hS0 | exact hS2 | assumption) (first | (go_at_call 9; refine (H9.out _).mono ?_; rintro e wA ⟨rfl, hbA⟩; have hS2 := HKE.out wA hbA; have HA := Lib.hid hbA; clear hbA))
      have hfin : Below w.heap.size w wA := HB.out.drew.trans (HA.out.mono HB.out.size)
      clear hS0 hS2
      go_wp2
      go_roundw
      case rel => exact ⟨i + 1, by omega, by go_num, hfin⟩
      case measure => simp [intOf]; omega
    · have HK := Lib.hid hK
      clear hK
      go_wp2_with fail
      exact HK.out _ _ _ _ _ _ _ _ _ _ _ _ _ _ _ _ _ _ _ _ _ wr hb
end Go.Proofs.YbulkaxysDoor
