/-
  The law's fourth loop: the reservations' state behind the call.
-/
import Derived.Test.YbulkaxysDoorLoop3
import Derived.LaidEqlPtr
import Derived.Lib.Builder
namespace Go.Proofs.YbulkaxysDoor
open Go.RowKit


theorem neq_ptr (a : Addr) (W : World) : (binOp .neq 55 (.pointer (some a)) (.pointer (some a))).run Ybad.prog W = .ok (.bool false) W := by
  obtain ⟨j, hj⟩ := info_of (te := 57) (by kernel_rfl)
  exact Lib.run_neq_ptr_same W a Ybad.underlying55 hj

/-- What the fourth loop reads. -/
structure Chk (kb B pb nb tb pp hh rr : Nat) (v : Int) (x y : Int) (ks : List Int) (L : List (Int × Nat)) (F : Nat → Nat) (Hd : Nat → Bool) (Wd Ed : Nat → Int) (w : World) : Prop where
  ks_ : ∀ (i : Nat) (k : Int), ks[i]? = some k → w.cell? ⟨kb, i, none⟩ = some (.int .u32 k) ∧ 0 ≤ k ∧ k ≤ 4294967295
  map : MapIs w B L
  get : ∀ (i : Nat) (k : Int), ks[i]? = some k → getm L k = some (F i)
  p14 : w.cell? ⟨pb, 14, none⟩ = some (.map (some B))
  n0 : w.cell? ⟨nb, 0, none⟩ = some (.int .u64 0)
  n1 : w.cell? ⟨nb, 1, none⟩ = some (.int .u64 v)
  t0 : w.cell? ⟨tb, 0, none⟩ = some (.int .u64 x)
  t1 : w.cell? ⟨tb, 1, none⟩ = some (.int .i64 y)
  t2 : w.cell? ⟨tb, 2, none⟩ = some (.pointer none)
  p : ∀ q, q < ks.length → w.cell? ⟨pp, q, none⟩ = some (pv (F q))
  h : ∀ q, q < ks.length → w.cell? ⟨hh, q, none⟩ = some (.bool (Hd q))
  r : ∀ q, q < ks.length → w.cell? ⟨rr, q * 3, none⟩ = some (.int .u64 (Wd q)) ∧ w.cell? ⟨rr, q * 3 + 1, none⟩ = some (.int .i64 (Ed q)) ∧ w.cell? ⟨rr, q * 3 + 2, none⟩ = some (.pointer none)
  same : ∀ (q : Nat) (k : Int), ks[q]? = some k → k = v → w.cell? ⟨F q, 5, none⟩ = some (.bool false) ∧ w.cell? ⟨F q, 6, none⟩ = some (.int .u64 x) ∧ w.cell? ⟨F q, 7, none⟩ = some (.int .i64 y) ∧ w.cell? ⟨F q, 8, none⟩ = some (.pointer none)
  other : ∀ (q : Nat) (k : Int), ks[q]? = some k → k ≠ v → w.cell? ⟨F q, 5, none⟩ = some (.bool (Hd q)) ∧ w.cell? ⟨F q, 6, none⟩ = some (.int .u64 (Wd q)) ∧ w.cell? ⟨F q, 7, none⟩ = some (.int .i64 (Ed q)) ∧ w.cell? ⟨F q, 8, none⟩ = some (.pointer none)
  wd : ∀ q, 0 ≤ Wd q ∧ Wd q < 1073741824
  xb : 0 ≤ x ∧ x < 1073741824

theorem below_cell {w X : World} (hb : Below w.heap.size w X) {b j : Nat} {v : Value} (h : w.cell? ⟨b, j, none⟩ = some v) : X.cell? ⟨b, j, none⟩ = some v :=
  (hb.cell (p := ⟨b, j, none⟩) (World.block_lt_of_cell? w _ h)).trans h

theorem Chk.next {kb B pb nb tb pp hh rr : Nat} {v x y : Int} {ks : List Int} {L : List (Int × Nat)} {F : Nat → Nat} {Hd : Nat → Bool} {Wd Ed : Nat → Int} {w X : World} (c : Chk kb B pb nb tb pp hh rr v x y ks L F Hd Wd Ed w) (hb : Below w.heap.size w X) : Chk kb B pb nb tb pp hh rr v x y ks L F Hd Wd Ed X :=
  ⟨fun i k hk => ⟨below_cell hb (c.ks_ i k hk).1, (c.ks_ i k hk).2⟩, c.map.of_block (hb.block B c.map.lt), c.get, below_cell hb c.p14, below_cell hb c.n0, below_cell hb c.n1, below_cell hb c.t0, below_cell hb c.t1, below_cell hb c.t2, fun q hq => below_cell hb (c.p q hq), fun q hq => below_cell hb (c.h q hq), fun q hq => ⟨below_cell hb (c.r q hq).1, below_cell hb (c.r q hq).2.1, below_cell hb (c.r q hq).2.2⟩,
    fun q k hk e => ⟨below_cell hb (c.same q k hk e).1, below_cell hb (c.same q k hk e).2.1, below_cell hb (c.same q k hk e).2.2.1, below_cell hb (c.same q k hk e).2.2.2⟩, fun q k hk e => ⟨below_cell hb (c.other q k hk e).1, below_cell hb (c.other q k hk e).2.1, below_cell hb (c.other q k hk e).2.2.1, below_cell hb (c.other q k hk e).2.2.2⟩, c.wd, c.xb⟩

set_option maxRecDepth 1000000 in
set_option maxHeartbeats 4000000 in
theorem loop4 (c0 c1 c2 c3 c4 c5 c6 c7 c8 c9 c10 c11 c12 c13 c14 c15 c16 c19 c20 c21 c23 c24 c25 c26 c30 c31 c32 c33 c34 c35 c37 c38 c39 c40 c41 c42 c43 c44 c45 c46 c47 c48 c49 c50 c51 c52 c53 c54 c55 c56 c57 c58 c59 c60 c61 c62 c63 c64 c65 c66 c67 c68 c69 c70 c71 c72 c73 c74 c75 c76 c77 c78 c79 c80 c81 c82 c83 c84 c85 c86 c87 c88 c89 c90 c91 c92 c93 c94 c95 c96 c97 c98 c99 c100 c101 c102 c103 c104 c105 c106 c107 c108 c109 c110 c111 c112 c113 c114 c115 c116 c117 c118 c119 c120 c121 c122 c123 c124 c125 c126 c127 c128 c129 c130 c131 c132 c133 c134 c135 c136 c137 c138 c139 c140 c141 c142 c143 c144 c145 c146 c147 c148 c149 c150 c151 c152 c153 c154 c155 c156 c157 c158 c159 c160 c161 c162 c163 c164 c165 c166 c167 c168 c169 c170 c171 c172 c173 c174 c175 c176 c177 c178 c179 c180 c181 c182 c183 c184 c185 c186 c187 c188 c189 c190 c191 c192 c193 c194 c195 c196 c197 c198 c199 c200 c201 c202 c203 c204 c205 c206 c207 c208 c209 c210 c211 c212 c213 c214 c215 c216 c217 c218 c219 c220 c221 c222 c223 c224 c225 c226 c227 c228 c229 c230 c231 c232 c233 c234 c235 c236 c237 c238 c239 c240 c241 c242 c243 c244 c245 c246 c247 c248 c249 c250 c251 c252 c253 c254 c255 c256 c257 c258 c259 c260 c261 c262 c263 c264 c265 c266 c267 c268 c269 c270 c271 c272 c273 c274 c275 c276 c277 c278 c279 c280 c281 c282 c283 c284 c285 c286 c287 c288 c289 c290 c291 c292 c293 c294 c295 c296 c297 c298 c299 c300 c301 c302 c303 c304 c305 c306 c307 c308 c309 c310 c311 c312 c313 c314 c315 c316 c317 c318 c319 c320 c321 c322 c323 c324 c325 c326 c327 c328 c329 c330 c331 c332 c333 c334 c335 c336 c337 c338 c339 c340 c341 c342 c343 c344 c345 c346 : Value) (kb kc B pb nb tb pp hh rr : Nat) (v x y : Int) (ks : List Int) (L : List (Int × Nat)) (F : Nat → Nat) (Hd : Nat → Bool) (Wd Ed : Nat → Int) (K : Act → World → Prop) (Q : Exit → Act → World → Prop) (w : World) (hc : Chk kb B pb nb tb pp hh rr v x y ks L F Hd Wd Ed w) (hn : ks.length ≤ 300)
    (hK : ∀ (u14 u37 u38 u39 u40 u223 u224 u225 u226 u227 u228 u229 u230 u231 u232 u233 u234 u235 u236 u237 u238 u239 u240 u241 u242 u243 u244 u245 u246 u247 u248 u249 u250 u251 u252 u253 u254 u255 u256 u257 u258 u259 u260 u261 u262 u263 u264 u265 u266 u267 u268 u269 u270 u271 u272 u273 u274 u275 u276 u277 u278 u279 u280 u281 u282 u283 u284 u285 : Value) (w' : World), Below w.heap.size w w' → K ⟨#[c0, c1, c2, c3, c4, c5, c6, c7, c8, c9, c10, c11, c12, c13, u14, c15, c16, (.pointer (some ⟨tb, 0, none⟩)), (.pointer (some ⟨nb, 0, none⟩)), c19, c20, c21, (.slice (some ⟨kb, 0, none⟩) ks.length kc), c23, c24, c25, c26, (.slice (some ⟨pp, 0, none⟩) ks.length ks.length), (.slice (some ⟨hh, 0, none⟩) ks.length ks.length), (.slice (some ⟨rr, 0, none⟩) ks.length ks.length), c30, c31, c32, c33, c34, c35, (.pointer (some ⟨pb, 0, none⟩)), u37, u38, u39, u40, c41, c42, c43, c44, c45, c46, c47, c48, c49, c50, c51, c52, c53, c54, c55, c56, c57, c58, c59, c60, c61, c62, c63, c64, c65, c66, c67, c68, c69, c70, c71, c72, c73, c74, c75, c76, c77, c78, c79, c80, c81, c82, c83, c84, c85, c86, c87, c88, c89, c90, c91, c92, c93, c94, c95, c96, c97, c98, c99, c100, c101, c102, c103, c104, c105, c106, c107, c108, c109, c110, c111, c112, c113, c114, c115, c116, c117, c118, c119, c120, c121, c122, c123, c124, c125, c126, c127, c128, c129, c130, c131, c132, c133, c134, c135, c136, c137, c138, c139, c140, c141, c142, c143, c144, c145, c146, c147, c148, c149, c150, c151, c152, c153, c154, c155, c156, c157, c158, c159, c160, c161, c162, c163, c164, c165, c166, c167, c168, c169, c170, c171, c172, c173, c174, c175, c176, c177, c178, c179, c180, c181, c182, c183, c184, c185, c186, c187, c188, c189, c190, c191, c192, c193, c194, c195, c196, c197, c198, c199, c200, c201, c202, c203, c204, c205, c206, c207, c208, c209, c210, c211, c212, c213, c214, c215, c216, c217, c218, c219, c220, c221, c222, u223, u224, u225, u226, u227, u228, u229, u230, u231, u232, u233, u234, u235, u236, u237, u238, u239, u240, u241, u242, u243, u244, u245, u246, u247, u248, u249, u250, u251, u252, u253, u254, u255, u256, u257, u258, u259, u260, u261, u262, u263, u264, u265, u266, u267, u268, u269, u270, u271, u272, u273, u274, u275, u276, u277, u278, u279, u280, u281, u282, u283, u284, u285, c286, c287, c288, c289, c290, c291, c292, c293, c294, c295, c296, c297, c298, c299, c300, c301, c302, c303, c304, c305, c306, c307, c308, c309, c310, c311, c312, c313, c314, c315, c316, c317, c318, c319, c320, c321, c322, c323, c324, c325, c326, c327, c328, c329, c330, c331, c332, c333, c334, c335, c336, c337, c338, c339, c340, c341, c342, c343, c344, c345, c346], []⟩ w') :
    Code.wp Ybad.prog (st Ybad.f3 23) (Exit.then K Q) ⟨#[c0, c1, c2, c3, c4, c5, c6, c7, c8, c9, c10, c11, c12, c13, c14, c15, c16, (.pointer (some ⟨tb, 0, none⟩)), (.pointer (some ⟨nb, 0, none⟩)), c19, c20, c21, (.slice (some ⟨kb, 0, none⟩) ks.length kc), c23, c24, c25, c26, (.slice (some ⟨pp, 0, none⟩) ks.length ks.length), (.slice (some ⟨hh, 0, none⟩) ks.length ks.length), (.slice (some ⟨rr, 0, none⟩) ks.length ks.length), c30, c31, c32, c33, c34, c35, (.pointer (some ⟨pb, 0, none⟩)), c37, c38, c39, c40, c41, c42, c43, c44, c45, c46, c47, c48, c49, c50, c51, c52, c53, c54, c55, c56, c57, c58, c59, c60, c61, c62, c63, c64, c65, c66, c67, c68, c69, c70, c71, c72, c73, c74, c75, c76, c77, c78, c79, c80, c81, c82, c83, c84, c85, c86, c87, c88, c89, c90, c91, c92, c93, c94, c95, c96, c97, c98, c99, c100, c101, c102, c103, c104, c105, c106, c107, c108, c109, c110, c111, c112, c113, c114, c115, c116, c117, c118, c119, c120, c121, c122, c123, c124, c125, c126, c127, c128, c129, c130, c131, c132, c133, c134, c135, c136, c137, c138, c139, c140, c141, c142, c143, c144, c145, c146, c147, c148, c149, c150, c151, c152, c153, c154, c155, c156, c157, c158, c159, c160, c161, c162, c163, c164, c165, c166, c167, c168, c169, c170, c171, c172, c173, c174, c175, c176, c177, c178, c179, c180, c181, c182, c183, c184, c185, c186, c187, c188, c189, c190, c191, c192, c193, c194, c195, c196, c197, c198, c199, c200, c201, c202, c203, c204, c205, c206, c207, c208, c209, c210, c211, c212, c213, c214, c215, c216, c217, c218, c219, c220, c221, c222, c223, c224, c225, c226, c227, c228, c229, c230, c231, c232, c233, c234, c235, c236, c237, c238, c239, c240, c241, c242, c243, c244, c245, c246, c247, c248, c249, c250, c251, c252, c253, c254, c255, c256, c257, c258, c259, c260, c261, c262, c263, c264, c265, c266, c267, c268, c269, c270, c271, c272, c273, c274, c275, c276, c277, c278, c279, c280, c281, c282, c283, c284, c285, c286, c287, c288, c289, c290, c291, c292, c293, c294, c295, c296, c297, c298, c299, c300, c301, c302, c303, c304, c305, c306, c307, c308, c309, c310, c311, c312, c313, c314, c315, c316, c317, c318, c319, c320, c321, c322, c323, c324, c325, c326, c327, c328, c329, c330, c331, c332, c333, c334, c335, c336, c337, c338, c339, c340, c341, c342, c343, c344, c345, c346], []⟩ w := by
  conv => arg 2; whnf
  go_wp2_with fail
  go_loopw [225] (fun i wr => ∃ (k : Nat), k ≤ ks.length ∧ i = .int .i64 (k : Int) ∧ Below w.heap.size w wr) (fun i _ => ks.length - (intOf i).toNat)
  case atStart => exact ⟨0, by omega, rfl, Below.refl _ _⟩
  case round =>
    obtain ⟨i, hi, rfl, hb⟩ := hrel
    by_cases hlt : i < ks.length
    · obtain ⟨k, hk⟩ : ∃ k, ks[i]? = some k := ⟨ks[i], List.getElem?_eq_getElem hlt⟩
      have C := hc.next hb
      obtain ⟨l0, k0, k1⟩ := C.ks_ i k hk
      have hwk : IntKind.u64.wrap k = k := IntWalk.u64_in _ (by omega)
      have hlt2 : (i : Int) < (ks.length : Int) := by omega
      obtain ⟨G, hG⟩ : ∃ G, G = F i := ⟨_, rfl⟩
      have Ck : ∀ Y, Below wr.heap.size wr Y → Chk kb B pb nb tb pp hh rr v x y ks L F Hd Wd Ed Y := fun Y hY => C.next hY
      have h0 : Below wr.heap.size wr (wr.alloc (.cells #[.int .u64 0, .int .u64 k] 46)).drew := ((Below.refl _ wr).alloc (Nat.le_refl _) _).drew
      have C0 := Ck _ h0
      have hS0 : (wr.alloc (.cells #[.int .u64 0, .int .u64 k] 46)).drew.cell? ⟨pb, 14, none⟩ = some (.map (some B)) ∧ (wr.alloc (.cells #[.int .u64 0, .int .u64 k] 46)).drew.cell? ⟨wr.heap.size, 0, none⟩ = some (.int .u64 0) ∧ (wr.alloc (.cells #[.int .u64 0, .int .u64 k] 46)).drew.cell? ⟨wr.heap.size, 1, none⟩ = some (.int .u64 k) ∧ (wr.alloc (.cells #[.int .u64 0, .int .u64 k] 46)).drew.cell? ⟨pp, i, none⟩ = some (.pointer (some ⟨G, 0, none⟩)) ∧ (Instr.lookup 54 (.map (some B)) (.agg #[.int .u64 0, .int .u64 k]) false).run Ybad.prog (wr.alloc (.cells #[.int .u64 0, .int .u64 k] 46)).drew = .ok (.pointer (some ⟨G, 0, none⟩)) (wr.alloc (.cells #[.int .u64 0, .int .u64 k] 46)).drew ∧ (binOp .neq 55 (.pointer (some ⟨G, 0, none⟩)) (.pointer (some ⟨G, 0, none⟩))).run Ybad.prog (wr.alloc (.cells #[.int .u64 0, .int .u64 k] 46)).drew = .ok (.bool false) (wr.alloc (.cells #[.int .u64 0, .int .u64 k] 46)).drew := by
        have hlk := (lookup_any _ B L C0.map k).1
        rw [C0.get i k hk, ← hG] at hlk
        exact ⟨C0.p14, third_cell wr _ _ 0, third_cell wr _ _ 1, by rw [hG]; exact C0.p i hlt, hlk, neq_ptr _ _⟩
      have hnp := fun W => neq_ptr ⟨G, 0, none⟩ W
      have HC := Lib.hid hc
      have HK := Lib.hid hK
      have HCK := Lib.hid Ck
      have HB := Lib.hid hb
      have HKI := Lib.hid hk
      have HG := Lib.hid hG
      clear hc hK Ck hb C C0 hk hG
      go_wp2_with fail
      go_region_held3 (fun X => X.cell? ⟨pb, 14, none⟩ = some (.map (some B)) ∧ X.cell? ⟨wr.heap.size, 0, none⟩ = some (.int .u64 0) ∧ X.cell? ⟨wr.heap.size, 1, none⟩ = some (.int .u64 k) ∧ X.cell? ⟨pp, i, none⟩ = some (.pointer (some ⟨G, 0, none⟩)) ∧ (Instr.lookup 54 (.map (some B)) (.agg #[.int .u64 0, .int .u64 k]) false).run Ybad.prog X = .ok (.pointer (some ⟨G, 0, none⟩)) X ∧ (binOp .neq 55 (.pointer (some ⟨G, 0, none⟩)) (.pointer (some ⟨G, 0, none⟩))).run Ybad.prog X = .ok (.bool false) X) (first | exact hS0 | assumption) (fail)
      obtain ⟨X, hX⟩ : ∃ X, X = (wr.alloc (.cells #[.int .u64 0, .int .u64 k] 46)).drew := ⟨_, rfl⟩
      rw [← hX] at h0 hS0 ⊢
      clear hX
      obtain ⟨-, e0, e1, e2, -, -⟩ := hS0
      have C0 := HCK.out X h0
      have nn0 := C0.n0
      have nn1 := C0.n1
      have heq := fun W => eql46 k v W
      have HX := Lib.hid h0
      by_cases hkv : k = v
      · have hq : (k == v) = true := by simp [hkv]
        rw [hq] at heq
        obtain ⟨s5, s6, s7, s8⟩ := C0.same i k HKI.out hkv
        rw [← HG.out] at s5 s6 s7 s8
        have hS1 : X.drew.cell? ⟨G, 5, none⟩ = some (.bool false) ∧ X.drew.cell? ⟨G, 6, none⟩ = some (.int .u64 x) ∧ X.drew.cell? ⟨G, 7, none⟩ = some (.int .i64 y) ∧ X.drew.cell? ⟨G, 8, none⟩ = some (.pointer none) ∧ X.drew.cell? ⟨tb, 0, none⟩ = some (.int .u64 x) ∧ X.drew.cell? ⟨tb, 1, none⟩ = some (.int .i64 y) ∧ X.drew.cell? ⟨tb, 2, none⟩ = some (.pointer none) := ⟨s5, s6, s7, s8, C0.t0, C0.t1, C0.t2⟩
        have hkeep : ∀ Y, Below X.drew.heap.size X.drew Y → Y.cell? ⟨G, 5, none⟩ = some (.bool false) ∧ Y.cell? ⟨G, 6, none⟩ = some (.int .u64 x) ∧ Y.cell? ⟨G, 7, none⟩ = some (.int .i64 y) ∧ Y.cell? ⟨G, 8, none⟩ = some (.pointer none) ∧ Y.cell? ⟨tb, 0, none⟩ = some (.int .u64 x) ∧ Y.cell? ⟨tb, 1, none⟩ = some (.int .i64 y) ∧ Y.cell? ⟨tb, 2, none⟩ = some (.pointer none) := fun Y hY => ⟨below_cell hY hS1.1, below_cell hY hS1.2.1, below_cell hY hS1.2.2.1, below_cell hY hS1.2.2.2.1, below_cell hY hS1.2.2.2.2.1, below_cell hY hS1.2.2.2.2.2.1, below_cell hY hS1.2.2.2.2.2.2⟩
        have H8 := Lib.hid (fun W => equal8 x y x y W C0.xb.1 C0.xb.2 C0.xb.1 C0.xb.2)
        have HKE := Lib.hid hkeep
        clear hkeep hkv hq s5 s6 s7 s8 C0 h0
        go_wp2_with fail
        go_region_held3 (fun X => X.cell? ⟨G, 5, none⟩ = some (.bool false) ∧ X.cell? ⟨G, 6, none⟩ = some (.int .u64 x) ∧ X.cell? ⟨G, 7, none⟩ = some (.int .i64 y) ∧ X.cell? ⟨G, 8, none⟩ = some (.pointer none) ∧ X.cell? ⟨tb, 0, none⟩ = some (.int .u64 x) ∧ X.cell? ⟨tb, 1, none⟩ = some (.int .i64 y) ∧ X.cell? ⟨tb, 2, none⟩ = some (.pointer none)) (first | exact hS1 | exact hS2 | assumption) (first | (go_at_call 8; refine (H8.out _).mono ?_; rintro e wA ⟨rfl, hbA⟩; have hS2 := HKE.out wA hbA; have HA := Lib.hid hbA; clear hbA))
        have hfin : Below w.heap.size w wA := (HB.out.trans ((HX.out.drew.trans (HA.out.mono HX.out.size)).mono HB.out.size))
        clear hS1 hS2 e0 e1 e2 nn0 nn1
        go_wp2
        go_roundw
        case rel => exact ⟨i + 1, by omega, by go_num, hfin⟩
        case measure => simp [intOf]; omega
      · have hq : (k == v) = false := by simp [hkv]
        rw [hq] at heq
        obtain ⟨s5, s6, s7, s8⟩ := C0.other i k HKI.out hkv
        rw [← HG.out] at s5 s6 s7 s8
        obtain ⟨r0, r1, r2⟩ := C0.r i hlt
        have hh0 := C0.h i hlt
        have wdb := C0.wd i
        obtain ⟨D, hD⟩ : ∃ D, D = Hd i := ⟨_, rfl⟩
        obtain ⟨W1, hW1⟩ : ∃ W1, W1 = Wd i := ⟨_, rfl⟩
        obtain ⟨E1, hE1⟩ : ∃ E1, E1 = Ed i := ⟨_, rfl⟩
        rw [← hD] at s5 hh0
        rw [← hW1] at s6 r0 wdb
        rw [← hE1] at s7 r1
        have hS1 : X.drew.cell? ⟨G, 5, none⟩ = some (.bool D) ∧ X.drew.cell? ⟨G, 6, none⟩ = some (.int .u64 W1) ∧ X.drew.cell? ⟨G, 7, none⟩ = some (.int .i64 E1) ∧ X.drew.cell? ⟨G, 8, none⟩ = some (.pointer none) ∧ X.drew.cell? ⟨hh, i, none⟩ = some (.bool D) ∧ X.drew.cell? ⟨rr, i * 3, none⟩ = some (.int .u64 W1) ∧ X.drew.cell? ⟨rr, i * 3 + 1, none⟩ = some (.int .i64 E1) ∧ X.drew.cell? ⟨rr, i * 3 + 2, none⟩ = some (.pointer none) := ⟨s5, s6, s7, s8, hh0, r0, r1, r2⟩
        have hkeep : ∀ Y, Below X.drew.heap.size X.drew Y → Y.cell? ⟨G, 5, none⟩ = some (.bool D) ∧ Y.cell? ⟨G, 6, none⟩ = some (.int .u64 W1) ∧ Y.cell? ⟨G, 7, none⟩ = some (.int .i64 E1) ∧ Y.cell? ⟨G, 8, none⟩ = some (.pointer none) ∧ Y.cell? ⟨hh, i, none⟩ = some (.bool D) ∧ Y.cell? ⟨rr, i * 3, none⟩ = some (.int .u64 W1) ∧ Y.cell? ⟨rr, i * 3 + 1, none⟩ = some (.int .i64 E1) ∧ Y.cell? ⟨rr, i * 3 + 2, none⟩ = some (.pointer none) := fun Y hY => ⟨below_cell hY hS1.1, below_cell hY hS1.2.1, below_cell hY hS1.2.2.1, below_cell hY hS1.2.2.2.1, below_cell hY hS1.2.2.2.2.1, below_cell hY hS1.2.2.2.2.2.1, below_cell hY hS1.2.2.2.2.2.2.1, below_cell hY hS1.2.2.2.2.2.2.2⟩
        have H8 := Lib.hid (fun W => equal8 W1 E1 W1 E1 W wdb.1 wdb.2 wdb.1 wdb.2)
        have HKE := Lib.hid hkeep
        clear hkeep hkv hq s5 s6 s7 s8 C0 h0 hD hW1 hE1 r0 r1 r2 hh0
        go_wp2_with fail
        go_region_held3 (fun X => X.cell? ⟨G, 5, none⟩ = some (.bool D) ∧ X.cell? ⟨G, 6, none⟩ = some (.int .u64 W1) ∧ X.cell? ⟨G, 7, none⟩ = some (.int .i64 E1) ∧ X.cell? ⟨G, 8, none⟩ = some (.pointer none) ∧ X.cell? ⟨hh, i, none⟩ = some (.bool D) ∧ X.cell? ⟨rr, i * 3, none⟩ = some (.int .u64 W1) ∧ X.cell? ⟨rr, i * 3 + 1, none⟩ = some (.int .i64 E1) ∧ X.cell? ⟨rr, i * 3 + 2, none⟩ = some (.pointer none)) (first | exact hS1 | exact hS2 | assumption) (first | (go_at_call 8; refine (H8.out _).mono ?_; rintro e wA ⟨rfl, hbA⟩; have hS2 := HKE.out wA hbA; have HA := Lib.hid hbA; clear hbA))
        have hfin : Below w.heap.size w wA := (HB.out.trans ((HX.out.drew.trans (HA.out.mono HX.out.size)).mono HB.out.size))
        clear hS1 hS2 e0 e1 e2 nn0 nn1
        go_wp2
        go_roundw
        case rel => exact ⟨i + 1, by omega, by go_num, hfin⟩
        case measure => simp [intOf]; omega
    · have HK := Lib.hid hK
      clear hK
      go_wp2_with fail
      exact HK.out _ _ _ _ _ _ _ _ _ _ _ _ _ _ _ _ _ _ _ _ _ _ _ _ _ _ _ _ _ _ _ _ _ _ _ _ _ _ _ _ _ _ _ _ _ _ _ _ _ _ _ _ _ _ _ _ _ _ _ _ _ _ _ _ _ _ _ _ wr hb
end Go.Proofs.YbulkaxysDoor
