/-
  The law's first loop: the rests.
-/
import Derived.Test.YbulkaxysDoorRelease
import Derived.Deep.RegionHeld3
import Derived.Deep.AppendLies
import Derived.Deep.LoopGhost
namespace Go.Proofs.YbulkaxysDoor
open Go.RowKit

/-- The n-th statement of the law. -/
def tl : Nat → Code → Code
  | 0, c => c
  | n + 1, .seq _ b => tl n b
  | _ + 1, c => c
def hd : Code → Code
  | .seq a _ => a
  | c => c
def st (f : Func) (n : Nat) : Code := hd (tl n (f.body.getD .skip))

/-- A rest as it came in. -/
structure R3 where
  lo : Int
  wd : Int
  at_ : Int
def R3.ok (r : R3) : Prop := (0 ≤ r.lo ∧ r.lo ≤ 4294967295) ∧ (0 ≤ r.wd ∧ r.wd ≤ 255) ∧ (-9223372036854775808 ≤ r.at_ ∧ r.at_ ≤ 9223372036854775807)
def R3.rt (r : R3) : Rt := ⟨r.lo, r.lo + r.wd, r.at_ % 1000000000, r.at_ / 1000000000⟩
theorem R3.rt_ok (r : R3) : r.rt.ok := by unfold R3.rt Rt.ok; simp; omega

/-- The rests that came in lie so. -/
def SrcR (w : World) (ao : Option Addr) (rs : List R3) : Prop := ∀ (i : Nat) (r : R3), rs[i]? = some r → ∃ b o, ao = some ⟨b, o, none⟩ ∧ w.cell? ⟨b, o + i * 3, none⟩ = some (.int .u32 r.lo) ∧ w.cell? ⟨b, o + i * 3 + 1, none⟩ = some (.int .u8 r.wd) ∧ w.cell? ⟨b, o + i * 3 + 2, none⟩ = some (.int .i64 r.at_)


/-- The world inside a round. -/
structure G1 (C k B : Nat) (r : R3) (v : Value) (l : List Value) (w X : World) : Prop where
  c0 : X.cell? ⟨B, 0, none⟩ = some (.int .u32 r.lo)
  c1 : X.cell? ⟨B, 1, none⟩ = some (.int .u8 r.wd)
  c2 : X.cell? ⟨B, 2, none⟩ = some (.int .i64 r.at_)
  own : X.ownsRow C 53 7 v k l
  low : Below C w X
  base : C ≤ X.heap.size
  lt : B < X.heap.size
  out : v.ownBlock ≠ some B

theorem G1.reads {C k B : Nat} {r : R3} {v : Value} {l : List Value} {w X : World} (g : G1 C k B r v l w X) : X.cell? ⟨B, 0, none⟩ = some (.int .u32 r.lo) ∧ X.cell? ⟨B, 1, none⟩ = some (.int .u8 r.wd) ∧ X.cell? ⟨B, 2, none⟩ = some (.int .i64 r.at_) := ⟨g.c0, g.c1, g.c2⟩

theorem ownsRow_below {w X : World} {C k : Nat} {v : Value} {l : List Value} (h : w.ownsRow C 53 7 v k l) (hb : Below w.heap.size w X) : X.ownsRow C 53 7 v k l := by
  refine ⟨h.1, h.2.imp id ?_⟩
  rintro ⟨g, cap, cur, hv, hg, hat, rest⟩
  exact ⟨g, cap, cur, hv, hg, (hb.block g (Array.getElem?_eq_some_iff.1 hat).1).trans hat, rest⟩

theorem G1.next {C k B : Nat} {r : R3} {v : Value} {l : List Value} {w X Y : World} (g : G1 C k B r v l w X) (hb : Below X.heap.size X Y) : G1 C k B r v l w Y :=
  ⟨(hb.cell (p := ⟨B, 0, none⟩) g.lt).trans g.c0, (hb.cell (p := ⟨B, 1, none⟩) g.lt).trans g.c1, (hb.cell (p := ⟨B, 2, none⟩) g.lt).trans g.c2, ownsRow_below g.own hb, g.low.trans (hb.mono g.base), Nat.le_trans g.base hb.size, Nat.lt_of_lt_of_le g.lt hb.size, g.out⟩
theorem G1.alloc {C k B : Nat} {r : R3} {v : Value} {l : List Value} {w X : World} (g : G1 C k B r v l w X) (o : Obj) : G1 C k B r v l w (X.alloc o) := g.next ((Below.refl _ X).alloc (Nat.le_refl _) o)

theorem G1.start {C k : Nat} {r : R3} {v : Value} {l : List Value} {w wr : World} (h : wr.ownsRow C 53 7 v k l) (hb : Below C w wr) (hC : C ≤ w.heap.size) : G1 C k wr.heap.size r v l w (wr.alloc (.cells #[.int .u32 r.lo, .int .u8 r.wd, .int .i64 r.at_] 49)).drew := by
  have hs := hb.size
  have hb0 : Below wr.heap.size wr (wr.alloc (.cells #[.int .u32 r.lo, .int .u8 r.wd, .int .i64 r.at_] 49)).drew := ((Below.refl _ wr).alloc (Nat.le_refl _) _).drew
  refine ⟨third_cell wr _ _ 0, third_cell wr _ _ 1, third_cell wr _ _ 2, ownsRow_below h hb0, hb.trans (hb0.mono (by omega)), ?_, ?_, fun e => ?_⟩
  · show C ≤ (wr.alloc _).heap.size; simp; omega
  · show wr.heap.size < (wr.alloc _).heap.size; simp
  · have := (h.lt _ e).2; omega

theorem G1.grown {C k B : Nat} {r : R3} {v : Value} {l : List Value} {w X Y : World} (g : G1 C k B r v l w X) (hg : X.grownBy Y v.ownBlock) : (Below C w Y ∧ X.heap.size ≤ Y.heap.size) ∧ (Y.cell? ⟨B, 0, none⟩ = some (.int .u32 r.lo) ∧ Y.cell? ⟨B, 1, none⟩ = some (.int .u8 r.wd) ∧ Y.cell? ⟨B, 2, none⟩ = some (.int .i64 r.at_)) := by
  have e : ∀ j, Y.cell? ⟨B, j, none⟩ = X.cell? ⟨B, j, none⟩ := fun j => World.cell?_of_block (hg.block B g.lt (Ne.symm g.out))
  have hb : Below C X Y := ⟨hg.os, hg.tape, hg.output, hg.size, fun q hq => hg.block q (Nat.lt_of_lt_of_le hq g.base) (fun e => by have := (g.own.lt q e.symm).1; omega)⟩
  exact ⟨⟨g.low.trans hb, hg.size⟩, (e 0).trans g.c0, (e 1).trans g.c1, (e 2).trans g.c2⟩

set_option maxRecDepth 1000000 in
set_option maxHeartbeats 4000000 in
theorem loop1 (c0 c1 c2 c4 c5 c6 c7 c8 c9 c10 c11 c12 c13 c14 c15 c16 c17 c18 c20 c21 c22 c23 c24 c25 c26 c27 c28 c29 c30 c31 c32 c33 c34 c35 c36 c37 c38 c39 c40 c41 c42 c43 c44 c45 c46 c47 c48 c49 c50 c51 c52 c53 c54 c55 c56 c57 c58 c59 c60 c61 c62 c63 c64 c65 c66 c67 c68 c69 c70 c71 c72 c73 c74 c75 c76 c77 c78 c79 c80 c81 c82 c83 c84 c85 c86 c87 c88 c89 c90 c91 c92 c93 c94 c95 c96 c97 c98 c99 c100 c101 c102 c103 c104 c105 c106 c107 c108 c109 c110 c111 c112 c113 c114 c115 c116 c117 c118 c119 c120 c121 c122 c123 c124 c125 c126 c127 c128 c129 c130 c131 c132 c133 c134 c135 c136 c137 c138 c139 c140 c141 c142 c143 c144 c145 c146 c147 c148 c149 c150 c151 c152 c153 c154 c155 c156 c157 c158 c159 c160 c161 c162 c163 c164 c165 c166 c167 c168 c169 c170 c171 c172 c173 c174 c175 c176 c177 c178 c179 c180 c181 c182 c183 c184 c185 c186 c187 c188 c189 c190 c191 c192 c193 c194 c195 c196 c197 c198 c199 c200 c201 c202 c203 c204 c205 c206 c207 c208 c209 c210 c211 c212 c213 c214 c215 c216 c217 c218 c219 c220 c221 c222 c223 c224 c225 c226 c227 c228 c229 c230 c231 c232 c233 c234 c235 c236 c237 c238 c239 c240 c241 c242 c243 c244 c245 c246 c247 c248 c249 c250 c251 c252 c253 c254 c255 c256 c257 c258 c259 c260 c261 c262 c263 c264 c265 c266 c267 c268 c269 c270 c271 c272 c273 c274 c275 c276 c277 c278 c279 c280 c281 c282 c283 c284 c285 c286 c287 c288 c289 c290 c291 c292 c293 c294 c295 c296 c297 c298 c299 c300 c301 c302 c303 c304 c305 c306 c307 c308 c309 c310 c311 c312 c313 c314 c315 c316 c317 c318 c319 c320 c321 c322 c323 c324 c325 c326 c327 c328 c329 c330 c331 c332 c333 c334 c335 c336 c337 c338 c339 c340 c341 c342 c343 c344 c345 c346 : Value) (ao : Option Addr) (rs : List R3) (rc C : Nat) (v0 : Value) (K : Act → World → Prop) (Q : Exit → Act → World → Prop) (w : World) (hsrc : SrcR w ao rs) (hok : ∀ r ∈ rs, r.ok) (hn : rs.length ≤ 256) (hC : C ≤ w.heap.size) (hCa : ∀ a, ao = some a → a.block < C)
    (hown : w.ownsRow C 53 7 v0 0 []) (hv0 : v0 ≠ .slice none 0 0)
    (hK : ∀ (v : Value) (u21 u83 u84 u85 u86 u87 u88 u89 u90 u91 u92 u93 u94 u95 u96 u97 u98 u99 u100 u101 u102 u103 u104 u105 u106 u107 u108 u109 u110 : Value) (w' : World), w'.ownsRow C 53 7 v rs.length (flat (rs.map R3.rt)) → v ≠ .slice none 0 0 → Below C w w' → K ⟨#[c0, c1, c2, (.slice ao rs.length rc), c4, c5, c6, c7, c8, c9, c10, c11, c12, c13, c14, c15, c16, c17, c18, v, c20, u21, c22, c23, c24, c25, c26, c27, c28, c29, c30, c31, c32, c33, c34, c35, c36, c37, c38, c39, c40, c41, c42, c43, c44, c45, c46, c47, c48, c49, c50, c51, c52, c53, c54, c55, c56, c57, c58, c59, c60, c61, c62, c63, c64, c65, c66, c67, c68, c69, c70, c71, c72, c73, c74, c75, c76, c77, c78, c79, c80, c81, c82, u83, u84, u85, u86, u87, u88, u89, u90, u91, u92, u93, u94, u95, u96, u97, u98, u99, u100, u101, u102, u103, u104, u105, u106, u107, u108, u109, u110, c111, c112, c113, c114, c115, c116, c117, c118, c119, c120, c121, c122, c123, c124, c125, c126, c127, c128, c129, c130, c131, c132, c133, c134, c135, c136, c137, c138, c139, c140, c141, c142, c143, c144, c145, c146, c147, c148, c149, c150, c151, c152, c153, c154, c155, c156, c157, c158, c159, c160, c161, c162, c163, c164, c165, c166, c167, c168, c169, c170, c171, c172, c173, c174, c175, c176, c177, c178, c179, c180, c181, c182, c183, c184, c185, c186, c187, c188, c189, c190, c191, c192, c193, c194, c195, c196, c197, c198, c199, c200, c201, c202, c203, c204, c205, c206, c207, c208, c209, c210, c211, c212, c213, c214, c215, c216, c217, c218, c219, c220, c221, c222, c223, c224, c225, c226, c227, c228, c229, c230, c231, c232, c233, c234, c235, c236, c237, c238, c239, c240, c241, c242, c243, c244, c245, c246, c247, c248, c249, c250, c251, c252, c253, c254, c255, c256, c257, c258, c259, c260, c261, c262, c263, c264, c265, c266, c267, c268, c269, c270, c271, c272, c273, c274, c275, c276, c277, c278, c279, c280, c281, c282, c283, c284, c285, c286, c287, c288, c289, c290, c291, c292, c293, c294, c295, c296, c297, c298, c299, c300, c301, c302, c303, c304, c305, c306, c307, c308, c309, c310, c311, c312, c313, c314, c315, c316, c317, c318, c319, c320, c321, c322, c323, c324, c325, c326, c327, c328, c329, c330, c331, c332, c333, c334, c335, c336, c337, c338, c339, c340, c341, c342, c343, c344, c345, c346], []⟩ w') :
    Code.wp Ybad.prog (st Ybad.f3 7) (Exit.then K Q) ⟨#[c0, c1, c2, (.slice ao rs.length rc), c4, c5, c6, c7, c8, c9, c10, c11, c12, c13, c14, c15, c16, c17, c18, v0, c20, c21, c22, c23, c24, c25, c26, c27, c28, c29, c30, c31, c32, c33, c34, c35, c36, c37, c38, c39, c40, c41, c42, c43, c44, c45, c46, c47, c48, c49, c50, c51, c52, c53, c54, c55, c56, c57, c58, c59, c60, c61, c62, c63, c64, c65, c66, c67, c68, c69, c70, c71, c72, c73, c74, c75, c76, c77, c78, c79, c80, c81, c82, c83, c84, c85, c86, c87, c88, c89, c90, c91, c92, c93, c94, c95, c96, c97, c98, c99, c100, c101, c102, c103, c104, c105, c106, c107, c108, c109, c110, c111, c112, c113, c114, c115, c116, c117, c118, c119, c120, c121, c122, c123, c124, c125, c126, c127, c128, c129, c130, c131, c132, c133, c134, c135, c136, c137, c138, c139, c140, c141, c142, c143, c144, c145, c146, c147, c148, c149, c150, c151, c152, c153, c154, c155, c156, c157, c158, c159, c160, c161, c162, c163, c164, c165, c166, c167, c168, c169, c170, c171, c172, c173, c174, c175, c176, c177, c178, c179, c180, c181, c182, c183, c184, c185, c186, c187, c188, c189, c190, c191, c192, c193, c194, c195, c196, c197, c198, c199, c200, c201, c202, c203, c204, c205, c206, c207, c208, c209, c210, c211, c212, c213, c214, c215, c216, c217, c218, c219, c220, c221, c222, c223, c224, c225, c226, c227, c228, c229, c230, c231, c232, c233, c234, c235, c236, c237, c238, c239, c240, c241, c242, c243, c244, c245, c246, c247, c248, c249, c250, c251, c252, c253, c254, c255, c256, c257, c258, c259, c260, c261, c262, c263, c264, c265, c266, c267, c268, c269, c270, c271, c272, c273, c274, c275, c276, c277, c278, c279, c280, c281, c282, c283, c284, c285, c286, c287, c288, c289, c290, c291, c292, c293, c294, c295, c296, c297, c298, c299, c300, c301, c302, c303, c304, c305, c306, c307, c308, c309, c310, c311, c312, c313, c314, c315, c316, c317, c318, c319, c320, c321, c322, c323, c324, c325, c326, c327, c328, c329, c330, c331, c332, c333, c334, c335, c336, c337, c338, c339, c340, c341, c342, c343, c344, c345, c346], []⟩ w := by
  conv => arg 2; whnf
  go_wp2_with fail
  go_loopw [19, 85] (fun v i wr => ∃ k : Nat, k ≤ rs.length ∧ i = .int .i64 (k : Int) ∧ wr.ownsRow C 53 7 v k (flat ((rs.take k).map R3.rt)) ∧ v ≠ .slice none 0 0 ∧ Below C w wr) (fun _ i _ => rs.length - (intOf i).toNat)
  case atStart => exact ⟨0, by omega, rfl, by simpa [flat] using hown, hv0, Below.refl _ _⟩
  case round =>
    obtain ⟨k, hk, rfl, ho, hv, hbr⟩ := hrel
    by_cases hlt : k < rs.length
    · obtain ⟨r, hr⟩ : ∃ r, rs[k]? = some r := ⟨rs[k], List.getElem?_eq_getElem hlt⟩
      have hrok : r.ok := hok r (List.mem_of_getElem? hr)
      obtain ⟨b, o, rfl, l0, l1, l2⟩ := hsrc k r hr
      have haC : b < C := hCa _ rfl
      have m0 := (hbr.cell (p := ⟨b, o + k * 3, none⟩) haC).trans l0
      have m1 := (hbr.cell (p := ⟨b, o + k * 3 + 1, none⟩) haC).trans l1
      have m2 := (hbr.cell (p := ⟨b, o + k * 3 + 2, none⟩) haC).trans l2
      have hwrs : w.heap.size ≤ wr.heap.size := hbr.size
      have hbl : b < wr.heap.size := by omega
      have hlt2 : (k : Int) < (rs.length : Int) := by omega
      have HS := Lib.hid hsrc
      have HRR := Lib.hid hr
      have HO := Lib.hid ho
      have HC := Lib.hid hCa
      have HK := Lib.hid hK
      clear hsrc ho hK hCa l0 l1 l2 hr
      obtain ⟨⟨b0, b1⟩, ⟨b2, b3⟩, b4⟩ := hrok
      have hw1 : IntKind.u64.wrap r.lo = r.lo := IntWalk.u64_in _ (by omega)
      have hw2 : IntKind.u64.wrap r.wd = r.wd := IntWalk.u64_in _ (by omega)
      have hw3 : IntKind.u64.wrap (r.lo + r.wd) = r.lo + r.wd := IntWalk.u64_in _ (by omega)
      have h6 := fun W => add6 r.at_ W b4
      unfold tm at h6
      have H6 := Lib.hid h6
      obtain ⟨i0, hi, hz0, hz1, hz2⟩ := info_parts info53
      have HI := Lib.hid (And.intro hi (And.intro hz0 (And.intro hz1 hz2)))
      have G0 : Hid (G1 C k wr.heap.size r u19 (flat ((rs.take k).map R3.rt)) w (wr.alloc (.cells #[.int .u32 r.lo, .int .u8 r.wd, .int .i64 r.at_] 49)).drew) := Lib.hid (G1.start HO.out hbr hC)
      have hS0 := G0.out.reads
      clear h6 hi hz0 hz1 hz2
      go_wp2_with fail
      clear m0 m1 m2
      go_region_held3 (fun X => X.cell? ⟨wr.heap.size, 0, none⟩ = some (.int .u32 r.lo) ∧ X.cell? ⟨wr.heap.size, 1, none⟩ = some (.int .u8 r.wd) ∧ X.cell? ⟨wr.heap.size, 2, none⟩ = some (.int .i64 r.at_))
        (first | assumption | exact (G1.alloc (Hid.out (p := G1 C k wr.heap.size r u19 (flat ((rs.take k).map R3.rt)) w _) (by assumption)) _).reads)
        (first
          | (go_at_call 6; refine (H6.out _).mono ?_; rintro e wA ⟨rfl, hbA⟩; have GA : Hid (G1 C k wr.heap.size r u19 (flat ((rs.take k).map R3.rt)) w wA) := Lib.hid (G1.next (Hid.out (p := G1 C k wr.heap.size r u19 (flat ((rs.take k).map R3.rt)) w _) (by assumption)) hbA); have hSA := GA.out.reads; clear hbA)
          | (refine step_append_lies _ (by rfl) _ _ 47 (by rfl) C 53 i0 _ 7 56 Ybad.underlying47 HI.out.1 HI.out.2.1 HI.out.2.2.1 HI.out.2.2.2 rfl (by decide) u19 k (flat ((rs.take k).map R3.rt)) (by rfl) (GA.out.alloc _).own ⟨wA.heap.size, 0, none⟩ 1 1 [.int .u64 0, .int .u64 r.lo, .int .u64 0, .int .u64 (r.lo + r.wd), .int .u64 (r.at_ % 1000000000), .int .i64 (r.at_ / 1000000000), .pointer none] (by rfl) (by rfl) (World.news_of_block (heap_alloc_new wA _)) (by simp [Value.oneCell']) (by decide) (by unfold maxLen; omega) (by omega) (GA.out.alloc _).base (wA.heap.size + 1) (by simp) ?_; intro g' cap' w1 hown1 hgrow hat hlt; have G2 := Lib.hid (G1.grown (GA.out.alloc _) hgrow); have hSB := G2.out.2; have O1 := Lib.hid hown1; clear hown1 hgrow hat hlt))
      have hfl : flat ((rs.take (k + 1)).map R3.rt) = flat ((rs.take k).map R3.rt) ++ [.int .u64 0, .int .u64 r.lo, .int .u64 0, .int .u64 (r.lo + r.wd), .int .u64 (r.at_ % 1000000000), .int .i64 (r.at_ / 1000000000), .pointer none] := by
        rw [List.take_add_one, HRR.out, List.map_append, Option.toList_some, List.map_cons, List.map_nil, flat_snoc]; rfl
      have hO1 : w1.ownsRow C 53 7 (.slice (some ⟨g', 0, none⟩) (k + 1) cap') (k + 1) (flat ((rs.take (k + 1)).map R3.rt)) := by rw [hfl]; exact O1.out
      clear hS0 hSA hSB hfl
      go_wp2
      go_roundw
      case rel => exact ⟨k + 1, by omega, by go_num, hO1, by simp, G2.out.1.1⟩
      case measure => simp [intOf]; omega
    · have hkk : k = rs.length := by omega
      subst hkk
      have ho' : wr.ownsRow C 53 7 u19 rs.length (flat (rs.map R3.rt)) := by simpa using ho
      have HK := Lib.hid hK
      clear hK
      go_wp2_with fail
      exact HK.out _ _ _ _ _ _ _ _ _ _ _ _ _ _ _ _ _ _ _ _ _ _ _ _ _ _ _ _ _ _ wr ho' hv hbr
end Go.Proofs.YbulkaxysDoor
