/-
  The law's second loop: the reservations.
-/
import Derived.Test.YbulkaxysDoorLoop1
namespace Go.Proofs.YbulkaxysDoor
open Go.RowKit


/-- The last place below i that holds k. -/
def lastIdx (ks : List Int) : Nat → Int → Option Nat
  | 0, _ => none
  | i + 1, k => if ks[i]? = some k then some i else lastIdx ks i k

theorem lastIdx_lt (ks : List Int) (i : Nat) (k : Int) (j : Nat) (h : lastIdx ks i k = some j) : j < i ∧ ks[j]? = some k := by
  induction i with
  | zero => simp [lastIdx] at h
  | succ i ih =>
    simp only [lastIdx] at h
    split at h
    · obtain rfl := Option.some.inj h
      exact ⟨by omega, by assumption⟩
    · have := ih h; exact ⟨by omega, this.2⟩

/-- A reservation's cells. -/
def resC (h : Bool) (d : Int) : Array Value := #[.int .u64 0, .int .u64 0, .pointer none, .int .u8 0, .string ⟨#[]⟩, .bool h, .int .u64 (d % 1000000000), .int .i64 (d / 1000000000), .pointer none]

def heldAt (hs : List Bool) (i : Nat) : Bool := hs.getD i false

/-- The bools that came in lie so. -/
def SrcB (w : World) (ho : Option Addr) (hs : List Bool) : Prop := ∀ (i : Nat) (b : Bool), hs[i]? = some b → ∃ q o, ho = some ⟨q, o, none⟩ ∧ q < w.heap.size ∧ w.cell? ⟨q, o + i, none⟩ = some (.bool b)

/-- The reservations behind i rounds: bl holds their blocks. -/
structure Res (B : Nat) (ks : List Int) (hs : List Bool) (i : Nat) (bl : List Nat) (L : List (Int × Nat)) (w X : World) : Prop where
  len : bl.length = i
  map : MapIs X B L
  get : ∀ k, getm L k = (lastIdx ks i k).bind (fun j => bl[j]?)
  at_ : ∀ (j b : Nat), bl[j]? = some b → X.heap[b]? = some (.cells (resC (heldAt hs j) ((j : Int) + 1)) 57 (0, 0)) ∧ w.heap.size ≤ b
  inj : ∀ (j j' b : Nat), bl[j]? = some b → bl[j']? = some b → j = j'
  kept : Kept [B] w X
  bw : B < w.heap.size

theorem Res.next {B : Nat} {ks : List Int} {hs : List Bool} {i : Nat} {bl : List Nat} {L : List (Int × Nat)} {w X Y : World} (h : Res B ks hs i bl L w X) (hb : Below X.heap.size X Y) : Res B ks hs i bl L w Y :=
  ⟨h.len, h.map.of_block (hb.block B h.map.lt), h.get, fun j b hj => ⟨(hb.block b (Array.getElem?_eq_some_iff.1 (h.at_ j b hj).1).1).trans (h.at_ j b hj).1, (h.at_ j b hj).2⟩, h.inj, h.kept.trans (Kept.of_below hb), h.bw⟩

theorem Res.start {B : Nat} {ks : List Int} {hs : List Bool} {w : World} (h : MapIs w B []) : Res B ks hs 0 [] [] w w :=
  ⟨rfl, h, fun k => by simp [getm, fnd, lastIdx], fun j b hj => by simp at hj, fun j j' b hj => by simp at hj, Kept.refl _ _, h.lt⟩

/-- One more. -/
theorem Res.step {B : Nat} {ks : List Int} {hs : List Bool} {i : Nat} {bl : List Nat} {L : List (Int × Nat)} {w X : World} (h : Res B ks hs i bl L w X) (k : Int) (hk : ks[i]? = some k) :
    ∃ Y, (Instr.mapUpdate 54 (.map (some B)) (.agg #[.int .u64 0, .int .u64 k]) (.pointer (some ⟨X.heap.size, 0, none⟩))).run Ybad.prog (X.alloc (.cells (resC (heldAt hs i) ((i : Int) + 1)) 57)) = .ok () Y ∧ Res B ks hs (i + 1) (bl ++ [X.heap.size]) (putm L k X.heap.size) w Y := by
  have h1 := h.next ((Below.refl _ X).alloc (Nat.le_refl _) (.cells (resC (heldAt hs i) ((i : Int) + 1)) 57))
  obtain ⟨Y, hu, hm, o1, o2, o3, o4, o5⟩ := update_any _ B L h1.map k X.heap.size
  have hBX : B < X.heap.size := Nat.lt_of_lt_of_le h.bw h.kept.size
  have hX : w.heap.size ≤ X.heap.size := h.kept.size
  refine ⟨Y, hu, by simp [h.len], hm, fun q => ?_, fun j b hj => ?_, fun j j' b hj hj' => ?_, h1.kept.trans ⟨o1, o2, o3, by omega, fun q hq hn => o5 q (by simpa using hn)⟩, h.bw⟩
  · rw [getm_putm]
    simp only [lastIdx]
    by_cases e : q = k
    · subst e
      rw [if_pos rfl, if_pos hk]
      simp [List.getElem?_append, h.len]
    · rw [if_neg e, if_neg (by rw [hk]; intro e'; exact e (Option.some.inj e').symm), h.get q]
      cases hq : lastIdx ks i q with
      | none => rfl
      | some j =>
        have := (lastIdx_lt ks i q j hq).1
        simp [List.getElem?_append, h.len, this]
  · rw [List.getElem?_append] at hj
    split at hj
    · have h2 := h1.at_ j b hj
      refine ⟨(o5 b ?_).trans h2.1, h2.2⟩
      have := h.bw; omega
    · have hl := h.len
      have hj2 : j - bl.length = 0 := by
        rcases Nat.eq_zero_or_pos (j - bl.length) with hz | hz
        · exact hz
        · rw [List.getElem?_eq_none (by simp; omega)] at hj; cases hj
      rw [hj2] at hj
      simp at hj
      subst hj
      have hji : j = i := by omega
      subst hji
      refine ⟨(o5 X.heap.size (by omega)).trans ?_, hX⟩
      exact Array.getElem?_push_size
  · have hl := h.len
    have key : ∀ (j b : Nat), (bl ++ [X.heap.size])[j]? = some b → (bl[j]? = some b ∧ b < X.heap.size) ∨ (j = i ∧ b = X.heap.size) := fun j b hj => by
      rw [List.getElem?_append] at hj
      split at hj
      · exact .inl ⟨hj, (Array.getElem?_eq_some_iff.1 (h.at_ j b hj).1).1⟩
      · have hj2 : j - bl.length = 0 := by
          rcases Nat.eq_zero_or_pos (j - bl.length) with hz | hz
          · exact hz
          · rw [List.getElem?_eq_none (by simp; omega)] at hj; cases hj
        rw [hj2] at hj
        simp at hj
        exact .inr ⟨by omega, hj.symm⟩
    rcases key j b hj with ⟨a1, a2⟩ | ⟨a1, a2⟩ <;> rcases key j' b hj' with ⟨c1, c2⟩ | ⟨c1, c2⟩
    · exact h.inj j j' b a1 c1
    · omega
    · omega
    · omega

set_option maxRecDepth 1000000 in
set_option maxHeartbeats 4000000 in
theorem loop2 (c0 c1 c2 c3 c4 c6 c7 c8 c9 c10 c11 c12 c13 c14 c15 c16 c17 c18 c19 c20 c21 c24 c25 c26 c27 c28 c29 c30 c31 c32 c33 c34 c35 c36 c37 c38 c39 c40 c41 c42 c43 c44 c45 c46 c47 c48 c49 c50 c51 c52 c53 c54 c55 c56 c57 c58 c59 c60 c61 c62 c63 c64 c65 c66 c67 c68 c69 c70 c71 c72 c73 c74 c75 c76 c77 c78 c79 c80 c81 c82 c83 c84 c85 c86 c87 c88 c89 c90 c91 c92 c93 c94 c95 c96 c97 c98 c99 c100 c101 c102 c103 c104 c105 c106 c107 c108 c109 c110 c111 c112 c113 c114 c115 c116 c117 c118 c119 c120 c121 c122 c123 c124 c125 c126 c127 c128 c129 c130 c131 c132 c133 c134 c135 c136 c137 c138 c139 c140 c141 c142 c143 c144 c145 c146 c147 c148 c149 c150 c151 c152 c153 c154 c155 c156 c157 c158 c159 c160 c161 c162 c163 c164 c165 c166 c167 c168 c169 c170 c171 c172 c173 c174 c175 c176 c177 c178 c179 c180 c181 c182 c183 c184 c185 c186 c187 c188 c189 c190 c191 c192 c193 c194 c195 c196 c197 c198 c199 c200 c201 c202 c203 c204 c205 c206 c207 c208 c209 c210 c211 c212 c213 c214 c215 c216 c217 c218 c219 c220 c221 c222 c223 c224 c225 c226 c227 c228 c229 c230 c231 c232 c233 c234 c235 c236 c237 c238 c239 c240 c241 c242 c243 c244 c245 c246 c247 c248 c249 c250 c251 c252 c253 c254 c255 c256 c257 c258 c259 c260 c261 c262 c263 c264 c265 c266 c267 c268 c269 c270 c271 c272 c273 c274 c275 c276 c277 c278 c279 c280 c281 c282 c283 c284 c285 c286 c287 c288 c289 c290 c291 c292 c293 c294 c295 c296 c297 c298 c299 c300 c301 c302 c303 c304 c305 c306 c307 c308 c309 c310 c311 c312 c313 c314 c315 c316 c317 c318 c319 c320 c321 c322 c323 c324 c325 c326 c327 c328 c329 c330 c331 c332 c333 c334 c335 c336 c337 c338 c339 c340 c341 c342 c343 c344 c345 c346 : Value) (kb kc B hc : Nat) (ks : List Int) (ho : Option Addr) (hs : List Bool) (K : Act → World → Prop) (Q : Exit → Act → World → Prop) (w : World) (hsrc : SrcB w ho hs) (hks : ∀ (i : Nat) (k : Int), ks[i]? = some k → w.cell? ⟨kb, i, none⟩ = some (.int .u32 k) ∧ 0 ≤ k ∧ k ≤ 4294967295) (hkb : kb < w.heap.size) (hkB : kb ≠ B) (hhB : ∀ a, ho = some a → a.block ≠ B) (hn : ks.length ≤ 300) (hmap : MapIs w B [])
    (hK : ∀ (u24 u25 u26 u126 u127 u128 u129 u130 u131 u132 u133 u134 u135 u136 u137 u138 u139 u140 u141 u142 u143 u144 u145 u146 u147 u148 u149 u150 u151 u152 u153 u154 : Value) (bl : List Nat) (L : List (Int × Nat)) (w' : World), Res B ks hs ks.length bl L w w' → K ⟨#[c0, c1, c2, c3, c4, (.slice ho hs.length hc), c6, c7, c8, c9, c10, c11, c12, c13, c14, c15, c16, c17, c18, c19, c20, c21, (.slice (some ⟨kb, 0, none⟩) ks.length kc), (.map (some B)), u24, u25, u26, c27, c28, c29, c30, c31, c32, c33, c34, c35, c36, c37, c38, c39, c40, c41, c42, c43, c44, c45, c46, c47, c48, c49, c50, c51, c52, c53, c54, c55, c56, c57, c58, c59, c60, c61, c62, c63, c64, c65, c66, c67, c68, c69, c70, c71, c72, c73, c74, c75, c76, c77, c78, c79, c80, c81, c82, c83, c84, c85, c86, c87, c88, c89, c90, c91, c92, c93, c94, c95, c96, c97, c98, c99, c100, c101, c102, c103, c104, c105, c106, c107, c108, c109, c110, c111, c112, c113, c114, c115, c116, c117, c118, c119, c120, c121, c122, c123, c124, c125, u126, u127, u128, u129, u130, u131, u132, u133, u134, u135, u136, u137, u138, u139, u140, u141, u142, u143, u144, u145, u146, u147, u148, u149, u150, u151, u152, u153, u154, c155, c156, c157, c158, c159, c160, c161, c162, c163, c164, c165, c166, c167, c168, c169, c170, c171, c172, c173, c174, c175, c176, c177, c178, c179, c180, c181, c182, c183, c184, c185, c186, c187, c188, c189, c190, c191, c192, c193, c194, c195, c196, c197, c198, c199, c200, c201, c202, c203, c204, c205, c206, c207, c208, c209, c210, c211, c212, c213, c214, c215, c216, c217, c218, c219, c220, c221, c222, c223, c224, c225, c226, c227, c228, c229, c230, c231, c232, c233, c234, c235, c236, c237, c238, c239, c240, c241, c242, c243, c244, c245, c246, c247, c248, c249, c250, c251, c252, c253, c254, c255, c256, c257, c258, c259, c260, c261, c262, c263, c264, c265, c266, c267, c268, c269, c270, c271, c272, c273, c274, c275, c276, c277, c278, c279, c280, c281, c282, c283, c284, c285, c286, c287, c288, c289, c290, c291, c292, c293, c294, c295, c296, c297, c298, c299, c300, c301, c302, c303, c304, c305, c306, c307, c308, c309, c310, c311, c312, c313, c314, c315, c316, c317, c318, c319, c320, c321, c322, c323, c324, c325, c326, c327, c328, c329, c330, c331, c332, c333, c334, c335, c336, c337, c338, c339, c340, c341, c342, c343, c344, c345, c346], []⟩ w') :
    Code.wp Ybad.prog (st Ybad.f3 12) (Exit.then K Q) ⟨#[c0, c1, c2, c3, c4, (.slice ho hs.length hc), c6, c7, c8, c9, c10, c11, c12, c13, c14, c15, c16, c17, c18, c19, c20, c21, (.slice (some ⟨kb, 0, none⟩) ks.length kc), (.map (some B)), c24, c25, c26, c27, c28, c29, c30, c31, c32, c33, c34, c35, c36, c37, c38, c39, c40, c41, c42, c43, c44, c45, c46, c47, c48, c49, c50, c51, c52, c53, c54, c55, c56, c57, c58, c59, c60, c61, c62, c63, c64, c65, c66, c67, c68, c69, c70, c71, c72, c73, c74, c75, c76, c77, c78, c79, c80, c81, c82, c83, c84, c85, c86, c87, c88, c89, c90, c91, c92, c93, c94, c95, c96, c97, c98, c99, c100, c101, c102, c103, c104, c105, c106, c107, c108, c109, c110, c111, c112, c113, c114, c115, c116, c117, c118, c119, c120, c121, c122, c123, c124, c125, c126, c127, c128, c129, c130, c131, c132, c133, c134, c135, c136, c137, c138, c139, c140, c141, c142, c143, c144, c145, c146, c147, c148, c149, c150, c151, c152, c153, c154, c155, c156, c157, c158, c159, c160, c161, c162, c163, c164, c165, c166, c167, c168, c169, c170, c171, c172, c173, c174, c175, c176, c177, c178, c179, c180, c181, c182, c183, c184, c185, c186, c187, c188, c189, c190, c191, c192, c193, c194, c195, c196, c197, c198, c199, c200, c201, c202, c203, c204, c205, c206, c207, c208, c209, c210, c211, c212, c213, c214, c215, c216, c217, c218, c219, c220, c221, c222, c223, c224, c225, c226, c227, c228, c229, c230, c231, c232, c233, c234, c235, c236, c237, c238, c239, c240, c241, c242, c243, c244, c245, c246, c247, c248, c249, c250, c251, c252, c253, c254, c255, c256, c257, c258, c259, c260, c261, c262, c263, c264, c265, c266, c267, c268, c269, c270, c271, c272, c273, c274, c275, c276, c277, c278, c279, c280, c281, c282, c283, c284, c285, c286, c287, c288, c289, c290, c291, c292, c293, c294, c295, c296, c297, c298, c299, c300, c301, c302, c303, c304, c305, c306, c307, c308, c309, c310, c311, c312, c313, c314, c315, c316, c317, c318, c319, c320, c321, c322, c323, c324, c325, c326, c327, c328, c329, c330, c331, c332, c333, c334, c335, c336, c337, c338, c339, c340, c341, c342, c343, c344, c345, c346], []⟩ w := by
  conv => arg 2; whnf
  go_wp2_with fail
  go_loopw [128] (fun i wr => ∃ (k : Nat) (bl : List Nat) (L : List (Int × Nat)), k ≤ ks.length ∧ i = .int .i64 (k : Int) ∧ Res B ks hs k bl L w wr) (fun i _ => ks.length - (intOf i).toNat)
  case atStart => exact ⟨0, [], [], by omega, rfl, Res.start hmap⟩
  case round =>
    obtain ⟨i, bl, L, hi, rfl, hR⟩ := hrel
    by_cases hlt : i < ks.length
    · obtain ⟨k, hk⟩ : ∃ k, ks[i]? = some k := ⟨ks[i], List.getElem?_eq_getElem hlt⟩
      obtain ⟨l0, k0, k1⟩ := hks i k hk
      have hwk : IntKind.u64.wrap k = k := IntWalk.u64_in _ (by omega)
      have m0 : wr.cell? ⟨kb, i, none⟩ = some (.int .u32 k) := (World.cell?_of_block (hR.kept.block kb hkb (by simpa using hkB))).trans l0
      have hkr : kb < wr.heap.size := Nat.lt_of_lt_of_le hkb hR.kept.size
      have hlt2 : (i : Int) < (ks.length : Int) := by omega
      have h6 := fun W => add6 ((i : Int) + 1) W (by omega)
      unfold tm at h6
      have H6 := Lib.hid h6
      have HR := Lib.hid hR
      have HK := Lib.hid hK
      have HKS := Lib.hid hks
      have HSR := Lib.hid hsrc
      have HKI := Lib.hid hk
      clear h6 hR hK hks l0 hmap hk
      by_cases hh : i < hs.length
      · obtain ⟨b, hb⟩ : ∃ b, hs[i]? = some b := ⟨hs[i], List.getElem?_eq_getElem hh⟩
        obtain ⟨q, o, rfl, ql, c0⟩ := hsrc i b hb
        have m1 : wr.cell? ⟨q, o + i, none⟩ = some (.bool b) := (World.cell?_of_block (HR.out.kept.block q ql (by simpa using hhB _ rfl))).trans c0
        have hqr : q < wr.heap.size := Nat.lt_of_lt_of_le ql HR.out.kept.size
        have hh2 : (i : Int) < (hs.length : Int) := by omega
        have hhe : heldAt hs i = b := by simp [heldAt, List.getD, hb]
        clear hsrc c0 hb
        go_wp2_with (first | (go_at_call 6; refine Hid.out ?_))
        refine Lib.hid ?_
        refine (H6.out _).mono ?_
        rintro e wA ⟨rfl, hbA⟩
        obtain ⟨Y, hu, hR2⟩ := (HR.out.next hbA).step k HKI.out
        rw [hhe] at hu
        unfold resC at hu
        have HR2 := Lib.hid hR2
        clear hbA hR2 m0 m1
        go_wp2
        go_roundw
        case rel => exact ⟨i + 1, _, _, by omega, by go_num, HR2.out⟩
        case measure => simp [intOf]; omega
      · have hh2 : ¬ (i : Int) < (hs.length : Int) := by omega
        have hhe : heldAt hs i = false := by simp [heldAt, List.getD, List.getElem?_eq_none (show hs.length ≤ i by omega)]
        clear hsrc
        go_wp2_with (first | (go_at_call 6; refine Hid.out ?_))
        refine Lib.hid ?_
        refine (H6.out _).mono ?_
        rintro e wA ⟨rfl, hbA⟩
        obtain ⟨Y, hu, hR2⟩ := (HR.out.next hbA).step k HKI.out
        rw [hhe] at hu
        unfold resC at hu
        have HR2 := Lib.hid hR2
        clear hbA hR2 m0
        go_wp2
        go_roundw
        case rel => exact ⟨i + 1, _, _, by omega, by go_num, HR2.out⟩
        case measure => simp [intOf]; omega
    · have hkk : i = ks.length := by omega
      subst hkk
      have HK := Lib.hid hK
      clear hK
      go_wp2_with fail
      exact HK.out _ _ _ _ _ _ _ _ _ _ _ _ _ _ _ _ _ _ _ _ _ _ _ _ _ _ _ _ _ _ _ _ bl L wr hR
end Go.Proofs.YbulkaxysDoor
