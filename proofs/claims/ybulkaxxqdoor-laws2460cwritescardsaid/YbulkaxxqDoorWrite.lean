/-
  THE WALKS OF THE WRITER's METHODS: keyword (15), mark (22), open (13), close (20), Uint.append (30), uint (23), transactionPending (9).
-/
import Derived.Test.YbulkaxxqDoorBuf
import Derived.RegionTactic
import Derived.BigRegion
import Derived.ChangeAlike
import Derived.Lib.Hide
import Derived.Lib.AppendIntMem
import Derived.Lib.ItoaLen
import Derived.Test.YbulkaxxqDoorShelf
namespace Go.Proofs.YbulkaxxqDoor
open Go.RowKit

set_option maxHeartbeats 400000 in
theorem mark_pretty {B b : Nat} {bs : List UInt8} {d : Int} {f : Bool} {w : World} (h : WS B b bs true d f w) (c : UInt8) (ci : Int) (hc : ci = (c.toNat : Int)) (hlen : bs.length + 3 ≤ 140737488355328) :
    Calls Ybad.prog 22 #[.pointer (some ⟨b, 0, none⟩), .int .u8 ci] w fun e w' => e = .returned (.tuple #[]) ∧ WS B b (bs ++ [32, c, 32]) true d f w' ∧ Fr B b w w' := by
  obtain ⟨ao, cap, hb, ho, hB, hlt, hBw, c0, c1, c2, c3, hf⟩ := ws_open h
  have ho1 := ho.alloc (.cells #[.int .u8 32, .int .u8 ci, .int .u8 32] 5)
  have hs1 : Src (.slice (some ⟨w.heap.size, 0, none⟩) 3 3) [32, c, 32] (w.alloc (.cells #[.int .u8 32, .int .u8 ci, .int .u8 32] 5)) :=
    src_new _ 3 rfl _ (by simp [Lib.byteCells, hc]) _ _ (heap_alloc_new w _)
  have hb1 := (Below.heap_alloc w (.cells #[.int .u8 32, .int .u8 ci, .int .u8 32] 5) b hlt).trans hb
  clear hc h
  go_enter Ybad.func22, Ybad.ntmps22
  go_wp2_with (at_builtin; refine wpList_appB rfl (.tmp 12) (.tmp 14) rfl ho1 _ _ hs1 hlen rfl rfl ?_; intro ao1 cap1 w1 ho2 hg2; refine Hid.out ?_)
  have hb2 := kept_b ho1 hg2 hb1
  have d0 := cell_at hb2 0
  have f0 := frozen_at hb2 0
  simp only [List.getElem?_toArray, List.getElem?_cons_zero] at d0
  have hfr := ((Fr.refl B b w).alloc hBw _).grown ho1 hg2
  refine Lib.hid ?_
  clear ho1 hs1 hb1 hg2 c0 c1 c2 c3 hf
  go_wp2
  go_end0
  exact ⟨rfl, ws_put hb2 ho2 (by simp) hB, hfr.set hB 0 _⟩

set_option maxHeartbeats 400000 in
theorem mark_compact {B b : Nat} {bs : List UInt8} {d : Int} {f : Bool} {w : World} (h : WS B b bs false d f w) (c : UInt8) (ci : Int) (hc : ci = (c.toNat : Int)) (hlen : bs.length + 1 ≤ 140737488355328) :
    Calls Ybad.prog 22 #[.pointer (some ⟨b, 0, none⟩), .int .u8 ci] w fun e w' => e = .returned (.tuple #[]) ∧ WS B b (bs ++ [c]) false d f w' ∧ Fr B b w w' := by
  obtain ⟨ao, cap, hb, ho, hB, hlt, hBw, c0, c1, c2, c3, hf⟩ := ws_open h
  have ho1 := ho.alloc (.cells #[.int .u8 ci] 5)
  have hs1 : Src (.slice (some ⟨w.heap.size, 0, none⟩) 1 1) [c] (w.alloc (.cells #[.int .u8 ci] 5)) :=
    src_new _ 1 rfl _ (by simp [Lib.byteCells, hc]) _ _ (heap_alloc_new w _)
  have hb1 := (Below.heap_alloc w (.cells #[.int .u8 ci] 5) b hlt).trans hb
  clear hc h
  go_enter Ybad.func22, Ybad.ntmps22
  go_wp2_with (at_builtin; refine wpList_appB rfl (.tmp 22) (.tmp 24) rfl ho1 _ _ hs1 hlen rfl rfl ?_; intro ao1 cap1 w1 ho2 hg2; refine Hid.out ?_)
  have hb2 := kept_b ho1 hg2 hb1
  have d0 := cell_at hb2 0
  have f0 := frozen_at hb2 0
  simp only [List.getElem?_toArray, List.getElem?_cons_zero] at d0
  have hfr := ((Fr.refl B b w).alloc hBw _).grown ho1 hg2
  refine Lib.hid ?_
  clear ho1 hs1 hb1 hg2 c0 c1 c2 c3 hf
  go_wp2
  go_end0
  exact ⟨rfl, ws_put hb2 ho2 (by simp) hB, hfr.set hB 0 _⟩

set_option maxHeartbeats 400000 in
theorem keyword_pretty {B b : Nat} {bs : List UInt8} {d : Int} {f : Bool} {w : World} (h : WS B b bs true d f w) (l s : ByteArray) (hlen : bs.length + l.size ≤ 140737488355328) :
    Calls Ybad.prog 15 #[.pointer (some ⟨b, 0, none⟩), .agg #[.string l, .string s]] w fun e w' => e = .returned (.tuple #[]) ∧ WS B b (bs ++ l.data.toList) true d f w' ∧ Fr B b w w' := by
  have h1 := h.alloc (.cells #[.string l, .string s] 81)
  obtain ⟨ao, cap, hb, ho, hB, hlt, hBw, c0, c1, c2, c3, hf⟩ := ws_open h1
  have hlt0 := h.lt
  have hfr0 := (Fr.refl B b w).alloc (by obtain ⟨_, _, _, ho, _⟩ := h; exact ho.2) (.cells #[.string l, .string s] 81)
  clear h h1
  have g0 : (w.alloc (.cells #[.string l, .string s] 81)).cell? ⟨w.heap.size, 0, none⟩ = some (.string l) := by simp
  go_enter Ybad.func15, Ybad.ntmps15
  go_wp2
  go_region_law (refine step_appS rfl (.tmp 12) (.tmp 14) rfl ho.drew _ hlen rfl rfl ?_; intro ao1 cap1 w1 ho2 hg2; have hb2 := kept_b ho.drew hg2 hb; have d0 := cell_at hb2 0; have f0 := frozen_at hb2 0; simp only [List.getElem?_toArray, List.getElem?_cons_zero] at d0; have hfr := hfr0.drew.grown ho.drew hg2)
  all_goals
    clear ho hb c0 c1 c2 c3 hf g0
    go_wp2
    go_end0
    exact ⟨rfl, ws_put hb2 ho2 (by simp) hB, hfr.set hB 0 _⟩

set_option maxHeartbeats 400000 in
theorem keyword_compact {B b : Nat} {bs : List UInt8} {d : Int} {f : Bool} {w : World} (h : WS B b bs false d f w) (l s : ByteArray) (hlen : bs.length + s.size ≤ 140737488355328) :
    Calls Ybad.prog 15 #[.pointer (some ⟨b, 0, none⟩), .agg #[.string l, .string s]] w fun e w' => e = .returned (.tuple #[]) ∧ WS B b (bs ++ s.data.toList) false d f w' ∧ Fr B b w w' := by
  have h1 := h.alloc (.cells #[.string l, .string s] 81)
  obtain ⟨ao, cap, hb, ho, hB, hlt, hBw, c0, c1, c2, c3, hf⟩ := ws_open h1
  have hlt0 := h.lt
  have hfr0 := (Fr.refl B b w).alloc (by obtain ⟨_, _, _, ho, _⟩ := h; exact ho.2) (.cells #[.string l, .string s] 81)
  clear h h1
  have g0 : (w.alloc (.cells #[.string l, .string s] 81)).cell? ⟨w.heap.size, 1, none⟩ = some (.string s) := by simp
  go_enter Ybad.func15, Ybad.ntmps15
  go_wp2
  go_region_law (refine step_appS rfl (.tmp 22) (.tmp 24) rfl ho.drew _ hlen rfl rfl ?_; intro ao1 cap1 w1 ho2 hg2; have hb2 := kept_b ho.drew hg2 hb; have d0 := cell_at hb2 0; have f0 := frozen_at hb2 0; simp only [List.getElem?_toArray, List.getElem?_cons_zero] at d0; have hfr := hfr0.drew.grown ho.drew hg2)
  all_goals
    clear ho hb c0 c1 c2 c3 hf g0
    go_wp2
    go_end0
    exact ⟨rfl, ws_put hb2 ho2 (by simp) hB, hfr.set hB 0 _⟩

set_option maxHeartbeats 400000 in
theorem open_pretty {B b : Nat} {bs : List UInt8} {d : Int} {f : Bool} {w : World} (h : WS B b bs true d f w) (hlen : bs.length + 2 ≤ 140737488355328) :
    Calls Ybad.prog 13 #[.pointer (some ⟨b, 0, none⟩)] w fun e w' => e = .returned (.tuple #[]) ∧ WS B b (bs ++ [32, 123]) true (wrap64 (d + 1)) true w' ∧ Fr B b w w' := by
  obtain ⟨ao, cap, hb, ho, hB, hlt, hBw, c0, c1, c2, c3, hf⟩ := ws_open h
  clear h
  go_enter Ybad.func13, Ybad.ntmps13
  go_wp2_with (at_builtin; refine wpList_appS rfl (.tmp 10) _ rfl ho ⟨#[32, 123]⟩ hlen rfl rfl ?_; intro ao1 cap1 w1 ho2 hg2; refine Hid.out ?_)
  have hb2 := kept_b ho hg2 hb
  have hfr := (Fr.refl B b w).grown ho hg2
  have e0 := cell_at hb2 0
  have e2 := cell_at hb2 2
  have e3 := cell_at hb2 3
  have ef := frozen_at hb2
  simp only [List.getElem?_toArray, List.getElem?_cons_zero, List.getElem?_cons_succ] at e0 e2 e3
  refine Lib.hid ?_
  clear ho hb hg2 c0 c1 c2 c3 hf
  go_wp2
  go_end0
  exact ⟨rfl, ws_first (ws_depth (ws_put hb2 ho2 (by simp) hB)), ((hfr.set hB 0 _).set hB 2 _).set hB 3 _⟩

set_option maxHeartbeats 400000 in
theorem open_compact {B b : Nat} {bs : List UInt8} {d : Int} {f : Bool} {w : World} (h : WS B b bs false d f w) (hlen : bs.length + 1 ≤ 140737488355328) :
    Calls Ybad.prog 13 #[.pointer (some ⟨b, 0, none⟩)] w fun e w' => e = .returned (.tuple #[]) ∧ WS B b (bs ++ [123]) false d true w' ∧ Fr B b w w' := by
  obtain ⟨ao, cap, hb, ho, hB, hlt, hBw, c0, c1, c2, c3, hf⟩ := ws_open h
  have ho1 := ho.alloc (.cells #[.int .u8 123] 5)
  have hs1 : Src (.slice (some ⟨w.heap.size, 0, none⟩) 1 1) [123] (w.alloc (.cells #[.int .u8 123] 5)) :=
    src_new _ 1 rfl _ (by simp [Lib.byteCells]) _ _ (heap_alloc_new w _)
  have hb1 := (Below.heap_alloc w (.cells #[.int .u8 123] 5) b hlt).trans hb
  clear h
  go_enter Ybad.func13, Ybad.ntmps13
  go_wp2_with (at_builtin; refine wpList_appB rfl (.tmp 25) (.tmp 26) rfl ho1 _ _ hs1 hlen rfl rfl ?_; intro ao1 cap1 w1 ho2 hg2; refine Hid.out ?_)
  have hb2 := kept_b ho1 hg2 hb1
  have hfr := ((Fr.refl B b w).alloc hBw _).grown ho1 hg2
  have e0 := cell_at hb2 0
  have e2 := cell_at hb2 2
  have e3 := cell_at hb2 3
  have ef := frozen_at hb2
  simp only [List.getElem?_toArray, List.getElem?_cons_zero, List.getElem?_cons_succ] at e0 e2 e3
  refine Lib.hid ?_
  clear ho1 hs1 hb1 hg2 c0 c1 c2 c3 hf
  go_wp2
  go_end0
  exact ⟨rfl, ws_first (ws_put hb2 ho2 (by simp) hB), (hfr.set hB 0 _).set hB 3 _⟩

set_option maxHeartbeats 400000 in
/-- close, the block still empty. -/
theorem close_pretty {B b : Nat} {bs : List UInt8} {d : Int} {w : World} (h : WS B b bs true d true w) (hlen : bs.length + 1 ≤ 140737488355328) :
    Calls Ybad.prog 20 #[.pointer (some ⟨b, 0, none⟩)] w fun e w' => e = .returned (.tuple #[]) ∧ WS B b (bs ++ [125]) true (wrap64 (d - 1)) false w' ∧ Fr B b w w' := by
  have hsz : (w.setCell ⟨b, 2, none⟩ (.int .i64 (wrap64 (d - 1)))).heap.size = w.heap.size := by simp [World.setCell]
  obtain ⟨ao, cap, hb, ho, hB, hlt, hBw, c0, c1, c2, c3, hf⟩ := ws_open h
  have hfr0 := (Fr.refl B b w).set hB 2 (.int .i64 (wrap64 (d - 1)))
  have hb' : (w.setCell ⟨b, 2, none⟩ (.int .i64 (wrap64 (d - 1)))).heap[b]? = some (.cells #[.slice ao bs.length cap, .bool true, .int .i64 (wrap64 (d - 1)), .bool true] 30 (0, 0)) := by rw [heap_set hb 2]; simp
  have ho' := ho.setCell hb 2 (.int .i64 (wrap64 (d - 1)))
  have ho1 := ho'.alloc (.cells #[.int .u8 125] 5)
  have hs1 : Src (.slice (some ⟨w.heap.size, 0, none⟩) 1 1) [125] ((w.setCell ⟨b, 2, none⟩ (.int .i64 (wrap64 (d - 1)))).alloc (.cells #[.int .u8 125] 5)) := by
    rw [← hsz]; exact src_new _ 1 rfl _ (by simp [Lib.byteCells]) _ _ (heap_alloc_new _ _)
  have hb1 := (Below.heap_alloc (w.setCell ⟨b, 2, none⟩ (.int .i64 (wrap64 (d - 1)))) (.cells #[.int .u8 125] 5) b (by rw [hsz]; exact hlt)).trans hb'
  have hfr1 := hfr0.alloc (by rw [hsz]; exact hBw) (.cells #[.int .u8 125] 5)
  clear h hsz hb' ho' hfr0
  go_enter Ybad.func20, Ybad.ntmps20
  go_wp2_with (at_builtin; refine wpList_appB rfl (.tmp 24) (.tmp 25) rfl ho1 _ _ hs1 hlen rfl rfl ?_; intro ao1 cap1 w1 ho2 hg2; refine Hid.out ?_)
  have hb2 := kept_b ho1 hg2 hb1
  have hfr := hfr1.grown ho1 hg2
  have e0 := cell_at hb2 0
  have e3 := cell_at hb2 3
  have ef := frozen_at hb2
  simp only [List.getElem?_toArray, List.getElem?_cons_zero, List.getElem?_cons_succ] at e0 e3
  refine Lib.hid ?_
  clear ho1 hs1 hb1 hg2 c0 c1 c2 c3 hf hfr1 ho hb
  go_wp2
  go_end0
  exact ⟨rfl, ws_first (ws_put hb2 ho2 (by simp) hB), (hfr.set hB 0 _).set hB 3 _⟩

set_option maxHeartbeats 400000 in
theorem close_compact {B b : Nat} {bs : List UInt8} {d : Int} {f : Bool} {w : World} (h : WS B b bs false d f w) (hlen : bs.length + 1 ≤ 140737488355328) :
    Calls Ybad.prog 20 #[.pointer (some ⟨b, 0, none⟩)] w fun e w' => e = .returned (.tuple #[]) ∧ WS B b (bs ++ [125]) false d false w' ∧ Fr B b w w' := by
  obtain ⟨ao, cap, hb, ho, hB, hlt, hBw, c0, c1, c2, c3, hf⟩ := ws_open h
  have ho1 := ho.alloc (.cells #[.int .u8 125] 5)
  have hs1 : Src (.slice (some ⟨w.heap.size, 0, none⟩) 1 1) [125] (w.alloc (.cells #[.int .u8 125] 5)) :=
    src_new _ 1 rfl _ (by simp [Lib.byteCells]) _ _ (heap_alloc_new w _)
  have hb1 := (Below.heap_alloc w (.cells #[.int .u8 125] 5) b hlt).trans hb
  clear h
  go_enter Ybad.func20, Ybad.ntmps20
  go_wp2_with (at_builtin; refine wpList_appB rfl (.tmp 24) (.tmp 25) rfl ho1 _ _ hs1 hlen rfl rfl ?_; intro ao1 cap1 w1 ho2 hg2; refine Hid.out ?_)
  have hb2 := kept_b ho1 hg2 hb1
  have hfr := ((Fr.refl B b w).alloc hBw _).grown ho1 hg2
  have e0 := cell_at hb2 0
  have e3 := cell_at hb2 3
  have ef := frozen_at hb2
  simp only [List.getElem?_toArray, List.getElem?_cons_zero, List.getElem?_cons_succ] at e0 e3
  refine Lib.hid ?_
  clear ho1 hs1 hb1 hg2 c0 c1 c2 c3 hf ho hb
  go_wp2
  go_end0
  exact ⟨rfl, ws_first (ws_put hb2 ho2 (by simp) hB), (hfr.set hB 0 _).set hB 3 _⟩

/-- What a Uint writes. -/
def uintText (v : Nat) (ds : ByteArray) : List UInt8 := if ds.toList.isEmpty = true then Lib.decDigits v else ds.data.toList

set_option maxHeartbeats 400000 in
theorem append_digits {B : Nat} {sv : Value} {bs : List UInt8} {w : World} (ho : Own B sv bs w) (v : Int) (ds : ByteArray) (hd : ds.toList.isEmpty = false) (hlen : bs.length + ds.size ≤ 140737488355328) :
    Calls Ybad.prog 30 #[.agg #[.int .u32 v, .string ds], sv] w fun e w' => ∃ ao cap, e = .returned (.slice ao (bs.length + ds.size) cap) ∧ Own B (.slice ao (bs.length + ds.size) cap) (bs ++ ds.data.toList) w' ∧ Below B w w' ∧ Lib.OthersKept 5 none w w' := by
  obtain ⟨ao0, cap0, rfl⟩ := own_form ho
  have ho1 := ho.alloc (.cells #[.int .u32 v, .string ds] 39)
  have hBw := ho.2
  go_enter Ybad.func30, Ybad.ntmps30
  go_wp2_with (at_builtin; refine wpList_appS rfl (.tmp 8) (.tmp 10) rfl ho1 _ hlen rfl rfl ?_; intro ao1 cap1 w1 ho2 hg2)
  go_ret
  exact ⟨ao1, cap1, rfl, ho2, ((Below.refl B w).alloc hBw _).grown hg2 ho1.2 (fun k hk => (ho1.1.lt k hk).1), ((Lib.OthersKept.refl 5 none w).alloc _).grown hg2 ho1.kind⟩

set_option maxHeartbeats 400000 in
theorem appendUint33 {B : Nat} {sv : Value} {bs : List UInt8} {w : World} (ho : Own B sv bs w) (u : Nat) (hu : u < 4294967296) (htab : Lib.TabIs Ybad.prog w pow10Name .u64 Lib.pow10Tab) (hlen : bs.length + 20 ≤ 140737488355328) :
    Calls Ybad.prog 33 #[sv, .int .u64 u, .int .i64 10] w fun e w' => ∃ ao cap, e = .returned (.slice ao (bs.length + (Lib.decDigits u).length) cap) ∧ Own B (.slice ao (bs.length + (Lib.decDigits u).length) cap) (bs ++ Lib.decDigits u) w' ∧ Below B w w' ∧ Lib.OthersKept 5 none w w' := by
  have hc := Ybad.internal_strconv_AppendUint_10 B bs.length u (by omega) sv _ w ho.1 ho.2 hlen htab
  have hBw := ho.2
  obtain ⟨ao0, cap0, rfl⟩ := own_form ho
  clear htab
  go_enter Ybad.func33, Ybad.ntmps33
  go_wp2_with fail
  refine hc.mono ?_
  rintro e w1 ⟨v', rfl, ho1, hb1, hk1⟩
  have ho2 : Own B v' (bs ++ Lib.decDigits u) w1 := ⟨by rw [List.length_append, Lib.byteCells_append]; exact ho1, Nat.le_trans hBw hb1.size⟩
  have hex := own_form ho2
  obtain ⟨ao1, cap1, hv⟩ := hex
  rw [List.length_append] at hv
  rw [hv]
  rw [hv] at ho2
  clear hc ho1
  go_wp2
  go_ret
  exact ⟨ao1, cap1, rfl, ho2, hb1, hk1⟩

set_option maxHeartbeats 400000 in
theorem append_dec {B : Nat} {sv : Value} {bs : List UInt8} {w : World} (ho : Own B sv bs w) (v : Nat) (hv : v < 4294967296) (ds : ByteArray) (hd : ds.toList.isEmpty = true) (htab : Lib.TabBelow Ybad.prog B w pow10Name .u64 Lib.pow10Tab) (hlen : bs.length + 20 ≤ 140737488355328) :
    Calls Ybad.prog 30 #[.agg #[.int .u32 v, .string ds], sv] w fun e w' => ∃ ao cap, e = .returned (.slice ao (bs.length + (Lib.decDigits v).length) cap) ∧ Own B (.slice ao (bs.length + (Lib.decDigits v).length) cap) (bs ++ Lib.decDigits v) w' ∧ Below B w w' ∧ Lib.OthersKept 5 none w w' := by
  obtain ⟨ao0, cap0, rfl⟩ := own_form ho
  have ho1 := ho.alloc (.cells #[.int .u32 v, .string ds] 39)
  have hBw := ho.2
  have hb0 := (Below.refl B w).alloc hBw (.cells #[.int .u32 (v : Int), .string ds] 39)
  have hc := appendUint33 ho1 v hv (htab _ hb0) hlen
  have hvi : (v : Int) < 4294967296 := by omega
  clear htab
  go_enter Ybad.func30, Ybad.ntmps30
  go_wp2_with fail
  refine hc.mono ?_
  rintro e w1 ⟨ao1, cap1, rfl, ho2, hb1, hk1⟩
  clear hc
  go_wp2
  go_ret
  exact ⟨ao1, cap1, rfl, ho2, hb0.trans hb1, ((Lib.OthersKept.refl 5 none w).alloc _).trans hk1⟩

theorem others_some {b : Nat} {w w' : World} (h : Lib.OthersKept 5 none w w') : Lib.OthersKept 5 (some b) w w' := fun k o hk _ ho => h k o hk (by simp) ho

/-- Uint.append, either way. -/
theorem append_any {B : Nat} {sv : Value} {bs : List UInt8} {w : World} (ho : Own B sv bs w) (v : Nat) (hv : v < 4294967296) (ds : ByteArray) (htab : Lib.TabBelow Ybad.prog B w pow10Name .u64 Lib.pow10Tab) (hlen : bs.length + ds.size + 20 ≤ 140737488355328) :
    Calls Ybad.prog 30 #[.agg #[.int .u32 v, .string ds], sv] w fun e w' => ∃ ao n cap, n = (bs ++ uintText v ds).length ∧ e = .returned (.slice ao n cap) ∧ Own B (.slice ao n cap) (bs ++ uintText v ds) w' ∧ Below B w w' ∧ Lib.OthersKept 5 none w w' := by
  unfold uintText
  by_cases hd : ds.toList.isEmpty = true
  · rw [if_pos hd]
    refine (append_dec ho v hv ds hd htab (by omega)).mono ?_
    rintro e w' ⟨ao, cap, rfl, h1, h2, h3⟩
    exact ⟨ao, _, cap, by simp, rfl, h1, h2, h3⟩
  · rw [if_neg hd]
    refine (append_digits ho v ds (by simpa using hd) (by omega)).mono ?_
    rintro e w' ⟨ao, cap, rfl, h1, h2, h3⟩
    exact ⟨ao, _, cap, by simp, rfl, h1, h2, h3⟩

set_option maxHeartbeats 400000 in
theorem uint_any {B b : Nat} {bs : List UInt8} {pr : Bool} {d : Int} {f : Bool} {w : World} (h : WS B b bs pr d f w) (v : Nat) (hv : v < 4294967296) (ds : ByteArray) (htab : Lib.TabBelow Ybad.prog B w pow10Name .u64 Lib.pow10Tab) (hlen : bs.length + ds.size + 20 ≤ 140737488355328) :
    Calls Ybad.prog 23 #[.pointer (some ⟨b, 0, none⟩), .agg #[.int .u32 v, .string ds]] w fun e w' => e = .returned (.tuple #[]) ∧ WS B b (bs ++ uintText v ds) pr d f w' ∧ Fr B b w w' := by
  have h1 := h.alloc (.cells #[.int .u32 (v : Int), .string ds] 39)
  obtain ⟨ao, cap, hb, ho, hB, hlt, hBw, c0, c1, c2, c3, hf⟩ := ws_open h1
  have hBw0 : B ≤ w.heap.size := by obtain ⟨_, _, _, ho, _⟩ := h; exact ho.2
  have hlt0 := h.lt
  have hfr0 := (Fr.refl B b w).alloc hBw0 (.cells #[.int .u32 (v : Int), .string ds] 39)
  have hcon := append_any ho.drew v hv ds (htab.on (hfr0.1.drew)) hlen
  clear h h1 htab
  go_enter Ybad.func23, Ybad.ntmps23
  go_wp2
  go_region_with (go_at_call 30; refine hcon.mono ?_; rintro e w1 ⟨ao1, n1, cap1, hn1, rfl, ho2, hb2, hk2⟩; have hb3 := hk2 b _ hb (by simp) (by intro c fz; simp); have d0 := cell_at hb3 0; have f0 := frozen_at hb3 0; simp only [List.getElem?_toArray, List.getElem?_cons_zero] at d0; have HN := Lib.hid hn1; clear hn1)
  all_goals
    have hn1 := HN.out
    clear HN
    have hfr : Fr B b w w1 := hfr0.drew.trans ⟨hb2, others_some hk2⟩
    have HN := Lib.hid hn1
    clear hn1 hcon ho hb c0 c1 c2 c3 hf hb2 hk2
    go_wp2
    go_end0
    exact ⟨rfl, ws_put hb3 ho2 HN.out hB, hfr.set hB 0 _⟩

theorem lt_of_heap {w : World} {k : Nat} {o : Obj} (h : w.heap[k]? = some o) : k < w.heap.size := (Array.getElem?_eq_some_iff.1 h).1

theorem uintText_len (v : Nat) (hv : v < 4294967296) (ds : ByteArray) : (uintText v ds).length ≤ ds.size + 20 := by
  unfold uintText
  split
  · rw [Lib.decDigits_length]; have := Lib.nDigits_le20 v (by omega); omega
  · show ds.data.toList.length ≤ _; rw [Array.length_toList]; exact Nat.le_add_right _ _

/-- What transactionPending writes. -/
def pendText (pr : Bool) (v : Nat) (ds : ByteArray) : List UInt8 :=
  if pr = true then [80, 101, 110, 100, 105, 110, 103] ++ ([32, 61, 32] ++ (uintText v ds ++ ([32, 123] ++ [125]))) else [80, 78] ++ ([61] ++ (uintText v ds ++ ([123] ++ [125])))

set_option maxHeartbeats 1000000 in
theorem pending_pretty {B b t : Nat} {bs : List UInt8} {d : Int} {f : Bool} {w : World} (h : WS B b bs true d f w) (v : Nat) (hv : v < 4294967296) (ds : ByteArray) (htab : Lib.TabBelow Ybad.prog B w pow10Name .u64 Lib.pow10Tab) (hlen : bs.length + ds.size + 100 ≤ 140737488355328)
    (hbt : t ≠ b) (ht : w.heap[t]? = some (.cells #[.int .u32 (v : Int), .string ds] 41 (0, 0)))
    (hg0 : w.cell? ⟨2, 0, none⟩ = some (.string ⟨#[80, 101, 110, 100, 105, 110, 103]⟩)) (hg1 : w.cell? ⟨2, 1, none⟩ = some (.string ⟨#[80, 78]⟩)) :
    Calls Ybad.prog 9 #[.pointer (some ⟨b, 0, none⟩), .pointer (some ⟨t, 0, none⟩)] w fun e w' => e = .returned (.tuple #[]) ∧ WS B b (bs ++ pendText true v ds) true (wrap64 (wrap64 (d + 1) - 1)) false w' ∧ Fr B b w w' := by
  have hul := uintText_len v hv ds
  go_enter Ybad.func9, Ybad.ntmps9
  go_wp2_with fail
  refine (keyword_pretty h ⟨#[80, 101, 110, 100, 105, 110, 103]⟩ ⟨#[80, 78]⟩ (by show _ + 7 ≤ _; omega)).mono ?_
  rintro e w1 ⟨rfl, h1, fr1⟩
  go_wp2_with fail
  refine (mark_pretty h1 61 61 rfl (by simp; omega)).mono ?_
  rintro e w2 ⟨rfl, h2, fr2⟩
  have ht2 := (fr1.trans fr2).2 t _ ht (by simpa using hbt) (by intro c fz; simp)
  have t0 : w2.cell? ⟨t, 0, none⟩ = some (.int .u32 (v : Int)) := cell_of_row w2 t 0 _ 41 (0, 0) ht2
  have t1 : w2.cell? ⟨t, 1, none⟩ = some (.string ds) := cell_of_row w2 t 1 _ 41 (0, 0) ht2
  clear h h1 hg0 hg1
  go_wp2_with fail
  refine (uint_any h2 v hv ds (htab.on (fr1.trans fr2).1) (by simp; omega)).mono ?_
  rintro e w3 ⟨rfl, h3, fr3⟩
  clear h2 ht2 t0 t1
  go_wp2_with fail
  refine (open_pretty h3 (by simp; omega)).mono ?_
  rintro e w4 ⟨rfl, h4, fr4⟩
  clear h3
  go_wp2_with fail
  refine (close_pretty h4 (by simp; omega)).mono ?_
  rintro e w5 ⟨rfl, h5, fr5⟩
  clear h4
  have h6 : WS B b (bs ++ pendText true v ds) true (wrap64 (wrap64 (d + 1) - 1)) false w5 := by
    unfold pendText; rw [if_pos rfl]; simpa only [List.append_assoc] using h5
  have fr := (fr1.trans fr2).trans (fr3.trans (fr4.trans fr5))
  clear h5 fr1 fr2 fr3 fr4 fr5
  go_wp2
  go_end0
  exact ⟨rfl, h6, fr⟩

set_option maxHeartbeats 1000000 in
theorem pending_compact {B b t : Nat} {bs : List UInt8} {d : Int} {f : Bool} {w : World} (h : WS B b bs false d f w) (v : Nat) (hv : v < 4294967296) (ds : ByteArray) (htab : Lib.TabBelow Ybad.prog B w pow10Name .u64 Lib.pow10Tab) (hlen : bs.length + ds.size + 100 ≤ 140737488355328)
    (hbt : t ≠ b) (ht : w.heap[t]? = some (.cells #[.int .u32 (v : Int), .string ds] 41 (0, 0)))
    (hg0 : w.cell? ⟨2, 0, none⟩ = some (.string ⟨#[80, 101, 110, 100, 105, 110, 103]⟩)) (hg1 : w.cell? ⟨2, 1, none⟩ = some (.string ⟨#[80, 78]⟩)) :
    Calls Ybad.prog 9 #[.pointer (some ⟨b, 0, none⟩), .pointer (some ⟨t, 0, none⟩)] w fun e w' => e = .returned (.tuple #[]) ∧ WS B b (bs ++ pendText false v ds) false d false w' ∧ Fr B b w w' := by
  have hul := uintText_len v hv ds
  go_enter Ybad.func9, Ybad.ntmps9
  go_wp2_with fail
  refine (keyword_compact h ⟨#[80, 101, 110, 100, 105, 110, 103]⟩ ⟨#[80, 78]⟩ (by show _ + 2 ≤ _; omega)).mono ?_
  rintro e w1 ⟨rfl, h1, fr1⟩
  go_wp2_with fail
  refine (mark_compact h1 61 61 rfl (by simp; omega)).mono ?_
  rintro e w2 ⟨rfl, h2, fr2⟩
  have ht2 := (fr1.trans fr2).2 t _ ht (by simpa using hbt) (by intro c fz; simp)
  have t0 : w2.cell? ⟨t, 0, none⟩ = some (.int .u32 (v : Int)) := cell_of_row w2 t 0 _ 41 (0, 0) ht2
  have t1 : w2.cell? ⟨t, 1, none⟩ = some (.string ds) := cell_of_row w2 t 1 _ 41 (0, 0) ht2
  clear h h1 hg0 hg1
  go_wp2_with fail
  refine (uint_any h2 v hv ds (htab.on (fr1.trans fr2).1) (by simp; omega)).mono ?_
  rintro e w3 ⟨rfl, h3, fr3⟩
  clear h2 ht2 t0 t1
  go_wp2_with fail
  refine (open_compact h3 (by simp; omega)).mono ?_
  rintro e w4 ⟨rfl, h4, fr4⟩
  clear h3
  go_wp2_with fail
  refine (close_compact h4 (by simp; omega)).mono ?_
  rintro e w5 ⟨rfl, h5, fr5⟩
  clear h4
  have h6 : WS B b (bs ++ pendText false v ds) false d false w5 := by
    unfold pendText; rw [if_neg (by decide)]; simpa only [List.append_assoc] using h5
  have fr := (fr1.trans fr2).trans (fr3.trans (fr4.trans fr5))
  clear h5 fr1 fr2 fr3 fr4 fr5
  go_wp2
  go_end0
  exact ⟨rfl, h6, fr⟩
end Go.Proofs.YbulkaxxqDoor
