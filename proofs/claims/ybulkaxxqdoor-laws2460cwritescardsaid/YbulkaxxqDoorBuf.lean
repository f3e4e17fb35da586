/-
  A SLICE OF BYTES THAT THE CALL OWNS, AND THE WRITER THAT HOLDS IT: 'Own', 'WS'; append as a step of the walk, in a plain region and in one that draws its order.
-/
import Derived.Test.YbulkaxxqDoorProg
import Derived.WalkKit
import Derived.WalkSpells
import Derived.OwnWalk
import Derived.Lib.AppendStr
import Derived.Lib.UnsafeStr
import Derived.Lib.OwnKind
import Derived.Lib.BufferKept
import Derived.Lib.SmallJoins
import Derived.Laws.AppendOwnNone
import Derived.Deep.RegionLaw
namespace Go.Proofs.YbulkaxxqDoor
open Go.RowKit

theorem info5 : ∃ i, Ybad.prog.info? 5 = some i ∧ i.zero = some (.int .u8 0) ∧ i.size = 1 ∧ i.bytes = 1 := info_parts (by kernel_rfl)

/-- In w the slice v is nil or owns a row from block B on; it holds the bytes bs. -/
def Own (B : Nat) (v : Value) (bs : List UInt8) (w : World) : Prop :=
  w.ownsRow B 5 1 v bs.length (Lib.byteCells bs) ∧ B ≤ w.heap.size

theorem own_form {B : Nat} {v : Value} {bs : List UInt8} {w : World} (h : Own B v bs w) : ∃ ao cap, v = .slice ao bs.length cap := by
  rcases h.1.2 with ⟨rfl, hn⟩ | ⟨g, cap, cur, rfl, _⟩
  · exact ⟨none, 0, by rw [hn]⟩
  · exact ⟨_, cap, rfl⟩

theorem own_nil (B : Nat) (w : World) (h : B ≤ w.heap.size) : Own B (.slice none 0 0) [] w := ⟨World.ownsRow_nil _ _ _ _, h⟩

theorem Own.alloc {B : Nat} {v : Value} {bs : List UInt8} {w : World} (h : Own B v bs w) (o : Obj) : Own B v bs (w.alloc o) :=
  ⟨h.1.alloc o, Nat.le_trans h.2 (by simp)⟩
theorem Own.drew {B : Nat} {v : Value} {bs : List UInt8} {w : World} (h : Own B v bs w) : Own B v bs w.drew := h
theorem Own.kind {B : Nat} {v : Value} {bs : List UInt8} {w : World} (h : Own B v bs w) : ∀ g, v.ownBlock = some g → ∃ c fz, w.heap[g]? = some (.cells c 5 fz) := Lib.ownsRow_kind h.1

/-- append(v, s...), s a string. -/
theorem app_str {B : Nat} {v : Value} {bs : List UInt8} {w : World} (h : Own B v bs w) (s : ByteArray) (ty : TypeId) (hlen : bs.length + s.size ≤ 140737488355328) :
    ∃ ao cap w', (Builtin.append_ #[22, 9] ty #[v, .string s]).run Ybad.prog w = .ok (.slice ao (bs.length + s.size) cap) w' ∧ Own B (.slice ao (bs.length + s.size) cap) (bs ++ s.data.toList) w' ∧ w.grownBy w' v.ownBlock := by
  obtain ⟨i, hi, hz, hs, hb⟩ := info5
  obtain ⟨v', w', hr, ho, hg, _⟩ := Lib.run_append_own_string (P := Ybad.prog) w B 22 9 ty 5 i Ybad.underlying22 Ybad.underlying9 hi hz hs hb v bs.length _ h.1 s (by unfold maxLen; omega) hlen h.2
  have el : (bs ++ s.data.toList).length = bs.length + s.size := by rw [List.length_append]; rfl
  have ho' : Own B v' (bs ++ s.data.toList) w' := ⟨by rw [el, Lib.byteCells_append]; exact ho, Nat.le_trans h.2 hg.size⟩
  obtain ⟨ao, cap, e⟩ := own_form ho'
  rw [el] at e
  subst e
  exact ⟨ao, cap, w', hr, ho', hg⟩

/-- The bytes src lie in w behind the slice x (nil: none). -/
def Src (x : Value) (src : List UInt8) (w : World) : Prop :=
  (x = .slice none 0 0 ∧ src = []) ∨ ∃ ad c, x = .slice (some ad) src.length c ∧ ∀ (j : Nat) u, (Lib.byteCells src)[j]? = some u → w.cell? (ad.add j) = some u

theorem byteCells_one (l : List UInt8) : ∀ v ∈ Lib.byteCells l, v.oneCell' = true := by
  intro v hv
  simp only [Lib.byteCells, List.mem_map] at hv
  obtain ⟨b, _, rfl⟩ := hv
  rfl

/-- append(v, xs...), xs a slice of bytes. -/
theorem app_sl {B : Nat} {v : Value} {bs : List UInt8} {w : World} (h : Own B v bs w) (x : Value) (src : List UInt8) (hx : Src x src w) (ty : TypeId) (hlen : bs.length + src.length ≤ 140737488355328) :
    ∃ ao cap w', (Builtin.append_ #[22, 22] ty #[v, x]).run Ybad.prog w = .ok (.slice ao (bs.length + src.length) cap) w' ∧ Own B (.slice ao (bs.length + src.length) cap) (bs ++ src) w' ∧ w.grownBy w' v.ownBlock := by
  obtain ⟨i, hi, hz, hs, hb⟩ := info5
  rcases hx with ⟨rfl, rfl⟩ | ⟨ad, c, rfl, hc⟩
  · have hr := run_append_owned_none (P := Ybad.prog) (w := w) B 22 ty 5 i 1 Ybad.underlying22 hi v bs.length _ h.1
    obtain ⟨ao, cap, rfl⟩ := own_form h
    exact ⟨ao, cap, w, hr, by simpa using h, ⟨rfl, rfl, rfl, Nat.le_refl _, fun _ _ _ => rfl⟩⟩
  · obtain ⟨v', w', hr, ho, hg, _⟩ := run_append_own (P := Ybad.prog) w B 22 ty 5 i (.int .u8 0) 1 1 Ybad.underlying22 hi hz hs hb rfl (by decide) v bs.length _ h.1 ad src.length c (Lib.byteCells src) (by rw [Lib.byteCells_length]; omega) hc (byteCells_one _) (by unfold maxLen; omega) (by omega) h.2
    have el : (bs ++ src).length = bs.length + src.length := List.length_append
    have ho' : Own B v' (bs ++ src) w' := ⟨by rw [el, Lib.byteCells_append]; exact ho, Nat.le_trans h.2 hg.size⟩
    obtain ⟨ao, cap, e⟩ := own_form ho'
    rw [el] at e
    subst e
    exact ⟨ao, cap, w', hr, ho', hg⟩

section
variable {ops : Array Oper} {rest : List Oper} {o : Oper} {a : Act} {Q : Exit → Act → World → Prop} {w : World}

theorem wpList_appS (hgd : o.guard = none) (sl x : Operand) (ho : o.op = .call { callee := .builtin .append, args := #[sl, x], argTypes := #[22, 9] })
    {B : Nat} {v : Value} {bs : List UInt8} (hown : Own B v bs w) (s : ByteArray) (hlen : bs.length + s.size ≤ 140737488355328) (hs : a.eval sl = v) (hx : a.eval x = .string s)
    (h : ∀ ao cap w', Own B (.slice ao (bs.length + s.size) cap) (bs ++ s.data.toList) w' → w.grownBy w' v.ownBlock → wpList Ybad.prog ops Q rest (a.put o.dst (.slice ao (bs.length + s.size) cap)) w') :
    wpList Ybad.prog ops Q (o :: rest) a w := by
  refine wpList_plain hgd fun K hK => ?_
  obtain ⟨ao, cap, w', hr, h2, h3⟩ := app_str hown s o.type hlen
  unfold Oper.wp execOp
  simp only [ho, resolve, invoke, builtin, Sem.run_bind, Sem.run_pure, Result.andThen_ok, List.map_toArray, List.map_cons, List.map_nil, hs, hx, hr]
  exact hK _ _ (h ao cap w' h2 h3)

theorem wpList_appB (hgd : o.guard = none) (sl x : Operand) (ho : o.op = .call { callee := .builtin .append, args := #[sl, x], argTypes := #[22, 22] })
    {B : Nat} {v : Value} {bs : List UInt8} (hown : Own B v bs w) (y : Value) (src : List UInt8) (hsrc : Src y src w) (hlen : bs.length + src.length ≤ 140737488355328) (hs : a.eval sl = v) (hx : a.eval x = y)
    (h : ∀ ao cap w', Own B (.slice ao (bs.length + src.length) cap) (bs ++ src) w' → w.grownBy w' v.ownBlock → wpList Ybad.prog ops Q rest (a.put o.dst (.slice ao (bs.length + src.length) cap)) w') :
    wpList Ybad.prog ops Q (o :: rest) a w := by
  refine wpList_plain hgd fun K hK => ?_
  obtain ⟨ao, cap, w', hr, h2, h3⟩ := app_sl hown y src hsrc o.type hlen
  unfold Oper.wp execOp
  simp only [ho, resolve, invoke, builtin, Sem.run_bind, Sem.run_pure, Result.andThen_ok, List.map_toArray, List.map_cons, List.map_nil, hs, hx, hr]
  exact hK _ _ (h ao cap w' h2 h3)

theorem step_appS {K : Act → World → Prop} {E : Prop} (hgd : o.guard = none) (sl x : Operand) (ho : o.op = .call { callee := .builtin .append, args := #[sl, x], argTypes := #[22, 9] })
    {B : Nat} {v : Value} {bs : List UInt8} (hown : Own B v bs w) (s : ByteArray) (hlen : bs.length + s.size ≤ 140737488355328) (hs : a.eval sl = v) (hx : a.eval x = .string s)
    (h : ∀ ao cap w', Own B (.slice ao (bs.length + s.size) cap) (bs ++ s.data.toList) w' → w.grownBy w' v.ownBlock → K (a.put o.dst (.slice ao (bs.length + s.size) cap)) w') :
    if Region.wanted o (yielded ops a.tmps) = true then Oper.wp Ybad.prog o a w K Q else E := by
  have hw : Region.wanted o (yielded ops a.tmps) = true := by simp [Region.wanted, hgd]
  rw [if_pos hw]
  obtain ⟨ao, cap, w', hr, h2, h3⟩ := app_str hown s o.type hlen
  unfold Oper.wp execOp
  simp only [ho, resolve, invoke, builtin, Sem.run_bind, Sem.run_pure, Result.andThen_ok, List.map_toArray, List.map_cons, List.map_nil, hs, hx, hr]
  exact h ao cap w' h2 h3
end

/-- In w block b is a textWriter that the call has made (from block B on): what it has written, its three other fields. -/
def WS (B b : Nat) (bs : List UInt8) (pr : Bool) (d : Int) (f : Bool) (w : World) : Prop :=
  ∃ ao cap, w.heap[b]? = some (.cells #[.slice ao bs.length cap, .bool pr, .int .i64 d, .bool f] 30 (0, 0)) ∧ Own B (.slice ao bs.length cap) bs w ∧ B ≤ b

section
variable {B b : Nat} {bs : List UInt8} {pr : Bool} {d : Int} {f : Bool} {w w' : World}

/-- What a method of the writer leaves alone: what lay below B; of the rest all but the writer's block and rows of bytes. -/
def Fr (B b : Nat) (w w' : World) : Prop := Below B w w' ∧ Lib.OthersKept 5 (some b) w w'
theorem Fr.refl (B b : Nat) (w : World) : Fr B b w w := ⟨Below.refl _ _, Lib.OthersKept.refl _ _ _⟩
theorem Fr.trans {w'' : World} (h : Fr B b w w') (k : Fr B b w' w'') : Fr B b w w'' := ⟨h.1.trans k.1, h.2.trans k.2⟩
theorem Fr.alloc (h : Fr B b w w') (hB : B ≤ w'.heap.size) (o : Obj) : Fr B b w (w'.alloc o) := ⟨h.1.alloc hB o, h.2.alloc o⟩
theorem Fr.drew (h : Fr B b w w') : Fr B b w w'.drew := ⟨h.1.drew, h.2.drew⟩
theorem Fr.set (h : Fr B b w w') (hB : B ≤ b) (j : Nat) (v : Value) : Fr B b w (w'.setCell ⟨b, j, none⟩ v) := ⟨h.1.setCell (p := ⟨b, j, none⟩) hB v, h.2.setCell ⟨b, j, none⟩ rfl v⟩
theorem Fr.grown {w'' : World} {v : Value} {cs : List UInt8} (h : Fr B b w w') (ho : Own B v cs w') (hg : w'.grownBy w'' v.ownBlock) : Fr B b w w'' :=
  ⟨h.1.grown hg ho.2 (fun k hk => (ho.1.lt k hk).1), h.2.grown hg ho.kind⟩

theorem heap_set {arr : Array Value} (h : w.heap[b]? = some (.cells arr 30 (0, 0))) (j : Nat) (v : Value) : (w.setCell ⟨b, j, none⟩ v).heap[b]? = some (.cells (arr.setIfInBounds j v) 30 (0, 0)) := by
  simp [World.setCell, Array.getElem?_modify, h]

theorem WS.lt (h : WS B b bs pr d f w) : b < w.heap.size := by
  obtain ⟨ao, cap, hb, _⟩ := h
  exact (Array.getElem?_eq_some_iff.1 hb).1
theorem WS.alloc (h : WS B b bs pr d f w) (o : Obj) : WS B b bs pr d f (w.alloc o) := by
  have hl := h.lt
  obtain ⟨ao, cap, hb, ho, hB⟩ := h
  exact ⟨ao, cap, by rw [Below.heap_alloc _ _ _ hl]; exact hb, ho.alloc o, hB⟩
theorem cell_at {arr : Array Value} (h : w.heap[b]? = some (.cells arr 30 (0, 0))) (j : Nat) : w.cell? ⟨b, j, none⟩ = arr[j]? := cell_of_row w b j arr 30 (0, 0) h
theorem frozen_at {arr : Array Value} (h : w.heap[b]? = some (.cells arr 30 (0, 0))) (j : Nat) : w.frozen? ⟨b, j, none⟩ = false := by
  simp [World.frozen?, h]
theorem own_ne {v : Value} {cs : List UInt8} {arr : Array Value} (ho : Own B v cs w) (h : w.heap[b]? = some (.cells arr 30 (0, 0))) : some b ≠ v.ownBlock := by
  intro e
  obtain ⟨c, fz, hc⟩ := ho.kind b e.symm
  rw [h] at hc
  simp at hc
theorem kept_b {v : Value} {cs : List UInt8} {arr : Array Value} (ho : Own B v cs w) (hg : w.grownBy w' v.ownBlock) (h : w.heap[b]? = some (.cells arr 30 (0, 0))) : w'.heap[b]? = some (.cells arr 30 (0, 0)) := by
  rw [hg.block b (Array.getElem?_eq_some_iff.1 h).1 (own_ne ho h)]; exact h
theorem Own.setCell {v : Value} {cs : List UInt8} {arr : Array Value} (ho : Own B v cs w) (h : w.heap[b]? = some (.cells arr 30 (0, 0))) (j : Nat) (u : Value) : Own B v cs (w.setCell ⟨b, j, none⟩ u) := by
  have hne := own_ne ho h
  refine ⟨ho.1.kept (row := some b) ⟨rfl, rfl, rfl, by simp [World.setCell], fun k _ hk => Below.heap_setCell _ _ _ _ (fun e => hk (by rw [e]))⟩ (Or.inr (fun e => hne e.symm)), by simpa [World.setCell] using ho.2⟩

/-- The writer behind 'w.buf = ..'. -/
theorem ws_put {n cap1 : Nat} {ao1 : Option Addr} {old : Value} (hb : w.heap[b]? = some (.cells #[old, .bool pr, .int .i64 d, .bool f] 30 (0, 0))) (ho : Own B (.slice ao1 n cap1) bs w) (hn : n = bs.length) (hB : B ≤ b) :
    WS B b bs pr d f (w.setCell ⟨b, 0, none⟩ (.slice ao1 n cap1)) := by
  subst hn
  refine ⟨ao1, cap1, ?_, ho.setCell hb 0 _, hB⟩
  rw [heap_set hb 0]
  simp

/-- The writer behind a store of its depth, or of its mark. -/
theorem ws_depth {d2 : Int} (h : WS B b bs pr d f w) : WS B b bs pr d2 f (w.setCell ⟨b, 2, none⟩ (.int .i64 d2)) := by
  obtain ⟨ao, cap, hb, ho, hB⟩ := h
  refine ⟨ao, cap, ?_, ho.setCell hb 2 _, hB⟩
  rw [heap_set hb 2]
  simp
theorem ws_first {f2 : Bool} (h : WS B b bs pr d f w) : WS B b bs pr d f2 (w.setCell ⟨b, 3, none⟩ (.bool f2)) := by
  obtain ⟨ao, cap, hb, ho, hB⟩ := h
  refine ⟨ao, cap, ?_, ho.setCell hb 3 _, hB⟩
  rw [heap_set hb 3]
  simp
theorem ws_drew (h : WS B b bs pr d f w) : WS B b bs pr d f w.drew := h

/-- The writer's cells, for the walk. -/
theorem ws_open (h : WS B b bs pr d f w) : ∃ ao cap, w.heap[b]? = some (.cells #[.slice ao bs.length cap, .bool pr, .int .i64 d, .bool f] 30 (0, 0)) ∧ Own B (.slice ao bs.length cap) bs w ∧ B ≤ b ∧ b < w.heap.size ∧ B ≤ w.heap.size ∧
    w.cell? ⟨b, 0, none⟩ = some (.slice ao bs.length cap) ∧ w.cell? ⟨b, 1, none⟩ = some (.bool pr) ∧ w.cell? ⟨b, 2, none⟩ = some (.int .i64 d) ∧ w.cell? ⟨b, 3, none⟩ = some (.bool f) ∧ (∀ j, w.frozen? ⟨b, j, none⟩ = false) := by
  have hl := h.lt
  obtain ⟨ao, cap, hb, ho, hB⟩ := h
  exact ⟨ao, cap, hb, ho, hB, hl, ho.2, cell_at hb 0, cell_at hb 1, cell_at hb 2, cell_at hb 3, frozen_at hb⟩

/-- The bytes of a block that was just laid. -/
theorem src_new (l : List UInt8) (n : Nat) (hn : l.length = n) (arr : Array Value) (e : arr.toList = Lib.byteCells l) (w' : World) (k : Nat) (hw : w'.heap[k]? = some (.cells arr 5 (0, 0))) : Src (.slice (some ⟨k, 0, none⟩) n n) l w' := by
  subst hn
  refine Or.inr ⟨_, _, rfl, fun j u hj => ?_⟩
  have hadd : (⟨k, 0, none⟩ : Addr).add j = ⟨k, j, none⟩ := by unfold Addr.add; split <;> simp_all
  rw [hadd, cell_of_row w' k j arr 5 (0, 0) hw]
  rw [← e] at hj
  simpa using hj
end
end Go.Proofs.YbulkaxxqDoor
