/-
  map[number]*reservation: a map that the law makes, as a list of numbers and blocks.
-/
import Derived.Test.YbulkaxysDoorRest
import Derived.MapKept
namespace Go.Proofs.YbulkaxysDoor
open Go.RowKit

abbrev num (k : Int) : Value := .agg #[.int .u64 0, .int .u64 k]
abbrev pv (b : Nat) : Value := .pointer (some ⟨b, 0, none⟩)

def fnd : List (Int × Nat) → Int → Nat → Option (Nat × Nat)
  | [], _, _ => none
  | p :: L, k, i => if k == p.1 then some (i, p.2) else fnd L k (i + 1)

def getm (L : List (Int × Nat)) (k : Int) : Option Nat := (fnd L k 0).map (·.2)

def putm (L : List (Int × Nat)) (k : Int) (b : Nat) : List (Int × Nat) :=
  match fnd L k 0 with
  | some (i, _) => L.set i (k, b)
  | none => L ++ [(k, b)]

theorem fnd_shift (L : List (Int × Nat)) (k : Int) : ∀ i, fnd L k i = (fnd L k 0).map (fun p => (p.1 + i, p.2)) := by
  induction L with
  | nil => intro i; rfl
  | cons p L ih =>
    intro i
    simp only [fnd]
    split
    · simp
    · rw [ih (i + 1), ih (0 + 1), Option.map_map]
      congr 1
      funext q
      simp; omega

theorem getm_cons (p : Int × Nat) (L : List (Int × Nat)) (k : Int) : getm (p :: L) k = if k == p.1 then some p.2 else getm L k := by
  unfold getm
  simp only [fnd]
  split
  · rfl
  · rw [fnd_shift, Option.map_map]; rfl

theorem putm_cons (p : Int × Nat) (L : List (Int × Nat)) (k : Int) (b : Nat) : putm (p :: L) k b = if k == p.1 then (k, b) :: L else p :: putm L k b := by
  unfold putm
  cases e : k == p.1
  · simp only [fnd, e, Bool.false_eq_true, if_false]
    rw [fnd_shift]
    cases hq : fnd L k 0 with
    | none => rfl
    | some q => simp
  · simp [fnd, e]

theorem getm_putm (L : List (Int × Nat)) (k : Int) (b : Nat) (k' : Int) : getm (putm L k b) k' = if k' = k then some b else getm L k' := by
  induction L with
  | nil =>
    show getm [(k, b)] k' = _
    rw [getm_cons]
    simp [getm, fnd]
  | cons p L ih =>
    rw [putm_cons, getm_cons]
    by_cases e : k == p.1
    · rw [if_pos e, getm_cons]
      have e' : k = p.1 := by simpa using e
      subst e'
      by_cases h : k' = p.1 <;> simp [h]
    · rw [if_neg e, getm_cons, ih]
      have e' : k ≠ p.1 := by simpa using e
      by_cases h : k' = k
      · subst h; simp [e']
      · simp [h]

/-- Block B is the map of L. -/
def MapIs (w : World) (B : Nat) (L : List (Int × Nat)) : Prop := ∃ es clock, w.heap[B]? = some (.map es clock) ∧ es.toList.map (fun e => (e.key, e.val)) = L.map (fun p => (num p.1, pv p.2))

theorem run_findAsking (w : World) (k : Int) : ∀ (l : List MapEntry) (L : List (Int × Nat)) (i : Nat), l.map (fun e => (e.key, e.val)) = L.map (fun p => (num p.1, pv p.2)) →
    (Instr.findAsking 46 (num k) l i).run Ybad.prog w = .ok ((fnd L k i).map (fun q => (q.1, pv q.2))) w := by
  intro l
  induction l with
  | nil => intro L i h; cases L with
    | nil => rfl
    | cons p L => simp at h
  | cons e l ih =>
    intro L i h
    cases L with
    | nil => simp at h
    | cons p L =>
      simp only [List.map_cons, List.cons.injEq, Prod.mk.injEq] at h
      obtain ⟨⟨hk, hv⟩, hr⟩ := h
      have he := eq46 k p.1 w
      unfold Instr.findAsking
      rw [Sem.run_bind, hk, he]
      simp only [Result.andThen_ok, fnd]
      cases hq : k == p.1
      · simp only [Bool.false_eq_true, if_false]
        exact ih L (i + 1) hr
      · simp [hv]

theorem run_findKey (w : World) (k : Int) (l : List MapEntry) (L : List (Int × Nat)) (h : l.map (fun e => (e.key, e.val)) = L.map (fun p => (num p.1, pv p.2))) :
    (Instr.findKey 46 (num k) l).run Ybad.prog w = .ok ((fnd L k 0).map (fun q => (q.1, pv q.2))) w := by
  unfold Instr.findKey
  rw [Sem.run_bind, run_underlying Ybad.underlying46, Result.andThen_ok]
  cases l with
  | nil =>
    cases L with
    | nil => rfl
    | cons p L => simp at h
  | cons e l =>
    have hn : Instr.findNow (.struct (Ybad.prog.fieldsOf 46)) (num k) (e :: l) 0 = none := by rfl
    have := run_findAsking w k (e :: l) L 0 h
    simpa [Instr.findNow, Instr.sameNow] using this

theorem run_check (b : Bool) (k : Int) (w : World) : (Instr.checkKey b 10000 46 (num k)).run Ybad.prog w = .ok () w := by
  kernel_rfl

theorem lookup_any (w : World) (B : Nat) (L : List (Int × Nat)) (h : MapIs w B L) (k : Int) :
    (Instr.lookup 54 (.map (some B)) (num k) false).run Ybad.prog w = .ok (.pointer ((getm L k).map (fun b => ⟨b, 0, none⟩))) w ∧
    (Instr.lookup 54 (.map (some B)) (num k) true).run Ybad.prog w = .ok (.tuple #[.pointer ((getm L k).map (fun b => ⟨b, 0, none⟩)), .bool (getm L k).isSome]) w := by
  obtain ⟨es, clock, hb, hl⟩ := h
  have hf := run_findKey w k es.toList L hl
  have hz : (zeroValue 55).run Ybad.prog w = .ok (.pointer none) w := by kernel_rfl
  have hg : getm L k = (fnd L k 0).map (·.2) := rfl
  rw [hg]
  cases hq : fnd L k 0 with
  | none =>
    rw [hq] at hf
    simp [Instr.lookup, run_underlying Ybad.underlying54, MapKept.run_getObj_map hb, run_check, hf, hz]
  | some q =>
    rw [hq] at hf
    simp [Instr.lookup, run_underlying Ybad.underlying54, MapKept.run_getObj_map hb, run_check, hf]

theorem fnd_some (L : List (Int × Nat)) (k : Int) (i : Nat) (q : Nat) (h : fnd L k 0 = some (i, q)) : L[i]? = some (k, q) := by
  induction L generalizing i with
  | nil => simp [fnd] at h
  | cons p L ih =>
    simp only [fnd] at h
    cases e : k == p.1
    · rw [e] at h
      simp only [Bool.false_eq_true, if_false] at h
      rw [fnd_shift] at h
      cases hq : fnd L k 0 with
      | none => simp [hq] at h
      | some t =>
        simp [hq] at h
        obtain ⟨rfl, rfl⟩ := h
        simpa using ih t.1 hq
    · rw [e] at h
      simp at h
      obtain ⟨rfl, rfl⟩ := h
      have : k = p.1 := by simpa using e
      simp [this]

theorem same_num (k : Int) : Instr.sameBits 10000 (num k) (num k) = true := by
  show Instr.sameBits (9999 + 1) (num k) (num k) = true
  simp [Instr.sameBits]

theorem update_any (w : World) (B : Nat) (L : List (Int × Nat)) (h : MapIs w B L) (k : Int) (b : Nat) :
    ∃ w', (Instr.mapUpdate 54 (.map (some B)) (num k) (pv b)).run Ybad.prog w = .ok () w' ∧ MapIs w' B (putm L k b) ∧ w'.os = w.os ∧ w'.tape = w.tape ∧ w'.output = w.output ∧ w'.heap.size = w.heap.size ∧ ∀ r, r ≠ B → w'.heap[r]? = w.heap[r]? := by
  obtain ⟨es, clock, hb, hl⟩ := h
  have hf := run_findKey w k es.toList L hl
  unfold putm
  cases hq : fnd L k 0 with
  | none =>
    rw [hq] at hf
    refine ⟨{ w with heap := w.heap.setIfInBounds B (.map (es.push { key := num k, val := pv b, born := clock }) (clock + 1)) }, ?_, ⟨_, _, (MapKept.heap_set hb).1, ?_⟩, rfl, rfl, rfl, by simp, (MapKept.heap_set hb).2⟩
    · simp [Instr.mapUpdate, run_underlying Ybad.underlying54, MapKept.run_getObj_map hb, run_check, hf, MapKept.run_setObj_map _ hb]
    · simp [hl]
  | some q =>
    obtain ⟨i, c⟩ := q
    rw [hq] at hf
    have hi := fnd_some L k i c hq
    have hkey : es[i]?.map (·.key) = some (num k) := by
      have h1 := congrArg (·[i]?) hl
      simp only [List.getElem?_map, hi, Option.map_some] at h1
      have h2 : es.toList[i]? = es[i]? := by simp
      rw [h2] at h1
      cases he : es[i]? with
      | none => simp [he] at h1
      | some e => simp [he] at h1; simp [h1.1]
    refine ⟨{ w with heap := w.heap.setIfInBounds B (.map (es.modify i fun e => { e with key := num k, val := pv b }) clock) }, ?_, ⟨_, _, (MapKept.heap_set hb).1, ?_⟩, rfl, rfl, rfl, by simp, (MapKept.heap_set hb).2⟩
    · simp [Instr.mapUpdate, run_underlying Ybad.underlying54, MapKept.run_getObj_map hb, run_check, hf, MapKept.run_setObj_map _ hb, Instr.keyThatStays, hkey, same_num]
    · refine List.ext_getElem? fun j => ?_
      have h1 := congrArg (·[j]?) hl
      simp only [List.getElem?_map] at h1
      by_cases e : j = i
      · subst e
        have hjl : j < L.length := (List.getElem?_eq_some_iff.1 hi).1
        cases he : es[j]? with
        | none => simp [he, hi] at h1
        | some t => simp [he, hjl]
      · simp [Ne.symm e, List.getElem?_set_ne (Ne.symm e)]
        simpa using h1
end Go.Proofs.YbulkaxysDoor
