/-
  THE WALK OF LawS2460CWrites (5).
-/
import Derived.Test.YbulkaxxqDoorDec
import Derived.Deep.QuietTactic
import Derived.BigQuiet
import Derived.Laws.IdiomStrings
namespace Go.Proofs.YbulkaxxqDoor
open Go.RowKit

theorem Src.below {x : Value} {src : List UInt8} {w w' : World} (h : Src x src w) (hb : Below w.heap.size w w') : Src x src w' := by
  rcases h with h | ⟨ad, c, rfl, hc⟩
  · exact Or.inl h
  · refine Or.inr ⟨ad, c, rfl, fun j u hj => ?_⟩
    have h1 := hc j u hj
    rw [hb.cell (World.block_lt_of_cell? w _ h1)]
    exact h1

theorem WS.below {B b : Nat} {bs : List UInt8} {pr : Bool} {d : Int} {f : Bool} {w w' : World} (h : WS B b bs pr d f w) (hb : Below w.heap.size w w') : WS B b bs pr d f w' := by
  have hl := h.lt
  obtain ⟨ao, cap, hh, ho, hB⟩ := h
  refine ⟨ao, cap, (hb.block b hl).trans hh, ⟨?_, Nat.le_trans ho.2 hb.size⟩, hB⟩
  exact ho.1.kept (row := none) ⟨hb.os, hb.tape, hb.output, hb.size, fun k hk _ => hb.block k hk⟩ (by cases hv : Value.ownBlock (.slice ao bs.length cap) <;> simp)

set_option maxHeartbeats 1000000 in
theorem law_long (ao : Option Addr) (n c : Nat) (pr : Bool) (d : Int) (f : Bool) (v : Int) (ds : ByteArray) (w : World) (hn : n ≤ 9223372036854775807) (hlong : 1024 < n ∨ 1024 < ds.size) :
    Calls Ybad.prog 5 #[.slice ao n c, .bool pr, .int .i64 d, .bool f, .int .u32 v, .string ds] w fun e w' => e = .returned (.bool true) ∧ Below w.heap.size w w' := by
  by_cases h1 : 1024 < n
  · have h1i : (1024 : Int) < (n : Int) := by omega
    go_enter Ybad.func5, Ybad.ntmps5
    go_wp2
    go_ret
    exact ⟨rfl, Below.refl _ _⟩
  · have h1i : ¬ (1024 : Int) < (n : Int) := by omega
    have h2i : (1024 : Int) < (ds.size : Int) := by omega
    clear hlong
    go_enter Ybad.func5, Ybad.ntmps5
    go_wp2
    go_ret
    exact ⟨rfl, Below.refl _ _⟩

/-- append([]byte(nil), xs...). -/
theorem wpList_appNil {ops : Array Oper} {rest : List Oper} {o : Oper} {a : Act} {Q : Exit → Act → World → Prop} {w : World} (hgd : o.guard = none) (sl x : Operand) (ho : o.op = .call { callee := .builtin .append, args := #[sl, x], argTypes := #[22, 22] })
    (y : Value) (src : List UInt8) (hsrc : Src y src w) (hlen : src.length ≤ 140737488355328) (hs : a.eval sl = .slice none 0 0) (hx : a.eval x = y)
    (h : ∀ ao cap w', Own w.heap.size (.slice ao src.length cap) src w' → Below w.heap.size w w' → wpList Ybad.prog ops Q rest (a.put o.dst (.slice ao src.length cap)) w') :
    wpList Ybad.prog ops Q (o :: rest) a w := by
  refine wpList_appB hgd sl x ho (own_nil w.heap.size w (Nat.le_refl _)) y src hsrc (by simpa using hlen) hs hx ?_
  intro ao cap w' ho' hg
  have e : ([] : List UInt8).length + src.length = src.length := by simp
  rw [e] at ho' ⊢
  refine h ao cap w' (by simpa using ho') ?_
  exact (Below.refl _ w).grown hg (Nat.le_refl _) (fun k hk => by simp [Value.ownBlock] at hk)

theorem ws_new {B : Nat} {ao : Option Addr} {cap : Nat} {bs : List UInt8} {w : World} (h : Own B (.slice ao bs.length cap) bs w) (pr : Bool) (d : Int) (f : Bool) :
    WS B w.heap.size bs pr d f (w.alloc (.cells #[.slice ao bs.length cap, .bool pr, .int .i64 d, .bool f] 30)) :=
  ⟨ao, cap, heap_alloc_new w _, h.alloc _, h.2⟩

theorem wrap_back (d : Int) (hd0 : -9223372036854775808 ≤ d) (hd1 : d ≤ 9223372036854775807) : wrap64 (wrap64 (d + 1) - 1) = d := by unfold wrap64; omega

theorem Own.below {B : Nat} {v : Value} {bs : List UInt8} {w w' : World} (ho : Own B v bs w) (hb : Below w.heap.size w w') : Own B v bs w' :=
  ⟨ho.1.kept (row := none) ⟨hb.os, hb.tape, hb.output, hb.size, fun k hk _ => hb.block k hk⟩ (by cases hv : Value.ownBlock v <;> simp), Nat.le_trans ho.2 hb.size⟩

/-- string(b), b owned and not empty. -/
theorem conv_own {B : Nat} {ao : Option Addr} {n cap : Nat} {bs : List UInt8} {w : World} (h : Own B (.slice ao n cap) bs w) (hn : n = bs.length) (hne : 0 < bs.length) (q : Nat) :
    (convert 22 9 (.slice ao n cap)).run Ybad.prog (w.drewN q) = .ok (.string ⟨bs.toArray⟩) (w.drewN q) := by
  subst hn
  rcases h.1.2 with ⟨_, hz⟩ | ⟨g, cap', cur, e, _⟩
  · omega
  · simp only [Value.slice.injEq] at e
    obtain ⟨rfl, _, rfl⟩ := e
    have hc := h.1.cells (g := g) rfl
    exact run_convert_bytes_back (P := Ybad.prog) (w.drewN q) 22 9 5 ⟨g, 0, none⟩ cap bs Ybad.underlying22 Ybad.underlying5 Ybad.underlying9 (fun j hj => by
      rw [World.cell?_drewN]
      exact hc j _ (by simp [Lib.byteCells, hj]))

theorem own_below {B : Nat} {v : Value} {bs : List UInt8} {w w' w0 : World} (ho : Own B v bs w) (hg : w.grownBy w' v.ownBlock) (hb : Below B w0 w) : Below B w0 w' :=
  hb.grown hg ho.2 (fun k hk => (ho.1.lt k hk).1)

section
variable {ops : Array Oper} {rest : List Oper} {o : Oper} {a : Act} {Q : Exit → Act → World → Prop} {w : World}

/-- append(v, s...) in a chain of appends over w0, the new length under a name. -/
theorem wpList_chainS (hgd : o.guard = none) (sl x : Operand) (ho : o.op = .call { callee := .builtin .append, args := #[sl, x], argTypes := #[22, 9] })
    {B : Nat} {v : Value} {bs : List UInt8} {w0 : World} (hown : Hid (Own B v bs w ∧ Below B w0 w)) (s : ByteArray) (hlen : Hid (bs.length + s.size ≤ 140737488355328)) (hs : a.eval sl = v) (hx : a.eval x = .string s)
    (h : ∀ ao n cap w', Hid (n = (bs ++ s.data.toList).length) → Hid (Own B (.slice ao n cap) (bs ++ s.data.toList) w' ∧ Below B w0 w') → wpList Ybad.prog ops Q rest (a.put o.dst (.slice ao n cap)) w') :
    wpList Ybad.prog ops Q (o :: rest) a w := by
  refine wpList_appS hgd sl x ho hown.out.1 s hlen.out hs hx ?_
  intro ao cap w' ho' hg
  exact h ao _ cap w' (show _ = _ by rw [List.length_append]; rfl) ⟨ho', own_below hown.out.1 hg hown.out.2⟩

theorem wpList_chainB (hgd : o.guard = none) (sl x : Operand) (ho : o.op = .call { callee := .builtin .append, args := #[sl, x], argTypes := #[22, 22] })
    {B : Nat} {v : Value} {bs : List UInt8} {w0 : World} (hown : Hid (Own B v bs w ∧ Below B w0 w)) (y : Value) (src : List UInt8) (hsrc : Src y src w) (hlen : Hid (bs.length + src.length ≤ 140737488355328)) (hs : a.eval sl = v) (hx : a.eval x = y)
    (h : ∀ ao n cap w', Hid (n = (bs ++ src).length) → Hid (Own B (.slice ao n cap) (bs ++ src) w' ∧ Below B w0 w') → wpList Ybad.prog ops Q rest (a.put o.dst (.slice ao n cap)) w') :
    wpList Ybad.prog ops Q (o :: rest) a w := by
  refine wpList_appB hgd sl x ho hown.out.1 y src hsrc hlen.out hs hx ?_
  intro ao cap w' ho' hg
  exact h ao _ cap w' (show _ = _ by rw [List.length_append]) ⟨ho', own_below hown.out.1 hg hown.out.2⟩
end

set_option maxHeartbeats 1000000 in
theorem law_pretty (px : Value) (ao : Option Addr) (c : Nat) (pbs : List UInt8) (d : Int) (f : Bool) (v : Nat) (ds : ByteArray) (w : World) (hpx : px = .slice ao pbs.length c) (hsrc : Src px pbs w) (hn : pbs.length ≤ 1024) (hd : ds.size ≤ 1024) (hv : v < 4294967296)
    (htab : Lib.TabIs Ybad.prog w pow10Name .u64 Lib.pow10Tab)
    (hk0 : w.cell? ⟨2, 0, none⟩ = some (.string ⟨#[80, 101, 110, 100, 105, 110, 103]⟩)) (hk1 : w.cell? ⟨2, 1, none⟩ = some (.string ⟨#[80, 78]⟩)) (hgl : 2 < w.heap.size) (hd0 : -9223372036854775808 ≤ d) (hd1 : d ≤ 9223372036854775807) :
    Calls Ybad.prog 5 #[px, .bool true, .int .i64 d, .bool f, .int .u32 v, .string ds] w fun e w' => e = .returned (.bool true) ∧ Below w.heap.size w w' := by
  subst hpx
  have hni : ¬ (1024 : Int) < (pbs.length : Int) := by omega
  have hdi : ¬ (1024 : Int) < (ds.size : Int) := by omega
  have hTB := Lib.tabBelow_of_tabIs htab
  have hwb := Lib.hid (wrap_back d hd0 hd1)
  have HV := Lib.hid hv
  clear htab hd0 hd1 hv
  go_enter Ybad.func5, Ybad.ntmps5
  go_wp2_with (at_builtin; refine wpList_appNil rfl _ (.tmp 24) rfl _ _ hsrc (by omega) rfl rfl ?_; intro ao1 cap1 w1 ho1 hb1; refine Hid.out ?_)
  have hws := (ws_new ho1 true d f).alloc (.cells #[.int .u32 (v : Int), .string ds] 41)
  have hz1 := hb1.size
  have hb2 : Below w.heap.size w ((w1.alloc (.cells #[.slice ao1 pbs.length cap1, .bool true, .int .i64 d, .bool f] 30)).alloc (.cells #[.int .u32 (v : Int), .string ds] 41)) := (hb1.alloc hz1 _).alloc (by simp; omega) _
  have ht : ((w1.alloc (.cells #[.slice ao1 pbs.length cap1, .bool true, .int .i64 d, .bool f] 30)).alloc (.cells #[.int .u32 (v : Int), .string ds] 41)).heap[w1.heap.size + 1]? = some (.cells #[.int .u32 (v : Int), .string ds] 41 (0, 0)) := by
    have := heap_alloc_new (w1.alloc (.cells #[.slice ao1 pbs.length cap1, .bool true, .int .i64 d, .bool f] 30)) (.cells #[.int .u32 (v : Int), .string ds] 41)
    simpa using this
  have hcon := pending_pretty (t := w1.heap.size + 1) hws v HV.out ds (hTB.on hb2) (by omega) (by omega) ht (by rw [hb2.cell (by exact hgl)]; exact hk0) (by rw [hb2.cell (by exact hgl)]; exact hk1)
  refine Lib.hid ?_
  clear hws hk0 hk1
  go_wp2_with fail
  refine hcon.mono ?_
  rintro e w3 ⟨rfl, hws3, hfr3⟩
  clear hcon
  rw [hwb.out] at hws3
  have hbw3 := hb2.trans hfr3.1
  have hsrc3 := hsrc.below hbw3
  have ht3 := hfr3.2 _ _ ht (by simp) (by intro c fz; simp)
  clear hsrc hfr3 hb2 ho1 hb1 hwb ht
  go_wp2_with (at_builtin; refine wpList_appNil rfl _ (.tmp 39) rfl _ _ hsrc3 (by omega) rfl rfl ?_; intro ao4 cap4 w4 ho4 hb4; refine Hid.out ?_)
  have ho4' : Hid (Own w3.heap.size (.slice ao4 pbs.length cap4) pbs w4 ∧ Below w3.heap.size w3 w4) := ⟨ho4, hb4⟩
  have hl4 : Hid (pbs.length + (⟨#[80, 101, 110, 100, 105, 110, 103, 32, 61, 32]⟩ : ByteArray).size ≤ 140737488355328) := by show _ + 10 ≤ _; omega
  refine Lib.hid ?_
  clear hsrc3 ho4 hb4
  go_wp2_with (at_builtin; refine wpList_chainS rfl (.tmp 42) _ rfl ho4' ⟨#[80, 101, 110, 100, 105, 110, 103, 32, 61, 32]⟩ hl4 rfl rfl ?_; intro ao5 n5 cap5 w5 hn5 ho5; refine Hid.out ?_)
  have hul := uintText_len v HV.out ds
  have hul2 : Hid ((uintText v ds).length ≤ ds.size + 20) := hul
  clear hul
  refine Lib.hid ?_
  clear ho4' hl4
  obtain ⟨T, hTT⟩ : ∃ T, T = pbs ++ pendText true v ds := ⟨_, rfl⟩
  have HT : Hid (pbs ++ pendText true v ds = T) := hTT.symm
  by_cases hde : ds.toList.isEmpty = true
  · have hu : uintText v ds = Lib.decDigits v := by unfold uintText; rw [if_pos hde]
    rw [hu] at hul2
    have hul : (Lib.decDigits v).length ≤ ds.size + 20 := hul2.out
    have HE : Hid (pbs ++ [80, 101, 110, 100, 105, 110, 103, 32, 61, 32] ++ Lib.decDigits v ++ [32, 123, 125] = T) := by
      show _ = _; rw [hTT]; unfold pendText; rw [if_pos rfl, hu]; simp
    clear hTT hu hul2
    go_wp2_with fail
    refine (dec_any v HV.out w5).mono ?_
    rintro e w6 ⟨r, rfl, hsr, hb6⟩
    have ho6 : Hid (Own w3.heap.size (.slice ao5 n5 cap5) (pbs ++ [80, 101, 110, 100, 105, 110, 103, 32, 61, 32]) w6 ∧ Below w3.heap.size w3 w6) :=
      ⟨(show Own w3.heap.size (.slice ao5 n5 cap5) (pbs ++ [80, 101, 110, 100, 105, 110, 103, 32, 61, 32]) w5 from ho5.out.1).below hb6, ho5.out.2.trans (hb6.mono ho5.out.2.size)⟩
    have hl6 : Hid ((pbs ++ [80, 101, 110, 100, 105, 110, 103, 32, 61, 32]).length + (Lib.decDigits v).length ≤ 140737488355328) := by show _ ≤ _; simp; omega
    clear ho5 hb6
    go_wp2_with (at_builtin; refine wpList_chainB rfl (.tmp 51) (.tmp 53) rfl ho6 _ _ hsr hl6 rfl rfl ?_; intro ao7 n7 cap7 w7 hn7 ho7; refine Hid.out ?_)
    refine Lib.hid ?_
    clear ho6 hsr hl6
    have hlD : Hid ((pbs ++ [80, 101, 110, 100, 105, 110, 103, 32, 61, 32] ++ Lib.decDigits v).length + (⟨#[32, 123, 125]⟩ : ByteArray).size ≤ 140737488355328) := by show _ + 3 ≤ _; simp; omega
    go_wp2_with (at_builtin; refine wpList_chainS rfl (.tmp 56) _ rfl ho7 ⟨#[32, 123, 125]⟩ hlD rfl rfl ?_; intro aoE nE capE wE hnE hoE; refine Hid.out ?_)
    obtain ⟨hoE1, hbE⟩ := hoE.out
    have hT : pbs ++ pendText true v ds = T := HT.out
    have hwsE := hws3.below hbE
    obtain ⟨aoW, capW, -, hoW, -, hltW, -, x0, x1, x2, x3, -⟩ := ws_open hwsE
    have htE := (hbE.block _ (lt_of_heap ht3)).trans ht3
    have y0 : wE.cell? ⟨w1.heap.size + 1, 0, none⟩ = some (.int .u32 (v : Int)) := cell_of_row wE _ 0 _ 41 (0, 0) htE
    have y1 : wE.cell? ⟨w1.heap.size + 1, 1, none⟩ = some (.string ds) := cell_of_row wE _ 1 _ 41 (0, 0) htE
    rw [hT] at hoW x0
    have hTl : 0 < T.length := by rw [← hT]; unfold pendText; simp; omega
    have cvW := conv_own hoW rfl hTl
    have cvE := conv_own hoE1 hnE.out (by simp; omega)
    have hE : pbs ++ [80, 101, 110, 100, 105, 110, 103, 32, 61, 32] ++ Lib.decDigits v ++ [32, 123, 125] = T := HE.out
    rw [show (pbs ++ [80, 101, 110, 100, 105, 110, 103, 32, 61, 32] ++ Lib.decDigits v ++ (⟨#[32, 123, 125]⟩ : ByteArray).data.toList) = T from hE] at cvE
    have hfin : Below w.heap.size w wE := hbw3.trans (hbE.mono hbw3.size)
    refine Lib.hid ?_
    clear ho7 HT hT hwsE hoW htE hTl hoE hoE1 hnE hE HE hbE hws3 ht3 hbw3 hTB hlD
    go_wp2
    go_quiet (fail)
    go_wp2
    go_ret
    exact ⟨rfl, ⟨hfin.os, hfin.tape, hfin.output, hfin.size, hfin.block⟩⟩
  · have hu : uintText v ds = ds.data.toList := by unfold uintText; rw [if_neg hde]
    rw [hu] at hul2
    have hdf : ds.toList.isEmpty = false := by simpa using hde
    have hul : ds.data.toList.length ≤ ds.size + 20 := hul2.out
    have HE : Hid (pbs ++ [80, 101, 110, 100, 105, 110, 103, 32, 61, 32] ++ ds.data.toList ++ [32, 123, 125] = T) := by
      show _ = _; rw [hTT]; unfold pendText; rw [if_pos rfl, hu]; simp
    have ho5' : Hid (Own w3.heap.size (.slice ao5 n5 cap5) (pbs ++ [80, 101, 110, 100, 105, 110, 103, 32, 61, 32]) w5 ∧ Below w3.heap.size w3 w5) := ho5
    have hl5 : Hid ((pbs ++ [80, 101, 110, 100, 105, 110, 103, 32, 61, 32]).length + ds.size ≤ 140737488355328) := by show _ ≤ _; simp; omega
    clear hTT hu hul2 hde ho5
    go_wp2_with (at_builtin; refine wpList_chainS rfl (.tmp 48) (.tmp 49) rfl ho5' ds hl5 rfl rfl ?_; intro ao7 n7 cap7 w7 hn7 ho7; refine Hid.out ?_)
    refine Lib.hid ?_
    clear ho5' hl5
    have hlD : Hid ((pbs ++ [80, 101, 110, 100, 105, 110, 103, 32, 61, 32] ++ ds.data.toList).length + (⟨#[32, 123, 125]⟩ : ByteArray).size ≤ 140737488355328) := by show _ + 3 ≤ _; simp; omega
    go_wp2_with (at_builtin; refine wpList_chainS rfl (.tmp 56) _ rfl ho7 ⟨#[32, 123, 125]⟩ hlD rfl rfl ?_; intro aoE nE capE wE hnE hoE; refine Hid.out ?_)
    obtain ⟨hoE1, hbE⟩ := hoE.out
    have hT : pbs ++ pendText true v ds = T := HT.out
    have hwsE := hws3.below hbE
    obtain ⟨aoW, capW, -, hoW, -, hltW, -, x0, x1, x2, x3, -⟩ := ws_open hwsE
    have htE := (hbE.block _ (lt_of_heap ht3)).trans ht3
    have y0 : wE.cell? ⟨w1.heap.size + 1, 0, none⟩ = some (.int .u32 (v : Int)) := cell_of_row wE _ 0 _ 41 (0, 0) htE
    have y1 : wE.cell? ⟨w1.heap.size + 1, 1, none⟩ = some (.string ds) := cell_of_row wE _ 1 _ 41 (0, 0) htE
    rw [hT] at hoW x0
    have hTl : 0 < T.length := by rw [← hT]; unfold pendText; simp; omega
    have cvW := conv_own hoW rfl hTl
    have cvE := conv_own hoE1 hnE.out (by simp; omega)
    have hE : pbs ++ [80, 101, 110, 100, 105, 110, 103, 32, 61, 32] ++ ds.data.toList ++ [32, 123, 125] = T := HE.out
    rw [show (pbs ++ [80, 101, 110, 100, 105, 110, 103, 32, 61, 32] ++ ds.data.toList ++ (⟨#[32, 123, 125]⟩ : ByteArray).data.toList) = T from hE] at cvE
    have hfin : Below w.heap.size w wE := hbw3.trans (hbE.mono hbw3.size)
    refine Lib.hid ?_
    clear ho7 HT hT hwsE hoW htE hTl hoE hoE1 hnE hE HE hbE hws3 ht3 hbw3 hTB hlD
    go_wp2
    go_quiet (fail)
    go_wp2
    go_ret
    exact ⟨rfl, ⟨hfin.os, hfin.tape, hfin.output, hfin.size, hfin.block⟩⟩

set_option maxHeartbeats 1000000 in
theorem law_compact (px : Value) (ao : Option Addr) (c : Nat) (pbs : List UInt8) (d : Int) (f : Bool) (v : Nat) (ds : ByteArray) (w : World) (hpx : px = .slice ao pbs.length c) (hsrc : Src px pbs w) (hn : pbs.length ≤ 1024) (hd : ds.size ≤ 1024) (hv : v < 4294967296)
    (htab : Lib.TabIs Ybad.prog w pow10Name .u64 Lib.pow10Tab)
    (hk0 : w.cell? ⟨2, 0, none⟩ = some (.string ⟨#[80, 101, 110, 100, 105, 110, 103]⟩)) (hk1 : w.cell? ⟨2, 1, none⟩ = some (.string ⟨#[80, 78]⟩)) (hgl : 2 < w.heap.size) :
    Calls Ybad.prog 5 #[px, .bool false, .int .i64 d, .bool f, .int .u32 v, .string ds] w fun e w' => e = .returned (.bool true) ∧ Below w.heap.size w w' := by
  subst hpx
  have hni : ¬ (1024 : Int) < (pbs.length : Int) := by omega
  have hdi : ¬ (1024 : Int) < (ds.size : Int) := by omega
  have hTB := Lib.tabBelow_of_tabIs htab
  have HV := Lib.hid hv
  clear htab hv
  go_enter Ybad.func5, Ybad.ntmps5
  go_wp2_with (at_builtin; refine wpList_appNil rfl _ (.tmp 24) rfl _ _ hsrc (by omega) rfl rfl ?_; intro ao1 cap1 w1 ho1 hb1; refine Hid.out ?_)
  have hws := (ws_new ho1 false d f).alloc (.cells #[.int .u32 (v : Int), .string ds] 41)
  have hz1 := hb1.size
  have hb2 : Below w.heap.size w ((w1.alloc (.cells #[.slice ao1 pbs.length cap1, .bool false, .int .i64 d, .bool f] 30)).alloc (.cells #[.int .u32 (v : Int), .string ds] 41)) := (hb1.alloc hz1 _).alloc (by simp; omega) _
  have ht : ((w1.alloc (.cells #[.slice ao1 pbs.length cap1, .bool false, .int .i64 d, .bool f] 30)).alloc (.cells #[.int .u32 (v : Int), .string ds] 41)).heap[w1.heap.size + 1]? = some (.cells #[.int .u32 (v : Int), .string ds] 41 (0, 0)) := by
    have := heap_alloc_new (w1.alloc (.cells #[.slice ao1 pbs.length cap1, .bool false, .int .i64 d, .bool f] 30)) (.cells #[.int .u32 (v : Int), .string ds] 41)
    simpa using this
  have hcon := pending_compact (t := w1.heap.size + 1) hws v HV.out ds (hTB.on hb2) (by omega) (by omega) ht (by rw [hb2.cell (by exact hgl)]; exact hk0) (by rw [hb2.cell (by exact hgl)]; exact hk1)
  refine Lib.hid ?_
  clear hws hk0 hk1
  go_wp2_with fail
  refine hcon.mono ?_
  rintro e w3 ⟨rfl, hws3, hfr3⟩
  clear hcon
  have hbw3 := hb2.trans hfr3.1
  have hsrc3 := hsrc.below hbw3
  have ht3 := hfr3.2 _ _ ht (by simp) (by intro c fz; simp)
  clear hsrc hfr3 hb2 ho1 hb1 ht
  go_wp2_with (at_builtin; refine wpList_appNil rfl _ (.tmp 39) rfl _ _ hsrc3 (by omega) rfl rfl ?_; intro ao4 cap4 w4 ho4 hb4; refine Hid.out ?_)
  have ho4' : Hid (Own w3.heap.size (.slice ao4 pbs.length cap4) pbs w4 ∧ Below w3.heap.size w3 w4) := ⟨ho4, hb4⟩
  have hl4 : Hid (pbs.length + (⟨#[80, 78, 61]⟩ : ByteArray).size ≤ 140737488355328) := by show _ + 3 ≤ _; omega
  refine Lib.hid ?_
  clear hsrc3 ho4 hb4
  go_wp2_with (at_builtin; refine wpList_chainS rfl (.tmp 44) _ rfl ho4' ⟨#[80, 78, 61]⟩ hl4 rfl rfl ?_; intro ao5 n5 cap5 w5 hn5 ho5; refine Hid.out ?_)
  have hul := uintText_len v HV.out ds
  have hul2 : Hid ((uintText v ds).length ≤ ds.size + 20) := hul
  clear hul
  refine Lib.hid ?_
  clear ho4' hl4
  obtain ⟨T, hTT⟩ : ∃ T, T = pbs ++ pendText false v ds := ⟨_, rfl⟩
  have HT : Hid (pbs ++ pendText false v ds = T) := hTT.symm
  by_cases hde : ds.toList.isEmpty = true
  · have hu : uintText v ds = Lib.decDigits v := by unfold uintText; rw [if_pos hde]
    rw [hu] at hul2
    have hul : (Lib.decDigits v).length ≤ ds.size + 20 := hul2.out
    have HE : Hid (pbs ++ [80, 78, 61] ++ Lib.decDigits v ++ [123, 125] = T) := by
      show _ = _; rw [hTT]; unfold pendText; rw [if_neg (by decide), hu]; simp
    clear hTT hu hul2
    go_wp2_with fail
    refine (dec_any v HV.out w5).mono ?_
    rintro e w6 ⟨r, rfl, hsr, hb6⟩
    have ho6 : Hid (Own w3.heap.size (.slice ao5 n5 cap5) (pbs ++ [80, 78, 61]) w6 ∧ Below w3.heap.size w3 w6) :=
      ⟨(show Own w3.heap.size (.slice ao5 n5 cap5) (pbs ++ [80, 78, 61]) w5 from ho5.out.1).below hb6, ho5.out.2.trans (hb6.mono ho5.out.2.size)⟩
    have hl6 : Hid ((pbs ++ [80, 78, 61]).length + (Lib.decDigits v).length ≤ 140737488355328) := by show _ ≤ _; simp; omega
    clear ho5 hb6
    go_wp2_with (at_builtin; refine wpList_chainB rfl (.tmp 51) (.tmp 53) rfl ho6 _ _ hsr hl6 rfl rfl ?_; intro ao7 n7 cap7 w7 hn7 ho7; refine Hid.out ?_)
    refine Lib.hid ?_
    clear ho6 hsr hl6
    have hlD : Hid ((pbs ++ [80, 78, 61] ++ Lib.decDigits v).length + (⟨#[123, 125]⟩ : ByteArray).size ≤ 140737488355328) := by show _ + 2 ≤ _; simp; omega
    go_wp2_with (at_builtin; refine wpList_chainS rfl (.tmp 58) _ rfl ho7 ⟨#[123, 125]⟩ hlD rfl rfl ?_; intro aoE nE capE wE hnE hoE; refine Hid.out ?_)
    obtain ⟨hoE1, hbE⟩ := hoE.out
    have hT : pbs ++ pendText false v ds = T := HT.out
    have hwsE := hws3.below hbE
    obtain ⟨aoW, capW, -, hoW, -, hltW, -, x0, x1, x2, x3, -⟩ := ws_open hwsE
    have htE := (hbE.block _ (lt_of_heap ht3)).trans ht3
    have y0 : wE.cell? ⟨w1.heap.size + 1, 0, none⟩ = some (.int .u32 (v : Int)) := cell_of_row wE _ 0 _ 41 (0, 0) htE
    have y1 : wE.cell? ⟨w1.heap.size + 1, 1, none⟩ = some (.string ds) := cell_of_row wE _ 1 _ 41 (0, 0) htE
    rw [hT] at hoW x0
    have hTl : 0 < T.length := by rw [← hT]; unfold pendText; simp; omega
    have cvW := conv_own hoW rfl hTl
    have cvE := conv_own hoE1 hnE.out (by simp; omega)
    have hE : pbs ++ [80, 78, 61] ++ Lib.decDigits v ++ [123, 125] = T := HE.out
    rw [show (pbs ++ [80, 78, 61] ++ Lib.decDigits v ++ (⟨#[123, 125]⟩ : ByteArray).data.toList) = T from hE] at cvE
    have hfin : Below w.heap.size w wE := hbw3.trans (hbE.mono hbw3.size)
    refine Lib.hid ?_
    clear ho7 HT hT hwsE hoW htE hTl hoE hoE1 hnE hE HE hbE hws3 ht3 hbw3 hTB hlD
    go_wp2
    go_quiet (fail)
    go_wp2
    go_ret
    exact ⟨rfl, ⟨hfin.os, hfin.tape, hfin.output, hfin.size, hfin.block⟩⟩
  · have hu : uintText v ds = ds.data.toList := by unfold uintText; rw [if_neg hde]
    rw [hu] at hul2
    have hdf : ds.toList.isEmpty = false := by simpa using hde
    have hul : ds.data.toList.length ≤ ds.size + 20 := hul2.out
    have HE : Hid (pbs ++ [80, 78, 61] ++ ds.data.toList ++ [123, 125] = T) := by
      show _ = _; rw [hTT]; unfold pendText; rw [if_neg (by decide), hu]; simp
    have ho5' : Hid (Own w3.heap.size (.slice ao5 n5 cap5) (pbs ++ [80, 78, 61]) w5 ∧ Below w3.heap.size w3 w5) := ho5
    have hl5 : Hid ((pbs ++ [80, 78, 61]).length + ds.size ≤ 140737488355328) := by show _ ≤ _; simp; omega
    clear hTT hu hul2 hde ho5
    go_wp2_with (at_builtin; refine wpList_chainS rfl (.tmp 48) (.tmp 49) rfl ho5' ds hl5 rfl rfl ?_; intro ao7 n7 cap7 w7 hn7 ho7; refine Hid.out ?_)
    refine Lib.hid ?_
    clear ho5' hl5
    have hlD : Hid ((pbs ++ [80, 78, 61] ++ ds.data.toList).length + (⟨#[123, 125]⟩ : ByteArray).size ≤ 140737488355328) := by show _ + 2 ≤ _; simp; omega
    go_wp2_with (at_builtin; refine wpList_chainS rfl (.tmp 58) _ rfl ho7 ⟨#[123, 125]⟩ hlD rfl rfl ?_; intro aoE nE capE wE hnE hoE; refine Hid.out ?_)
    obtain ⟨hoE1, hbE⟩ := hoE.out
    have hT : pbs ++ pendText false v ds = T := HT.out
    have hwsE := hws3.below hbE
    obtain ⟨aoW, capW, -, hoW, -, hltW, -, x0, x1, x2, x3, -⟩ := ws_open hwsE
    have htE := (hbE.block _ (lt_of_heap ht3)).trans ht3
    have y0 : wE.cell? ⟨w1.heap.size + 1, 0, none⟩ = some (.int .u32 (v : Int)) := cell_of_row wE _ 0 _ 41 (0, 0) htE
    have y1 : wE.cell? ⟨w1.heap.size + 1, 1, none⟩ = some (.string ds) := cell_of_row wE _ 1 _ 41 (0, 0) htE
    rw [hT] at hoW x0
    have hTl : 0 < T.length := by rw [← hT]; unfold pendText; simp; omega
    have cvW := conv_own hoW rfl hTl
    have cvE := conv_own hoE1 hnE.out (by simp; omega)
    have hE : pbs ++ [80, 78, 61] ++ ds.data.toList ++ [123, 125] = T := HE.out
    rw [show (pbs ++ [80, 78, 61] ++ ds.data.toList ++ (⟨#[123, 125]⟩ : ByteArray).data.toList) = T from hE] at cvE
    have hfin : Below w.heap.size w wE := hbw3.trans (hbE.mono hbw3.size)
    refine Lib.hid ?_
    clear ho7 HT hT hwsE hoW htE hTl hoE hoE1 hnE hE HE hbE hws3 ht3 hbw3 hTB hlD
    go_wp2
    go_quiet (fail)
    go_wp2
    go_ret
    exact ⟨rfl, ⟨hfin.os, hfin.tape, hfin.output, hfin.size, hfin.block⟩⟩
end Go.Proofs.YbulkaxxqDoor
